import JvmDerived
import JvmDerived.Pilot.@@N@@Statement
import JvmDerived.Pilot.@@N@@Code
set_option linter.unusedVariables false
set_option linter.unusedSimpArgs false
namespace Jvm.Pilot.@@N@@
open Jvm Jvm.ClassFile Sem Op Lib Jvm.Free Jvm.Stand Jvm.LawKit Jvm.RoadKit Bundle Jvm.Pilot.@@N@@.Jvm.D
section GoKit
variable {p : Program} {l : Launch} {e : Env} {R : Room} {s : State} {m : MethodId} {args : Array Value} {below : List Frame} {meth : Method} {c : Code} {T : State} {locs : List Loc} {cells slots : Nat}
/-- from the state S the run comes to an end that P says -/
def Go (p : Program) (e : Env) (below : List Frame) (P : Outcome → State → Prop) (S : State) : Prop := ∃ s₂ o, Steps p.tables e below S s₂ ∧ s₂.status = .running ∧ Ended s₂ below o ∧ P o s₂
def Pst (s : State) (Q : Option Value → Heap → List Loc → Prop) (k n : Nat) : Outcome → State → Prop := fun o U => ∃ v L, o = .returned v ∧ Q v U.heap L ∧ FrameEnd s o U L k n
theorem Go.on {P : Outcome → State → Prop} {S S' : State} (h : ∀ t, Steps p.tables e below S' t → Steps p.tables e below S t) (k : Go p e below P S') : Go p e below P S := by
  obtain ⟨s2, o, h1, h2⟩ := k
  exact ⟨s2, o, h _ h1, h2⟩
theorem Go.st {P : Outcome → State → Prop} {S S' : State} (h : Steps p.tables e below S S') (k : Go p e below P S') : Go p e below P S := Go.on (fun _ q => h.trans q) k
theorem Go.retV (X : Stand p l e R s m args below meth c T locs cells slots) (hx : p.tables.exec = Jvm.exec) (hlk : meth.locks = false) {pc : Nat} {Ls : Array Slot} {w : Value} {t : FieldType} {i : Instr} {rest : List Value} (hret : meth.sig.returnType = some t) (hn : narrow t w = w)
    (hi : (i = .ireturn ∧ (t = .int ∨ t = .boolean ∨ t = .byte ∨ t = .char ∨ t = .short) ∧ ∃ z, w = .int z) ∨ (i = .lreturn ∧ t = .long ∧ ∃ z, w = .long z) ∨ (i = .dreturn ∧ t = .double ∧ ∃ z, w = .double z) ∨ (i = .freturn ∧ t = .float ∧ ∃ z, w = .float z) ∨ (i = .areturn ∧ t.isReference = true ∧ w.isRef = true))
    (hd : decode c.code pc = .ok (i, 1)) {Q : Option Value → Heap → List Loc → Prop} {k n : Nat} (hk : cells ≤ k) (hs : slots ≤ n) (hQ : Q (some w) T.heap locs) : Go p e below (Pst s Q k n) (T.setTop (mkF m pc Ls (w :: rest))) := by
  obtain ⟨fs, hr, hrun, hended, hW, hsame⟩ := X.leave (v := some w) (fun h => by rw [hret] at h; cases h) hlk
  exact ⟨_, _, retOut X hx hret hn hi hd hr, hrun, hended, _, _, rfl, hQ, ⟨_, rfl⟩, hW, hsame.mono hk hs⟩
theorem Go.retI (X : Stand p l e R s m args below meth c T locs cells slots) (hx : p.tables.exec = Jvm.exec) (hlk : meth.locks = false) {pc : Nat} {Ls : Array Slot} {z : Int32} {rest : List Value} (hret : meth.sig.returnType = some .int)
    (hd : decode c.code pc = .ok (.ireturn, 1)) {Q : Option Value → Heap → List Loc → Prop} {k n : Nat} (hk : cells ≤ k) (hs : slots ≤ n) (hQ : Q (some (.int z)) T.heap locs) : Go p e below (Pst s Q k n) (T.setTop (mkF m pc Ls (.int z :: rest))) :=
  Go.retV X hx hlk hret rfl (Or.inl ⟨rfl, Or.inl rfl, _, rfl⟩) hd hk hs hQ
theorem Go.retJ (X : Stand p l e R s m args below meth c T locs cells slots) (hx : p.tables.exec = Jvm.exec) (hlk : meth.locks = false) {pc : Nat} {Ls : Array Slot} {z : Int64} {rest : List Value} (hret : meth.sig.returnType = some .long)
    (hd : decode c.code pc = .ok (.lreturn, 1)) {Q : Option Value → Heap → List Loc → Prop} {k n : Nat} (hk : cells ≤ k) (hs : slots ≤ n) (hQ : Q (some (.long z)) T.heap locs) : Go p e below (Pst s Q k n) (T.setTop (mkF m pc Ls (.long z :: rest))) :=
  Go.retV X hx hlk hret rfl (Or.inr (Or.inl ⟨rfl, rfl, _, rfl⟩)) hd hk hs hQ
theorem Go.retA (X : Stand p l e R s m args below meth c T locs cells slots) (hx : p.tables.exec = Jvm.exec) (hlk : meth.locks = false) {pc : Nat} {Ls : Array Slot} {a : Addr} {t : FieldType} {rest : List Value} (hret : meth.sig.returnType = some t) (ht : t.isReference = true) (hn : narrow t (.ref a) = .ref a)
    (hd : decode c.code pc = .ok (.areturn, 1)) {Q : Option Value → Heap → List Loc → Prop} {k n : Nat} (hk : cells ≤ k) (hs : slots ≤ n) (hQ : Q (some (.ref a)) T.heap locs) : Go p e below (Pst s Q k n) (T.setTop (mkF m pc Ls (.ref a :: rest))) :=
  Go.retV X hx hlk hret hn (Or.inr (Or.inr (Or.inr (Or.inr ⟨rfl, ht, rfl⟩)))) hd hk hs hQ
theorem Go.retN (X : Stand p l e R s m args below meth c T locs cells slots) (hx : p.tables.exec = Jvm.exec) (hlk : meth.locks = false) {pc : Nat} {Ls : Array Slot} {z : Int32} {t : FieldType} {rest : List Value} (hret : meth.sig.returnType = some t) (ht : t = .boolean ∨ t = .byte ∨ t = .char ∨ t = .short)
    (hd : decode c.code pc = .ok (.ireturn, 1)) {Q : Option Value → Heap → List Loc → Prop} {k n : Nat} (hk : cells ≤ k) (hs : slots ≤ n) (hQ : Q (some (.int (nar t z))) T.heap locs) : Go p e below (Pst s Q k n) (T.setTop (mkF m pc Ls (.int z :: rest))) := by
  obtain ⟨fs, hr, hrun, hended, hW, hsame⟩ := X.leave (v := some (.int (nar t z))) (fun h => by rw [hret] at h; cases h) hlk
  exact ⟨_, _, Jvm.RoadKit.retN X hx hret ht hd hr, hrun, hended, _, _, rfl, hQ, ⟨_, rfl⟩, hW, hsame.mono hk hs⟩
theorem Go.ret0 (X : Stand p l e R s m args below meth c T locs cells slots) (hx : p.tables.exec = Jvm.exec) (hlk : meth.locks = false) {pc : Nat} {Ls : Array Slot} (hret : meth.sig.returnType = none)
    (hd : decode c.code pc = .ok (.return_, 1)) {Q : Option Value → Heap → List Loc → Prop} {k n : Nat} (hk : cells ≤ k) (hs : slots ≤ n) (hQ : Q none T.heap locs) : Go p e below (Pst s Q k n) (T.setTop (mkF m pc Ls [])) := by
  obtain ⟨fs, hr, hrun, hended, hW, hsame⟩ := X.leave (v := none) (fun _ => rfl) hlk
  exact ⟨_, _, X.returnOut hx hret hd hr, hrun, hended, _, _, rfl, hQ, ⟨_, rfl⟩, hW, hsame.mono hk hs⟩
theorem lremM {g : JFrame} {target : State} (X : Stand p l e R s m args below meth c T locs cells slots) (hx : p.tables.exec = Jvm.exec) (hg : g.method = m) {x y : Int64} {rest : List Value} (hd : decode c.code g.pc = .ok (.lrem, 1)) (hs : g.stack = .long y :: .long x :: rest) (hy : y ≠ 0)
    (hr : Steps p.tables e below (T.setTop { g with pc := g.pc + 1, stack := .long (x % y) :: rest }) target) : Steps p.tables e below (T.setTop g) target := by
  have q : x - x / y * y = x % y := lrem_mod x y
  exact XS.lrem X.here hx hg hd hs hy (by rw [q]; exact hr)
/-- Java's x >>> k on ints and on longs, as the steps leave it -/
def ushrI (x k : Int32) : Int32 := (x.toUInt32 >>> (k &&& 31).toUInt32).toInt32
def ushrJ (x : Int64) (k : Int32) : Int64 := (x.toUInt64 >>> (k &&& 0x3f).toInt64.toUInt64).toInt64
end GoKit
theorem pd_1 : parseMethodDescriptor "()V" = some ⟨[], none⟩ := by decide +kernel
theorem pd_2 : parseMethodDescriptor "(JJJJJJJJJJJ)V" = some ⟨[.long, .long, .long, .long, .long, .long, .long, .long, .long, .long, .long], none⟩ := by decide +kernel
theorem pd_3 : parseMethodDescriptor "()Z" = some ⟨[], some .boolean⟩ := by decide +kernel
def own_fin (s p : Int64) : Int32 := if s = p then 1 else 0
theorem own_same (p : Int64) : own_fin p p = 1 := by simp [own_fin]
theorem own_less (p : Int64) : own_fin (p - (1 : Int64)) p = 0 := by
  have h : ¬ (p - (1 : Int64) = p) := by
    intro h
    have q := c_lsub p 1
    rw [h] at q
    have e : (1 : Int64).toInt = 1 := by decide
    omega
  simp only [own_fin, h, if_false]
theorem own_more (p : Int64) : own_fin (p + (1 : Int64)) p = 0 := by
  have h : ¬ (p + (1 : Int64) = p) := by
    intro h
    have q := c_ladd p 1
    rw [h] at q
    have e : (1 : Int64).toInt = 1 := by decide
    omega
  simp only [own_fin, h, if_false]
theorem own_zero (d p : Int64) : d - p = (0 : Int64) ↔ d = p := by
  constructor
  · intro h
    have q := c_lsub d p
    rw [h] at q
    have e : (0 : Int64).toInt = 0 := by decide
    have r1 := rng64 d
    have r2 := rng64 p
    exact Int64.toInt_inj.mp (by omega)
  · rintro rfl
    exact Int64.sub_self _
theorem own_is (d p : Int64) (h : d - p = (0 : Int64)) : own_fin d p = 1 := by simp only [own_fin, (own_zero d p).mp h, if_true]
theorem own_isnt (d p : Int64) (h : ¬ d - p = (0 : Int64)) : own_fin d p = 0 := by
  have h' : ¬ d = p := fun q => h ((own_zero d p).mpr q)
  simp only [own_fin, h', if_false]
def Q2 (h0 : Heap) (n0 : Nat) (v : Option Value) (h : Heap) (L : List Loc) : Prop := v = none ∧ Fr n0 L ∧ h = h0
theorem d2_0 : decode jdk_30_method_1_code 0 = .ok (.aload_n 0, 1) := by decide +kernel
theorem d2_1 : decode jdk_30_method_1_code 1 = .ok (.invokespecial 1, 3) := by decide +kernel
theorem d2_4 : decode jdk_30_method_1_code 4 = .ok (.return_, 1) := by decide +kernel
theorem pn_2 : plainFor (⟨"java/lang/Record", "<init>", "()V"⟩ : MethodName) = true := by first | exact plainFor_of_name (by first | (simp [plainName, overriddenIn]; done) | decide +kernel) | decide +kernel
theorem ef_2 (m : MethodId) (x0 : Addr) : entryFrame m #[(.ref x0)] 1 = mkF m 0 #[.val (.ref x0)] [] := by first | (simp [entryFrame, mkF, argsToLocals, Value.category]; done) | rfl
set_option maxRecDepth 65536 in
set_option maxHeartbeats 40000000 in
theorem rm2 (l : Launch) (Z : State) (a0 : Array Value) (hw : ∀ d ∈ tables_1, d.before a0 Z = true) (ws : List Jvm.Cond) (a1 : Addr) (h0 : Heap) (n0 : Nat) (Z0 : n0 ≤ h0.size)  :
    MetFree l (⟨"java/lang/Record", "<init>", "()V"⟩ : MethodName) (head1 (Jvm.Cond.code (⟨"java/lang/Record", "<init>", "()V"⟩ : MethodName) jdk_30_method_1_code 1 none :: ws) ({ frames := 1, cells := 0, slots := 0, locals := 12 } : Room)) (fun a U => a = #[(.ref a1)] ∧ Z.Warmed39 U.vm ∧ U.heap = h0) (fun _ _ _ _ _ => True) (fun _ U o U' => ∃ v L, o = .returned v ∧ Q2 h0 n0 v U'.heap L ∧ FrameEnd U o U' L ({ frames := 1, cells := 0, slots := 0, locals := 12 } : Room).cells ({ frames := 1, cells := 0, slots := 0, locals := 12 } : Room).slots) := by
  refine MetFree.of_bodySF pn_2 hisR ?_
  intro p e s m args below meth c s₁ Bd hml0 hP hK
  obtain ⟨rfl, hZ, hh⟩ := hP
  have hx := Bd.exec
  have hby := Bd.bytes
  have hlk := Bd.notSynchronized
  have hret := Bd.returns
  have hml : c.maxLocals = 1 := hml0
  have hown : s.vm.findClass "java/lang/Record" = some m.cls := findClass_of_methodNamed Bd.named
  have hnm := (name_of_methodNamed Bd.named Bd.method).1
  have X0 : Stand p l e ({ frames := 1, cells := 0, slots := 0, locals := 12 } : Room) s m #[(.ref a1)] below meth c s₁ [] 0 0 := Stand.of_body Bd
  have e0 : s₁.heap = h0 := by rw [← hh, Bd.state]; rfl
  have N0 := Fr.nil n0
  show Go p e below (Pst s (Q2 h0 n0) ({ frames := 1, cells := 0, slots := 0, locals := 12 } : Room).cells ({ frames := 1, cells := 0, slots := 0, locals := 12 } : Room).slots) (s₁.setTop (entryFrame m #[(.ref a1)] 1))
  refine Go.on (fun t k => castTop (ef_2 m a1) k) ?_
  show Go p e below _ (s₁.setTop (mkF m 0 #[.val (.ref a1)] []))
  refine Go.on (fun t k => XS.aloadN X0.here hx rfl (hb hby d2_0) rfl rfl k) ?_
  show Go p e below _ (s₁.setTop (mkF m 1 #[.val (.ref a1)] [(.ref a1)]))
  obtain ⟨T1, X1, e1, st1⟩ := initO X0 hx hZ hown (hw _ (List.mem_of_getElem? (i := 11) rfl)) (hw _ (List.mem_of_getElem? (i := 12) rfl)) (hw _ (List.mem_of_getElem? (i := 13) rfl)) e0 (g := (mkF m 1 #[.val (.ref a1)] [(.ref a1)])) rfl (by rw [hml]; rfl) rfl (hb hby d2_1) (by decide) (W := 0) (by show 2 * 0 + _ ≤ _; exact Nat.le_of_eq rfl) (by decide)
  refine Go.on st1 ?_
  show Go p e below _ (T1.setTop (mkF m 4 #[.val (.ref a1)] []))
  exact Go.ret0 X1 hx hlk hret (hb hby d2_4) (Nat.le_refl _) (Nat.le_refl _) (show Q2 h0 n0 _ _ _ from ⟨rfl, N0, e1⟩)
def Q1 (Z : State) (a1 : Addr) (q1 : Int64) (q2 : Int64) (q3 : Int64) (q4 : Int64) (q5 : Int64) (q6 : Int64) (q7 : Int64) (q8 : Int64) (q9 : Int64) (q10 : Int64) (q11 : Int64) (h0 : Heap) (n0 : Nat) (v : Option Value) (h : Heap) (L : List Loc) : Prop := v = none ∧ Fr n0 L ∧ Keep h0 h [a1] ∧ Exa Z h a1 "com/example/robust_backoff/robustbackoff/model/RunResult" ∧ Fld Z h a1 "com/example/robust_backoff/robustbackoff/model/RunResult" "packets" "J" (.long q1) ∧ Fld Z h a1 "com/example/robust_backoff/robustbackoff/model/RunResult" "successes" "J" (.long q2) ∧ Fld Z h a1 "com/example/robust_backoff/robustbackoff/model/RunResult" "liveSlots" "J" (.long q3) ∧ Fld Z h a1 "com/example/robust_backoff/robustbackoff/model/RunResult" "jammedSlots" "J" (.long q4) ∧ Fld Z h a1 "com/example/robust_backoff/robustbackoff/model/RunResult" "makespan" "J" (.long q5) ∧ Fld Z h a1 "com/example/robust_backoff/robustbackoff/model/RunResult" "sends" "J" (.long q6) ∧ Fld Z h a1 "com/example/robust_backoff/robustbackoff/model/RunResult" "maxSendsPerPacket" "J" (.long q7) ∧ Fld Z h a1 "com/example/robust_backoff/robustbackoff/model/RunResult" "busyTones" "J" (.long q8) ∧ Fld Z h a1 "com/example/robust_backoff/robustbackoff/model/RunResult" "activations" "J" (.long q9) ∧ Fld Z h a1 "com/example/robust_backoff/robustbackoff/model/RunResult" "resets" "J" (.long q10) ∧ Fld Z h a1 "com/example/robust_backoff/robustbackoff/model/RunResult" "slotTypeDisagreements" "J" (.long q11)
theorem d1_0 : decode prog_13_method_1_code 0 = .ok (.aload_n 0, 1) := by decide +kernel
theorem d1_1 : decode prog_13_method_1_code 1 = .ok (.invokespecial 1, 3) := by decide +kernel
theorem d1_4 : decode prog_13_method_1_code 4 = .ok (.aload_n 0, 1) := by decide +kernel
theorem d1_5 : decode prog_13_method_1_code 5 = .ok (.lload_n 1, 1) := by decide +kernel
theorem d1_6 : decode prog_13_method_1_code 6 = .ok (.putfield 7, 3) := by decide +kernel
theorem d1_9 : decode prog_13_method_1_code 9 = .ok (.aload_n 0, 1) := by decide +kernel
theorem d1_10 : decode prog_13_method_1_code 10 = .ok (.lload_n 3, 1) := by decide +kernel
theorem d1_11 : decode prog_13_method_1_code 11 = .ok (.putfield 13, 3) := by decide +kernel
theorem d1_14 : decode prog_13_method_1_code 14 = .ok (.aload_n 0, 1) := by decide +kernel
theorem d1_15 : decode prog_13_method_1_code 15 = .ok (.lload 5, 2) := by decide +kernel
theorem d1_17 : decode prog_13_method_1_code 17 = .ok (.putfield 16, 3) := by decide +kernel
theorem d1_20 : decode prog_13_method_1_code 20 = .ok (.aload_n 0, 1) := by decide +kernel
theorem d1_21 : decode prog_13_method_1_code 21 = .ok (.lload 7, 2) := by decide +kernel
theorem d1_23 : decode prog_13_method_1_code 23 = .ok (.putfield 19, 3) := by decide +kernel
theorem d1_26 : decode prog_13_method_1_code 26 = .ok (.aload_n 0, 1) := by decide +kernel
theorem d1_27 : decode prog_13_method_1_code 27 = .ok (.lload 9, 2) := by decide +kernel
theorem d1_29 : decode prog_13_method_1_code 29 = .ok (.putfield 22, 3) := by decide +kernel
theorem d1_32 : decode prog_13_method_1_code 32 = .ok (.aload_n 0, 1) := by decide +kernel
theorem d1_33 : decode prog_13_method_1_code 33 = .ok (.lload 11, 2) := by decide +kernel
theorem d1_35 : decode prog_13_method_1_code 35 = .ok (.putfield 25, 3) := by decide +kernel
theorem d1_38 : decode prog_13_method_1_code 38 = .ok (.aload_n 0, 1) := by decide +kernel
theorem d1_39 : decode prog_13_method_1_code 39 = .ok (.lload 13, 2) := by decide +kernel
theorem d1_41 : decode prog_13_method_1_code 41 = .ok (.putfield 28, 3) := by decide +kernel
theorem d1_44 : decode prog_13_method_1_code 44 = .ok (.aload_n 0, 1) := by decide +kernel
theorem d1_45 : decode prog_13_method_1_code 45 = .ok (.lload 15, 2) := by decide +kernel
theorem d1_47 : decode prog_13_method_1_code 47 = .ok (.putfield 31, 3) := by decide +kernel
theorem d1_50 : decode prog_13_method_1_code 50 = .ok (.aload_n 0, 1) := by decide +kernel
theorem d1_51 : decode prog_13_method_1_code 51 = .ok (.lload 17, 2) := by decide +kernel
theorem d1_53 : decode prog_13_method_1_code 53 = .ok (.putfield 34, 3) := by decide +kernel
theorem d1_56 : decode prog_13_method_1_code 56 = .ok (.aload_n 0, 1) := by decide +kernel
theorem d1_57 : decode prog_13_method_1_code 57 = .ok (.lload 19, 2) := by decide +kernel
theorem d1_59 : decode prog_13_method_1_code 59 = .ok (.putfield 37, 3) := by decide +kernel
theorem d1_62 : decode prog_13_method_1_code 62 = .ok (.aload_n 0, 1) := by decide +kernel
theorem d1_63 : decode prog_13_method_1_code 63 = .ok (.lload 21, 2) := by decide +kernel
theorem d1_65 : decode prog_13_method_1_code 65 = .ok (.putfield 40, 3) := by decide +kernel
theorem d1_68 : decode prog_13_method_1_code 68 = .ok (.return_, 1) := by decide +kernel
theorem pn_1 : plainFor (⟨"com/example/robust_backoff/robustbackoff/model/RunResult", "<init>", "(JJJJJJJJJJJ)V"⟩ : MethodName) = true := by first | exact plainFor_of_name (by first | (simp [plainName, overriddenIn]; done) | decide +kernel) | decide +kernel
theorem ef_1 (m : MethodId) (x0 : Addr) (x1 : Int64) (x2 : Int64) (x3 : Int64) (x4 : Int64) (x5 : Int64) (x6 : Int64) (x7 : Int64) (x8 : Int64) (x9 : Int64) (x10 : Int64) (x11 : Int64) : entryFrame m #[(.ref x0), (.long x1), (.long x2), (.long x3), (.long x4), (.long x5), (.long x6), (.long x7), (.long x8), (.long x9), (.long x10), (.long x11)] 23 = mkF m 0 #[.val (.ref x0), .val (.long x1), .second, .val (.long x2), .second, .val (.long x3), .second, .val (.long x4), .second, .val (.long x5), .second, .val (.long x6), .second, .val (.long x7), .second, .val (.long x8), .second, .val (.long x9), .second, .val (.long x10), .second, .val (.long x11), .second] [] := by first | (simp [entryFrame, mkF, argsToLocals, Value.category]; done) | rfl
set_option maxRecDepth 65536 in
set_option maxHeartbeats 40000000 in
theorem rm1 (l : Launch) (Z : State) (a0 : Array Value) (hw : ∀ d ∈ tables_1, d.before a0 Z = true) (ws : List Jvm.Cond) (a1 : Addr) (q1 : Int64) (q2 : Int64) (q3 : Int64) (q4 : Int64) (q5 : Int64) (q6 : Int64) (q7 : Int64) (q8 : Int64) (q9 : Int64) (q10 : Int64) (q11 : Int64) (u0 u1 u2 u3 u4 u5 u6 u7 u8 u9 u10 : Value) (h0 : Heap) (n0 : Nat) (Z0 : n0 ≤ h0.size) (E0 : Exa Z h0 a1 "com/example/robust_backoff/robustbackoff/model/RunResult") (F_packets : Fld Z h0 a1 "com/example/robust_backoff/robustbackoff/model/RunResult" "packets" "J" u0) (F_successes : Fld Z h0 a1 "com/example/robust_backoff/robustbackoff/model/RunResult" "successes" "J" u1) (F_liveSlots : Fld Z h0 a1 "com/example/robust_backoff/robustbackoff/model/RunResult" "liveSlots" "J" u2) (F_jammedSlots : Fld Z h0 a1 "com/example/robust_backoff/robustbackoff/model/RunResult" "jammedSlots" "J" u3) (F_makespan : Fld Z h0 a1 "com/example/robust_backoff/robustbackoff/model/RunResult" "makespan" "J" u4) (F_sends : Fld Z h0 a1 "com/example/robust_backoff/robustbackoff/model/RunResult" "sends" "J" u5) (F_maxSendsPerPacket : Fld Z h0 a1 "com/example/robust_backoff/robustbackoff/model/RunResult" "maxSendsPerPacket" "J" u6) (F_busyTones : Fld Z h0 a1 "com/example/robust_backoff/robustbackoff/model/RunResult" "busyTones" "J" u7) (F_activations : Fld Z h0 a1 "com/example/robust_backoff/robustbackoff/model/RunResult" "activations" "J" u8) (F_resets : Fld Z h0 a1 "com/example/robust_backoff/robustbackoff/model/RunResult" "resets" "J" u9) (F_slotTypeDisagreements : Fld Z h0 a1 "com/example/robust_backoff/robustbackoff/model/RunResult" "slotTypeDisagreements" "J" u10) (g0 : n0 ≤ a1) :
    MetFree l (⟨"com/example/robust_backoff/robustbackoff/model/RunResult", "<init>", "(JJJJJJJJJJJ)V"⟩ : MethodName) (head1 (Jvm.Cond.code (⟨"com/example/robust_backoff/robustbackoff/model/RunResult", "<init>", "(JJJJJJJJJJJ)V"⟩ : MethodName) prog_13_method_1_code 23 none :: ws) ({ frames := 2, cells := 0, slots := 0, locals := 24 } : Room)) (fun a U => a = #[(.ref a1), (.long q1), (.long q2), (.long q3), (.long q4), (.long q5), (.long q6), (.long q7), (.long q8), (.long q9), (.long q10), (.long q11)] ∧ Z.Warmed39 U.vm ∧ U.heap = h0) (fun _ _ _ _ _ => True) (fun _ U o U' => ∃ v L, o = .returned v ∧ Q1 Z a1 q1 q2 q3 q4 q5 q6 q7 q8 q9 q10 q11 h0 n0 v U'.heap L ∧ FrameEnd U o U' L ({ frames := 2, cells := 0, slots := 0, locals := 24 } : Room).cells ({ frames := 2, cells := 0, slots := 0, locals := 24 } : Room).slots) := by
  refine MetFree.of_bodySF pn_1 hisR ?_
  intro p e s m args below meth c s₁ Bd hml0 hP hK
  obtain ⟨rfl, hZ, hh⟩ := hP
  have hx := Bd.exec
  have hby := Bd.bytes
  have hlk := Bd.notSynchronized
  have hret := Bd.returns
  have hml : c.maxLocals = 23 := hml0
  have hown : s.vm.findClass "com/example/robust_backoff/robustbackoff/model/RunResult" = some m.cls := findClass_of_methodNamed Bd.named
  have hnm := (name_of_methodNamed Bd.named Bd.method).1
  have X0 : Stand p l e ({ frames := 2, cells := 0, slots := 0, locals := 24 } : Room) s m #[(.ref a1), (.long q1), (.long q2), (.long q3), (.long q4), (.long q5), (.long q6), (.long q7), (.long q8), (.long q9), (.long q10), (.long q11)] below meth c s₁ [] 0 0 := Stand.of_body Bd
  have e0 : s₁.heap = h0 := by rw [← hh, Bd.state]; rfl
  have N0 := Fr.nil n0
  show Go p e below (Pst s (Q1 Z a1 q1 q2 q3 q4 q5 q6 q7 q8 q9 q10 q11 h0 n0) ({ frames := 2, cells := 0, slots := 0, locals := 24 } : Room).cells ({ frames := 2, cells := 0, slots := 0, locals := 24 } : Room).slots) (s₁.setTop (entryFrame m #[(.ref a1), (.long q1), (.long q2), (.long q3), (.long q4), (.long q5), (.long q6), (.long q7), (.long q8), (.long q9), (.long q10), (.long q11)] 23))
  refine Go.on (fun t k => castTop (ef_1 m a1 q1 q2 q3 q4 q5 q6 q7 q8 q9 q10 q11) k) ?_
  show Go p e below _ (s₁.setTop (mkF m 0 #[.val (.ref a1), .val (.long q1), .second, .val (.long q2), .second, .val (.long q3), .second, .val (.long q4), .second, .val (.long q5), .second, .val (.long q6), .second, .val (.long q7), .second, .val (.long q8), .second, .val (.long q9), .second, .val (.long q10), .second, .val (.long q11), .second] []))
  refine Go.on (fun t k => XS.aloadN X0.here hx rfl (hb hby d1_0) rfl rfl k) ?_
  show Go p e below _ (s₁.setTop (mkF m 1 #[.val (.ref a1), .val (.long q1), .second, .val (.long q2), .second, .val (.long q3), .second, .val (.long q4), .second, .val (.long q5), .second, .val (.long q6), .second, .val (.long q7), .second, .val (.long q8), .second, .val (.long q9), .second, .val (.long q10), .second, .val (.long q11), .second] [(.ref a1)]))
  obtain ⟨_, _, ⟨T1, L1, k1, n1⟩, -, X1, ⟨Lc1, hQ1, l1, y1, z1⟩, st1⟩ := X0.specialBack hx (y := (⟨"java/lang/Record", "<init>", "()V"⟩ : MethodName)) rfl hown (mvT hZ (hw _ (List.mem_of_getElem? (i := 6) rfl))) (mvT hZ (hw _ (List.mem_of_getElem? (i := 7) rfl))) (mvT hZ (hw _ (List.mem_of_getElem? (i := 10) rfl))) (by decide) (backOf (W := 0) (rm2 l Z a0 hw [] a1 h0 n0 Z0) hZ (hw _ (List.mem_of_getElem? (i := 10) rfl)) (hw _ (List.mem_of_getElem? (i := 9) rfl)) (by decide) (by decide)) (g := (mkF m 1 #[.val (.ref a1), .val (.long q1), .second, .val (.long q2), .second, .val (.long q3), .second, .val (.long q4), .second, .val (.long q5), .second, .val (.long q6), .second, .val (.long q7), .second, .val (.long q8), .second, .val (.long q9), .second, .val (.long q10), .second, .val (.long q11), .second] [(.ref a1)])) rfl (by rw [hml]; rfl) (Steps.refl _) (a := a1) (argsL := []) (rest := []) (lenOf pd_1 rfl) rfl (by show 2 * 0 + _ ≤ _; exact Nat.le_of_eq rfl) (hb hby d1_1) (fun _ _ => ⟨rfl, e0, (by decide : 0 + 0 ≤ _), (by decide : 0 + 0 ≤ _)⟩)
  dsimp only [Pt.U, Pt.locs, Pt.cells, Pt.slots] at X1 l1 y1 z1 st1 hQ1
  subst l1 y1 z1
  obtain ⟨rfl, N1q, e1⟩ := hQ1
  have N1 := Fr.app N0 N1q
  refine Go.st st1 ?_
  show Go p e below _ (T1.setTop (mkF m 4 #[.val (.ref a1), .val (.long q1), .second, .val (.long q2), .second, .val (.long q3), .second, .val (.long q4), .second, .val (.long q5), .second, .val (.long q6), .second, .val (.long q7), .second, .val (.long q8), .second, .val (.long q9), .second, .val (.long q10), .second, .val (.long q11), .second] []))
  refine Go.on (fun t k => XS.aloadN X1.here hx rfl (hb hby d1_4) rfl rfl k) ?_
  show Go p e below _ (T1.setTop (mkF m 5 #[.val (.ref a1), .val (.long q1), .second, .val (.long q2), .second, .val (.long q3), .second, .val (.long q4), .second, .val (.long q5), .second, .val (.long q6), .second, .val (.long q7), .second, .val (.long q8), .second, .val (.long q9), .second, .val (.long q10), .second, .val (.long q11), .second] [(.ref a1)]))
  refine Go.on (fun t k => XS.lloadN X1.here hx rfl (hb hby d1_5) rfl k) ?_
  show Go p e below _ (T1.setTop (mkF m 6 #[.val (.ref a1), .val (.long q1), .second, .val (.long q2), .second, .val (.long q3), .second, .val (.long q4), .second, .val (.long q5), .second, .val (.long q6), .second, .val (.long q7), .second, .val (.long q8), .second, .val (.long q9), .second, .val (.long q10), .second, .val (.long q11), .second] [(.long q1), (.ref a1)]))
  obtain ⟨T2, h2, X2, e2, W2, st2⟩ := putF X1 hx hZ hown (host := "") (Or.inl (hw _ (List.mem_of_getElem? (i := 14) rfl))) Via.refl e1 F_packets E0 (Or.inr ⟨(hw _ (List.mem_of_getElem? (i := 15) rfl)), rfl, hnm⟩) (hw _ (List.mem_of_getElem? (i := 1) rfl)) (ty := .long) (by decide) rfl rfl (g := (mkF m 6 #[.val (.ref a1), .val (.long q1), .second, .val (.long q2), .second, .val (.long q3), .second, .val (.long q4), .second, .val (.long q5), .second, .val (.long q6), .second, .val (.long q7), .second, .val (.long q8), .second, .val (.long q9), .second, .val (.long q10), .second, .val (.long q11), .second] [(.long q1), (.ref a1)])) rfl rfl (hb hby d1_6)
  have E2 := E0.wr W2
  have K2 := (Keep.refl h0 [a1]).wr W2 (Or.inl (List.mem_of_getElem? (i := 0) rfl))
  have N2 := Fr.snoc X2 N1 g0
  have F2_packets := F_packets.same W2
  have F2_successes := F_successes.other W2 (Or.inr (slot_ne (Or.inr (hw _ (List.mem_of_getElem? (i := 17) rfl))) (Or.inr (hw _ (List.mem_of_getElem? (i := 15) rfl))) (by decide) (t := .long) (t' := .long) (by decide) (by decide)))
  have F2_liveSlots := F_liveSlots.other W2 (Or.inr (slot_ne (Or.inr (hw _ (List.mem_of_getElem? (i := 19) rfl))) (Or.inr (hw _ (List.mem_of_getElem? (i := 15) rfl))) (by decide) (t := .long) (t' := .long) (by decide) (by decide)))
  have F2_jammedSlots := F_jammedSlots.other W2 (Or.inr (slot_ne (Or.inr (hw _ (List.mem_of_getElem? (i := 21) rfl))) (Or.inr (hw _ (List.mem_of_getElem? (i := 15) rfl))) (by decide) (t := .long) (t' := .long) (by decide) (by decide)))
  have F2_makespan := F_makespan.other W2 (Or.inr (slot_ne (Or.inr (hw _ (List.mem_of_getElem? (i := 23) rfl))) (Or.inr (hw _ (List.mem_of_getElem? (i := 15) rfl))) (by decide) (t := .long) (t' := .long) (by decide) (by decide)))
  have F2_sends := F_sends.other W2 (Or.inr (slot_ne (Or.inr (hw _ (List.mem_of_getElem? (i := 25) rfl))) (Or.inr (hw _ (List.mem_of_getElem? (i := 15) rfl))) (by decide) (t := .long) (t' := .long) (by decide) (by decide)))
  have F2_maxSendsPerPacket := F_maxSendsPerPacket.other W2 (Or.inr (slot_ne (Or.inr (hw _ (List.mem_of_getElem? (i := 27) rfl))) (Or.inr (hw _ (List.mem_of_getElem? (i := 15) rfl))) (by decide) (t := .long) (t' := .long) (by decide) (by decide)))
  have F2_busyTones := F_busyTones.other W2 (Or.inr (slot_ne (Or.inr (hw _ (List.mem_of_getElem? (i := 29) rfl))) (Or.inr (hw _ (List.mem_of_getElem? (i := 15) rfl))) (by decide) (t := .long) (t' := .long) (by decide) (by decide)))
  have F2_activations := F_activations.other W2 (Or.inr (slot_ne (Or.inr (hw _ (List.mem_of_getElem? (i := 31) rfl))) (Or.inr (hw _ (List.mem_of_getElem? (i := 15) rfl))) (by decide) (t := .long) (t' := .long) (by decide) (by decide)))
  have F2_resets := F_resets.other W2 (Or.inr (slot_ne (Or.inr (hw _ (List.mem_of_getElem? (i := 33) rfl))) (Or.inr (hw _ (List.mem_of_getElem? (i := 15) rfl))) (by decide) (t := .long) (t' := .long) (by decide) (by decide)))
  have F2_slotTypeDisagreements := F_slotTypeDisagreements.other W2 (Or.inr (slot_ne (Or.inr (hw _ (List.mem_of_getElem? (i := 35) rfl))) (Or.inr (hw _ (List.mem_of_getElem? (i := 15) rfl))) (by decide) (t := .long) (t' := .long) (by decide) (by decide)))
  refine Go.on st2 ?_
  show Go p e below _ (T2.setTop (mkF m 9 #[.val (.ref a1), .val (.long q1), .second, .val (.long q2), .second, .val (.long q3), .second, .val (.long q4), .second, .val (.long q5), .second, .val (.long q6), .second, .val (.long q7), .second, .val (.long q8), .second, .val (.long q9), .second, .val (.long q10), .second, .val (.long q11), .second] []))
  refine Go.on (fun t k => XS.aloadN X2.here hx rfl (hb hby d1_9) rfl rfl k) ?_
  show Go p e below _ (T2.setTop (mkF m 10 #[.val (.ref a1), .val (.long q1), .second, .val (.long q2), .second, .val (.long q3), .second, .val (.long q4), .second, .val (.long q5), .second, .val (.long q6), .second, .val (.long q7), .second, .val (.long q8), .second, .val (.long q9), .second, .val (.long q10), .second, .val (.long q11), .second] [(.ref a1)]))
  refine Go.on (fun t k => XS.lloadN X2.here hx rfl (hb hby d1_10) rfl k) ?_
  show Go p e below _ (T2.setTop (mkF m 11 #[.val (.ref a1), .val (.long q1), .second, .val (.long q2), .second, .val (.long q3), .second, .val (.long q4), .second, .val (.long q5), .second, .val (.long q6), .second, .val (.long q7), .second, .val (.long q8), .second, .val (.long q9), .second, .val (.long q10), .second, .val (.long q11), .second] [(.long q2), (.ref a1)]))
  obtain ⟨T3, h3, X3, e3, W3, st3⟩ := putF X2 hx hZ hown (host := "") (Or.inl (hw _ (List.mem_of_getElem? (i := 16) rfl))) Via.refl e2 F2_successes E2 (Or.inr ⟨(hw _ (List.mem_of_getElem? (i := 17) rfl)), rfl, hnm⟩) (hw _ (List.mem_of_getElem? (i := 1) rfl)) (ty := .long) (by decide) rfl rfl (g := (mkF m 11 #[.val (.ref a1), .val (.long q1), .second, .val (.long q2), .second, .val (.long q3), .second, .val (.long q4), .second, .val (.long q5), .second, .val (.long q6), .second, .val (.long q7), .second, .val (.long q8), .second, .val (.long q9), .second, .val (.long q10), .second, .val (.long q11), .second] [(.long q2), (.ref a1)])) rfl rfl (hb hby d1_11)
  have E3 := E2.wr W3
  have K3 := K2.wr W3 (Or.inl (List.mem_of_getElem? (i := 0) rfl))
  have N3 := Fr.snoc X3 N2 g0
  have F3_packets := F2_packets.other W3 (Or.inr (slot_ne (Or.inr (hw _ (List.mem_of_getElem? (i := 15) rfl))) (Or.inr (hw _ (List.mem_of_getElem? (i := 17) rfl))) (by decide) (t := .long) (t' := .long) (by decide) (by decide)))
  have F3_successes := F2_successes.same W3
  have F3_liveSlots := F2_liveSlots.other W3 (Or.inr (slot_ne (Or.inr (hw _ (List.mem_of_getElem? (i := 19) rfl))) (Or.inr (hw _ (List.mem_of_getElem? (i := 17) rfl))) (by decide) (t := .long) (t' := .long) (by decide) (by decide)))
  have F3_jammedSlots := F2_jammedSlots.other W3 (Or.inr (slot_ne (Or.inr (hw _ (List.mem_of_getElem? (i := 21) rfl))) (Or.inr (hw _ (List.mem_of_getElem? (i := 17) rfl))) (by decide) (t := .long) (t' := .long) (by decide) (by decide)))
  have F3_makespan := F2_makespan.other W3 (Or.inr (slot_ne (Or.inr (hw _ (List.mem_of_getElem? (i := 23) rfl))) (Or.inr (hw _ (List.mem_of_getElem? (i := 17) rfl))) (by decide) (t := .long) (t' := .long) (by decide) (by decide)))
  have F3_sends := F2_sends.other W3 (Or.inr (slot_ne (Or.inr (hw _ (List.mem_of_getElem? (i := 25) rfl))) (Or.inr (hw _ (List.mem_of_getElem? (i := 17) rfl))) (by decide) (t := .long) (t' := .long) (by decide) (by decide)))
  have F3_maxSendsPerPacket := F2_maxSendsPerPacket.other W3 (Or.inr (slot_ne (Or.inr (hw _ (List.mem_of_getElem? (i := 27) rfl))) (Or.inr (hw _ (List.mem_of_getElem? (i := 17) rfl))) (by decide) (t := .long) (t' := .long) (by decide) (by decide)))
  have F3_busyTones := F2_busyTones.other W3 (Or.inr (slot_ne (Or.inr (hw _ (List.mem_of_getElem? (i := 29) rfl))) (Or.inr (hw _ (List.mem_of_getElem? (i := 17) rfl))) (by decide) (t := .long) (t' := .long) (by decide) (by decide)))
  have F3_activations := F2_activations.other W3 (Or.inr (slot_ne (Or.inr (hw _ (List.mem_of_getElem? (i := 31) rfl))) (Or.inr (hw _ (List.mem_of_getElem? (i := 17) rfl))) (by decide) (t := .long) (t' := .long) (by decide) (by decide)))
  have F3_resets := F2_resets.other W3 (Or.inr (slot_ne (Or.inr (hw _ (List.mem_of_getElem? (i := 33) rfl))) (Or.inr (hw _ (List.mem_of_getElem? (i := 17) rfl))) (by decide) (t := .long) (t' := .long) (by decide) (by decide)))
  have F3_slotTypeDisagreements := F2_slotTypeDisagreements.other W3 (Or.inr (slot_ne (Or.inr (hw _ (List.mem_of_getElem? (i := 35) rfl))) (Or.inr (hw _ (List.mem_of_getElem? (i := 17) rfl))) (by decide) (t := .long) (t' := .long) (by decide) (by decide)))
  refine Go.on st3 ?_
  show Go p e below _ (T3.setTop (mkF m 14 #[.val (.ref a1), .val (.long q1), .second, .val (.long q2), .second, .val (.long q3), .second, .val (.long q4), .second, .val (.long q5), .second, .val (.long q6), .second, .val (.long q7), .second, .val (.long q8), .second, .val (.long q9), .second, .val (.long q10), .second, .val (.long q11), .second] []))
  refine Go.on (fun t k => XS.aloadN X3.here hx rfl (hb hby d1_14) rfl rfl k) ?_
  show Go p e below _ (T3.setTop (mkF m 15 #[.val (.ref a1), .val (.long q1), .second, .val (.long q2), .second, .val (.long q3), .second, .val (.long q4), .second, .val (.long q5), .second, .val (.long q6), .second, .val (.long q7), .second, .val (.long q8), .second, .val (.long q9), .second, .val (.long q10), .second, .val (.long q11), .second] [(.ref a1)]))
  refine Go.on (fun t k => XS.lload X3.here hx rfl (hb hby d1_15) rfl k) ?_
  show Go p e below _ (T3.setTop (mkF m 17 #[.val (.ref a1), .val (.long q1), .second, .val (.long q2), .second, .val (.long q3), .second, .val (.long q4), .second, .val (.long q5), .second, .val (.long q6), .second, .val (.long q7), .second, .val (.long q8), .second, .val (.long q9), .second, .val (.long q10), .second, .val (.long q11), .second] [(.long q3), (.ref a1)]))
  obtain ⟨T4, h4, X4, e4, W4, st4⟩ := putF X3 hx hZ hown (host := "") (Or.inl (hw _ (List.mem_of_getElem? (i := 18) rfl))) Via.refl e3 F3_liveSlots E3 (Or.inr ⟨(hw _ (List.mem_of_getElem? (i := 19) rfl)), rfl, hnm⟩) (hw _ (List.mem_of_getElem? (i := 1) rfl)) (ty := .long) (by decide) rfl rfl (g := (mkF m 17 #[.val (.ref a1), .val (.long q1), .second, .val (.long q2), .second, .val (.long q3), .second, .val (.long q4), .second, .val (.long q5), .second, .val (.long q6), .second, .val (.long q7), .second, .val (.long q8), .second, .val (.long q9), .second, .val (.long q10), .second, .val (.long q11), .second] [(.long q3), (.ref a1)])) rfl rfl (hb hby d1_17)
  have E4 := E3.wr W4
  have K4 := K3.wr W4 (Or.inl (List.mem_of_getElem? (i := 0) rfl))
  have N4 := Fr.snoc X4 N3 g0
  have F4_packets := F3_packets.other W4 (Or.inr (slot_ne (Or.inr (hw _ (List.mem_of_getElem? (i := 15) rfl))) (Or.inr (hw _ (List.mem_of_getElem? (i := 19) rfl))) (by decide) (t := .long) (t' := .long) (by decide) (by decide)))
  have F4_successes := F3_successes.other W4 (Or.inr (slot_ne (Or.inr (hw _ (List.mem_of_getElem? (i := 17) rfl))) (Or.inr (hw _ (List.mem_of_getElem? (i := 19) rfl))) (by decide) (t := .long) (t' := .long) (by decide) (by decide)))
  have F4_liveSlots := F3_liveSlots.same W4
  have F4_jammedSlots := F3_jammedSlots.other W4 (Or.inr (slot_ne (Or.inr (hw _ (List.mem_of_getElem? (i := 21) rfl))) (Or.inr (hw _ (List.mem_of_getElem? (i := 19) rfl))) (by decide) (t := .long) (t' := .long) (by decide) (by decide)))
  have F4_makespan := F3_makespan.other W4 (Or.inr (slot_ne (Or.inr (hw _ (List.mem_of_getElem? (i := 23) rfl))) (Or.inr (hw _ (List.mem_of_getElem? (i := 19) rfl))) (by decide) (t := .long) (t' := .long) (by decide) (by decide)))
  have F4_sends := F3_sends.other W4 (Or.inr (slot_ne (Or.inr (hw _ (List.mem_of_getElem? (i := 25) rfl))) (Or.inr (hw _ (List.mem_of_getElem? (i := 19) rfl))) (by decide) (t := .long) (t' := .long) (by decide) (by decide)))
  have F4_maxSendsPerPacket := F3_maxSendsPerPacket.other W4 (Or.inr (slot_ne (Or.inr (hw _ (List.mem_of_getElem? (i := 27) rfl))) (Or.inr (hw _ (List.mem_of_getElem? (i := 19) rfl))) (by decide) (t := .long) (t' := .long) (by decide) (by decide)))
  have F4_busyTones := F3_busyTones.other W4 (Or.inr (slot_ne (Or.inr (hw _ (List.mem_of_getElem? (i := 29) rfl))) (Or.inr (hw _ (List.mem_of_getElem? (i := 19) rfl))) (by decide) (t := .long) (t' := .long) (by decide) (by decide)))
  have F4_activations := F3_activations.other W4 (Or.inr (slot_ne (Or.inr (hw _ (List.mem_of_getElem? (i := 31) rfl))) (Or.inr (hw _ (List.mem_of_getElem? (i := 19) rfl))) (by decide) (t := .long) (t' := .long) (by decide) (by decide)))
  have F4_resets := F3_resets.other W4 (Or.inr (slot_ne (Or.inr (hw _ (List.mem_of_getElem? (i := 33) rfl))) (Or.inr (hw _ (List.mem_of_getElem? (i := 19) rfl))) (by decide) (t := .long) (t' := .long) (by decide) (by decide)))
  have F4_slotTypeDisagreements := F3_slotTypeDisagreements.other W4 (Or.inr (slot_ne (Or.inr (hw _ (List.mem_of_getElem? (i := 35) rfl))) (Or.inr (hw _ (List.mem_of_getElem? (i := 19) rfl))) (by decide) (t := .long) (t' := .long) (by decide) (by decide)))
  refine Go.on st4 ?_
  show Go p e below _ (T4.setTop (mkF m 20 #[.val (.ref a1), .val (.long q1), .second, .val (.long q2), .second, .val (.long q3), .second, .val (.long q4), .second, .val (.long q5), .second, .val (.long q6), .second, .val (.long q7), .second, .val (.long q8), .second, .val (.long q9), .second, .val (.long q10), .second, .val (.long q11), .second] []))
  refine Go.on (fun t k => XS.aloadN X4.here hx rfl (hb hby d1_20) rfl rfl k) ?_
  show Go p e below _ (T4.setTop (mkF m 21 #[.val (.ref a1), .val (.long q1), .second, .val (.long q2), .second, .val (.long q3), .second, .val (.long q4), .second, .val (.long q5), .second, .val (.long q6), .second, .val (.long q7), .second, .val (.long q8), .second, .val (.long q9), .second, .val (.long q10), .second, .val (.long q11), .second] [(.ref a1)]))
  refine Go.on (fun t k => XS.lload X4.here hx rfl (hb hby d1_21) rfl k) ?_
  show Go p e below _ (T4.setTop (mkF m 23 #[.val (.ref a1), .val (.long q1), .second, .val (.long q2), .second, .val (.long q3), .second, .val (.long q4), .second, .val (.long q5), .second, .val (.long q6), .second, .val (.long q7), .second, .val (.long q8), .second, .val (.long q9), .second, .val (.long q10), .second, .val (.long q11), .second] [(.long q4), (.ref a1)]))
  obtain ⟨T5, h5, X5, e5, W5, st5⟩ := putF X4 hx hZ hown (host := "") (Or.inl (hw _ (List.mem_of_getElem? (i := 20) rfl))) Via.refl e4 F4_jammedSlots E4 (Or.inr ⟨(hw _ (List.mem_of_getElem? (i := 21) rfl)), rfl, hnm⟩) (hw _ (List.mem_of_getElem? (i := 1) rfl)) (ty := .long) (by decide) rfl rfl (g := (mkF m 23 #[.val (.ref a1), .val (.long q1), .second, .val (.long q2), .second, .val (.long q3), .second, .val (.long q4), .second, .val (.long q5), .second, .val (.long q6), .second, .val (.long q7), .second, .val (.long q8), .second, .val (.long q9), .second, .val (.long q10), .second, .val (.long q11), .second] [(.long q4), (.ref a1)])) rfl rfl (hb hby d1_23)
  have E5 := E4.wr W5
  have K5 := K4.wr W5 (Or.inl (List.mem_of_getElem? (i := 0) rfl))
  have N5 := Fr.snoc X5 N4 g0
  have F5_packets := F4_packets.other W5 (Or.inr (slot_ne (Or.inr (hw _ (List.mem_of_getElem? (i := 15) rfl))) (Or.inr (hw _ (List.mem_of_getElem? (i := 21) rfl))) (by decide) (t := .long) (t' := .long) (by decide) (by decide)))
  have F5_successes := F4_successes.other W5 (Or.inr (slot_ne (Or.inr (hw _ (List.mem_of_getElem? (i := 17) rfl))) (Or.inr (hw _ (List.mem_of_getElem? (i := 21) rfl))) (by decide) (t := .long) (t' := .long) (by decide) (by decide)))
  have F5_liveSlots := F4_liveSlots.other W5 (Or.inr (slot_ne (Or.inr (hw _ (List.mem_of_getElem? (i := 19) rfl))) (Or.inr (hw _ (List.mem_of_getElem? (i := 21) rfl))) (by decide) (t := .long) (t' := .long) (by decide) (by decide)))
  have F5_jammedSlots := F4_jammedSlots.same W5
  have F5_makespan := F4_makespan.other W5 (Or.inr (slot_ne (Or.inr (hw _ (List.mem_of_getElem? (i := 23) rfl))) (Or.inr (hw _ (List.mem_of_getElem? (i := 21) rfl))) (by decide) (t := .long) (t' := .long) (by decide) (by decide)))
  have F5_sends := F4_sends.other W5 (Or.inr (slot_ne (Or.inr (hw _ (List.mem_of_getElem? (i := 25) rfl))) (Or.inr (hw _ (List.mem_of_getElem? (i := 21) rfl))) (by decide) (t := .long) (t' := .long) (by decide) (by decide)))
  have F5_maxSendsPerPacket := F4_maxSendsPerPacket.other W5 (Or.inr (slot_ne (Or.inr (hw _ (List.mem_of_getElem? (i := 27) rfl))) (Or.inr (hw _ (List.mem_of_getElem? (i := 21) rfl))) (by decide) (t := .long) (t' := .long) (by decide) (by decide)))
  have F5_busyTones := F4_busyTones.other W5 (Or.inr (slot_ne (Or.inr (hw _ (List.mem_of_getElem? (i := 29) rfl))) (Or.inr (hw _ (List.mem_of_getElem? (i := 21) rfl))) (by decide) (t := .long) (t' := .long) (by decide) (by decide)))
  have F5_activations := F4_activations.other W5 (Or.inr (slot_ne (Or.inr (hw _ (List.mem_of_getElem? (i := 31) rfl))) (Or.inr (hw _ (List.mem_of_getElem? (i := 21) rfl))) (by decide) (t := .long) (t' := .long) (by decide) (by decide)))
  have F5_resets := F4_resets.other W5 (Or.inr (slot_ne (Or.inr (hw _ (List.mem_of_getElem? (i := 33) rfl))) (Or.inr (hw _ (List.mem_of_getElem? (i := 21) rfl))) (by decide) (t := .long) (t' := .long) (by decide) (by decide)))
  have F5_slotTypeDisagreements := F4_slotTypeDisagreements.other W5 (Or.inr (slot_ne (Or.inr (hw _ (List.mem_of_getElem? (i := 35) rfl))) (Or.inr (hw _ (List.mem_of_getElem? (i := 21) rfl))) (by decide) (t := .long) (t' := .long) (by decide) (by decide)))
  refine Go.on st5 ?_
  show Go p e below _ (T5.setTop (mkF m 26 #[.val (.ref a1), .val (.long q1), .second, .val (.long q2), .second, .val (.long q3), .second, .val (.long q4), .second, .val (.long q5), .second, .val (.long q6), .second, .val (.long q7), .second, .val (.long q8), .second, .val (.long q9), .second, .val (.long q10), .second, .val (.long q11), .second] []))
  refine Go.on (fun t k => XS.aloadN X5.here hx rfl (hb hby d1_26) rfl rfl k) ?_
  show Go p e below _ (T5.setTop (mkF m 27 #[.val (.ref a1), .val (.long q1), .second, .val (.long q2), .second, .val (.long q3), .second, .val (.long q4), .second, .val (.long q5), .second, .val (.long q6), .second, .val (.long q7), .second, .val (.long q8), .second, .val (.long q9), .second, .val (.long q10), .second, .val (.long q11), .second] [(.ref a1)]))
  refine Go.on (fun t k => XS.lload X5.here hx rfl (hb hby d1_27) rfl k) ?_
  show Go p e below _ (T5.setTop (mkF m 29 #[.val (.ref a1), .val (.long q1), .second, .val (.long q2), .second, .val (.long q3), .second, .val (.long q4), .second, .val (.long q5), .second, .val (.long q6), .second, .val (.long q7), .second, .val (.long q8), .second, .val (.long q9), .second, .val (.long q10), .second, .val (.long q11), .second] [(.long q5), (.ref a1)]))
  obtain ⟨T6, h6, X6, e6, W6, st6⟩ := putF X5 hx hZ hown (host := "") (Or.inl (hw _ (List.mem_of_getElem? (i := 22) rfl))) Via.refl e5 F5_makespan E5 (Or.inr ⟨(hw _ (List.mem_of_getElem? (i := 23) rfl)), rfl, hnm⟩) (hw _ (List.mem_of_getElem? (i := 1) rfl)) (ty := .long) (by decide) rfl rfl (g := (mkF m 29 #[.val (.ref a1), .val (.long q1), .second, .val (.long q2), .second, .val (.long q3), .second, .val (.long q4), .second, .val (.long q5), .second, .val (.long q6), .second, .val (.long q7), .second, .val (.long q8), .second, .val (.long q9), .second, .val (.long q10), .second, .val (.long q11), .second] [(.long q5), (.ref a1)])) rfl rfl (hb hby d1_29)
  have E6 := E5.wr W6
  have K6 := K5.wr W6 (Or.inl (List.mem_of_getElem? (i := 0) rfl))
  have N6 := Fr.snoc X6 N5 g0
  have F6_packets := F5_packets.other W6 (Or.inr (slot_ne (Or.inr (hw _ (List.mem_of_getElem? (i := 15) rfl))) (Or.inr (hw _ (List.mem_of_getElem? (i := 23) rfl))) (by decide) (t := .long) (t' := .long) (by decide) (by decide)))
  have F6_successes := F5_successes.other W6 (Or.inr (slot_ne (Or.inr (hw _ (List.mem_of_getElem? (i := 17) rfl))) (Or.inr (hw _ (List.mem_of_getElem? (i := 23) rfl))) (by decide) (t := .long) (t' := .long) (by decide) (by decide)))
  have F6_liveSlots := F5_liveSlots.other W6 (Or.inr (slot_ne (Or.inr (hw _ (List.mem_of_getElem? (i := 19) rfl))) (Or.inr (hw _ (List.mem_of_getElem? (i := 23) rfl))) (by decide) (t := .long) (t' := .long) (by decide) (by decide)))
  have F6_jammedSlots := F5_jammedSlots.other W6 (Or.inr (slot_ne (Or.inr (hw _ (List.mem_of_getElem? (i := 21) rfl))) (Or.inr (hw _ (List.mem_of_getElem? (i := 23) rfl))) (by decide) (t := .long) (t' := .long) (by decide) (by decide)))
  have F6_makespan := F5_makespan.same W6
  have F6_sends := F5_sends.other W6 (Or.inr (slot_ne (Or.inr (hw _ (List.mem_of_getElem? (i := 25) rfl))) (Or.inr (hw _ (List.mem_of_getElem? (i := 23) rfl))) (by decide) (t := .long) (t' := .long) (by decide) (by decide)))
  have F6_maxSendsPerPacket := F5_maxSendsPerPacket.other W6 (Or.inr (slot_ne (Or.inr (hw _ (List.mem_of_getElem? (i := 27) rfl))) (Or.inr (hw _ (List.mem_of_getElem? (i := 23) rfl))) (by decide) (t := .long) (t' := .long) (by decide) (by decide)))
  have F6_busyTones := F5_busyTones.other W6 (Or.inr (slot_ne (Or.inr (hw _ (List.mem_of_getElem? (i := 29) rfl))) (Or.inr (hw _ (List.mem_of_getElem? (i := 23) rfl))) (by decide) (t := .long) (t' := .long) (by decide) (by decide)))
  have F6_activations := F5_activations.other W6 (Or.inr (slot_ne (Or.inr (hw _ (List.mem_of_getElem? (i := 31) rfl))) (Or.inr (hw _ (List.mem_of_getElem? (i := 23) rfl))) (by decide) (t := .long) (t' := .long) (by decide) (by decide)))
  have F6_resets := F5_resets.other W6 (Or.inr (slot_ne (Or.inr (hw _ (List.mem_of_getElem? (i := 33) rfl))) (Or.inr (hw _ (List.mem_of_getElem? (i := 23) rfl))) (by decide) (t := .long) (t' := .long) (by decide) (by decide)))
  have F6_slotTypeDisagreements := F5_slotTypeDisagreements.other W6 (Or.inr (slot_ne (Or.inr (hw _ (List.mem_of_getElem? (i := 35) rfl))) (Or.inr (hw _ (List.mem_of_getElem? (i := 23) rfl))) (by decide) (t := .long) (t' := .long) (by decide) (by decide)))
  refine Go.on st6 ?_
  show Go p e below _ (T6.setTop (mkF m 32 #[.val (.ref a1), .val (.long q1), .second, .val (.long q2), .second, .val (.long q3), .second, .val (.long q4), .second, .val (.long q5), .second, .val (.long q6), .second, .val (.long q7), .second, .val (.long q8), .second, .val (.long q9), .second, .val (.long q10), .second, .val (.long q11), .second] []))
  refine Go.on (fun t k => XS.aloadN X6.here hx rfl (hb hby d1_32) rfl rfl k) ?_
  show Go p e below _ (T6.setTop (mkF m 33 #[.val (.ref a1), .val (.long q1), .second, .val (.long q2), .second, .val (.long q3), .second, .val (.long q4), .second, .val (.long q5), .second, .val (.long q6), .second, .val (.long q7), .second, .val (.long q8), .second, .val (.long q9), .second, .val (.long q10), .second, .val (.long q11), .second] [(.ref a1)]))
  refine Go.on (fun t k => XS.lload X6.here hx rfl (hb hby d1_33) rfl k) ?_
  show Go p e below _ (T6.setTop (mkF m 35 #[.val (.ref a1), .val (.long q1), .second, .val (.long q2), .second, .val (.long q3), .second, .val (.long q4), .second, .val (.long q5), .second, .val (.long q6), .second, .val (.long q7), .second, .val (.long q8), .second, .val (.long q9), .second, .val (.long q10), .second, .val (.long q11), .second] [(.long q6), (.ref a1)]))
  obtain ⟨T7, h7, X7, e7, W7, st7⟩ := putF X6 hx hZ hown (host := "") (Or.inl (hw _ (List.mem_of_getElem? (i := 24) rfl))) Via.refl e6 F6_sends E6 (Or.inr ⟨(hw _ (List.mem_of_getElem? (i := 25) rfl)), rfl, hnm⟩) (hw _ (List.mem_of_getElem? (i := 1) rfl)) (ty := .long) (by decide) rfl rfl (g := (mkF m 35 #[.val (.ref a1), .val (.long q1), .second, .val (.long q2), .second, .val (.long q3), .second, .val (.long q4), .second, .val (.long q5), .second, .val (.long q6), .second, .val (.long q7), .second, .val (.long q8), .second, .val (.long q9), .second, .val (.long q10), .second, .val (.long q11), .second] [(.long q6), (.ref a1)])) rfl rfl (hb hby d1_35)
  have E7 := E6.wr W7
  have K7 := K6.wr W7 (Or.inl (List.mem_of_getElem? (i := 0) rfl))
  have N7 := Fr.snoc X7 N6 g0
  have F7_packets := F6_packets.other W7 (Or.inr (slot_ne (Or.inr (hw _ (List.mem_of_getElem? (i := 15) rfl))) (Or.inr (hw _ (List.mem_of_getElem? (i := 25) rfl))) (by decide) (t := .long) (t' := .long) (by decide) (by decide)))
  have F7_successes := F6_successes.other W7 (Or.inr (slot_ne (Or.inr (hw _ (List.mem_of_getElem? (i := 17) rfl))) (Or.inr (hw _ (List.mem_of_getElem? (i := 25) rfl))) (by decide) (t := .long) (t' := .long) (by decide) (by decide)))
  have F7_liveSlots := F6_liveSlots.other W7 (Or.inr (slot_ne (Or.inr (hw _ (List.mem_of_getElem? (i := 19) rfl))) (Or.inr (hw _ (List.mem_of_getElem? (i := 25) rfl))) (by decide) (t := .long) (t' := .long) (by decide) (by decide)))
  have F7_jammedSlots := F6_jammedSlots.other W7 (Or.inr (slot_ne (Or.inr (hw _ (List.mem_of_getElem? (i := 21) rfl))) (Or.inr (hw _ (List.mem_of_getElem? (i := 25) rfl))) (by decide) (t := .long) (t' := .long) (by decide) (by decide)))
  have F7_makespan := F6_makespan.other W7 (Or.inr (slot_ne (Or.inr (hw _ (List.mem_of_getElem? (i := 23) rfl))) (Or.inr (hw _ (List.mem_of_getElem? (i := 25) rfl))) (by decide) (t := .long) (t' := .long) (by decide) (by decide)))
  have F7_sends := F6_sends.same W7
  have F7_maxSendsPerPacket := F6_maxSendsPerPacket.other W7 (Or.inr (slot_ne (Or.inr (hw _ (List.mem_of_getElem? (i := 27) rfl))) (Or.inr (hw _ (List.mem_of_getElem? (i := 25) rfl))) (by decide) (t := .long) (t' := .long) (by decide) (by decide)))
  have F7_busyTones := F6_busyTones.other W7 (Or.inr (slot_ne (Or.inr (hw _ (List.mem_of_getElem? (i := 29) rfl))) (Or.inr (hw _ (List.mem_of_getElem? (i := 25) rfl))) (by decide) (t := .long) (t' := .long) (by decide) (by decide)))
  have F7_activations := F6_activations.other W7 (Or.inr (slot_ne (Or.inr (hw _ (List.mem_of_getElem? (i := 31) rfl))) (Or.inr (hw _ (List.mem_of_getElem? (i := 25) rfl))) (by decide) (t := .long) (t' := .long) (by decide) (by decide)))
  have F7_resets := F6_resets.other W7 (Or.inr (slot_ne (Or.inr (hw _ (List.mem_of_getElem? (i := 33) rfl))) (Or.inr (hw _ (List.mem_of_getElem? (i := 25) rfl))) (by decide) (t := .long) (t' := .long) (by decide) (by decide)))
  have F7_slotTypeDisagreements := F6_slotTypeDisagreements.other W7 (Or.inr (slot_ne (Or.inr (hw _ (List.mem_of_getElem? (i := 35) rfl))) (Or.inr (hw _ (List.mem_of_getElem? (i := 25) rfl))) (by decide) (t := .long) (t' := .long) (by decide) (by decide)))
  refine Go.on st7 ?_
  show Go p e below _ (T7.setTop (mkF m 38 #[.val (.ref a1), .val (.long q1), .second, .val (.long q2), .second, .val (.long q3), .second, .val (.long q4), .second, .val (.long q5), .second, .val (.long q6), .second, .val (.long q7), .second, .val (.long q8), .second, .val (.long q9), .second, .val (.long q10), .second, .val (.long q11), .second] []))
  refine Go.on (fun t k => XS.aloadN X7.here hx rfl (hb hby d1_38) rfl rfl k) ?_
  show Go p e below _ (T7.setTop (mkF m 39 #[.val (.ref a1), .val (.long q1), .second, .val (.long q2), .second, .val (.long q3), .second, .val (.long q4), .second, .val (.long q5), .second, .val (.long q6), .second, .val (.long q7), .second, .val (.long q8), .second, .val (.long q9), .second, .val (.long q10), .second, .val (.long q11), .second] [(.ref a1)]))
  refine Go.on (fun t k => XS.lload X7.here hx rfl (hb hby d1_39) rfl k) ?_
  show Go p e below _ (T7.setTop (mkF m 41 #[.val (.ref a1), .val (.long q1), .second, .val (.long q2), .second, .val (.long q3), .second, .val (.long q4), .second, .val (.long q5), .second, .val (.long q6), .second, .val (.long q7), .second, .val (.long q8), .second, .val (.long q9), .second, .val (.long q10), .second, .val (.long q11), .second] [(.long q7), (.ref a1)]))
  obtain ⟨T8, h8, X8, e8, W8, st8⟩ := putF X7 hx hZ hown (host := "") (Or.inl (hw _ (List.mem_of_getElem? (i := 26) rfl))) Via.refl e7 F7_maxSendsPerPacket E7 (Or.inr ⟨(hw _ (List.mem_of_getElem? (i := 27) rfl)), rfl, hnm⟩) (hw _ (List.mem_of_getElem? (i := 1) rfl)) (ty := .long) (by decide) rfl rfl (g := (mkF m 41 #[.val (.ref a1), .val (.long q1), .second, .val (.long q2), .second, .val (.long q3), .second, .val (.long q4), .second, .val (.long q5), .second, .val (.long q6), .second, .val (.long q7), .second, .val (.long q8), .second, .val (.long q9), .second, .val (.long q10), .second, .val (.long q11), .second] [(.long q7), (.ref a1)])) rfl rfl (hb hby d1_41)
  have E8 := E7.wr W8
  have K8 := K7.wr W8 (Or.inl (List.mem_of_getElem? (i := 0) rfl))
  have N8 := Fr.snoc X8 N7 g0
  have F8_packets := F7_packets.other W8 (Or.inr (slot_ne (Or.inr (hw _ (List.mem_of_getElem? (i := 15) rfl))) (Or.inr (hw _ (List.mem_of_getElem? (i := 27) rfl))) (by decide) (t := .long) (t' := .long) (by decide) (by decide)))
  have F8_successes := F7_successes.other W8 (Or.inr (slot_ne (Or.inr (hw _ (List.mem_of_getElem? (i := 17) rfl))) (Or.inr (hw _ (List.mem_of_getElem? (i := 27) rfl))) (by decide) (t := .long) (t' := .long) (by decide) (by decide)))
  have F8_liveSlots := F7_liveSlots.other W8 (Or.inr (slot_ne (Or.inr (hw _ (List.mem_of_getElem? (i := 19) rfl))) (Or.inr (hw _ (List.mem_of_getElem? (i := 27) rfl))) (by decide) (t := .long) (t' := .long) (by decide) (by decide)))
  have F8_jammedSlots := F7_jammedSlots.other W8 (Or.inr (slot_ne (Or.inr (hw _ (List.mem_of_getElem? (i := 21) rfl))) (Or.inr (hw _ (List.mem_of_getElem? (i := 27) rfl))) (by decide) (t := .long) (t' := .long) (by decide) (by decide)))
  have F8_makespan := F7_makespan.other W8 (Or.inr (slot_ne (Or.inr (hw _ (List.mem_of_getElem? (i := 23) rfl))) (Or.inr (hw _ (List.mem_of_getElem? (i := 27) rfl))) (by decide) (t := .long) (t' := .long) (by decide) (by decide)))
  have F8_sends := F7_sends.other W8 (Or.inr (slot_ne (Or.inr (hw _ (List.mem_of_getElem? (i := 25) rfl))) (Or.inr (hw _ (List.mem_of_getElem? (i := 27) rfl))) (by decide) (t := .long) (t' := .long) (by decide) (by decide)))
  have F8_maxSendsPerPacket := F7_maxSendsPerPacket.same W8
  have F8_busyTones := F7_busyTones.other W8 (Or.inr (slot_ne (Or.inr (hw _ (List.mem_of_getElem? (i := 29) rfl))) (Or.inr (hw _ (List.mem_of_getElem? (i := 27) rfl))) (by decide) (t := .long) (t' := .long) (by decide) (by decide)))
  have F8_activations := F7_activations.other W8 (Or.inr (slot_ne (Or.inr (hw _ (List.mem_of_getElem? (i := 31) rfl))) (Or.inr (hw _ (List.mem_of_getElem? (i := 27) rfl))) (by decide) (t := .long) (t' := .long) (by decide) (by decide)))
  have F8_resets := F7_resets.other W8 (Or.inr (slot_ne (Or.inr (hw _ (List.mem_of_getElem? (i := 33) rfl))) (Or.inr (hw _ (List.mem_of_getElem? (i := 27) rfl))) (by decide) (t := .long) (t' := .long) (by decide) (by decide)))
  have F8_slotTypeDisagreements := F7_slotTypeDisagreements.other W8 (Or.inr (slot_ne (Or.inr (hw _ (List.mem_of_getElem? (i := 35) rfl))) (Or.inr (hw _ (List.mem_of_getElem? (i := 27) rfl))) (by decide) (t := .long) (t' := .long) (by decide) (by decide)))
  refine Go.on st8 ?_
  show Go p e below _ (T8.setTop (mkF m 44 #[.val (.ref a1), .val (.long q1), .second, .val (.long q2), .second, .val (.long q3), .second, .val (.long q4), .second, .val (.long q5), .second, .val (.long q6), .second, .val (.long q7), .second, .val (.long q8), .second, .val (.long q9), .second, .val (.long q10), .second, .val (.long q11), .second] []))
  refine Go.on (fun t k => XS.aloadN X8.here hx rfl (hb hby d1_44) rfl rfl k) ?_
  show Go p e below _ (T8.setTop (mkF m 45 #[.val (.ref a1), .val (.long q1), .second, .val (.long q2), .second, .val (.long q3), .second, .val (.long q4), .second, .val (.long q5), .second, .val (.long q6), .second, .val (.long q7), .second, .val (.long q8), .second, .val (.long q9), .second, .val (.long q10), .second, .val (.long q11), .second] [(.ref a1)]))
  refine Go.on (fun t k => XS.lload X8.here hx rfl (hb hby d1_45) rfl k) ?_
  show Go p e below _ (T8.setTop (mkF m 47 #[.val (.ref a1), .val (.long q1), .second, .val (.long q2), .second, .val (.long q3), .second, .val (.long q4), .second, .val (.long q5), .second, .val (.long q6), .second, .val (.long q7), .second, .val (.long q8), .second, .val (.long q9), .second, .val (.long q10), .second, .val (.long q11), .second] [(.long q8), (.ref a1)]))
  obtain ⟨T9, h9, X9, e9, W9, st9⟩ := putF X8 hx hZ hown (host := "") (Or.inl (hw _ (List.mem_of_getElem? (i := 28) rfl))) Via.refl e8 F8_busyTones E8 (Or.inr ⟨(hw _ (List.mem_of_getElem? (i := 29) rfl)), rfl, hnm⟩) (hw _ (List.mem_of_getElem? (i := 1) rfl)) (ty := .long) (by decide) rfl rfl (g := (mkF m 47 #[.val (.ref a1), .val (.long q1), .second, .val (.long q2), .second, .val (.long q3), .second, .val (.long q4), .second, .val (.long q5), .second, .val (.long q6), .second, .val (.long q7), .second, .val (.long q8), .second, .val (.long q9), .second, .val (.long q10), .second, .val (.long q11), .second] [(.long q8), (.ref a1)])) rfl rfl (hb hby d1_47)
  have E9 := E8.wr W9
  have K9 := K8.wr W9 (Or.inl (List.mem_of_getElem? (i := 0) rfl))
  have N9 := Fr.snoc X9 N8 g0
  have F9_packets := F8_packets.other W9 (Or.inr (slot_ne (Or.inr (hw _ (List.mem_of_getElem? (i := 15) rfl))) (Or.inr (hw _ (List.mem_of_getElem? (i := 29) rfl))) (by decide) (t := .long) (t' := .long) (by decide) (by decide)))
  have F9_successes := F8_successes.other W9 (Or.inr (slot_ne (Or.inr (hw _ (List.mem_of_getElem? (i := 17) rfl))) (Or.inr (hw _ (List.mem_of_getElem? (i := 29) rfl))) (by decide) (t := .long) (t' := .long) (by decide) (by decide)))
  have F9_liveSlots := F8_liveSlots.other W9 (Or.inr (slot_ne (Or.inr (hw _ (List.mem_of_getElem? (i := 19) rfl))) (Or.inr (hw _ (List.mem_of_getElem? (i := 29) rfl))) (by decide) (t := .long) (t' := .long) (by decide) (by decide)))
  have F9_jammedSlots := F8_jammedSlots.other W9 (Or.inr (slot_ne (Or.inr (hw _ (List.mem_of_getElem? (i := 21) rfl))) (Or.inr (hw _ (List.mem_of_getElem? (i := 29) rfl))) (by decide) (t := .long) (t' := .long) (by decide) (by decide)))
  have F9_makespan := F8_makespan.other W9 (Or.inr (slot_ne (Or.inr (hw _ (List.mem_of_getElem? (i := 23) rfl))) (Or.inr (hw _ (List.mem_of_getElem? (i := 29) rfl))) (by decide) (t := .long) (t' := .long) (by decide) (by decide)))
  have F9_sends := F8_sends.other W9 (Or.inr (slot_ne (Or.inr (hw _ (List.mem_of_getElem? (i := 25) rfl))) (Or.inr (hw _ (List.mem_of_getElem? (i := 29) rfl))) (by decide) (t := .long) (t' := .long) (by decide) (by decide)))
  have F9_maxSendsPerPacket := F8_maxSendsPerPacket.other W9 (Or.inr (slot_ne (Or.inr (hw _ (List.mem_of_getElem? (i := 27) rfl))) (Or.inr (hw _ (List.mem_of_getElem? (i := 29) rfl))) (by decide) (t := .long) (t' := .long) (by decide) (by decide)))
  have F9_busyTones := F8_busyTones.same W9
  have F9_activations := F8_activations.other W9 (Or.inr (slot_ne (Or.inr (hw _ (List.mem_of_getElem? (i := 31) rfl))) (Or.inr (hw _ (List.mem_of_getElem? (i := 29) rfl))) (by decide) (t := .long) (t' := .long) (by decide) (by decide)))
  have F9_resets := F8_resets.other W9 (Or.inr (slot_ne (Or.inr (hw _ (List.mem_of_getElem? (i := 33) rfl))) (Or.inr (hw _ (List.mem_of_getElem? (i := 29) rfl))) (by decide) (t := .long) (t' := .long) (by decide) (by decide)))
  have F9_slotTypeDisagreements := F8_slotTypeDisagreements.other W9 (Or.inr (slot_ne (Or.inr (hw _ (List.mem_of_getElem? (i := 35) rfl))) (Or.inr (hw _ (List.mem_of_getElem? (i := 29) rfl))) (by decide) (t := .long) (t' := .long) (by decide) (by decide)))
  refine Go.on st9 ?_
  show Go p e below _ (T9.setTop (mkF m 50 #[.val (.ref a1), .val (.long q1), .second, .val (.long q2), .second, .val (.long q3), .second, .val (.long q4), .second, .val (.long q5), .second, .val (.long q6), .second, .val (.long q7), .second, .val (.long q8), .second, .val (.long q9), .second, .val (.long q10), .second, .val (.long q11), .second] []))
  refine Go.on (fun t k => XS.aloadN X9.here hx rfl (hb hby d1_50) rfl rfl k) ?_
  show Go p e below _ (T9.setTop (mkF m 51 #[.val (.ref a1), .val (.long q1), .second, .val (.long q2), .second, .val (.long q3), .second, .val (.long q4), .second, .val (.long q5), .second, .val (.long q6), .second, .val (.long q7), .second, .val (.long q8), .second, .val (.long q9), .second, .val (.long q10), .second, .val (.long q11), .second] [(.ref a1)]))
  refine Go.on (fun t k => XS.lload X9.here hx rfl (hb hby d1_51) rfl k) ?_
  show Go p e below _ (T9.setTop (mkF m 53 #[.val (.ref a1), .val (.long q1), .second, .val (.long q2), .second, .val (.long q3), .second, .val (.long q4), .second, .val (.long q5), .second, .val (.long q6), .second, .val (.long q7), .second, .val (.long q8), .second, .val (.long q9), .second, .val (.long q10), .second, .val (.long q11), .second] [(.long q9), (.ref a1)]))
  obtain ⟨T10, h10, X10, e10, W10, st10⟩ := putF X9 hx hZ hown (host := "") (Or.inl (hw _ (List.mem_of_getElem? (i := 30) rfl))) Via.refl e9 F9_activations E9 (Or.inr ⟨(hw _ (List.mem_of_getElem? (i := 31) rfl)), rfl, hnm⟩) (hw _ (List.mem_of_getElem? (i := 1) rfl)) (ty := .long) (by decide) rfl rfl (g := (mkF m 53 #[.val (.ref a1), .val (.long q1), .second, .val (.long q2), .second, .val (.long q3), .second, .val (.long q4), .second, .val (.long q5), .second, .val (.long q6), .second, .val (.long q7), .second, .val (.long q8), .second, .val (.long q9), .second, .val (.long q10), .second, .val (.long q11), .second] [(.long q9), (.ref a1)])) rfl rfl (hb hby d1_53)
  have E10 := E9.wr W10
  have K10 := K9.wr W10 (Or.inl (List.mem_of_getElem? (i := 0) rfl))
  have N10 := Fr.snoc X10 N9 g0
  have F10_packets := F9_packets.other W10 (Or.inr (slot_ne (Or.inr (hw _ (List.mem_of_getElem? (i := 15) rfl))) (Or.inr (hw _ (List.mem_of_getElem? (i := 31) rfl))) (by decide) (t := .long) (t' := .long) (by decide) (by decide)))
  have F10_successes := F9_successes.other W10 (Or.inr (slot_ne (Or.inr (hw _ (List.mem_of_getElem? (i := 17) rfl))) (Or.inr (hw _ (List.mem_of_getElem? (i := 31) rfl))) (by decide) (t := .long) (t' := .long) (by decide) (by decide)))
  have F10_liveSlots := F9_liveSlots.other W10 (Or.inr (slot_ne (Or.inr (hw _ (List.mem_of_getElem? (i := 19) rfl))) (Or.inr (hw _ (List.mem_of_getElem? (i := 31) rfl))) (by decide) (t := .long) (t' := .long) (by decide) (by decide)))
  have F10_jammedSlots := F9_jammedSlots.other W10 (Or.inr (slot_ne (Or.inr (hw _ (List.mem_of_getElem? (i := 21) rfl))) (Or.inr (hw _ (List.mem_of_getElem? (i := 31) rfl))) (by decide) (t := .long) (t' := .long) (by decide) (by decide)))
  have F10_makespan := F9_makespan.other W10 (Or.inr (slot_ne (Or.inr (hw _ (List.mem_of_getElem? (i := 23) rfl))) (Or.inr (hw _ (List.mem_of_getElem? (i := 31) rfl))) (by decide) (t := .long) (t' := .long) (by decide) (by decide)))
  have F10_sends := F9_sends.other W10 (Or.inr (slot_ne (Or.inr (hw _ (List.mem_of_getElem? (i := 25) rfl))) (Or.inr (hw _ (List.mem_of_getElem? (i := 31) rfl))) (by decide) (t := .long) (t' := .long) (by decide) (by decide)))
  have F10_maxSendsPerPacket := F9_maxSendsPerPacket.other W10 (Or.inr (slot_ne (Or.inr (hw _ (List.mem_of_getElem? (i := 27) rfl))) (Or.inr (hw _ (List.mem_of_getElem? (i := 31) rfl))) (by decide) (t := .long) (t' := .long) (by decide) (by decide)))
  have F10_busyTones := F9_busyTones.other W10 (Or.inr (slot_ne (Or.inr (hw _ (List.mem_of_getElem? (i := 29) rfl))) (Or.inr (hw _ (List.mem_of_getElem? (i := 31) rfl))) (by decide) (t := .long) (t' := .long) (by decide) (by decide)))
  have F10_activations := F9_activations.same W10
  have F10_resets := F9_resets.other W10 (Or.inr (slot_ne (Or.inr (hw _ (List.mem_of_getElem? (i := 33) rfl))) (Or.inr (hw _ (List.mem_of_getElem? (i := 31) rfl))) (by decide) (t := .long) (t' := .long) (by decide) (by decide)))
  have F10_slotTypeDisagreements := F9_slotTypeDisagreements.other W10 (Or.inr (slot_ne (Or.inr (hw _ (List.mem_of_getElem? (i := 35) rfl))) (Or.inr (hw _ (List.mem_of_getElem? (i := 31) rfl))) (by decide) (t := .long) (t' := .long) (by decide) (by decide)))
  refine Go.on st10 ?_
  show Go p e below _ (T10.setTop (mkF m 56 #[.val (.ref a1), .val (.long q1), .second, .val (.long q2), .second, .val (.long q3), .second, .val (.long q4), .second, .val (.long q5), .second, .val (.long q6), .second, .val (.long q7), .second, .val (.long q8), .second, .val (.long q9), .second, .val (.long q10), .second, .val (.long q11), .second] []))
  refine Go.on (fun t k => XS.aloadN X10.here hx rfl (hb hby d1_56) rfl rfl k) ?_
  show Go p e below _ (T10.setTop (mkF m 57 #[.val (.ref a1), .val (.long q1), .second, .val (.long q2), .second, .val (.long q3), .second, .val (.long q4), .second, .val (.long q5), .second, .val (.long q6), .second, .val (.long q7), .second, .val (.long q8), .second, .val (.long q9), .second, .val (.long q10), .second, .val (.long q11), .second] [(.ref a1)]))
  refine Go.on (fun t k => XS.lload X10.here hx rfl (hb hby d1_57) rfl k) ?_
  show Go p e below _ (T10.setTop (mkF m 59 #[.val (.ref a1), .val (.long q1), .second, .val (.long q2), .second, .val (.long q3), .second, .val (.long q4), .second, .val (.long q5), .second, .val (.long q6), .second, .val (.long q7), .second, .val (.long q8), .second, .val (.long q9), .second, .val (.long q10), .second, .val (.long q11), .second] [(.long q10), (.ref a1)]))
  obtain ⟨T11, h11, X11, e11, W11, st11⟩ := putF X10 hx hZ hown (host := "") (Or.inl (hw _ (List.mem_of_getElem? (i := 32) rfl))) Via.refl e10 F10_resets E10 (Or.inr ⟨(hw _ (List.mem_of_getElem? (i := 33) rfl)), rfl, hnm⟩) (hw _ (List.mem_of_getElem? (i := 1) rfl)) (ty := .long) (by decide) rfl rfl (g := (mkF m 59 #[.val (.ref a1), .val (.long q1), .second, .val (.long q2), .second, .val (.long q3), .second, .val (.long q4), .second, .val (.long q5), .second, .val (.long q6), .second, .val (.long q7), .second, .val (.long q8), .second, .val (.long q9), .second, .val (.long q10), .second, .val (.long q11), .second] [(.long q10), (.ref a1)])) rfl rfl (hb hby d1_59)
  have E11 := E10.wr W11
  have K11 := K10.wr W11 (Or.inl (List.mem_of_getElem? (i := 0) rfl))
  have N11 := Fr.snoc X11 N10 g0
  have F11_packets := F10_packets.other W11 (Or.inr (slot_ne (Or.inr (hw _ (List.mem_of_getElem? (i := 15) rfl))) (Or.inr (hw _ (List.mem_of_getElem? (i := 33) rfl))) (by decide) (t := .long) (t' := .long) (by decide) (by decide)))
  have F11_successes := F10_successes.other W11 (Or.inr (slot_ne (Or.inr (hw _ (List.mem_of_getElem? (i := 17) rfl))) (Or.inr (hw _ (List.mem_of_getElem? (i := 33) rfl))) (by decide) (t := .long) (t' := .long) (by decide) (by decide)))
  have F11_liveSlots := F10_liveSlots.other W11 (Or.inr (slot_ne (Or.inr (hw _ (List.mem_of_getElem? (i := 19) rfl))) (Or.inr (hw _ (List.mem_of_getElem? (i := 33) rfl))) (by decide) (t := .long) (t' := .long) (by decide) (by decide)))
  have F11_jammedSlots := F10_jammedSlots.other W11 (Or.inr (slot_ne (Or.inr (hw _ (List.mem_of_getElem? (i := 21) rfl))) (Or.inr (hw _ (List.mem_of_getElem? (i := 33) rfl))) (by decide) (t := .long) (t' := .long) (by decide) (by decide)))
  have F11_makespan := F10_makespan.other W11 (Or.inr (slot_ne (Or.inr (hw _ (List.mem_of_getElem? (i := 23) rfl))) (Or.inr (hw _ (List.mem_of_getElem? (i := 33) rfl))) (by decide) (t := .long) (t' := .long) (by decide) (by decide)))
  have F11_sends := F10_sends.other W11 (Or.inr (slot_ne (Or.inr (hw _ (List.mem_of_getElem? (i := 25) rfl))) (Or.inr (hw _ (List.mem_of_getElem? (i := 33) rfl))) (by decide) (t := .long) (t' := .long) (by decide) (by decide)))
  have F11_maxSendsPerPacket := F10_maxSendsPerPacket.other W11 (Or.inr (slot_ne (Or.inr (hw _ (List.mem_of_getElem? (i := 27) rfl))) (Or.inr (hw _ (List.mem_of_getElem? (i := 33) rfl))) (by decide) (t := .long) (t' := .long) (by decide) (by decide)))
  have F11_busyTones := F10_busyTones.other W11 (Or.inr (slot_ne (Or.inr (hw _ (List.mem_of_getElem? (i := 29) rfl))) (Or.inr (hw _ (List.mem_of_getElem? (i := 33) rfl))) (by decide) (t := .long) (t' := .long) (by decide) (by decide)))
  have F11_activations := F10_activations.other W11 (Or.inr (slot_ne (Or.inr (hw _ (List.mem_of_getElem? (i := 31) rfl))) (Or.inr (hw _ (List.mem_of_getElem? (i := 33) rfl))) (by decide) (t := .long) (t' := .long) (by decide) (by decide)))
  have F11_resets := F10_resets.same W11
  have F11_slotTypeDisagreements := F10_slotTypeDisagreements.other W11 (Or.inr (slot_ne (Or.inr (hw _ (List.mem_of_getElem? (i := 35) rfl))) (Or.inr (hw _ (List.mem_of_getElem? (i := 33) rfl))) (by decide) (t := .long) (t' := .long) (by decide) (by decide)))
  refine Go.on st11 ?_
  show Go p e below _ (T11.setTop (mkF m 62 #[.val (.ref a1), .val (.long q1), .second, .val (.long q2), .second, .val (.long q3), .second, .val (.long q4), .second, .val (.long q5), .second, .val (.long q6), .second, .val (.long q7), .second, .val (.long q8), .second, .val (.long q9), .second, .val (.long q10), .second, .val (.long q11), .second] []))
  refine Go.on (fun t k => XS.aloadN X11.here hx rfl (hb hby d1_62) rfl rfl k) ?_
  show Go p e below _ (T11.setTop (mkF m 63 #[.val (.ref a1), .val (.long q1), .second, .val (.long q2), .second, .val (.long q3), .second, .val (.long q4), .second, .val (.long q5), .second, .val (.long q6), .second, .val (.long q7), .second, .val (.long q8), .second, .val (.long q9), .second, .val (.long q10), .second, .val (.long q11), .second] [(.ref a1)]))
  refine Go.on (fun t k => XS.lload X11.here hx rfl (hb hby d1_63) rfl k) ?_
  show Go p e below _ (T11.setTop (mkF m 65 #[.val (.ref a1), .val (.long q1), .second, .val (.long q2), .second, .val (.long q3), .second, .val (.long q4), .second, .val (.long q5), .second, .val (.long q6), .second, .val (.long q7), .second, .val (.long q8), .second, .val (.long q9), .second, .val (.long q10), .second, .val (.long q11), .second] [(.long q11), (.ref a1)]))
  obtain ⟨T12, h12, X12, e12, W12, st12⟩ := putF X11 hx hZ hown (host := "") (Or.inl (hw _ (List.mem_of_getElem? (i := 34) rfl))) Via.refl e11 F11_slotTypeDisagreements E11 (Or.inr ⟨(hw _ (List.mem_of_getElem? (i := 35) rfl)), rfl, hnm⟩) (hw _ (List.mem_of_getElem? (i := 1) rfl)) (ty := .long) (by decide) rfl rfl (g := (mkF m 65 #[.val (.ref a1), .val (.long q1), .second, .val (.long q2), .second, .val (.long q3), .second, .val (.long q4), .second, .val (.long q5), .second, .val (.long q6), .second, .val (.long q7), .second, .val (.long q8), .second, .val (.long q9), .second, .val (.long q10), .second, .val (.long q11), .second] [(.long q11), (.ref a1)])) rfl rfl (hb hby d1_65)
  have E12 := E11.wr W12
  have K12 := K11.wr W12 (Or.inl (List.mem_of_getElem? (i := 0) rfl))
  have N12 := Fr.snoc X12 N11 g0
  have F12_packets := F11_packets.other W12 (Or.inr (slot_ne (Or.inr (hw _ (List.mem_of_getElem? (i := 15) rfl))) (Or.inr (hw _ (List.mem_of_getElem? (i := 35) rfl))) (by decide) (t := .long) (t' := .long) (by decide) (by decide)))
  have F12_successes := F11_successes.other W12 (Or.inr (slot_ne (Or.inr (hw _ (List.mem_of_getElem? (i := 17) rfl))) (Or.inr (hw _ (List.mem_of_getElem? (i := 35) rfl))) (by decide) (t := .long) (t' := .long) (by decide) (by decide)))
  have F12_liveSlots := F11_liveSlots.other W12 (Or.inr (slot_ne (Or.inr (hw _ (List.mem_of_getElem? (i := 19) rfl))) (Or.inr (hw _ (List.mem_of_getElem? (i := 35) rfl))) (by decide) (t := .long) (t' := .long) (by decide) (by decide)))
  have F12_jammedSlots := F11_jammedSlots.other W12 (Or.inr (slot_ne (Or.inr (hw _ (List.mem_of_getElem? (i := 21) rfl))) (Or.inr (hw _ (List.mem_of_getElem? (i := 35) rfl))) (by decide) (t := .long) (t' := .long) (by decide) (by decide)))
  have F12_makespan := F11_makespan.other W12 (Or.inr (slot_ne (Or.inr (hw _ (List.mem_of_getElem? (i := 23) rfl))) (Or.inr (hw _ (List.mem_of_getElem? (i := 35) rfl))) (by decide) (t := .long) (t' := .long) (by decide) (by decide)))
  have F12_sends := F11_sends.other W12 (Or.inr (slot_ne (Or.inr (hw _ (List.mem_of_getElem? (i := 25) rfl))) (Or.inr (hw _ (List.mem_of_getElem? (i := 35) rfl))) (by decide) (t := .long) (t' := .long) (by decide) (by decide)))
  have F12_maxSendsPerPacket := F11_maxSendsPerPacket.other W12 (Or.inr (slot_ne (Or.inr (hw _ (List.mem_of_getElem? (i := 27) rfl))) (Or.inr (hw _ (List.mem_of_getElem? (i := 35) rfl))) (by decide) (t := .long) (t' := .long) (by decide) (by decide)))
  have F12_busyTones := F11_busyTones.other W12 (Or.inr (slot_ne (Or.inr (hw _ (List.mem_of_getElem? (i := 29) rfl))) (Or.inr (hw _ (List.mem_of_getElem? (i := 35) rfl))) (by decide) (t := .long) (t' := .long) (by decide) (by decide)))
  have F12_activations := F11_activations.other W12 (Or.inr (slot_ne (Or.inr (hw _ (List.mem_of_getElem? (i := 31) rfl))) (Or.inr (hw _ (List.mem_of_getElem? (i := 35) rfl))) (by decide) (t := .long) (t' := .long) (by decide) (by decide)))
  have F12_resets := F11_resets.other W12 (Or.inr (slot_ne (Or.inr (hw _ (List.mem_of_getElem? (i := 33) rfl))) (Or.inr (hw _ (List.mem_of_getElem? (i := 35) rfl))) (by decide) (t := .long) (t' := .long) (by decide) (by decide)))
  have F12_slotTypeDisagreements := F11_slotTypeDisagreements.same W12
  refine Go.on st12 ?_
  show Go p e below _ (T12.setTop (mkF m 68 #[.val (.ref a1), .val (.long q1), .second, .val (.long q2), .second, .val (.long q3), .second, .val (.long q4), .second, .val (.long q5), .second, .val (.long q6), .second, .val (.long q7), .second, .val (.long q8), .second, .val (.long q9), .second, .val (.long q10), .second, .val (.long q11), .second] []))
  exact Go.ret0 X12 hx hlk hret (hb hby d1_68) (Nat.le_refl _) (Nat.le_refl _) (show Q1 Z a1 q1 q2 q3 q4 q5 q6 q7 q8 q9 q10 q11 h0 n0 _ T12.heap _ from by rw [e12]; exact ⟨rfl, N12, K12, E12, F12_packets, F12_successes, F12_liveSlots, F12_jammedSlots, F12_makespan, F12_sends, F12_maxSendsPerPacket, F12_busyTones, F12_activations, F12_resets, F12_slotTypeDisagreements⟩)
def Q4 (x y : Int64) (h0 : Heap) (n0 : Nat) (v : Option Value) (h : Heap) (L : List Loc) : Prop := v = some (.int (own_fin x y)) ∧ Fr n0 L ∧ h = h0
theorem d4_0 : decode prog_13_method_2_code 0 = .ok (.aload_n 0, 1) := by decide +kernel
theorem d4_1 : decode prog_13_method_2_code 1 = .ok (.getfield 13, 3) := by decide +kernel
theorem d4_4 : decode prog_13_method_2_code 4 = .ok (.aload_n 0, 1) := by decide +kernel
theorem d4_5 : decode prog_13_method_2_code 5 = .ok (.getfield 7, 3) := by decide +kernel
theorem d4_8 : decode prog_13_method_2_code 8 = .ok (.lcmp, 1) := by decide +kernel
theorem d4_9 : decode prog_13_method_2_code 9 = .ok (.ifCond .ne 7, 3) := by decide +kernel
theorem d4_12 : decode prog_13_method_2_code 12 = .ok (.iconst 1, 1) := by decide +kernel
theorem d4_13 : decode prog_13_method_2_code 13 = .ok (.goto 4, 3) := by decide +kernel
theorem d4_16 : decode prog_13_method_2_code 16 = .ok (.iconst 0, 1) := by decide +kernel
theorem d4_17 : decode prog_13_method_2_code 17 = .ok (.ireturn, 1) := by decide +kernel
theorem pn_4 : plainFor (⟨"com/example/robust_backoff/robustbackoff/model/RunResult", "finished", "()Z"⟩ : MethodName) = true := by first | exact plainFor_of_name (by first | (simp [plainName, overriddenIn]; done) | decide +kernel) | decide +kernel
theorem ef_4 (m : MethodId) (x0 : Addr) : entryFrame m #[(.ref x0)] 1 = mkF m 0 #[.val (.ref x0)] [] := by first | (simp [entryFrame, mkF, argsToLocals, Value.category]; done) | rfl
set_option maxRecDepth 65536 in
set_option maxHeartbeats 40000000 in
theorem rm4 (l : Launch) (Z : State) (a0 : Array Value) (hw : ∀ d ∈ tables_1, d.before a0 Z = true) (ws : List Jvm.Cond) (a1 : Addr) (x y : Int64) (h0 : Heap) (n0 : Nat) (Z0 : n0 ≤ h0.size) (F_successes : Fld Z h0 a1 "com/example/robust_backoff/robustbackoff/model/RunResult" "successes" "J" (.long x)) (F_packets : Fld Z h0 a1 "com/example/robust_backoff/robustbackoff/model/RunResult" "packets" "J" (.long y)) :
    MetFree l (⟨"com/example/robust_backoff/robustbackoff/model/RunResult", "finished", "()Z"⟩ : MethodName) (head1 (Jvm.Cond.code (⟨"com/example/robust_backoff/robustbackoff/model/RunResult", "finished", "()Z"⟩ : MethodName) prog_13_method_2_code 1 (some .boolean) :: ws) ({ frames := 0, cells := 0, slots := 0, locals := 0 } : Room)) (fun a U => a = #[(.ref a1)] ∧ Z.Warmed39 U.vm ∧ U.heap = h0) (fun _ _ _ _ _ => True) (fun _ U o U' => ∃ v L, o = .returned v ∧ Q4 x y h0 n0 v U'.heap L ∧ FrameEnd U o U' L ({ frames := 0, cells := 0, slots := 0, locals := 0 } : Room).cells ({ frames := 0, cells := 0, slots := 0, locals := 0 } : Room).slots) := by
  refine MetFree.of_bodySF pn_4 hisR ?_
  intro p e s m args below meth c s₁ Bd hml0 hP hK
  obtain ⟨rfl, hZ, hh⟩ := hP
  have hx := Bd.exec
  have hby := Bd.bytes
  have hlk := Bd.notSynchronized
  have hret := Bd.returns
  have hml : c.maxLocals = 1 := hml0
  have hown : s.vm.findClass "com/example/robust_backoff/robustbackoff/model/RunResult" = some m.cls := findClass_of_methodNamed Bd.named
  have hnm := (name_of_methodNamed Bd.named Bd.method).1
  have X0 : Stand p l e ({ frames := 0, cells := 0, slots := 0, locals := 0 } : Room) s m #[(.ref a1)] below meth c s₁ [] 0 0 := Stand.of_body Bd
  have e0 : s₁.heap = h0 := by rw [← hh, Bd.state]; rfl
  have N0 := Fr.nil n0
  show Go p e below (Pst s (Q4 x y h0 n0) ({ frames := 0, cells := 0, slots := 0, locals := 0 } : Room).cells ({ frames := 0, cells := 0, slots := 0, locals := 0 } : Room).slots) (s₁.setTop (entryFrame m #[(.ref a1)] 1))
  refine Go.on (fun t k => castTop (ef_4 m a1) k) ?_
  show Go p e below _ (s₁.setTop (mkF m 0 #[.val (.ref a1)] []))
  refine Go.on (fun t k => XS.aloadN X0.here hx rfl (hb hby d4_0) rfl rfl k) ?_
  show Go p e below _ (s₁.setTop (mkF m 1 #[.val (.ref a1)] [(.ref a1)]))
  obtain ⟨T1, X1, e1, st1⟩ := getF X0 hx hZ hown (host := "") (Or.inl (hw _ (List.mem_of_getElem? (i := 16) rfl))) Via.refl e0 F_successes (g := (mkF m 1 #[.val (.ref a1)] [(.ref a1)])) rfl rfl (hb hby d4_1)
  refine Go.on st1 ?_
  show Go p e below _ (T1.setTop (mkF m 4 #[.val (.ref a1)] [(.long x)]))
  refine Go.on (fun t k => XS.aloadN X1.here hx rfl (hb hby d4_4) rfl rfl k) ?_
  show Go p e below _ (T1.setTop (mkF m 5 #[.val (.ref a1)] [(.ref a1), (.long x)]))
  obtain ⟨T2, X2, e2, st2⟩ := getF X1 hx hZ hown (host := "") (Or.inl (hw _ (List.mem_of_getElem? (i := 14) rfl))) Via.refl e1 F_packets (g := (mkF m 5 #[.val (.ref a1)] [(.ref a1), (.long x)])) rfl rfl (hb hby d4_5)
  refine Go.on st2 ?_
  show Go p e below _ (T2.setTop (mkF m 8 #[.val (.ref a1)] [(.long y), (.long x)]))
  refine Go.on (fun t k => XS.lcmp X2.here hx rfl (hb hby d4_8) rfl k) ?_
  show Go p e below _ (T2.setTop (mkF m 9 #[.val (.ref a1)] [(.int (lcmpW x y))]))
  by_cases hc9 : x = y
  · refine Go.on (fun t k => XS.ifNo X2.here hx rfl (hb hby d4_9) rfl ((if0 _ _).trans (teq ((lw_eq _ _).mpr hc9)).2) k) ?_
    show Go p e below _ (T2.setTop (mkF m 12 #[.val (.ref a1)] []))
    refine Go.on (fun t k => XS.iconst X2.here hx rfl (hb hby d4_12) k) ?_
    show Go p e below _ (T2.setTop (mkF m 13 #[.val (.ref a1)] [(.int (1 : Int32))]))
    refine Go.on (fun t k => XS.goto X2.here hx rfl (pc0 := 13) (pc' := 17) rfl (hb hby d4_13) (by decide) (by decide) k) ?_
    show Go p e below _ (T2.setTop (mkF m 17 #[.val (.ref a1)] [(.int (1 : Int32))]))
    have hv : own_fin x y = nar .boolean (1 : Int32) := by simp only [own_fin, hc9, if_true, if_false]; decide
    exact Go.retN X2 hx hlk hret (by simp) (hb hby d4_17) (Nat.le_refl _) (Nat.le_refl _) ⟨by rw [hv], N0, e2⟩
  · refine Go.on (fun t k => XS.ifYes X2.here hx rfl (pc0 := 9) (pc' := 16) rfl (hb hby d4_9) rfl ((if0 _ _).trans (feq (fun q => hc9 ((lw_eq _ _).mp q))).2) (by decide) (by decide) k) ?_
    show Go p e below _ (T2.setTop (mkF m 16 #[.val (.ref a1)] []))
    refine Go.on (fun t k => XS.iconst X2.here hx rfl (hb hby d4_16) k) ?_
    show Go p e below _ (T2.setTop (mkF m 17 #[.val (.ref a1)] [(.int (0 : Int32))]))
    have hv : own_fin x y = nar .boolean (0 : Int32) := by simp only [own_fin, hc9, if_true, if_false]; decide
    exact Go.retN X2 hx hlk hret (by simp) (hb hby d4_17) (Nat.le_refl _) (Nat.le_refl _) ⟨by rw [hv], N0, e2⟩
def Q0 (n0 : Nat) (v : Option Value) (h : Heap) (L : List Loc) : Prop := v = some (.int 1) ∧ Fr n0 L
theorem pn_0 : plainFor x = true := by first | exact plainFor_of_name (by first | (simp [plainName, overriddenIn]; done) | decide +kernel) | decide +kernel
theorem ef_0 (m : MethodId) (x0 : Int64) (x1 : Int64) (x2 : Int32) (x3 : Int64) (x4 : Int64) : entryFrame m #[(.long x0), (.long x1), (.int x2), (.long x3), (.long x4)] maxLocals = mkF m 0 #[.val (.long x0), .second, .val (.long x1), .second, .val (.int x2), .val (.long x3), .second, .val (.long x4), .second, .unset, .unset, .unset, .unset, .unset] [] := by first | (simp [entryFrame, mkF, argsToLocals, Value.category, maxLocals]; done) | rfl
set_option maxRecDepth 65536 in
set_option maxHeartbeats 40000000 in
theorem rm0 (l : Launch) (Z : State) (a0 : Array Value) (hw : ∀ d ∈ tables_1, d.before a0 Z = true) (ws : List Jvm.Cond) (q1 q2 : Int64) (p3 : Int32) (q4 q5 : Int64) (h0 : Heap) (n0 : Nat) (Z0 : n0 ≤ h0.size)  :
    MetFree l x (head1 (Jvm.Cond.code x code maxLocals ret :: ws) room_1) (fun a U => a = #[(.long q1), (.long q2), (.int p3), (.long q4), (.long q5)] ∧ Z.Warmed39 U.vm ∧ U.heap = h0) (fun _ _ _ _ _ => True) (fun _ U o U' => ∃ v L, o = .returned v ∧ Q0 n0 v U'.heap L ∧ FrameEnd U o U' L 16 128) := by
  refine MetFree.of_bodySF pn_0 hisR ?_
  intro p e s m args below meth c s₁ Bd hml0 hP hK
  obtain ⟨rfl, hZ, hh⟩ := hP
  have hx := Bd.exec
  have hby := Bd.bytes
  have hlk := Bd.notSynchronized
  have hret := Bd.returns
  have hml : c.maxLocals = 14 := hml0
  have hown : s.vm.findClass "com/example/robust_backoff/robustbackoff/model/RunResultFinishedPinLaw" = some m.cls := findClass_of_methodNamed Bd.named
  have hnm := (name_of_methodNamed Bd.named Bd.method).1
  have X0 : Stand p l e room_1 s m #[(.long q1), (.long q2), (.int p3), (.long q4), (.long q5)] below meth c s₁ [] 0 0 := Stand.of_body Bd
  have e0 : s₁.heap = h0 := by rw [← hh, Bd.state]; rfl
  have N0 := Fr.nil n0
  show Go p e below (Pst s (Q0 n0) 16 128) (s₁.setTop (entryFrame m #[(.long q1), (.long q2), (.int p3), (.long q4), (.long q5)] maxLocals))
  refine Go.on (fun t k => castTop (ef_0 m q1 q2 p3 q4 q5) k) ?_
  show Go p e below _ (s₁.setTop (mkF m 0 #[.val (.long q1), .second, .val (.long q2), .second, .val (.int p3), .val (.long q4), .second, .val (.long q5), .second, .unset, .unset, .unset, .unset, .unset] []))
  refine Go.on (fun t k => XS.iload X0.here hx rfl (hb hby at_0) rfl k) ?_
  show Go p e below _ (s₁.setTop (mkF m 2 #[.val (.long q1), .second, .val (.long q2), .second, .val (.int p3), .val (.long q4), .second, .val (.long q5), .second, .unset, .unset, .unset, .unset, .unset] [(.int p3)]))
  refine Go.on (fun t k => XS.iconst X0.here hx rfl (hb hby at_2) k) ?_
  show Go p e below _ (s₁.setTop (mkF m 3 #[.val (.long q1), .second, .val (.long q2), .second, .val (.int p3), .val (.long q4), .second, .val (.long q5), .second, .unset, .unset, .unset, .unset, .unset] [(.int (3 : Int32)), (.int p3)]))
  refine Go.on (fun t k => XS.iand X0.here hx rfl (hb hby at_3) rfl k) ?_
  show Go p e below _ (s₁.setTop (mkF m 4 #[.val (.long q1), .second, .val (.long q2), .second, .val (.int p3), .val (.long q4), .second, .val (.long q5), .second, .unset, .unset, .unset, .unset, .unset] [(.int (p3 &&& (3 : Int32)))]))
  refine Go.on (fun t k => XS.istore X0.here hx rfl (hb hby at_4) rfl (l' := #[.val (.long q1), .second, .val (.long q2), .second, .val (.int p3), .val (.long q4), .second, .val (.long q5), .second, .val (.int (p3 &&& (3 : Int32))), .unset, .unset, .unset, .unset]) rfl k) ?_
  show Go p e below _ (s₁.setTop (mkF m 6 #[.val (.long q1), .second, .val (.long q2), .second, .val (.int p3), .val (.long q4), .second, .val (.long q5), .second, .val (.int (p3 &&& (3 : Int32))), .unset, .unset, .unset, .unset] []))
  refine Go.on (fun t k => XS.iload X0.here hx rfl (hb hby at_6) rfl k) ?_
  show Go p e below _ (s₁.setTop (mkF m 8 #[.val (.long q1), .second, .val (.long q2), .second, .val (.int p3), .val (.long q4), .second, .val (.long q5), .second, .val (.int (p3 &&& (3 : Int32))), .unset, .unset, .unset, .unset] [(.int (p3 &&& (3 : Int32)))]))
  by_cases hc8 : (p3 &&& (3 : Int32)) = (0 : Int32)
  · refine Go.on (fun t k => XS.ifNo X0.here hx rfl (hb hby at_8) rfl ((if0 _ _).trans (teq hc8).2) k) ?_
    show Go p e below _ (s₁.setTop (mkF m 11 #[.val (.long q1), .second, .val (.long q2), .second, .val (.int p3), .val (.long q4), .second, .val (.long q5), .second, .val (.int (p3 &&& (3 : Int32))), .unset, .unset, .unset, .unset] []))
    refine Go.on (fun t k => XS.lloadN X0.here hx rfl (hb hby at_11) rfl k) ?_
    show Go p e below _ (s₁.setTop (mkF m 12 #[.val (.long q1), .second, .val (.long q2), .second, .val (.int p3), .val (.long q4), .second, .val (.long q5), .second, .val (.int (p3 &&& (3 : Int32))), .unset, .unset, .unset, .unset] [(.long q1)]))
    refine Go.on (fun t k => XS.lstore X0.here hx rfl (hb hby at_12) rfl (l' := #[.val (.long q1), .second, .val (.long q2), .second, .val (.int p3), .val (.long q4), .second, .val (.long q5), .second, .val (.int (p3 &&& (3 : Int32))), .val (.long q1), .second, .unset, .unset]) rfl k) ?_
    show Go p e below _ (s₁.setTop (mkF m 14 #[.val (.long q1), .second, .val (.long q2), .second, .val (.int p3), .val (.long q4), .second, .val (.long q5), .second, .val (.int (p3 &&& (3 : Int32))), .val (.long q1), .second, .unset, .unset] []))
    refine Go.on (fun t k => XS.iconst X0.here hx rfl (hb hby at_14) k) ?_
    show Go p e below _ (s₁.setTop (mkF m 15 #[.val (.long q1), .second, .val (.long q2), .second, .val (.int p3), .val (.long q4), .second, .val (.long q5), .second, .val (.int (p3 &&& (3 : Int32))), .val (.long q1), .second, .unset, .unset] [(.int (1 : Int32))]))
    refine Go.on (fun t k => XS.istore X0.here hx rfl (hb hby at_15) rfl (l' := #[.val (.long q1), .second, .val (.long q2), .second, .val (.int p3), .val (.long q4), .second, .val (.long q5), .second, .val (.int (p3 &&& (3 : Int32))), .val (.long q1), .second, .val (.int (1 : Int32)), .unset]) rfl k) ?_
    show Go p e below _ (s₁.setTop (mkF m 17 #[.val (.long q1), .second, .val (.long q2), .second, .val (.int p3), .val (.long q4), .second, .val (.long q5), .second, .val (.int (p3 &&& (3 : Int32))), .val (.long q1), .second, .val (.int (1 : Int32)), .unset] []))
    refine Go.on (fun t k => XS.goto X0.here hx rfl (pc0 := 17) (pc' := 72) rfl (hb hby at_17) (by decide) (by decide) k) ?_
    show Go p e below _ (s₁.setTop (mkF m 72 #[.val (.long q1), .second, .val (.long q2), .second, .val (.int p3), .val (.long q4), .second, .val (.long q5), .second, .val (.int (p3 &&& (3 : Int32))), .val (.long q1), .second, .val (.int (1 : Int32)), .unset] []))
    obtain ⟨T1, h1, X1, e1, E1, A1, D1, -, st1⟩ := newO X0 hx hZ hown (hw _ (List.mem_of_getElem? (i := 0) rfl)) (hw _ (List.mem_of_getElem? (i := 1) rfl)) (hw _ (List.mem_of_getElem? (i := 2) rfl)) e0 (g := (mkF m 72 #[.val (.long q1), .second, .val (.long q2), .second, .val (.int p3), .val (.long q4), .second, .val (.long q5), .second, .val (.int (p3 &&& (3 : Int32))), .val (.long q1), .second, .val (.int (1 : Int32)), .unset] [])) rfl (hb hby at_72) (by decide) (by decide)
    obtain ⟨a1, g1⟩ : ∃ z, z = h0.size := ⟨_, rfl⟩
    rw [← g1] at A1 D1 st1
    have Z1 : n0 ≤ h1.size := Nat.le_trans Z0 E1.1
    have G1 : n0 ≤ a1 := Nat.le_trans Z0 (Nat.le_of_eq g1.symm)
    refine Go.on st1 ?_
    show Go p e below _ (T1.setTop (mkF m 75 #[.val (.long q1), .second, .val (.long q2), .second, .val (.int p3), .val (.long q4), .second, .val (.long q5), .second, .val (.int (p3 &&& (3 : Int32))), .val (.long q1), .second, .val (.int (1 : Int32)), .unset] [(.ref a1)]))
    refine Go.on (fun t k => XS.dup X1.here hx rfl (hb hby at_75) rfl rfl k) ?_
    show Go p e below _ (T1.setTop (mkF m 76 #[.val (.long q1), .second, .val (.long q2), .second, .val (.int p3), .val (.long q4), .second, .val (.long q5), .second, .val (.int (p3 &&& (3 : Int32))), .val (.long q1), .second, .val (.int (1 : Int32)), .unset] [(.ref a1), (.ref a1)]))
    refine Go.on (fun t k => XS.lloadN X1.here hx rfl (hb hby at_76) rfl k) ?_
    show Go p e below _ (T1.setTop (mkF m 77 #[.val (.long q1), .second, .val (.long q2), .second, .val (.int p3), .val (.long q4), .second, .val (.long q5), .second, .val (.int (p3 &&& (3 : Int32))), .val (.long q1), .second, .val (.int (1 : Int32)), .unset] [(.long q1), (.ref a1), (.ref a1)]))
    refine Go.on (fun t k => XS.lload X1.here hx rfl (hb hby at_77) rfl k) ?_
    show Go p e below _ (T1.setTop (mkF m 79 #[.val (.long q1), .second, .val (.long q2), .second, .val (.int p3), .val (.long q4), .second, .val (.long q5), .second, .val (.int (p3 &&& (3 : Int32))), .val (.long q1), .second, .val (.int (1 : Int32)), .unset] [(.long q1), (.long q1), (.ref a1), (.ref a1)]))
    refine Go.on (fun t k => XS.lload X1.here hx rfl (hb hby at_79) rfl k) ?_
    show Go p e below _ (T1.setTop (mkF m 81 #[.val (.long q1), .second, .val (.long q2), .second, .val (.int p3), .val (.long q4), .second, .val (.long q5), .second, .val (.int (p3 &&& (3 : Int32))), .val (.long q1), .second, .val (.int (1 : Int32)), .unset] [(.long q4), (.long q1), (.long q1), (.ref a1), (.ref a1)]))
    refine Go.on (fun t k => XS.lload X1.here hx rfl (hb hby at_81) rfl k) ?_
    show Go p e below _ (T1.setTop (mkF m 83 #[.val (.long q1), .second, .val (.long q2), .second, .val (.int p3), .val (.long q4), .second, .val (.long q5), .second, .val (.int (p3 &&& (3 : Int32))), .val (.long q1), .second, .val (.int (1 : Int32)), .unset] [(.long q5), (.long q4), (.long q1), (.long q1), (.ref a1), (.ref a1)]))
    refine Go.on (fun t k => XS.lload X1.here hx rfl (hb hby at_83) rfl k) ?_
    show Go p e below _ (T1.setTop (mkF m 85 #[.val (.long q1), .second, .val (.long q2), .second, .val (.int p3), .val (.long q4), .second, .val (.long q5), .second, .val (.int (p3 &&& (3 : Int32))), .val (.long q1), .second, .val (.int (1 : Int32)), .unset] [(.long q4), (.long q5), (.long q4), (.long q1), (.long q1), (.ref a1), (.ref a1)]))
    refine Go.on (fun t k => XS.lload X1.here hx rfl (hb hby at_85) rfl k) ?_
    show Go p e below _ (T1.setTop (mkF m 87 #[.val (.long q1), .second, .val (.long q2), .second, .val (.int p3), .val (.long q4), .second, .val (.long q5), .second, .val (.int (p3 &&& (3 : Int32))), .val (.long q1), .second, .val (.int (1 : Int32)), .unset] [(.long q5), (.long q4), (.long q5), (.long q4), (.long q1), (.long q1), (.ref a1), (.ref a1)]))
    refine Go.on (fun t k => XS.lload X1.here hx rfl (hb hby at_87) rfl k) ?_
    show Go p e below _ (T1.setTop (mkF m 89 #[.val (.long q1), .second, .val (.long q2), .second, .val (.int p3), .val (.long q4), .second, .val (.long q5), .second, .val (.int (p3 &&& (3 : Int32))), .val (.long q1), .second, .val (.int (1 : Int32)), .unset] [(.long q4), (.long q5), (.long q4), (.long q5), (.long q4), (.long q1), (.long q1), (.ref a1), (.ref a1)]))
    refine Go.on (fun t k => XS.lload X1.here hx rfl (hb hby at_89) rfl k) ?_
    show Go p e below _ (T1.setTop (mkF m 91 #[.val (.long q1), .second, .val (.long q2), .second, .val (.int p3), .val (.long q4), .second, .val (.long q5), .second, .val (.int (p3 &&& (3 : Int32))), .val (.long q1), .second, .val (.int (1 : Int32)), .unset] [(.long q5), (.long q4), (.long q5), (.long q4), (.long q5), (.long q4), (.long q1), (.long q1), (.ref a1), (.ref a1)]))
    refine Go.on (fun t k => XS.lload X1.here hx rfl (hb hby at_91) rfl k) ?_
    show Go p e below _ (T1.setTop (mkF m 93 #[.val (.long q1), .second, .val (.long q2), .second, .val (.int p3), .val (.long q4), .second, .val (.long q5), .second, .val (.int (p3 &&& (3 : Int32))), .val (.long q1), .second, .val (.int (1 : Int32)), .unset] [(.long q4), (.long q5), (.long q4), (.long q5), (.long q4), (.long q5), (.long q4), (.long q1), (.long q1), (.ref a1), (.ref a1)]))
    refine Go.on (fun t k => XS.lload X1.here hx rfl (hb hby at_93) rfl k) ?_
    show Go p e below _ (T1.setTop (mkF m 95 #[.val (.long q1), .second, .val (.long q2), .second, .val (.int p3), .val (.long q4), .second, .val (.long q5), .second, .val (.int (p3 &&& (3 : Int32))), .val (.long q1), .second, .val (.int (1 : Int32)), .unset] [(.long q5), (.long q4), (.long q5), (.long q4), (.long q5), (.long q4), (.long q5), (.long q4), (.long q1), (.long q1), (.ref a1), (.ref a1)]))
    refine Go.on (fun t k => XS.lload X1.here hx rfl (hb hby at_95) rfl k) ?_
    show Go p e below _ (T1.setTop (mkF m 97 #[.val (.long q1), .second, .val (.long q2), .second, .val (.int p3), .val (.long q4), .second, .val (.long q5), .second, .val (.int (p3 &&& (3 : Int32))), .val (.long q1), .second, .val (.int (1 : Int32)), .unset] [(.long q4), (.long q5), (.long q4), (.long q5), (.long q4), (.long q5), (.long q4), (.long q5), (.long q4), (.long q1), (.long q1), (.ref a1), (.ref a1)]))
    obtain ⟨_, _, ⟨T2, L2, k2, n2⟩, -, X2, ⟨Lc2, hQ2, l2, y2, z2⟩, st2⟩ := X1.specialBack hx (y := (⟨"com/example/robust_backoff/robustbackoff/model/RunResult", "<init>", "(JJJJJJJJJJJ)V"⟩ : MethodName)) rfl hown (mvT hZ (hw _ (List.mem_of_getElem? (i := 3) rfl))) (mvT hZ (hw _ (List.mem_of_getElem? (i := 4) rfl))) (mvT hZ (hw _ (List.mem_of_getElem? (i := 5) rfl))) (by decide) (backOf (W := 1) (rm1 l Z a0 hw [] a1 q1 q1 q4 q5 q4 q5 q4 q5 q4 q5 q4 _ _ _ _ _ _ _ _ _ _ _  h1 n0 Z1 A1 (D1 (Or.inr (hw _ (List.mem_of_getElem? (i := 15) rfl))) (ty := .long) (by decide)) (D1 (Or.inr (hw _ (List.mem_of_getElem? (i := 17) rfl))) (ty := .long) (by decide)) (D1 (Or.inr (hw _ (List.mem_of_getElem? (i := 19) rfl))) (ty := .long) (by decide)) (D1 (Or.inr (hw _ (List.mem_of_getElem? (i := 21) rfl))) (ty := .long) (by decide)) (D1 (Or.inr (hw _ (List.mem_of_getElem? (i := 23) rfl))) (ty := .long) (by decide)) (D1 (Or.inr (hw _ (List.mem_of_getElem? (i := 25) rfl))) (ty := .long) (by decide)) (D1 (Or.inr (hw _ (List.mem_of_getElem? (i := 27) rfl))) (ty := .long) (by decide)) (D1 (Or.inr (hw _ (List.mem_of_getElem? (i := 29) rfl))) (ty := .long) (by decide)) (D1 (Or.inr (hw _ (List.mem_of_getElem? (i := 31) rfl))) (ty := .long) (by decide)) (D1 (Or.inr (hw _ (List.mem_of_getElem? (i := 33) rfl))) (ty := .long) (by decide)) (D1 (Or.inr (hw _ (List.mem_of_getElem? (i := 35) rfl))) (ty := .long) (by decide)) G1) hZ (hw _ (List.mem_of_getElem? (i := 5) rfl)) (hw _ (List.mem_of_getElem? (i := 2) rfl)) (by decide) (by decide)) (g := (mkF m 97 #[.val (.long q1), .second, .val (.long q2), .second, .val (.int p3), .val (.long q4), .second, .val (.long q5), .second, .val (.int (p3 &&& (3 : Int32))), .val (.long q1), .second, .val (.int (1 : Int32)), .unset] [(.long q4), (.long q5), (.long q4), (.long q5), (.long q4), (.long q5), (.long q4), (.long q5), (.long q4), (.long q1), (.long q1), (.ref a1), (.ref a1)])) rfl (by rw [hml]; rfl) (Steps.refl _) (a := a1) (argsL := [(.long q1), (.long q1), (.long q4), (.long q5), (.long q4), (.long q5), (.long q4), (.long q5), (.long q4), (.long q5), (.long q4)]) (rest := [(.ref a1)]) (lenOf pd_2 rfl) rfl (by show 2 * 0 + _ ≤ _; exact Nat.le_of_eq rfl) (hb hby at_97) (fun _ _ => ⟨rfl, e1, (by decide : 1 + 0 ≤ _), (by decide : 11 + 0 ≤ _)⟩)
    dsimp only [Pt.U, Pt.locs, Pt.cells, Pt.slots] at X2 l2 y2 z2 st2 hQ2
    subst l2 y2 z2
    obtain ⟨rfl, N2q, K2, B2, F2_packets, F2_successes, F2_liveSlots, F2_jammedSlots, F2_makespan, F2_sends, F2_maxSendsPerPacket, F2_busyTones, F2_activations, F2_resets, F2_slotTypeDisagreements⟩ := hQ2
    have N2 := Fr.app N0 N2q
    refine Go.st st2 ?_
    show Go p e below _ (T2.setTop (mkF m 100 #[.val (.long q1), .second, .val (.long q2), .second, .val (.int p3), .val (.long q4), .second, .val (.long q5), .second, .val (.int (p3 &&& (3 : Int32))), .val (.long q1), .second, .val (.int (1 : Int32)), .unset] [(.ref a1)]))
    have Z2 : n0 ≤ T2.heap.size := Nat.le_trans Z1 K2.1
    refine Go.on (fun t k => XS.astore X2.here hx rfl (hb hby at_100) rfl rfl (l' := #[.val (.long q1), .second, .val (.long q2), .second, .val (.int p3), .val (.long q4), .second, .val (.long q5), .second, .val (.int (p3 &&& (3 : Int32))), .val (.long q1), .second, .val (.int (1 : Int32)), .val (.ref a1)]) rfl k) ?_
    show Go p e below _ (T2.setTop (mkF m 102 #[.val (.long q1), .second, .val (.long q2), .second, .val (.int p3), .val (.long q4), .second, .val (.long q5), .second, .val (.int (p3 &&& (3 : Int32))), .val (.long q1), .second, .val (.int (1 : Int32)), .val (.ref a1)] []))
    refine Go.on (fun t k => XS.aload X2.here hx rfl (hb hby at_102) rfl rfl k) ?_
    show Go p e below _ (T2.setTop (mkF m 104 #[.val (.long q1), .second, .val (.long q2), .second, .val (.int p3), .val (.long q4), .second, .val (.long q5), .second, .val (.int (p3 &&& (3 : Int32))), .val (.long q1), .second, .val (.int (1 : Int32)), .val (.ref a1)] [(.ref a1)]))
    obtain ⟨cq3, kq3, q3a, q3b, q3c⟩ := isOf hZ (rfl : T2.heap = T2.heap) B2
    obtain ⟨_, _, ⟨T3, L3, k3, n3⟩, -, X3, ⟨Lc3, hQ3, l3, y3, z3⟩, st3⟩ := X2.virtualBack hx (y := (⟨"com/example/robust_backoff/robustbackoff/model/RunResult", "finished", "()Z"⟩ : MethodName)) (z := (⟨"com/example/robust_backoff/robustbackoff/model/RunResult", "finished", "()Z"⟩ : MethodName)) hown (mvT hZ (hw _ (List.mem_of_getElem? (i := 36) rfl))) (mvT hZ (hw _ (List.mem_of_getElem? (i := 37) rfl))) (notFace_of_selects (args := #[]) (mvT hZ (hw _ (List.mem_of_getElem? (i := 39) rfl)))) (mvT hZ (hw _ (List.mem_of_getElem? (i := 39) rfl))) (mvT hZ (hw _ (List.mem_of_getElem? (i := 38) rfl))) (by decide) (backOf (W := 0) (rm4 l Z a0 hw [] a1 q1 q1 T2.heap n0 Z2 F2_successes F2_packets) hZ (hw _ (List.mem_of_getElem? (i := 40) rfl)) (hw _ (List.mem_of_getElem? (i := 2) rfl)) (by decide) (by decide)) q3a q3c (g := (mkF m 104 #[.val (.long q1), .second, .val (.long q2), .second, .val (.int p3), .val (.long q4), .second, .val (.long q5), .second, .val (.int (p3 &&& (3 : Int32))), .val (.long q1), .second, .val (.int (1 : Int32)), .val (.ref a1)] [(.ref a1)])) rfl (by rw [hml]; rfl) (Steps.refl _) (argsL := []) (rest := []) (lenOf pd_3 rfl) rfl (by show 2 * 0 + _ ≤ _; exact Nat.le_of_eq rfl) (hb hby at_104) (fun _ _ => ⟨rfl, (rfl : T2.heap = T2.heap), (by decide : 1 + 0 ≤ _), (by decide : 11 + 0 ≤ _)⟩)
    dsimp only [Pt.U, Pt.locs, Pt.cells, Pt.slots] at X3 l3 y3 z3 st3 hQ3
    subst l3 y3 z3
    obtain ⟨rfl, N3q, e3⟩ := hQ3
    have N3 := Fr.app N2 N3q
    refine Go.st st3 ?_
    show Go p e below _ (T3.setTop (mkF m 107 #[.val (.long q1), .second, .val (.long q2), .second, .val (.int p3), .val (.long q4), .second, .val (.long q5), .second, .val (.int (p3 &&& (3 : Int32))), .val (.long q1), .second, .val (.int (1 : Int32)), .val (.ref a1)] [(.int (own_fin q1 q1))]))
    refine Go.on (fun t k => XS.iload X3.here hx rfl (hb hby at_107) rfl k) ?_
    show Go p e below _ (T3.setTop (mkF m 109 #[.val (.long q1), .second, .val (.long q2), .second, .val (.int p3), .val (.long q4), .second, .val (.long q5), .second, .val (.int (p3 &&& (3 : Int32))), .val (.long q1), .second, .val (.int (1 : Int32)), .val (.ref a1)] [(.int (1 : Int32)), (.int (own_fin q1 q1))]))
    refine Go.on (fun t k => XS.icmpNo X3.here hx rfl (hb hby at_109) rfl (teq (by first | exact own_same _ | exact own_less _ | exact own_more _ : (own_fin q1 q1) = (1 : Int32))).2 k) ?_
    show Go p e below _ (T3.setTop (mkF m 112 #[.val (.long q1), .second, .val (.long q2), .second, .val (.int p3), .val (.long q4), .second, .val (.long q5), .second, .val (.int (p3 &&& (3 : Int32))), .val (.long q1), .second, .val (.int (1 : Int32)), .val (.ref a1)] []))
    refine Go.on (fun t k => XS.iconst X3.here hx rfl (hb hby at_112) k) ?_
    show Go p e below _ (T3.setTop (mkF m 113 #[.val (.long q1), .second, .val (.long q2), .second, .val (.int p3), .val (.long q4), .second, .val (.long q5), .second, .val (.int (p3 &&& (3 : Int32))), .val (.long q1), .second, .val (.int (1 : Int32)), .val (.ref a1)] [(.int (1 : Int32))]))
    refine Go.on (fun t k => XS.goto X3.here hx rfl (pc0 := 113) (pc' := 117) rfl (hb hby at_113) (by decide) (by decide) k) ?_
    show Go p e below _ (T3.setTop (mkF m 117 #[.val (.long q1), .second, .val (.long q2), .second, .val (.int p3), .val (.long q4), .second, .val (.long q5), .second, .val (.int (p3 &&& (3 : Int32))), .val (.long q1), .second, .val (.int (1 : Int32)), .val (.ref a1)] [(.int (1 : Int32))]))
    exact Go.retN X3 hx hlk hret (by simp) (hb hby at_117) (by decide) (by decide) ⟨by rfl, N3⟩
  · refine Go.on (fun t k => XS.ifYes X0.here hx rfl (pc0 := 8) (pc' := 20) rfl (hb hby at_8) rfl ((if0 _ _).trans (feq hc8).2) (by decide) (by decide) k) ?_
    show Go p e below _ (s₁.setTop (mkF m 20 #[.val (.long q1), .second, .val (.long q2), .second, .val (.int p3), .val (.long q4), .second, .val (.long q5), .second, .val (.int (p3 &&& (3 : Int32))), .unset, .unset, .unset, .unset] []))
    refine Go.on (fun t k => XS.iload X0.here hx rfl (hb hby at_20) rfl k) ?_
    show Go p e below _ (s₁.setTop (mkF m 22 #[.val (.long q1), .second, .val (.long q2), .second, .val (.int p3), .val (.long q4), .second, .val (.long q5), .second, .val (.int (p3 &&& (3 : Int32))), .unset, .unset, .unset, .unset] [(.int (p3 &&& (3 : Int32)))]))
    refine Go.on (fun t k => XS.iconst X0.here hx rfl (hb hby at_22) k) ?_
    show Go p e below _ (s₁.setTop (mkF m 23 #[.val (.long q1), .second, .val (.long q2), .second, .val (.int p3), .val (.long q4), .second, .val (.long q5), .second, .val (.int (p3 &&& (3 : Int32))), .unset, .unset, .unset, .unset] [(.int (1 : Int32)), (.int (p3 &&& (3 : Int32)))]))
    by_cases hc23 : (p3 &&& (3 : Int32)) = (1 : Int32)
    · refine Go.on (fun t k => XS.icmpNo X0.here hx rfl (hb hby at_23) rfl (teq hc23).2 k) ?_
      show Go p e below _ (s₁.setTop (mkF m 26 #[.val (.long q1), .second, .val (.long q2), .second, .val (.int p3), .val (.long q4), .second, .val (.long q5), .second, .val (.int (p3 &&& (3 : Int32))), .unset, .unset, .unset, .unset] []))
      refine Go.on (fun t k => XS.lloadN X0.here hx rfl (hb hby at_26) rfl k) ?_
      show Go p e below _ (s₁.setTop (mkF m 27 #[.val (.long q1), .second, .val (.long q2), .second, .val (.int p3), .val (.long q4), .second, .val (.long q5), .second, .val (.int (p3 &&& (3 : Int32))), .unset, .unset, .unset, .unset] [(.long q1)]))
      refine Go.on (fun t k => XS.lconst X0.here hx rfl (hb hby at_27) k) ?_
      show Go p e below _ (s₁.setTop (mkF m 28 #[.val (.long q1), .second, .val (.long q2), .second, .val (.int p3), .val (.long q4), .second, .val (.long q5), .second, .val (.int (p3 &&& (3 : Int32))), .unset, .unset, .unset, .unset] [(.long (1 : Int64)), (.long q1)]))
      refine Go.on (fun t k => XS.lsub X0.here hx rfl (hb hby at_28) rfl k) ?_
      show Go p e below _ (s₁.setTop (mkF m 29 #[.val (.long q1), .second, .val (.long q2), .second, .val (.int p3), .val (.long q4), .second, .val (.long q5), .second, .val (.int (p3 &&& (3 : Int32))), .unset, .unset, .unset, .unset] [(.long (q1 - (1 : Int64)))]))
      refine Go.on (fun t k => XS.lstore X0.here hx rfl (hb hby at_29) rfl (l' := #[.val (.long q1), .second, .val (.long q2), .second, .val (.int p3), .val (.long q4), .second, .val (.long q5), .second, .val (.int (p3 &&& (3 : Int32))), .val (.long (q1 - (1 : Int64))), .second, .unset, .unset]) rfl k) ?_
      show Go p e below _ (s₁.setTop (mkF m 31 #[.val (.long q1), .second, .val (.long q2), .second, .val (.int p3), .val (.long q4), .second, .val (.long q5), .second, .val (.int (p3 &&& (3 : Int32))), .val (.long (q1 - (1 : Int64))), .second, .unset, .unset] []))
      refine Go.on (fun t k => XS.iconst X0.here hx rfl (hb hby at_31) k) ?_
      show Go p e below _ (s₁.setTop (mkF m 32 #[.val (.long q1), .second, .val (.long q2), .second, .val (.int p3), .val (.long q4), .second, .val (.long q5), .second, .val (.int (p3 &&& (3 : Int32))), .val (.long (q1 - (1 : Int64))), .second, .unset, .unset] [(.int (0 : Int32))]))
      refine Go.on (fun t k => XS.istore X0.here hx rfl (hb hby at_32) rfl (l' := #[.val (.long q1), .second, .val (.long q2), .second, .val (.int p3), .val (.long q4), .second, .val (.long q5), .second, .val (.int (p3 &&& (3 : Int32))), .val (.long (q1 - (1 : Int64))), .second, .val (.int (0 : Int32)), .unset]) rfl k) ?_
      show Go p e below _ (s₁.setTop (mkF m 34 #[.val (.long q1), .second, .val (.long q2), .second, .val (.int p3), .val (.long q4), .second, .val (.long q5), .second, .val (.int (p3 &&& (3 : Int32))), .val (.long (q1 - (1 : Int64))), .second, .val (.int (0 : Int32)), .unset] []))
      refine Go.on (fun t k => XS.goto X0.here hx rfl (pc0 := 34) (pc' := 72) rfl (hb hby at_34) (by decide) (by decide) k) ?_
      show Go p e below _ (s₁.setTop (mkF m 72 #[.val (.long q1), .second, .val (.long q2), .second, .val (.int p3), .val (.long q4), .second, .val (.long q5), .second, .val (.int (p3 &&& (3 : Int32))), .val (.long (q1 - (1 : Int64))), .second, .val (.int (0 : Int32)), .unset] []))
      obtain ⟨T4, h4, X4, e4, E4, A4, D4, -, st4⟩ := newO X0 hx hZ hown (hw _ (List.mem_of_getElem? (i := 0) rfl)) (hw _ (List.mem_of_getElem? (i := 1) rfl)) (hw _ (List.mem_of_getElem? (i := 2) rfl)) e0 (g := (mkF m 72 #[.val (.long q1), .second, .val (.long q2), .second, .val (.int p3), .val (.long q4), .second, .val (.long q5), .second, .val (.int (p3 &&& (3 : Int32))), .val (.long (q1 - (1 : Int64))), .second, .val (.int (0 : Int32)), .unset] [])) rfl (hb hby at_72) (by decide) (by decide)
      obtain ⟨a4, g4⟩ : ∃ z, z = h0.size := ⟨_, rfl⟩
      rw [← g4] at A4 D4 st4
      have Z4 : n0 ≤ h4.size := Nat.le_trans Z0 E4.1
      have G4 : n0 ≤ a4 := Nat.le_trans Z0 (Nat.le_of_eq g4.symm)
      refine Go.on st4 ?_
      show Go p e below _ (T4.setTop (mkF m 75 #[.val (.long q1), .second, .val (.long q2), .second, .val (.int p3), .val (.long q4), .second, .val (.long q5), .second, .val (.int (p3 &&& (3 : Int32))), .val (.long (q1 - (1 : Int64))), .second, .val (.int (0 : Int32)), .unset] [(.ref a4)]))
      refine Go.on (fun t k => XS.dup X4.here hx rfl (hb hby at_75) rfl rfl k) ?_
      show Go p e below _ (T4.setTop (mkF m 76 #[.val (.long q1), .second, .val (.long q2), .second, .val (.int p3), .val (.long q4), .second, .val (.long q5), .second, .val (.int (p3 &&& (3 : Int32))), .val (.long (q1 - (1 : Int64))), .second, .val (.int (0 : Int32)), .unset] [(.ref a4), (.ref a4)]))
      refine Go.on (fun t k => XS.lloadN X4.here hx rfl (hb hby at_76) rfl k) ?_
      show Go p e below _ (T4.setTop (mkF m 77 #[.val (.long q1), .second, .val (.long q2), .second, .val (.int p3), .val (.long q4), .second, .val (.long q5), .second, .val (.int (p3 &&& (3 : Int32))), .val (.long (q1 - (1 : Int64))), .second, .val (.int (0 : Int32)), .unset] [(.long q1), (.ref a4), (.ref a4)]))
      refine Go.on (fun t k => XS.lload X4.here hx rfl (hb hby at_77) rfl k) ?_
      show Go p e below _ (T4.setTop (mkF m 79 #[.val (.long q1), .second, .val (.long q2), .second, .val (.int p3), .val (.long q4), .second, .val (.long q5), .second, .val (.int (p3 &&& (3 : Int32))), .val (.long (q1 - (1 : Int64))), .second, .val (.int (0 : Int32)), .unset] [(.long (q1 - (1 : Int64))), (.long q1), (.ref a4), (.ref a4)]))
      refine Go.on (fun t k => XS.lload X4.here hx rfl (hb hby at_79) rfl k) ?_
      show Go p e below _ (T4.setTop (mkF m 81 #[.val (.long q1), .second, .val (.long q2), .second, .val (.int p3), .val (.long q4), .second, .val (.long q5), .second, .val (.int (p3 &&& (3 : Int32))), .val (.long (q1 - (1 : Int64))), .second, .val (.int (0 : Int32)), .unset] [(.long q4), (.long (q1 - (1 : Int64))), (.long q1), (.ref a4), (.ref a4)]))
      refine Go.on (fun t k => XS.lload X4.here hx rfl (hb hby at_81) rfl k) ?_
      show Go p e below _ (T4.setTop (mkF m 83 #[.val (.long q1), .second, .val (.long q2), .second, .val (.int p3), .val (.long q4), .second, .val (.long q5), .second, .val (.int (p3 &&& (3 : Int32))), .val (.long (q1 - (1 : Int64))), .second, .val (.int (0 : Int32)), .unset] [(.long q5), (.long q4), (.long (q1 - (1 : Int64))), (.long q1), (.ref a4), (.ref a4)]))
      refine Go.on (fun t k => XS.lload X4.here hx rfl (hb hby at_83) rfl k) ?_
      show Go p e below _ (T4.setTop (mkF m 85 #[.val (.long q1), .second, .val (.long q2), .second, .val (.int p3), .val (.long q4), .second, .val (.long q5), .second, .val (.int (p3 &&& (3 : Int32))), .val (.long (q1 - (1 : Int64))), .second, .val (.int (0 : Int32)), .unset] [(.long q4), (.long q5), (.long q4), (.long (q1 - (1 : Int64))), (.long q1), (.ref a4), (.ref a4)]))
      refine Go.on (fun t k => XS.lload X4.here hx rfl (hb hby at_85) rfl k) ?_
      show Go p e below _ (T4.setTop (mkF m 87 #[.val (.long q1), .second, .val (.long q2), .second, .val (.int p3), .val (.long q4), .second, .val (.long q5), .second, .val (.int (p3 &&& (3 : Int32))), .val (.long (q1 - (1 : Int64))), .second, .val (.int (0 : Int32)), .unset] [(.long q5), (.long q4), (.long q5), (.long q4), (.long (q1 - (1 : Int64))), (.long q1), (.ref a4), (.ref a4)]))
      refine Go.on (fun t k => XS.lload X4.here hx rfl (hb hby at_87) rfl k) ?_
      show Go p e below _ (T4.setTop (mkF m 89 #[.val (.long q1), .second, .val (.long q2), .second, .val (.int p3), .val (.long q4), .second, .val (.long q5), .second, .val (.int (p3 &&& (3 : Int32))), .val (.long (q1 - (1 : Int64))), .second, .val (.int (0 : Int32)), .unset] [(.long q4), (.long q5), (.long q4), (.long q5), (.long q4), (.long (q1 - (1 : Int64))), (.long q1), (.ref a4), (.ref a4)]))
      refine Go.on (fun t k => XS.lload X4.here hx rfl (hb hby at_89) rfl k) ?_
      show Go p e below _ (T4.setTop (mkF m 91 #[.val (.long q1), .second, .val (.long q2), .second, .val (.int p3), .val (.long q4), .second, .val (.long q5), .second, .val (.int (p3 &&& (3 : Int32))), .val (.long (q1 - (1 : Int64))), .second, .val (.int (0 : Int32)), .unset] [(.long q5), (.long q4), (.long q5), (.long q4), (.long q5), (.long q4), (.long (q1 - (1 : Int64))), (.long q1), (.ref a4), (.ref a4)]))
      refine Go.on (fun t k => XS.lload X4.here hx rfl (hb hby at_91) rfl k) ?_
      show Go p e below _ (T4.setTop (mkF m 93 #[.val (.long q1), .second, .val (.long q2), .second, .val (.int p3), .val (.long q4), .second, .val (.long q5), .second, .val (.int (p3 &&& (3 : Int32))), .val (.long (q1 - (1 : Int64))), .second, .val (.int (0 : Int32)), .unset] [(.long q4), (.long q5), (.long q4), (.long q5), (.long q4), (.long q5), (.long q4), (.long (q1 - (1 : Int64))), (.long q1), (.ref a4), (.ref a4)]))
      refine Go.on (fun t k => XS.lload X4.here hx rfl (hb hby at_93) rfl k) ?_
      show Go p e below _ (T4.setTop (mkF m 95 #[.val (.long q1), .second, .val (.long q2), .second, .val (.int p3), .val (.long q4), .second, .val (.long q5), .second, .val (.int (p3 &&& (3 : Int32))), .val (.long (q1 - (1 : Int64))), .second, .val (.int (0 : Int32)), .unset] [(.long q5), (.long q4), (.long q5), (.long q4), (.long q5), (.long q4), (.long q5), (.long q4), (.long (q1 - (1 : Int64))), (.long q1), (.ref a4), (.ref a4)]))
      refine Go.on (fun t k => XS.lload X4.here hx rfl (hb hby at_95) rfl k) ?_
      show Go p e below _ (T4.setTop (mkF m 97 #[.val (.long q1), .second, .val (.long q2), .second, .val (.int p3), .val (.long q4), .second, .val (.long q5), .second, .val (.int (p3 &&& (3 : Int32))), .val (.long (q1 - (1 : Int64))), .second, .val (.int (0 : Int32)), .unset] [(.long q4), (.long q5), (.long q4), (.long q5), (.long q4), (.long q5), (.long q4), (.long q5), (.long q4), (.long (q1 - (1 : Int64))), (.long q1), (.ref a4), (.ref a4)]))
      obtain ⟨_, _, ⟨T5, L5, k5, n5⟩, -, X5, ⟨Lc5, hQ5, l5, y5, z5⟩, st5⟩ := X4.specialBack hx (y := (⟨"com/example/robust_backoff/robustbackoff/model/RunResult", "<init>", "(JJJJJJJJJJJ)V"⟩ : MethodName)) rfl hown (mvT hZ (hw _ (List.mem_of_getElem? (i := 3) rfl))) (mvT hZ (hw _ (List.mem_of_getElem? (i := 4) rfl))) (mvT hZ (hw _ (List.mem_of_getElem? (i := 5) rfl))) (by decide) (backOf (W := 1) (rm1 l Z a0 hw [] a4 q1 (q1 - (1 : Int64)) q4 q5 q4 q5 q4 q5 q4 q5 q4 _ _ _ _ _ _ _ _ _ _ _  h4 n0 Z4 A4 (D4 (Or.inr (hw _ (List.mem_of_getElem? (i := 15) rfl))) (ty := .long) (by decide)) (D4 (Or.inr (hw _ (List.mem_of_getElem? (i := 17) rfl))) (ty := .long) (by decide)) (D4 (Or.inr (hw _ (List.mem_of_getElem? (i := 19) rfl))) (ty := .long) (by decide)) (D4 (Or.inr (hw _ (List.mem_of_getElem? (i := 21) rfl))) (ty := .long) (by decide)) (D4 (Or.inr (hw _ (List.mem_of_getElem? (i := 23) rfl))) (ty := .long) (by decide)) (D4 (Or.inr (hw _ (List.mem_of_getElem? (i := 25) rfl))) (ty := .long) (by decide)) (D4 (Or.inr (hw _ (List.mem_of_getElem? (i := 27) rfl))) (ty := .long) (by decide)) (D4 (Or.inr (hw _ (List.mem_of_getElem? (i := 29) rfl))) (ty := .long) (by decide)) (D4 (Or.inr (hw _ (List.mem_of_getElem? (i := 31) rfl))) (ty := .long) (by decide)) (D4 (Or.inr (hw _ (List.mem_of_getElem? (i := 33) rfl))) (ty := .long) (by decide)) (D4 (Or.inr (hw _ (List.mem_of_getElem? (i := 35) rfl))) (ty := .long) (by decide)) G4) hZ (hw _ (List.mem_of_getElem? (i := 5) rfl)) (hw _ (List.mem_of_getElem? (i := 2) rfl)) (by decide) (by decide)) (g := (mkF m 97 #[.val (.long q1), .second, .val (.long q2), .second, .val (.int p3), .val (.long q4), .second, .val (.long q5), .second, .val (.int (p3 &&& (3 : Int32))), .val (.long (q1 - (1 : Int64))), .second, .val (.int (0 : Int32)), .unset] [(.long q4), (.long q5), (.long q4), (.long q5), (.long q4), (.long q5), (.long q4), (.long q5), (.long q4), (.long (q1 - (1 : Int64))), (.long q1), (.ref a4), (.ref a4)])) rfl (by rw [hml]; rfl) (Steps.refl _) (a := a4) (argsL := [(.long q1), (.long (q1 - (1 : Int64))), (.long q4), (.long q5), (.long q4), (.long q5), (.long q4), (.long q5), (.long q4), (.long q5), (.long q4)]) (rest := [(.ref a4)]) (lenOf pd_2 rfl) rfl (by show 2 * 0 + _ ≤ _; exact Nat.le_of_eq rfl) (hb hby at_97) (fun _ _ => ⟨rfl, e4, (by decide : 1 + 0 ≤ _), (by decide : 11 + 0 ≤ _)⟩)
      dsimp only [Pt.U, Pt.locs, Pt.cells, Pt.slots] at X5 l5 y5 z5 st5 hQ5
      subst l5 y5 z5
      obtain ⟨rfl, N5q, K5, B5, F5_packets, F5_successes, F5_liveSlots, F5_jammedSlots, F5_makespan, F5_sends, F5_maxSendsPerPacket, F5_busyTones, F5_activations, F5_resets, F5_slotTypeDisagreements⟩ := hQ5
      have N5 := Fr.app N0 N5q
      refine Go.st st5 ?_
      show Go p e below _ (T5.setTop (mkF m 100 #[.val (.long q1), .second, .val (.long q2), .second, .val (.int p3), .val (.long q4), .second, .val (.long q5), .second, .val (.int (p3 &&& (3 : Int32))), .val (.long (q1 - (1 : Int64))), .second, .val (.int (0 : Int32)), .unset] [(.ref a4)]))
      have Z5 : n0 ≤ T5.heap.size := Nat.le_trans Z4 K5.1
      refine Go.on (fun t k => XS.astore X5.here hx rfl (hb hby at_100) rfl rfl (l' := #[.val (.long q1), .second, .val (.long q2), .second, .val (.int p3), .val (.long q4), .second, .val (.long q5), .second, .val (.int (p3 &&& (3 : Int32))), .val (.long (q1 - (1 : Int64))), .second, .val (.int (0 : Int32)), .val (.ref a4)]) rfl k) ?_
      show Go p e below _ (T5.setTop (mkF m 102 #[.val (.long q1), .second, .val (.long q2), .second, .val (.int p3), .val (.long q4), .second, .val (.long q5), .second, .val (.int (p3 &&& (3 : Int32))), .val (.long (q1 - (1 : Int64))), .second, .val (.int (0 : Int32)), .val (.ref a4)] []))
      refine Go.on (fun t k => XS.aload X5.here hx rfl (hb hby at_102) rfl rfl k) ?_
      show Go p e below _ (T5.setTop (mkF m 104 #[.val (.long q1), .second, .val (.long q2), .second, .val (.int p3), .val (.long q4), .second, .val (.long q5), .second, .val (.int (p3 &&& (3 : Int32))), .val (.long (q1 - (1 : Int64))), .second, .val (.int (0 : Int32)), .val (.ref a4)] [(.ref a4)]))
      obtain ⟨cq6, kq6, q6a, q6b, q6c⟩ := isOf hZ (rfl : T5.heap = T5.heap) B5
      obtain ⟨_, _, ⟨T6, L6, k6, n6⟩, -, X6, ⟨Lc6, hQ6, l6, y6, z6⟩, st6⟩ := X5.virtualBack hx (y := (⟨"com/example/robust_backoff/robustbackoff/model/RunResult", "finished", "()Z"⟩ : MethodName)) (z := (⟨"com/example/robust_backoff/robustbackoff/model/RunResult", "finished", "()Z"⟩ : MethodName)) hown (mvT hZ (hw _ (List.mem_of_getElem? (i := 36) rfl))) (mvT hZ (hw _ (List.mem_of_getElem? (i := 37) rfl))) (notFace_of_selects (args := #[]) (mvT hZ (hw _ (List.mem_of_getElem? (i := 39) rfl)))) (mvT hZ (hw _ (List.mem_of_getElem? (i := 39) rfl))) (mvT hZ (hw _ (List.mem_of_getElem? (i := 38) rfl))) (by decide) (backOf (W := 0) (rm4 l Z a0 hw [] a4 (q1 - (1 : Int64)) q1 T5.heap n0 Z5 F5_successes F5_packets) hZ (hw _ (List.mem_of_getElem? (i := 40) rfl)) (hw _ (List.mem_of_getElem? (i := 2) rfl)) (by decide) (by decide)) q6a q6c (g := (mkF m 104 #[.val (.long q1), .second, .val (.long q2), .second, .val (.int p3), .val (.long q4), .second, .val (.long q5), .second, .val (.int (p3 &&& (3 : Int32))), .val (.long (q1 - (1 : Int64))), .second, .val (.int (0 : Int32)), .val (.ref a4)] [(.ref a4)])) rfl (by rw [hml]; rfl) (Steps.refl _) (argsL := []) (rest := []) (lenOf pd_3 rfl) rfl (by show 2 * 0 + _ ≤ _; exact Nat.le_of_eq rfl) (hb hby at_104) (fun _ _ => ⟨rfl, (rfl : T5.heap = T5.heap), (by decide : 1 + 0 ≤ _), (by decide : 11 + 0 ≤ _)⟩)
      dsimp only [Pt.U, Pt.locs, Pt.cells, Pt.slots] at X6 l6 y6 z6 st6 hQ6
      subst l6 y6 z6
      obtain ⟨rfl, N6q, e6⟩ := hQ6
      have N6 := Fr.app N5 N6q
      refine Go.st st6 ?_
      show Go p e below _ (T6.setTop (mkF m 107 #[.val (.long q1), .second, .val (.long q2), .second, .val (.int p3), .val (.long q4), .second, .val (.long q5), .second, .val (.int (p3 &&& (3 : Int32))), .val (.long (q1 - (1 : Int64))), .second, .val (.int (0 : Int32)), .val (.ref a4)] [(.int (own_fin (q1 - (1 : Int64)) q1))]))
      refine Go.on (fun t k => XS.iload X6.here hx rfl (hb hby at_107) rfl k) ?_
      show Go p e below _ (T6.setTop (mkF m 109 #[.val (.long q1), .second, .val (.long q2), .second, .val (.int p3), .val (.long q4), .second, .val (.long q5), .second, .val (.int (p3 &&& (3 : Int32))), .val (.long (q1 - (1 : Int64))), .second, .val (.int (0 : Int32)), .val (.ref a4)] [(.int (0 : Int32)), (.int (own_fin (q1 - (1 : Int64)) q1))]))
      refine Go.on (fun t k => XS.icmpNo X6.here hx rfl (hb hby at_109) rfl (teq (by first | exact own_same _ | exact own_less _ | exact own_more _ : (own_fin (q1 - (1 : Int64)) q1) = (0 : Int32))).2 k) ?_
      show Go p e below _ (T6.setTop (mkF m 112 #[.val (.long q1), .second, .val (.long q2), .second, .val (.int p3), .val (.long q4), .second, .val (.long q5), .second, .val (.int (p3 &&& (3 : Int32))), .val (.long (q1 - (1 : Int64))), .second, .val (.int (0 : Int32)), .val (.ref a4)] []))
      refine Go.on (fun t k => XS.iconst X6.here hx rfl (hb hby at_112) k) ?_
      show Go p e below _ (T6.setTop (mkF m 113 #[.val (.long q1), .second, .val (.long q2), .second, .val (.int p3), .val (.long q4), .second, .val (.long q5), .second, .val (.int (p3 &&& (3 : Int32))), .val (.long (q1 - (1 : Int64))), .second, .val (.int (0 : Int32)), .val (.ref a4)] [(.int (1 : Int32))]))
      refine Go.on (fun t k => XS.goto X6.here hx rfl (pc0 := 113) (pc' := 117) rfl (hb hby at_113) (by decide) (by decide) k) ?_
      show Go p e below _ (T6.setTop (mkF m 117 #[.val (.long q1), .second, .val (.long q2), .second, .val (.int p3), .val (.long q4), .second, .val (.long q5), .second, .val (.int (p3 &&& (3 : Int32))), .val (.long (q1 - (1 : Int64))), .second, .val (.int (0 : Int32)), .val (.ref a4)] [(.int (1 : Int32))]))
      exact Go.retN X6 hx hlk hret (by simp) (hb hby at_117) (by decide) (by decide) ⟨by rfl, N6⟩
    · refine Go.on (fun t k => XS.icmpYes X0.here hx rfl (pc0 := 23) (pc' := 37) rfl (hb hby at_23) rfl (feq hc23).2 (by decide) (by decide) k) ?_
      show Go p e below _ (s₁.setTop (mkF m 37 #[.val (.long q1), .second, .val (.long q2), .second, .val (.int p3), .val (.long q4), .second, .val (.long q5), .second, .val (.int (p3 &&& (3 : Int32))), .unset, .unset, .unset, .unset] []))
      refine Go.on (fun t k => XS.iload X0.here hx rfl (hb hby at_37) rfl k) ?_
      show Go p e below _ (s₁.setTop (mkF m 39 #[.val (.long q1), .second, .val (.long q2), .second, .val (.int p3), .val (.long q4), .second, .val (.long q5), .second, .val (.int (p3 &&& (3 : Int32))), .unset, .unset, .unset, .unset] [(.int (p3 &&& (3 : Int32)))]))
      refine Go.on (fun t k => XS.iconst X0.here hx rfl (hb hby at_39) k) ?_
      show Go p e below _ (s₁.setTop (mkF m 40 #[.val (.long q1), .second, .val (.long q2), .second, .val (.int p3), .val (.long q4), .second, .val (.long q5), .second, .val (.int (p3 &&& (3 : Int32))), .unset, .unset, .unset, .unset] [(.int (2 : Int32)), (.int (p3 &&& (3 : Int32)))]))
      by_cases hc40 : (p3 &&& (3 : Int32)) = (2 : Int32)
      · refine Go.on (fun t k => XS.icmpNo X0.here hx rfl (hb hby at_40) rfl (teq hc40).2 k) ?_
        show Go p e below _ (s₁.setTop (mkF m 43 #[.val (.long q1), .second, .val (.long q2), .second, .val (.int p3), .val (.long q4), .second, .val (.long q5), .second, .val (.int (p3 &&& (3 : Int32))), .unset, .unset, .unset, .unset] []))
        refine Go.on (fun t k => XS.lloadN X0.here hx rfl (hb hby at_43) rfl k) ?_
        show Go p e below _ (s₁.setTop (mkF m 44 #[.val (.long q1), .second, .val (.long q2), .second, .val (.int p3), .val (.long q4), .second, .val (.long q5), .second, .val (.int (p3 &&& (3 : Int32))), .unset, .unset, .unset, .unset] [(.long q1)]))
        refine Go.on (fun t k => XS.lconst X0.here hx rfl (hb hby at_44) k) ?_
        show Go p e below _ (s₁.setTop (mkF m 45 #[.val (.long q1), .second, .val (.long q2), .second, .val (.int p3), .val (.long q4), .second, .val (.long q5), .second, .val (.int (p3 &&& (3 : Int32))), .unset, .unset, .unset, .unset] [(.long (1 : Int64)), (.long q1)]))
        refine Go.on (fun t k => XS.ladd X0.here hx rfl (hb hby at_45) rfl k) ?_
        show Go p e below _ (s₁.setTop (mkF m 46 #[.val (.long q1), .second, .val (.long q2), .second, .val (.int p3), .val (.long q4), .second, .val (.long q5), .second, .val (.int (p3 &&& (3 : Int32))), .unset, .unset, .unset, .unset] [(.long (q1 + (1 : Int64)))]))
        refine Go.on (fun t k => XS.lstore X0.here hx rfl (hb hby at_46) rfl (l' := #[.val (.long q1), .second, .val (.long q2), .second, .val (.int p3), .val (.long q4), .second, .val (.long q5), .second, .val (.int (p3 &&& (3 : Int32))), .val (.long (q1 + (1 : Int64))), .second, .unset, .unset]) rfl k) ?_
        show Go p e below _ (s₁.setTop (mkF m 48 #[.val (.long q1), .second, .val (.long q2), .second, .val (.int p3), .val (.long q4), .second, .val (.long q5), .second, .val (.int (p3 &&& (3 : Int32))), .val (.long (q1 + (1 : Int64))), .second, .unset, .unset] []))
        refine Go.on (fun t k => XS.iconst X0.here hx rfl (hb hby at_48) k) ?_
        show Go p e below _ (s₁.setTop (mkF m 49 #[.val (.long q1), .second, .val (.long q2), .second, .val (.int p3), .val (.long q4), .second, .val (.long q5), .second, .val (.int (p3 &&& (3 : Int32))), .val (.long (q1 + (1 : Int64))), .second, .unset, .unset] [(.int (0 : Int32))]))
        refine Go.on (fun t k => XS.istore X0.here hx rfl (hb hby at_49) rfl (l' := #[.val (.long q1), .second, .val (.long q2), .second, .val (.int p3), .val (.long q4), .second, .val (.long q5), .second, .val (.int (p3 &&& (3 : Int32))), .val (.long (q1 + (1 : Int64))), .second, .val (.int (0 : Int32)), .unset]) rfl k) ?_
        show Go p e below _ (s₁.setTop (mkF m 51 #[.val (.long q1), .second, .val (.long q2), .second, .val (.int p3), .val (.long q4), .second, .val (.long q5), .second, .val (.int (p3 &&& (3 : Int32))), .val (.long (q1 + (1 : Int64))), .second, .val (.int (0 : Int32)), .unset] []))
        refine Go.on (fun t k => XS.goto X0.here hx rfl (pc0 := 51) (pc' := 72) rfl (hb hby at_51) (by decide) (by decide) k) ?_
        show Go p e below _ (s₁.setTop (mkF m 72 #[.val (.long q1), .second, .val (.long q2), .second, .val (.int p3), .val (.long q4), .second, .val (.long q5), .second, .val (.int (p3 &&& (3 : Int32))), .val (.long (q1 + (1 : Int64))), .second, .val (.int (0 : Int32)), .unset] []))
        obtain ⟨T7, h7, X7, e7, E7, A7, D7, -, st7⟩ := newO X0 hx hZ hown (hw _ (List.mem_of_getElem? (i := 0) rfl)) (hw _ (List.mem_of_getElem? (i := 1) rfl)) (hw _ (List.mem_of_getElem? (i := 2) rfl)) e0 (g := (mkF m 72 #[.val (.long q1), .second, .val (.long q2), .second, .val (.int p3), .val (.long q4), .second, .val (.long q5), .second, .val (.int (p3 &&& (3 : Int32))), .val (.long (q1 + (1 : Int64))), .second, .val (.int (0 : Int32)), .unset] [])) rfl (hb hby at_72) (by decide) (by decide)
        obtain ⟨a7, g7⟩ : ∃ z, z = h0.size := ⟨_, rfl⟩
        rw [← g7] at A7 D7 st7
        have Z7 : n0 ≤ h7.size := Nat.le_trans Z0 E7.1
        have G7 : n0 ≤ a7 := Nat.le_trans Z0 (Nat.le_of_eq g7.symm)
        refine Go.on st7 ?_
        show Go p e below _ (T7.setTop (mkF m 75 #[.val (.long q1), .second, .val (.long q2), .second, .val (.int p3), .val (.long q4), .second, .val (.long q5), .second, .val (.int (p3 &&& (3 : Int32))), .val (.long (q1 + (1 : Int64))), .second, .val (.int (0 : Int32)), .unset] [(.ref a7)]))
        refine Go.on (fun t k => XS.dup X7.here hx rfl (hb hby at_75) rfl rfl k) ?_
        show Go p e below _ (T7.setTop (mkF m 76 #[.val (.long q1), .second, .val (.long q2), .second, .val (.int p3), .val (.long q4), .second, .val (.long q5), .second, .val (.int (p3 &&& (3 : Int32))), .val (.long (q1 + (1 : Int64))), .second, .val (.int (0 : Int32)), .unset] [(.ref a7), (.ref a7)]))
        refine Go.on (fun t k => XS.lloadN X7.here hx rfl (hb hby at_76) rfl k) ?_
        show Go p e below _ (T7.setTop (mkF m 77 #[.val (.long q1), .second, .val (.long q2), .second, .val (.int p3), .val (.long q4), .second, .val (.long q5), .second, .val (.int (p3 &&& (3 : Int32))), .val (.long (q1 + (1 : Int64))), .second, .val (.int (0 : Int32)), .unset] [(.long q1), (.ref a7), (.ref a7)]))
        refine Go.on (fun t k => XS.lload X7.here hx rfl (hb hby at_77) rfl k) ?_
        show Go p e below _ (T7.setTop (mkF m 79 #[.val (.long q1), .second, .val (.long q2), .second, .val (.int p3), .val (.long q4), .second, .val (.long q5), .second, .val (.int (p3 &&& (3 : Int32))), .val (.long (q1 + (1 : Int64))), .second, .val (.int (0 : Int32)), .unset] [(.long (q1 + (1 : Int64))), (.long q1), (.ref a7), (.ref a7)]))
        refine Go.on (fun t k => XS.lload X7.here hx rfl (hb hby at_79) rfl k) ?_
        show Go p e below _ (T7.setTop (mkF m 81 #[.val (.long q1), .second, .val (.long q2), .second, .val (.int p3), .val (.long q4), .second, .val (.long q5), .second, .val (.int (p3 &&& (3 : Int32))), .val (.long (q1 + (1 : Int64))), .second, .val (.int (0 : Int32)), .unset] [(.long q4), (.long (q1 + (1 : Int64))), (.long q1), (.ref a7), (.ref a7)]))
        refine Go.on (fun t k => XS.lload X7.here hx rfl (hb hby at_81) rfl k) ?_
        show Go p e below _ (T7.setTop (mkF m 83 #[.val (.long q1), .second, .val (.long q2), .second, .val (.int p3), .val (.long q4), .second, .val (.long q5), .second, .val (.int (p3 &&& (3 : Int32))), .val (.long (q1 + (1 : Int64))), .second, .val (.int (0 : Int32)), .unset] [(.long q5), (.long q4), (.long (q1 + (1 : Int64))), (.long q1), (.ref a7), (.ref a7)]))
        refine Go.on (fun t k => XS.lload X7.here hx rfl (hb hby at_83) rfl k) ?_
        show Go p e below _ (T7.setTop (mkF m 85 #[.val (.long q1), .second, .val (.long q2), .second, .val (.int p3), .val (.long q4), .second, .val (.long q5), .second, .val (.int (p3 &&& (3 : Int32))), .val (.long (q1 + (1 : Int64))), .second, .val (.int (0 : Int32)), .unset] [(.long q4), (.long q5), (.long q4), (.long (q1 + (1 : Int64))), (.long q1), (.ref a7), (.ref a7)]))
        refine Go.on (fun t k => XS.lload X7.here hx rfl (hb hby at_85) rfl k) ?_
        show Go p e below _ (T7.setTop (mkF m 87 #[.val (.long q1), .second, .val (.long q2), .second, .val (.int p3), .val (.long q4), .second, .val (.long q5), .second, .val (.int (p3 &&& (3 : Int32))), .val (.long (q1 + (1 : Int64))), .second, .val (.int (0 : Int32)), .unset] [(.long q5), (.long q4), (.long q5), (.long q4), (.long (q1 + (1 : Int64))), (.long q1), (.ref a7), (.ref a7)]))
        refine Go.on (fun t k => XS.lload X7.here hx rfl (hb hby at_87) rfl k) ?_
        show Go p e below _ (T7.setTop (mkF m 89 #[.val (.long q1), .second, .val (.long q2), .second, .val (.int p3), .val (.long q4), .second, .val (.long q5), .second, .val (.int (p3 &&& (3 : Int32))), .val (.long (q1 + (1 : Int64))), .second, .val (.int (0 : Int32)), .unset] [(.long q4), (.long q5), (.long q4), (.long q5), (.long q4), (.long (q1 + (1 : Int64))), (.long q1), (.ref a7), (.ref a7)]))
        refine Go.on (fun t k => XS.lload X7.here hx rfl (hb hby at_89) rfl k) ?_
        show Go p e below _ (T7.setTop (mkF m 91 #[.val (.long q1), .second, .val (.long q2), .second, .val (.int p3), .val (.long q4), .second, .val (.long q5), .second, .val (.int (p3 &&& (3 : Int32))), .val (.long (q1 + (1 : Int64))), .second, .val (.int (0 : Int32)), .unset] [(.long q5), (.long q4), (.long q5), (.long q4), (.long q5), (.long q4), (.long (q1 + (1 : Int64))), (.long q1), (.ref a7), (.ref a7)]))
        refine Go.on (fun t k => XS.lload X7.here hx rfl (hb hby at_91) rfl k) ?_
        show Go p e below _ (T7.setTop (mkF m 93 #[.val (.long q1), .second, .val (.long q2), .second, .val (.int p3), .val (.long q4), .second, .val (.long q5), .second, .val (.int (p3 &&& (3 : Int32))), .val (.long (q1 + (1 : Int64))), .second, .val (.int (0 : Int32)), .unset] [(.long q4), (.long q5), (.long q4), (.long q5), (.long q4), (.long q5), (.long q4), (.long (q1 + (1 : Int64))), (.long q1), (.ref a7), (.ref a7)]))
        refine Go.on (fun t k => XS.lload X7.here hx rfl (hb hby at_93) rfl k) ?_
        show Go p e below _ (T7.setTop (mkF m 95 #[.val (.long q1), .second, .val (.long q2), .second, .val (.int p3), .val (.long q4), .second, .val (.long q5), .second, .val (.int (p3 &&& (3 : Int32))), .val (.long (q1 + (1 : Int64))), .second, .val (.int (0 : Int32)), .unset] [(.long q5), (.long q4), (.long q5), (.long q4), (.long q5), (.long q4), (.long q5), (.long q4), (.long (q1 + (1 : Int64))), (.long q1), (.ref a7), (.ref a7)]))
        refine Go.on (fun t k => XS.lload X7.here hx rfl (hb hby at_95) rfl k) ?_
        show Go p e below _ (T7.setTop (mkF m 97 #[.val (.long q1), .second, .val (.long q2), .second, .val (.int p3), .val (.long q4), .second, .val (.long q5), .second, .val (.int (p3 &&& (3 : Int32))), .val (.long (q1 + (1 : Int64))), .second, .val (.int (0 : Int32)), .unset] [(.long q4), (.long q5), (.long q4), (.long q5), (.long q4), (.long q5), (.long q4), (.long q5), (.long q4), (.long (q1 + (1 : Int64))), (.long q1), (.ref a7), (.ref a7)]))
        obtain ⟨_, _, ⟨T8, L8, k8, n8⟩, -, X8, ⟨Lc8, hQ8, l8, y8, z8⟩, st8⟩ := X7.specialBack hx (y := (⟨"com/example/robust_backoff/robustbackoff/model/RunResult", "<init>", "(JJJJJJJJJJJ)V"⟩ : MethodName)) rfl hown (mvT hZ (hw _ (List.mem_of_getElem? (i := 3) rfl))) (mvT hZ (hw _ (List.mem_of_getElem? (i := 4) rfl))) (mvT hZ (hw _ (List.mem_of_getElem? (i := 5) rfl))) (by decide) (backOf (W := 1) (rm1 l Z a0 hw [] a7 q1 (q1 + (1 : Int64)) q4 q5 q4 q5 q4 q5 q4 q5 q4 _ _ _ _ _ _ _ _ _ _ _  h7 n0 Z7 A7 (D7 (Or.inr (hw _ (List.mem_of_getElem? (i := 15) rfl))) (ty := .long) (by decide)) (D7 (Or.inr (hw _ (List.mem_of_getElem? (i := 17) rfl))) (ty := .long) (by decide)) (D7 (Or.inr (hw _ (List.mem_of_getElem? (i := 19) rfl))) (ty := .long) (by decide)) (D7 (Or.inr (hw _ (List.mem_of_getElem? (i := 21) rfl))) (ty := .long) (by decide)) (D7 (Or.inr (hw _ (List.mem_of_getElem? (i := 23) rfl))) (ty := .long) (by decide)) (D7 (Or.inr (hw _ (List.mem_of_getElem? (i := 25) rfl))) (ty := .long) (by decide)) (D7 (Or.inr (hw _ (List.mem_of_getElem? (i := 27) rfl))) (ty := .long) (by decide)) (D7 (Or.inr (hw _ (List.mem_of_getElem? (i := 29) rfl))) (ty := .long) (by decide)) (D7 (Or.inr (hw _ (List.mem_of_getElem? (i := 31) rfl))) (ty := .long) (by decide)) (D7 (Or.inr (hw _ (List.mem_of_getElem? (i := 33) rfl))) (ty := .long) (by decide)) (D7 (Or.inr (hw _ (List.mem_of_getElem? (i := 35) rfl))) (ty := .long) (by decide)) G7) hZ (hw _ (List.mem_of_getElem? (i := 5) rfl)) (hw _ (List.mem_of_getElem? (i := 2) rfl)) (by decide) (by decide)) (g := (mkF m 97 #[.val (.long q1), .second, .val (.long q2), .second, .val (.int p3), .val (.long q4), .second, .val (.long q5), .second, .val (.int (p3 &&& (3 : Int32))), .val (.long (q1 + (1 : Int64))), .second, .val (.int (0 : Int32)), .unset] [(.long q4), (.long q5), (.long q4), (.long q5), (.long q4), (.long q5), (.long q4), (.long q5), (.long q4), (.long (q1 + (1 : Int64))), (.long q1), (.ref a7), (.ref a7)])) rfl (by rw [hml]; rfl) (Steps.refl _) (a := a7) (argsL := [(.long q1), (.long (q1 + (1 : Int64))), (.long q4), (.long q5), (.long q4), (.long q5), (.long q4), (.long q5), (.long q4), (.long q5), (.long q4)]) (rest := [(.ref a7)]) (lenOf pd_2 rfl) rfl (by show 2 * 0 + _ ≤ _; exact Nat.le_of_eq rfl) (hb hby at_97) (fun _ _ => ⟨rfl, e7, (by decide : 1 + 0 ≤ _), (by decide : 11 + 0 ≤ _)⟩)
        dsimp only [Pt.U, Pt.locs, Pt.cells, Pt.slots] at X8 l8 y8 z8 st8 hQ8
        subst l8 y8 z8
        obtain ⟨rfl, N8q, K8, B8, F8_packets, F8_successes, F8_liveSlots, F8_jammedSlots, F8_makespan, F8_sends, F8_maxSendsPerPacket, F8_busyTones, F8_activations, F8_resets, F8_slotTypeDisagreements⟩ := hQ8
        have N8 := Fr.app N0 N8q
        refine Go.st st8 ?_
        show Go p e below _ (T8.setTop (mkF m 100 #[.val (.long q1), .second, .val (.long q2), .second, .val (.int p3), .val (.long q4), .second, .val (.long q5), .second, .val (.int (p3 &&& (3 : Int32))), .val (.long (q1 + (1 : Int64))), .second, .val (.int (0 : Int32)), .unset] [(.ref a7)]))
        have Z8 : n0 ≤ T8.heap.size := Nat.le_trans Z7 K8.1
        refine Go.on (fun t k => XS.astore X8.here hx rfl (hb hby at_100) rfl rfl (l' := #[.val (.long q1), .second, .val (.long q2), .second, .val (.int p3), .val (.long q4), .second, .val (.long q5), .second, .val (.int (p3 &&& (3 : Int32))), .val (.long (q1 + (1 : Int64))), .second, .val (.int (0 : Int32)), .val (.ref a7)]) rfl k) ?_
        show Go p e below _ (T8.setTop (mkF m 102 #[.val (.long q1), .second, .val (.long q2), .second, .val (.int p3), .val (.long q4), .second, .val (.long q5), .second, .val (.int (p3 &&& (3 : Int32))), .val (.long (q1 + (1 : Int64))), .second, .val (.int (0 : Int32)), .val (.ref a7)] []))
        refine Go.on (fun t k => XS.aload X8.here hx rfl (hb hby at_102) rfl rfl k) ?_
        show Go p e below _ (T8.setTop (mkF m 104 #[.val (.long q1), .second, .val (.long q2), .second, .val (.int p3), .val (.long q4), .second, .val (.long q5), .second, .val (.int (p3 &&& (3 : Int32))), .val (.long (q1 + (1 : Int64))), .second, .val (.int (0 : Int32)), .val (.ref a7)] [(.ref a7)]))
        obtain ⟨cq9, kq9, q9a, q9b, q9c⟩ := isOf hZ (rfl : T8.heap = T8.heap) B8
        obtain ⟨_, _, ⟨T9, L9, k9, n9⟩, -, X9, ⟨Lc9, hQ9, l9, y9, z9⟩, st9⟩ := X8.virtualBack hx (y := (⟨"com/example/robust_backoff/robustbackoff/model/RunResult", "finished", "()Z"⟩ : MethodName)) (z := (⟨"com/example/robust_backoff/robustbackoff/model/RunResult", "finished", "()Z"⟩ : MethodName)) hown (mvT hZ (hw _ (List.mem_of_getElem? (i := 36) rfl))) (mvT hZ (hw _ (List.mem_of_getElem? (i := 37) rfl))) (notFace_of_selects (args := #[]) (mvT hZ (hw _ (List.mem_of_getElem? (i := 39) rfl)))) (mvT hZ (hw _ (List.mem_of_getElem? (i := 39) rfl))) (mvT hZ (hw _ (List.mem_of_getElem? (i := 38) rfl))) (by decide) (backOf (W := 0) (rm4 l Z a0 hw [] a7 (q1 + (1 : Int64)) q1 T8.heap n0 Z8 F8_successes F8_packets) hZ (hw _ (List.mem_of_getElem? (i := 40) rfl)) (hw _ (List.mem_of_getElem? (i := 2) rfl)) (by decide) (by decide)) q9a q9c (g := (mkF m 104 #[.val (.long q1), .second, .val (.long q2), .second, .val (.int p3), .val (.long q4), .second, .val (.long q5), .second, .val (.int (p3 &&& (3 : Int32))), .val (.long (q1 + (1 : Int64))), .second, .val (.int (0 : Int32)), .val (.ref a7)] [(.ref a7)])) rfl (by rw [hml]; rfl) (Steps.refl _) (argsL := []) (rest := []) (lenOf pd_3 rfl) rfl (by show 2 * 0 + _ ≤ _; exact Nat.le_of_eq rfl) (hb hby at_104) (fun _ _ => ⟨rfl, (rfl : T8.heap = T8.heap), (by decide : 1 + 0 ≤ _), (by decide : 11 + 0 ≤ _)⟩)
        dsimp only [Pt.U, Pt.locs, Pt.cells, Pt.slots] at X9 l9 y9 z9 st9 hQ9
        subst l9 y9 z9
        obtain ⟨rfl, N9q, e9⟩ := hQ9
        have N9 := Fr.app N8 N9q
        refine Go.st st9 ?_
        show Go p e below _ (T9.setTop (mkF m 107 #[.val (.long q1), .second, .val (.long q2), .second, .val (.int p3), .val (.long q4), .second, .val (.long q5), .second, .val (.int (p3 &&& (3 : Int32))), .val (.long (q1 + (1 : Int64))), .second, .val (.int (0 : Int32)), .val (.ref a7)] [(.int (own_fin (q1 + (1 : Int64)) q1))]))
        refine Go.on (fun t k => XS.iload X9.here hx rfl (hb hby at_107) rfl k) ?_
        show Go p e below _ (T9.setTop (mkF m 109 #[.val (.long q1), .second, .val (.long q2), .second, .val (.int p3), .val (.long q4), .second, .val (.long q5), .second, .val (.int (p3 &&& (3 : Int32))), .val (.long (q1 + (1 : Int64))), .second, .val (.int (0 : Int32)), .val (.ref a7)] [(.int (0 : Int32)), (.int (own_fin (q1 + (1 : Int64)) q1))]))
        refine Go.on (fun t k => XS.icmpNo X9.here hx rfl (hb hby at_109) rfl (teq (by first | exact own_same _ | exact own_less _ | exact own_more _ : (own_fin (q1 + (1 : Int64)) q1) = (0 : Int32))).2 k) ?_
        show Go p e below _ (T9.setTop (mkF m 112 #[.val (.long q1), .second, .val (.long q2), .second, .val (.int p3), .val (.long q4), .second, .val (.long q5), .second, .val (.int (p3 &&& (3 : Int32))), .val (.long (q1 + (1 : Int64))), .second, .val (.int (0 : Int32)), .val (.ref a7)] []))
        refine Go.on (fun t k => XS.iconst X9.here hx rfl (hb hby at_112) k) ?_
        show Go p e below _ (T9.setTop (mkF m 113 #[.val (.long q1), .second, .val (.long q2), .second, .val (.int p3), .val (.long q4), .second, .val (.long q5), .second, .val (.int (p3 &&& (3 : Int32))), .val (.long (q1 + (1 : Int64))), .second, .val (.int (0 : Int32)), .val (.ref a7)] [(.int (1 : Int32))]))
        refine Go.on (fun t k => XS.goto X9.here hx rfl (pc0 := 113) (pc' := 117) rfl (hb hby at_113) (by decide) (by decide) k) ?_
        show Go p e below _ (T9.setTop (mkF m 117 #[.val (.long q1), .second, .val (.long q2), .second, .val (.int p3), .val (.long q4), .second, .val (.long q5), .second, .val (.int (p3 &&& (3 : Int32))), .val (.long (q1 + (1 : Int64))), .second, .val (.int (0 : Int32)), .val (.ref a7)] [(.int (1 : Int32))]))
        exact Go.retN X9 hx hlk hret (by simp) (hb hby at_117) (by decide) (by decide) ⟨by rfl, N9⟩
      · refine Go.on (fun t k => XS.icmpYes X0.here hx rfl (pc0 := 40) (pc' := 54) rfl (hb hby at_40) rfl (feq hc40).2 (by decide) (by decide) k) ?_
        show Go p e below _ (s₁.setTop (mkF m 54 #[.val (.long q1), .second, .val (.long q2), .second, .val (.int p3), .val (.long q4), .second, .val (.long q5), .second, .val (.int (p3 &&& (3 : Int32))), .unset, .unset, .unset, .unset] []))
        refine Go.on (fun t k => XS.lloadN X0.here hx rfl (hb hby at_54) rfl k) ?_
        show Go p e below _ (s₁.setTop (mkF m 55 #[.val (.long q1), .second, .val (.long q2), .second, .val (.int p3), .val (.long q4), .second, .val (.long q5), .second, .val (.int (p3 &&& (3 : Int32))), .unset, .unset, .unset, .unset] [(.long q2)]))
        refine Go.on (fun t k => XS.lstore X0.here hx rfl (hb hby at_55) rfl (l' := #[.val (.long q1), .second, .val (.long q2), .second, .val (.int p3), .val (.long q4), .second, .val (.long q5), .second, .val (.int (p3 &&& (3 : Int32))), .val (.long q2), .second, .unset, .unset]) rfl k) ?_
        show Go p e below _ (s₁.setTop (mkF m 57 #[.val (.long q1), .second, .val (.long q2), .second, .val (.int p3), .val (.long q4), .second, .val (.long q5), .second, .val (.int (p3 &&& (3 : Int32))), .val (.long q2), .second, .unset, .unset] []))
        refine Go.on (fun t k => XS.lloadN X0.here hx rfl (hb hby at_57) rfl k) ?_
        show Go p e below _ (s₁.setTop (mkF m 58 #[.val (.long q1), .second, .val (.long q2), .second, .val (.int p3), .val (.long q4), .second, .val (.long q5), .second, .val (.int (p3 &&& (3 : Int32))), .val (.long q2), .second, .unset, .unset] [(.long q2)]))
        refine Go.on (fun t k => XS.lloadN X0.here hx rfl (hb hby at_58) rfl k) ?_
        show Go p e below _ (s₁.setTop (mkF m 59 #[.val (.long q1), .second, .val (.long q2), .second, .val (.int p3), .val (.long q4), .second, .val (.long q5), .second, .val (.int (p3 &&& (3 : Int32))), .val (.long q2), .second, .unset, .unset] [(.long q1), (.long q2)]))
        refine Go.on (fun t k => XS.lsub X0.here hx rfl (hb hby at_59) rfl k) ?_
        show Go p e below _ (s₁.setTop (mkF m 60 #[.val (.long q1), .second, .val (.long q2), .second, .val (.int p3), .val (.long q4), .second, .val (.long q5), .second, .val (.int (p3 &&& (3 : Int32))), .val (.long q2), .second, .unset, .unset] [(.long (q2 - q1))]))
        refine Go.on (fun t k => XS.lconst X0.here hx rfl (hb hby at_60) k) ?_
        show Go p e below _ (s₁.setTop (mkF m 61 #[.val (.long q1), .second, .val (.long q2), .second, .val (.int p3), .val (.long q4), .second, .val (.long q5), .second, .val (.int (p3 &&& (3 : Int32))), .val (.long q2), .second, .unset, .unset] [(.long (0 : Int64)), (.long (q2 - q1))]))
        refine Go.on (fun t k => XS.lcmp X0.here hx rfl (hb hby at_61) rfl k) ?_
        show Go p e below _ (s₁.setTop (mkF m 62 #[.val (.long q1), .second, .val (.long q2), .second, .val (.int p3), .val (.long q4), .second, .val (.long q5), .second, .val (.int (p3 &&& (3 : Int32))), .val (.long q2), .second, .unset, .unset] [(.int (lcmpW (q2 - q1) (0 : Int64)))]))
        by_cases hc62 : (q2 - q1) = (0 : Int64)
        · refine Go.on (fun t k => XS.ifNo X0.here hx rfl (hb hby at_62) rfl ((if0 _ _).trans (teq ((lw_eq _ _).mpr hc62)).2) k) ?_
          show Go p e below _ (s₁.setTop (mkF m 65 #[.val (.long q1), .second, .val (.long q2), .second, .val (.int p3), .val (.long q4), .second, .val (.long q5), .second, .val (.int (p3 &&& (3 : Int32))), .val (.long q2), .second, .unset, .unset] []))
          refine Go.on (fun t k => XS.iconst X0.here hx rfl (hb hby at_65) k) ?_
          show Go p e below _ (s₁.setTop (mkF m 66 #[.val (.long q1), .second, .val (.long q2), .second, .val (.int p3), .val (.long q4), .second, .val (.long q5), .second, .val (.int (p3 &&& (3 : Int32))), .val (.long q2), .second, .unset, .unset] [(.int (1 : Int32))]))
          refine Go.on (fun t k => XS.goto X0.here hx rfl (pc0 := 66) (pc' := 70) rfl (hb hby at_66) (by decide) (by decide) k) ?_
          show Go p e below _ (s₁.setTop (mkF m 70 #[.val (.long q1), .second, .val (.long q2), .second, .val (.int p3), .val (.long q4), .second, .val (.long q5), .second, .val (.int (p3 &&& (3 : Int32))), .val (.long q2), .second, .unset, .unset] [(.int (1 : Int32))]))
          refine Go.on (fun t k => XS.istore X0.here hx rfl (hb hby at_70) rfl (l' := #[.val (.long q1), .second, .val (.long q2), .second, .val (.int p3), .val (.long q4), .second, .val (.long q5), .second, .val (.int (p3 &&& (3 : Int32))), .val (.long q2), .second, .val (.int (1 : Int32)), .unset]) rfl k) ?_
          show Go p e below _ (s₁.setTop (mkF m 72 #[.val (.long q1), .second, .val (.long q2), .second, .val (.int p3), .val (.long q4), .second, .val (.long q5), .second, .val (.int (p3 &&& (3 : Int32))), .val (.long q2), .second, .val (.int (1 : Int32)), .unset] []))
          obtain ⟨T10, h10, X10, e10, E10, A10, D10, -, st10⟩ := newO X0 hx hZ hown (hw _ (List.mem_of_getElem? (i := 0) rfl)) (hw _ (List.mem_of_getElem? (i := 1) rfl)) (hw _ (List.mem_of_getElem? (i := 2) rfl)) e0 (g := (mkF m 72 #[.val (.long q1), .second, .val (.long q2), .second, .val (.int p3), .val (.long q4), .second, .val (.long q5), .second, .val (.int (p3 &&& (3 : Int32))), .val (.long q2), .second, .val (.int (1 : Int32)), .unset] [])) rfl (hb hby at_72) (by decide) (by decide)
          obtain ⟨a10, g10⟩ : ∃ z, z = h0.size := ⟨_, rfl⟩
          rw [← g10] at A10 D10 st10
          have Z10 : n0 ≤ h10.size := Nat.le_trans Z0 E10.1
          have G10 : n0 ≤ a10 := Nat.le_trans Z0 (Nat.le_of_eq g10.symm)
          refine Go.on st10 ?_
          show Go p e below _ (T10.setTop (mkF m 75 #[.val (.long q1), .second, .val (.long q2), .second, .val (.int p3), .val (.long q4), .second, .val (.long q5), .second, .val (.int (p3 &&& (3 : Int32))), .val (.long q2), .second, .val (.int (1 : Int32)), .unset] [(.ref a10)]))
          refine Go.on (fun t k => XS.dup X10.here hx rfl (hb hby at_75) rfl rfl k) ?_
          show Go p e below _ (T10.setTop (mkF m 76 #[.val (.long q1), .second, .val (.long q2), .second, .val (.int p3), .val (.long q4), .second, .val (.long q5), .second, .val (.int (p3 &&& (3 : Int32))), .val (.long q2), .second, .val (.int (1 : Int32)), .unset] [(.ref a10), (.ref a10)]))
          refine Go.on (fun t k => XS.lloadN X10.here hx rfl (hb hby at_76) rfl k) ?_
          show Go p e below _ (T10.setTop (mkF m 77 #[.val (.long q1), .second, .val (.long q2), .second, .val (.int p3), .val (.long q4), .second, .val (.long q5), .second, .val (.int (p3 &&& (3 : Int32))), .val (.long q2), .second, .val (.int (1 : Int32)), .unset] [(.long q1), (.ref a10), (.ref a10)]))
          refine Go.on (fun t k => XS.lload X10.here hx rfl (hb hby at_77) rfl k) ?_
          show Go p e below _ (T10.setTop (mkF m 79 #[.val (.long q1), .second, .val (.long q2), .second, .val (.int p3), .val (.long q4), .second, .val (.long q5), .second, .val (.int (p3 &&& (3 : Int32))), .val (.long q2), .second, .val (.int (1 : Int32)), .unset] [(.long q2), (.long q1), (.ref a10), (.ref a10)]))
          refine Go.on (fun t k => XS.lload X10.here hx rfl (hb hby at_79) rfl k) ?_
          show Go p e below _ (T10.setTop (mkF m 81 #[.val (.long q1), .second, .val (.long q2), .second, .val (.int p3), .val (.long q4), .second, .val (.long q5), .second, .val (.int (p3 &&& (3 : Int32))), .val (.long q2), .second, .val (.int (1 : Int32)), .unset] [(.long q4), (.long q2), (.long q1), (.ref a10), (.ref a10)]))
          refine Go.on (fun t k => XS.lload X10.here hx rfl (hb hby at_81) rfl k) ?_
          show Go p e below _ (T10.setTop (mkF m 83 #[.val (.long q1), .second, .val (.long q2), .second, .val (.int p3), .val (.long q4), .second, .val (.long q5), .second, .val (.int (p3 &&& (3 : Int32))), .val (.long q2), .second, .val (.int (1 : Int32)), .unset] [(.long q5), (.long q4), (.long q2), (.long q1), (.ref a10), (.ref a10)]))
          refine Go.on (fun t k => XS.lload X10.here hx rfl (hb hby at_83) rfl k) ?_
          show Go p e below _ (T10.setTop (mkF m 85 #[.val (.long q1), .second, .val (.long q2), .second, .val (.int p3), .val (.long q4), .second, .val (.long q5), .second, .val (.int (p3 &&& (3 : Int32))), .val (.long q2), .second, .val (.int (1 : Int32)), .unset] [(.long q4), (.long q5), (.long q4), (.long q2), (.long q1), (.ref a10), (.ref a10)]))
          refine Go.on (fun t k => XS.lload X10.here hx rfl (hb hby at_85) rfl k) ?_
          show Go p e below _ (T10.setTop (mkF m 87 #[.val (.long q1), .second, .val (.long q2), .second, .val (.int p3), .val (.long q4), .second, .val (.long q5), .second, .val (.int (p3 &&& (3 : Int32))), .val (.long q2), .second, .val (.int (1 : Int32)), .unset] [(.long q5), (.long q4), (.long q5), (.long q4), (.long q2), (.long q1), (.ref a10), (.ref a10)]))
          refine Go.on (fun t k => XS.lload X10.here hx rfl (hb hby at_87) rfl k) ?_
          show Go p e below _ (T10.setTop (mkF m 89 #[.val (.long q1), .second, .val (.long q2), .second, .val (.int p3), .val (.long q4), .second, .val (.long q5), .second, .val (.int (p3 &&& (3 : Int32))), .val (.long q2), .second, .val (.int (1 : Int32)), .unset] [(.long q4), (.long q5), (.long q4), (.long q5), (.long q4), (.long q2), (.long q1), (.ref a10), (.ref a10)]))
          refine Go.on (fun t k => XS.lload X10.here hx rfl (hb hby at_89) rfl k) ?_
          show Go p e below _ (T10.setTop (mkF m 91 #[.val (.long q1), .second, .val (.long q2), .second, .val (.int p3), .val (.long q4), .second, .val (.long q5), .second, .val (.int (p3 &&& (3 : Int32))), .val (.long q2), .second, .val (.int (1 : Int32)), .unset] [(.long q5), (.long q4), (.long q5), (.long q4), (.long q5), (.long q4), (.long q2), (.long q1), (.ref a10), (.ref a10)]))
          refine Go.on (fun t k => XS.lload X10.here hx rfl (hb hby at_91) rfl k) ?_
          show Go p e below _ (T10.setTop (mkF m 93 #[.val (.long q1), .second, .val (.long q2), .second, .val (.int p3), .val (.long q4), .second, .val (.long q5), .second, .val (.int (p3 &&& (3 : Int32))), .val (.long q2), .second, .val (.int (1 : Int32)), .unset] [(.long q4), (.long q5), (.long q4), (.long q5), (.long q4), (.long q5), (.long q4), (.long q2), (.long q1), (.ref a10), (.ref a10)]))
          refine Go.on (fun t k => XS.lload X10.here hx rfl (hb hby at_93) rfl k) ?_
          show Go p e below _ (T10.setTop (mkF m 95 #[.val (.long q1), .second, .val (.long q2), .second, .val (.int p3), .val (.long q4), .second, .val (.long q5), .second, .val (.int (p3 &&& (3 : Int32))), .val (.long q2), .second, .val (.int (1 : Int32)), .unset] [(.long q5), (.long q4), (.long q5), (.long q4), (.long q5), (.long q4), (.long q5), (.long q4), (.long q2), (.long q1), (.ref a10), (.ref a10)]))
          refine Go.on (fun t k => XS.lload X10.here hx rfl (hb hby at_95) rfl k) ?_
          show Go p e below _ (T10.setTop (mkF m 97 #[.val (.long q1), .second, .val (.long q2), .second, .val (.int p3), .val (.long q4), .second, .val (.long q5), .second, .val (.int (p3 &&& (3 : Int32))), .val (.long q2), .second, .val (.int (1 : Int32)), .unset] [(.long q4), (.long q5), (.long q4), (.long q5), (.long q4), (.long q5), (.long q4), (.long q5), (.long q4), (.long q2), (.long q1), (.ref a10), (.ref a10)]))
          obtain ⟨_, _, ⟨T11, L11, k11, n11⟩, -, X11, ⟨Lc11, hQ11, l11, y11, z11⟩, st11⟩ := X10.specialBack hx (y := (⟨"com/example/robust_backoff/robustbackoff/model/RunResult", "<init>", "(JJJJJJJJJJJ)V"⟩ : MethodName)) rfl hown (mvT hZ (hw _ (List.mem_of_getElem? (i := 3) rfl))) (mvT hZ (hw _ (List.mem_of_getElem? (i := 4) rfl))) (mvT hZ (hw _ (List.mem_of_getElem? (i := 5) rfl))) (by decide) (backOf (W := 1) (rm1 l Z a0 hw [] a10 q1 q2 q4 q5 q4 q5 q4 q5 q4 q5 q4 _ _ _ _ _ _ _ _ _ _ _  h10 n0 Z10 A10 (D10 (Or.inr (hw _ (List.mem_of_getElem? (i := 15) rfl))) (ty := .long) (by decide)) (D10 (Or.inr (hw _ (List.mem_of_getElem? (i := 17) rfl))) (ty := .long) (by decide)) (D10 (Or.inr (hw _ (List.mem_of_getElem? (i := 19) rfl))) (ty := .long) (by decide)) (D10 (Or.inr (hw _ (List.mem_of_getElem? (i := 21) rfl))) (ty := .long) (by decide)) (D10 (Or.inr (hw _ (List.mem_of_getElem? (i := 23) rfl))) (ty := .long) (by decide)) (D10 (Or.inr (hw _ (List.mem_of_getElem? (i := 25) rfl))) (ty := .long) (by decide)) (D10 (Or.inr (hw _ (List.mem_of_getElem? (i := 27) rfl))) (ty := .long) (by decide)) (D10 (Or.inr (hw _ (List.mem_of_getElem? (i := 29) rfl))) (ty := .long) (by decide)) (D10 (Or.inr (hw _ (List.mem_of_getElem? (i := 31) rfl))) (ty := .long) (by decide)) (D10 (Or.inr (hw _ (List.mem_of_getElem? (i := 33) rfl))) (ty := .long) (by decide)) (D10 (Or.inr (hw _ (List.mem_of_getElem? (i := 35) rfl))) (ty := .long) (by decide)) G10) hZ (hw _ (List.mem_of_getElem? (i := 5) rfl)) (hw _ (List.mem_of_getElem? (i := 2) rfl)) (by decide) (by decide)) (g := (mkF m 97 #[.val (.long q1), .second, .val (.long q2), .second, .val (.int p3), .val (.long q4), .second, .val (.long q5), .second, .val (.int (p3 &&& (3 : Int32))), .val (.long q2), .second, .val (.int (1 : Int32)), .unset] [(.long q4), (.long q5), (.long q4), (.long q5), (.long q4), (.long q5), (.long q4), (.long q5), (.long q4), (.long q2), (.long q1), (.ref a10), (.ref a10)])) rfl (by rw [hml]; rfl) (Steps.refl _) (a := a10) (argsL := [(.long q1), (.long q2), (.long q4), (.long q5), (.long q4), (.long q5), (.long q4), (.long q5), (.long q4), (.long q5), (.long q4)]) (rest := [(.ref a10)]) (lenOf pd_2 rfl) rfl (by show 2 * 0 + _ ≤ _; exact Nat.le_of_eq rfl) (hb hby at_97) (fun _ _ => ⟨rfl, e10, (by decide : 1 + 0 ≤ _), (by decide : 11 + 0 ≤ _)⟩)
          dsimp only [Pt.U, Pt.locs, Pt.cells, Pt.slots] at X11 l11 y11 z11 st11 hQ11
          subst l11 y11 z11
          obtain ⟨rfl, N11q, K11, B11, F11_packets, F11_successes, F11_liveSlots, F11_jammedSlots, F11_makespan, F11_sends, F11_maxSendsPerPacket, F11_busyTones, F11_activations, F11_resets, F11_slotTypeDisagreements⟩ := hQ11
          have N11 := Fr.app N0 N11q
          refine Go.st st11 ?_
          show Go p e below _ (T11.setTop (mkF m 100 #[.val (.long q1), .second, .val (.long q2), .second, .val (.int p3), .val (.long q4), .second, .val (.long q5), .second, .val (.int (p3 &&& (3 : Int32))), .val (.long q2), .second, .val (.int (1 : Int32)), .unset] [(.ref a10)]))
          have Z11 : n0 ≤ T11.heap.size := Nat.le_trans Z10 K11.1
          refine Go.on (fun t k => XS.astore X11.here hx rfl (hb hby at_100) rfl rfl (l' := #[.val (.long q1), .second, .val (.long q2), .second, .val (.int p3), .val (.long q4), .second, .val (.long q5), .second, .val (.int (p3 &&& (3 : Int32))), .val (.long q2), .second, .val (.int (1 : Int32)), .val (.ref a10)]) rfl k) ?_
          show Go p e below _ (T11.setTop (mkF m 102 #[.val (.long q1), .second, .val (.long q2), .second, .val (.int p3), .val (.long q4), .second, .val (.long q5), .second, .val (.int (p3 &&& (3 : Int32))), .val (.long q2), .second, .val (.int (1 : Int32)), .val (.ref a10)] []))
          refine Go.on (fun t k => XS.aload X11.here hx rfl (hb hby at_102) rfl rfl k) ?_
          show Go p e below _ (T11.setTop (mkF m 104 #[.val (.long q1), .second, .val (.long q2), .second, .val (.int p3), .val (.long q4), .second, .val (.long q5), .second, .val (.int (p3 &&& (3 : Int32))), .val (.long q2), .second, .val (.int (1 : Int32)), .val (.ref a10)] [(.ref a10)]))
          obtain ⟨cq12, kq12, q12a, q12b, q12c⟩ := isOf hZ (rfl : T11.heap = T11.heap) B11
          obtain ⟨_, _, ⟨T12, L12, k12, n12⟩, -, X12, ⟨Lc12, hQ12, l12, y12, z12⟩, st12⟩ := X11.virtualBack hx (y := (⟨"com/example/robust_backoff/robustbackoff/model/RunResult", "finished", "()Z"⟩ : MethodName)) (z := (⟨"com/example/robust_backoff/robustbackoff/model/RunResult", "finished", "()Z"⟩ : MethodName)) hown (mvT hZ (hw _ (List.mem_of_getElem? (i := 36) rfl))) (mvT hZ (hw _ (List.mem_of_getElem? (i := 37) rfl))) (notFace_of_selects (args := #[]) (mvT hZ (hw _ (List.mem_of_getElem? (i := 39) rfl)))) (mvT hZ (hw _ (List.mem_of_getElem? (i := 39) rfl))) (mvT hZ (hw _ (List.mem_of_getElem? (i := 38) rfl))) (by decide) (backOf (W := 0) (rm4 l Z a0 hw [] a10 q2 q1 T11.heap n0 Z11 F11_successes F11_packets) hZ (hw _ (List.mem_of_getElem? (i := 40) rfl)) (hw _ (List.mem_of_getElem? (i := 2) rfl)) (by decide) (by decide)) q12a q12c (g := (mkF m 104 #[.val (.long q1), .second, .val (.long q2), .second, .val (.int p3), .val (.long q4), .second, .val (.long q5), .second, .val (.int (p3 &&& (3 : Int32))), .val (.long q2), .second, .val (.int (1 : Int32)), .val (.ref a10)] [(.ref a10)])) rfl (by rw [hml]; rfl) (Steps.refl _) (argsL := []) (rest := []) (lenOf pd_3 rfl) rfl (by show 2 * 0 + _ ≤ _; exact Nat.le_of_eq rfl) (hb hby at_104) (fun _ _ => ⟨rfl, (rfl : T11.heap = T11.heap), (by decide : 1 + 0 ≤ _), (by decide : 11 + 0 ≤ _)⟩)
          dsimp only [Pt.U, Pt.locs, Pt.cells, Pt.slots] at X12 l12 y12 z12 st12 hQ12
          subst l12 y12 z12
          obtain ⟨rfl, N12q, e12⟩ := hQ12
          have N12 := Fr.app N11 N12q
          refine Go.st st12 ?_
          show Go p e below _ (T12.setTop (mkF m 107 #[.val (.long q1), .second, .val (.long q2), .second, .val (.int p3), .val (.long q4), .second, .val (.long q5), .second, .val (.int (p3 &&& (3 : Int32))), .val (.long q2), .second, .val (.int (1 : Int32)), .val (.ref a10)] [(.int (own_fin q2 q1))]))
          refine Go.on (fun t k => XS.iload X12.here hx rfl (hb hby at_107) rfl k) ?_
          show Go p e below _ (T12.setTop (mkF m 109 #[.val (.long q1), .second, .val (.long q2), .second, .val (.int p3), .val (.long q4), .second, .val (.long q5), .second, .val (.int (p3 &&& (3 : Int32))), .val (.long q2), .second, .val (.int (1 : Int32)), .val (.ref a10)] [(.int (1 : Int32)), (.int (own_fin q2 q1))]))
          refine Go.on (fun t k => XS.icmpNo X12.here hx rfl (hb hby at_109) rfl (teq (by first | exact own_same _ | exact own_less _ | exact own_more _ | exact own_is _ _ hc62 | exact own_isnt _ _ hc62 : (own_fin q2 q1) = (1 : Int32))).2 k) ?_
          show Go p e below _ (T12.setTop (mkF m 112 #[.val (.long q1), .second, .val (.long q2), .second, .val (.int p3), .val (.long q4), .second, .val (.long q5), .second, .val (.int (p3 &&& (3 : Int32))), .val (.long q2), .second, .val (.int (1 : Int32)), .val (.ref a10)] []))
          refine Go.on (fun t k => XS.iconst X12.here hx rfl (hb hby at_112) k) ?_
          show Go p e below _ (T12.setTop (mkF m 113 #[.val (.long q1), .second, .val (.long q2), .second, .val (.int p3), .val (.long q4), .second, .val (.long q5), .second, .val (.int (p3 &&& (3 : Int32))), .val (.long q2), .second, .val (.int (1 : Int32)), .val (.ref a10)] [(.int (1 : Int32))]))
          refine Go.on (fun t k => XS.goto X12.here hx rfl (pc0 := 113) (pc' := 117) rfl (hb hby at_113) (by decide) (by decide) k) ?_
          show Go p e below _ (T12.setTop (mkF m 117 #[.val (.long q1), .second, .val (.long q2), .second, .val (.int p3), .val (.long q4), .second, .val (.long q5), .second, .val (.int (p3 &&& (3 : Int32))), .val (.long q2), .second, .val (.int (1 : Int32)), .val (.ref a10)] [(.int (1 : Int32))]))
          exact Go.retN X12 hx hlk hret (by simp) (hb hby at_117) (by decide) (by decide) ⟨by rfl, N12⟩
        · refine Go.on (fun t k => XS.ifYes X0.here hx rfl (pc0 := 62) (pc' := 69) rfl (hb hby at_62) rfl ((if0 _ _).trans (feq (fun q => hc62 ((lw_eq _ _).mp q))).2) (by decide) (by decide) k) ?_
          show Go p e below _ (s₁.setTop (mkF m 69 #[.val (.long q1), .second, .val (.long q2), .second, .val (.int p3), .val (.long q4), .second, .val (.long q5), .second, .val (.int (p3 &&& (3 : Int32))), .val (.long q2), .second, .unset, .unset] []))
          refine Go.on (fun t k => XS.iconst X0.here hx rfl (hb hby at_69) k) ?_
          show Go p e below _ (s₁.setTop (mkF m 70 #[.val (.long q1), .second, .val (.long q2), .second, .val (.int p3), .val (.long q4), .second, .val (.long q5), .second, .val (.int (p3 &&& (3 : Int32))), .val (.long q2), .second, .unset, .unset] [(.int (0 : Int32))]))
          refine Go.on (fun t k => XS.istore X0.here hx rfl (hb hby at_70) rfl (l' := #[.val (.long q1), .second, .val (.long q2), .second, .val (.int p3), .val (.long q4), .second, .val (.long q5), .second, .val (.int (p3 &&& (3 : Int32))), .val (.long q2), .second, .val (.int (0 : Int32)), .unset]) rfl k) ?_
          show Go p e below _ (s₁.setTop (mkF m 72 #[.val (.long q1), .second, .val (.long q2), .second, .val (.int p3), .val (.long q4), .second, .val (.long q5), .second, .val (.int (p3 &&& (3 : Int32))), .val (.long q2), .second, .val (.int (0 : Int32)), .unset] []))
          obtain ⟨T13, h13, X13, e13, E13, A13, D13, -, st13⟩ := newO X0 hx hZ hown (hw _ (List.mem_of_getElem? (i := 0) rfl)) (hw _ (List.mem_of_getElem? (i := 1) rfl)) (hw _ (List.mem_of_getElem? (i := 2) rfl)) e0 (g := (mkF m 72 #[.val (.long q1), .second, .val (.long q2), .second, .val (.int p3), .val (.long q4), .second, .val (.long q5), .second, .val (.int (p3 &&& (3 : Int32))), .val (.long q2), .second, .val (.int (0 : Int32)), .unset] [])) rfl (hb hby at_72) (by decide) (by decide)
          obtain ⟨a13, g13⟩ : ∃ z, z = h0.size := ⟨_, rfl⟩
          rw [← g13] at A13 D13 st13
          have Z13 : n0 ≤ h13.size := Nat.le_trans Z0 E13.1
          have G13 : n0 ≤ a13 := Nat.le_trans Z0 (Nat.le_of_eq g13.symm)
          refine Go.on st13 ?_
          show Go p e below _ (T13.setTop (mkF m 75 #[.val (.long q1), .second, .val (.long q2), .second, .val (.int p3), .val (.long q4), .second, .val (.long q5), .second, .val (.int (p3 &&& (3 : Int32))), .val (.long q2), .second, .val (.int (0 : Int32)), .unset] [(.ref a13)]))
          refine Go.on (fun t k => XS.dup X13.here hx rfl (hb hby at_75) rfl rfl k) ?_
          show Go p e below _ (T13.setTop (mkF m 76 #[.val (.long q1), .second, .val (.long q2), .second, .val (.int p3), .val (.long q4), .second, .val (.long q5), .second, .val (.int (p3 &&& (3 : Int32))), .val (.long q2), .second, .val (.int (0 : Int32)), .unset] [(.ref a13), (.ref a13)]))
          refine Go.on (fun t k => XS.lloadN X13.here hx rfl (hb hby at_76) rfl k) ?_
          show Go p e below _ (T13.setTop (mkF m 77 #[.val (.long q1), .second, .val (.long q2), .second, .val (.int p3), .val (.long q4), .second, .val (.long q5), .second, .val (.int (p3 &&& (3 : Int32))), .val (.long q2), .second, .val (.int (0 : Int32)), .unset] [(.long q1), (.ref a13), (.ref a13)]))
          refine Go.on (fun t k => XS.lload X13.here hx rfl (hb hby at_77) rfl k) ?_
          show Go p e below _ (T13.setTop (mkF m 79 #[.val (.long q1), .second, .val (.long q2), .second, .val (.int p3), .val (.long q4), .second, .val (.long q5), .second, .val (.int (p3 &&& (3 : Int32))), .val (.long q2), .second, .val (.int (0 : Int32)), .unset] [(.long q2), (.long q1), (.ref a13), (.ref a13)]))
          refine Go.on (fun t k => XS.lload X13.here hx rfl (hb hby at_79) rfl k) ?_
          show Go p e below _ (T13.setTop (mkF m 81 #[.val (.long q1), .second, .val (.long q2), .second, .val (.int p3), .val (.long q4), .second, .val (.long q5), .second, .val (.int (p3 &&& (3 : Int32))), .val (.long q2), .second, .val (.int (0 : Int32)), .unset] [(.long q4), (.long q2), (.long q1), (.ref a13), (.ref a13)]))
          refine Go.on (fun t k => XS.lload X13.here hx rfl (hb hby at_81) rfl k) ?_
          show Go p e below _ (T13.setTop (mkF m 83 #[.val (.long q1), .second, .val (.long q2), .second, .val (.int p3), .val (.long q4), .second, .val (.long q5), .second, .val (.int (p3 &&& (3 : Int32))), .val (.long q2), .second, .val (.int (0 : Int32)), .unset] [(.long q5), (.long q4), (.long q2), (.long q1), (.ref a13), (.ref a13)]))
          refine Go.on (fun t k => XS.lload X13.here hx rfl (hb hby at_83) rfl k) ?_
          show Go p e below _ (T13.setTop (mkF m 85 #[.val (.long q1), .second, .val (.long q2), .second, .val (.int p3), .val (.long q4), .second, .val (.long q5), .second, .val (.int (p3 &&& (3 : Int32))), .val (.long q2), .second, .val (.int (0 : Int32)), .unset] [(.long q4), (.long q5), (.long q4), (.long q2), (.long q1), (.ref a13), (.ref a13)]))
          refine Go.on (fun t k => XS.lload X13.here hx rfl (hb hby at_85) rfl k) ?_
          show Go p e below _ (T13.setTop (mkF m 87 #[.val (.long q1), .second, .val (.long q2), .second, .val (.int p3), .val (.long q4), .second, .val (.long q5), .second, .val (.int (p3 &&& (3 : Int32))), .val (.long q2), .second, .val (.int (0 : Int32)), .unset] [(.long q5), (.long q4), (.long q5), (.long q4), (.long q2), (.long q1), (.ref a13), (.ref a13)]))
          refine Go.on (fun t k => XS.lload X13.here hx rfl (hb hby at_87) rfl k) ?_
          show Go p e below _ (T13.setTop (mkF m 89 #[.val (.long q1), .second, .val (.long q2), .second, .val (.int p3), .val (.long q4), .second, .val (.long q5), .second, .val (.int (p3 &&& (3 : Int32))), .val (.long q2), .second, .val (.int (0 : Int32)), .unset] [(.long q4), (.long q5), (.long q4), (.long q5), (.long q4), (.long q2), (.long q1), (.ref a13), (.ref a13)]))
          refine Go.on (fun t k => XS.lload X13.here hx rfl (hb hby at_89) rfl k) ?_
          show Go p e below _ (T13.setTop (mkF m 91 #[.val (.long q1), .second, .val (.long q2), .second, .val (.int p3), .val (.long q4), .second, .val (.long q5), .second, .val (.int (p3 &&& (3 : Int32))), .val (.long q2), .second, .val (.int (0 : Int32)), .unset] [(.long q5), (.long q4), (.long q5), (.long q4), (.long q5), (.long q4), (.long q2), (.long q1), (.ref a13), (.ref a13)]))
          refine Go.on (fun t k => XS.lload X13.here hx rfl (hb hby at_91) rfl k) ?_
          show Go p e below _ (T13.setTop (mkF m 93 #[.val (.long q1), .second, .val (.long q2), .second, .val (.int p3), .val (.long q4), .second, .val (.long q5), .second, .val (.int (p3 &&& (3 : Int32))), .val (.long q2), .second, .val (.int (0 : Int32)), .unset] [(.long q4), (.long q5), (.long q4), (.long q5), (.long q4), (.long q5), (.long q4), (.long q2), (.long q1), (.ref a13), (.ref a13)]))
          refine Go.on (fun t k => XS.lload X13.here hx rfl (hb hby at_93) rfl k) ?_
          show Go p e below _ (T13.setTop (mkF m 95 #[.val (.long q1), .second, .val (.long q2), .second, .val (.int p3), .val (.long q4), .second, .val (.long q5), .second, .val (.int (p3 &&& (3 : Int32))), .val (.long q2), .second, .val (.int (0 : Int32)), .unset] [(.long q5), (.long q4), (.long q5), (.long q4), (.long q5), (.long q4), (.long q5), (.long q4), (.long q2), (.long q1), (.ref a13), (.ref a13)]))
          refine Go.on (fun t k => XS.lload X13.here hx rfl (hb hby at_95) rfl k) ?_
          show Go p e below _ (T13.setTop (mkF m 97 #[.val (.long q1), .second, .val (.long q2), .second, .val (.int p3), .val (.long q4), .second, .val (.long q5), .second, .val (.int (p3 &&& (3 : Int32))), .val (.long q2), .second, .val (.int (0 : Int32)), .unset] [(.long q4), (.long q5), (.long q4), (.long q5), (.long q4), (.long q5), (.long q4), (.long q5), (.long q4), (.long q2), (.long q1), (.ref a13), (.ref a13)]))
          obtain ⟨_, _, ⟨T14, L14, k14, n14⟩, -, X14, ⟨Lc14, hQ14, l14, y14, z14⟩, st14⟩ := X13.specialBack hx (y := (⟨"com/example/robust_backoff/robustbackoff/model/RunResult", "<init>", "(JJJJJJJJJJJ)V"⟩ : MethodName)) rfl hown (mvT hZ (hw _ (List.mem_of_getElem? (i := 3) rfl))) (mvT hZ (hw _ (List.mem_of_getElem? (i := 4) rfl))) (mvT hZ (hw _ (List.mem_of_getElem? (i := 5) rfl))) (by decide) (backOf (W := 1) (rm1 l Z a0 hw [] a13 q1 q2 q4 q5 q4 q5 q4 q5 q4 q5 q4 _ _ _ _ _ _ _ _ _ _ _  h13 n0 Z13 A13 (D13 (Or.inr (hw _ (List.mem_of_getElem? (i := 15) rfl))) (ty := .long) (by decide)) (D13 (Or.inr (hw _ (List.mem_of_getElem? (i := 17) rfl))) (ty := .long) (by decide)) (D13 (Or.inr (hw _ (List.mem_of_getElem? (i := 19) rfl))) (ty := .long) (by decide)) (D13 (Or.inr (hw _ (List.mem_of_getElem? (i := 21) rfl))) (ty := .long) (by decide)) (D13 (Or.inr (hw _ (List.mem_of_getElem? (i := 23) rfl))) (ty := .long) (by decide)) (D13 (Or.inr (hw _ (List.mem_of_getElem? (i := 25) rfl))) (ty := .long) (by decide)) (D13 (Or.inr (hw _ (List.mem_of_getElem? (i := 27) rfl))) (ty := .long) (by decide)) (D13 (Or.inr (hw _ (List.mem_of_getElem? (i := 29) rfl))) (ty := .long) (by decide)) (D13 (Or.inr (hw _ (List.mem_of_getElem? (i := 31) rfl))) (ty := .long) (by decide)) (D13 (Or.inr (hw _ (List.mem_of_getElem? (i := 33) rfl))) (ty := .long) (by decide)) (D13 (Or.inr (hw _ (List.mem_of_getElem? (i := 35) rfl))) (ty := .long) (by decide)) G13) hZ (hw _ (List.mem_of_getElem? (i := 5) rfl)) (hw _ (List.mem_of_getElem? (i := 2) rfl)) (by decide) (by decide)) (g := (mkF m 97 #[.val (.long q1), .second, .val (.long q2), .second, .val (.int p3), .val (.long q4), .second, .val (.long q5), .second, .val (.int (p3 &&& (3 : Int32))), .val (.long q2), .second, .val (.int (0 : Int32)), .unset] [(.long q4), (.long q5), (.long q4), (.long q5), (.long q4), (.long q5), (.long q4), (.long q5), (.long q4), (.long q2), (.long q1), (.ref a13), (.ref a13)])) rfl (by rw [hml]; rfl) (Steps.refl _) (a := a13) (argsL := [(.long q1), (.long q2), (.long q4), (.long q5), (.long q4), (.long q5), (.long q4), (.long q5), (.long q4), (.long q5), (.long q4)]) (rest := [(.ref a13)]) (lenOf pd_2 rfl) rfl (by show 2 * 0 + _ ≤ _; exact Nat.le_of_eq rfl) (hb hby at_97) (fun _ _ => ⟨rfl, e13, (by decide : 1 + 0 ≤ _), (by decide : 11 + 0 ≤ _)⟩)
          dsimp only [Pt.U, Pt.locs, Pt.cells, Pt.slots] at X14 l14 y14 z14 st14 hQ14
          subst l14 y14 z14
          obtain ⟨rfl, N14q, K14, B14, F14_packets, F14_successes, F14_liveSlots, F14_jammedSlots, F14_makespan, F14_sends, F14_maxSendsPerPacket, F14_busyTones, F14_activations, F14_resets, F14_slotTypeDisagreements⟩ := hQ14
          have N14 := Fr.app N0 N14q
          refine Go.st st14 ?_
          show Go p e below _ (T14.setTop (mkF m 100 #[.val (.long q1), .second, .val (.long q2), .second, .val (.int p3), .val (.long q4), .second, .val (.long q5), .second, .val (.int (p3 &&& (3 : Int32))), .val (.long q2), .second, .val (.int (0 : Int32)), .unset] [(.ref a13)]))
          have Z14 : n0 ≤ T14.heap.size := Nat.le_trans Z13 K14.1
          refine Go.on (fun t k => XS.astore X14.here hx rfl (hb hby at_100) rfl rfl (l' := #[.val (.long q1), .second, .val (.long q2), .second, .val (.int p3), .val (.long q4), .second, .val (.long q5), .second, .val (.int (p3 &&& (3 : Int32))), .val (.long q2), .second, .val (.int (0 : Int32)), .val (.ref a13)]) rfl k) ?_
          show Go p e below _ (T14.setTop (mkF m 102 #[.val (.long q1), .second, .val (.long q2), .second, .val (.int p3), .val (.long q4), .second, .val (.long q5), .second, .val (.int (p3 &&& (3 : Int32))), .val (.long q2), .second, .val (.int (0 : Int32)), .val (.ref a13)] []))
          refine Go.on (fun t k => XS.aload X14.here hx rfl (hb hby at_102) rfl rfl k) ?_
          show Go p e below _ (T14.setTop (mkF m 104 #[.val (.long q1), .second, .val (.long q2), .second, .val (.int p3), .val (.long q4), .second, .val (.long q5), .second, .val (.int (p3 &&& (3 : Int32))), .val (.long q2), .second, .val (.int (0 : Int32)), .val (.ref a13)] [(.ref a13)]))
          obtain ⟨cq15, kq15, q15a, q15b, q15c⟩ := isOf hZ (rfl : T14.heap = T14.heap) B14
          obtain ⟨_, _, ⟨T15, L15, k15, n15⟩, -, X15, ⟨Lc15, hQ15, l15, y15, z15⟩, st15⟩ := X14.virtualBack hx (y := (⟨"com/example/robust_backoff/robustbackoff/model/RunResult", "finished", "()Z"⟩ : MethodName)) (z := (⟨"com/example/robust_backoff/robustbackoff/model/RunResult", "finished", "()Z"⟩ : MethodName)) hown (mvT hZ (hw _ (List.mem_of_getElem? (i := 36) rfl))) (mvT hZ (hw _ (List.mem_of_getElem? (i := 37) rfl))) (notFace_of_selects (args := #[]) (mvT hZ (hw _ (List.mem_of_getElem? (i := 39) rfl)))) (mvT hZ (hw _ (List.mem_of_getElem? (i := 39) rfl))) (mvT hZ (hw _ (List.mem_of_getElem? (i := 38) rfl))) (by decide) (backOf (W := 0) (rm4 l Z a0 hw [] a13 q2 q1 T14.heap n0 Z14 F14_successes F14_packets) hZ (hw _ (List.mem_of_getElem? (i := 40) rfl)) (hw _ (List.mem_of_getElem? (i := 2) rfl)) (by decide) (by decide)) q15a q15c (g := (mkF m 104 #[.val (.long q1), .second, .val (.long q2), .second, .val (.int p3), .val (.long q4), .second, .val (.long q5), .second, .val (.int (p3 &&& (3 : Int32))), .val (.long q2), .second, .val (.int (0 : Int32)), .val (.ref a13)] [(.ref a13)])) rfl (by rw [hml]; rfl) (Steps.refl _) (argsL := []) (rest := []) (lenOf pd_3 rfl) rfl (by show 2 * 0 + _ ≤ _; exact Nat.le_of_eq rfl) (hb hby at_104) (fun _ _ => ⟨rfl, (rfl : T14.heap = T14.heap), (by decide : 1 + 0 ≤ _), (by decide : 11 + 0 ≤ _)⟩)
          dsimp only [Pt.U, Pt.locs, Pt.cells, Pt.slots] at X15 l15 y15 z15 st15 hQ15
          subst l15 y15 z15
          obtain ⟨rfl, N15q, e15⟩ := hQ15
          have N15 := Fr.app N14 N15q
          refine Go.st st15 ?_
          show Go p e below _ (T15.setTop (mkF m 107 #[.val (.long q1), .second, .val (.long q2), .second, .val (.int p3), .val (.long q4), .second, .val (.long q5), .second, .val (.int (p3 &&& (3 : Int32))), .val (.long q2), .second, .val (.int (0 : Int32)), .val (.ref a13)] [(.int (own_fin q2 q1))]))
          refine Go.on (fun t k => XS.iload X15.here hx rfl (hb hby at_107) rfl k) ?_
          show Go p e below _ (T15.setTop (mkF m 109 #[.val (.long q1), .second, .val (.long q2), .second, .val (.int p3), .val (.long q4), .second, .val (.long q5), .second, .val (.int (p3 &&& (3 : Int32))), .val (.long q2), .second, .val (.int (0 : Int32)), .val (.ref a13)] [(.int (0 : Int32)), (.int (own_fin q2 q1))]))
          refine Go.on (fun t k => XS.icmpNo X15.here hx rfl (hb hby at_109) rfl (teq (by first | exact own_same _ | exact own_less _ | exact own_more _ | exact own_is _ _ hc62 | exact own_isnt _ _ hc62 : (own_fin q2 q1) = (0 : Int32))).2 k) ?_
          show Go p e below _ (T15.setTop (mkF m 112 #[.val (.long q1), .second, .val (.long q2), .second, .val (.int p3), .val (.long q4), .second, .val (.long q5), .second, .val (.int (p3 &&& (3 : Int32))), .val (.long q2), .second, .val (.int (0 : Int32)), .val (.ref a13)] []))
          refine Go.on (fun t k => XS.iconst X15.here hx rfl (hb hby at_112) k) ?_
          show Go p e below _ (T15.setTop (mkF m 113 #[.val (.long q1), .second, .val (.long q2), .second, .val (.int p3), .val (.long q4), .second, .val (.long q5), .second, .val (.int (p3 &&& (3 : Int32))), .val (.long q2), .second, .val (.int (0 : Int32)), .val (.ref a13)] [(.int (1 : Int32))]))
          refine Go.on (fun t k => XS.goto X15.here hx rfl (pc0 := 113) (pc' := 117) rfl (hb hby at_113) (by decide) (by decide) k) ?_
          show Go p e below _ (T15.setTop (mkF m 117 #[.val (.long q1), .second, .val (.long q2), .second, .val (.int p3), .val (.long q4), .second, .val (.long q5), .second, .val (.int (p3 &&& (3 : Int32))), .val (.long q2), .second, .val (.int (0 : Int32)), .val (.ref a13)] [(.int (1 : Int32))]))
          exact Go.retN X15 hx hlk hret (by simp) (hb hby at_117) (by decide) (by decide) ⟨by rfl, N15⟩
set_option maxRecDepth 65536 in
set_option maxHeartbeats 40000000 in
theorem comes_1 {Post : Tables → Env → Array Value → State → Outcome → State → Prop} (hpost : ∀ tb e args s v u, (limb_1_1.after args s (.returned v) u = true ∧ limb_1_2.after args s (.returned v) u = true ∧ True) → FrameEnd s (.returned v) u (Jvm.fieldLocs frame_1_writes args s ++ Jvm.arrayLocs frame_1_arrays args s ++ Jvm.staticLocs frame_1_statics s) 16 128 → Post tb e args s (.returned v) u) :
    ArmFor flags0 classFile x code maxLocals ret World_1 tables_1 room_1 Calls_1 rest_1 Pre_1 Post := by
  intro l hfl _ _ p e ha hc hk s m args below hf hA hF happ hP
  obtain ⟨hcalls, hrest, hpre⟩ := hP
  obtain ⟨-, -, -, hnamed, -, -, -, hat⟩ := (Spec.applies_iff hf).mp happ
  obtain ⟨hg, hn⟩ := and_e (Cond.before_iff.mp (show (Jvm.Cond.and given_1 narrow_1).before args s = true from hpre))
  obtain ⟨g0, gA0⟩ := and_e hg
  obtain ⟨w0, w1, w2, w3, w4, rfl⟩ : ∃ w0 w1 w2 w3 w4 : Value, args = #[w0, w1, w2, w3, w4] := by
    have hs : args.size = 5 := by simpa [Cond.value, given_1] using g0
    obtain ⟨L⟩ := args
    match L, hs with
    | [w0, w1, w2, w3, w4], _ => exact ⟨w0, w1, w2, w3, w4, rfl⟩
  have hw := fun d (hd : d ∈ tables_1) => atoms_spec (ws := Jvm.Cond.code x code maxLocals ret :: tables_1) hat d (List.mem_cons_of_mem _ hd)
  obtain ⟨g1, gA1⟩ := and_e gA0
  obtain ⟨i0, ei0⟩ := isL_v g1
  obtain rfl : w0 = (.long i0) := Option.some.inj ei0
  obtain ⟨g2, gA2⟩ := and_e gA1
  obtain ⟨i1, ei1⟩ := isL_v g2
  obtain rfl : w1 = (.long i1) := Option.some.inj ei1
  obtain ⟨g3, gA3⟩ := and_e gA2
  obtain ⟨i2, ei2⟩ := is_v g3
  obtain rfl : w2 = (.int i2) := Option.some.inj ei2
  obtain ⟨g4, gA4⟩ := and_e gA3
  obtain ⟨i3, ei3⟩ := isL_v g4
  obtain rfl : w3 = (.long i3) := Option.some.inj ei3
  obtain ⟨i4, ei4⟩ := isL_v gA4
  obtain rfl : w4 = (.long i4) := Option.some.inj ei4
  obtain ⟨n, o, h1, h2, h3, _, L, rfl, ⟨rfl, N⟩, hq⟩ := rm0 l s _ hw tables_1 i0 i1 i2 i3 i4 s.heap s.heap.size (Nat.le_refl _)  p e ha hc hk s m _ below hf ((Spec.applies_iff_loose hf).mp happ).1 ⟨rfl, State.Warmed39.refl s, rfl⟩ trivial
  refine ⟨n, _, h1, h2, h3, hpost _ _ _ _ _ _ ⟨Cond.after_iff.mpr rfl, Cond.after_iff.mpr (eq_i res_at (Term.int_eval (1)) rfl), trivial⟩ ⟨hq.1, hq.2.1, (hq.2.2.sift fun y hy => Or.inr (N y hy)).mono (by decide) (by decide)⟩⟩
theorem main_1_1 : Claimed_1_1 := comes_1 fun _ _ _ _ _ _ h hF => ⟨h.1, hF⟩
theorem main_1_2 : Claimed_1_2 := comes_1 fun _ _ _ _ _ _ h hF => ⟨h.2.1, hF⟩
end Jvm.Pilot.@@N@@
namespace Jvm.Pilot.@@N@@
open Jvm Jvm.ClassFile Sem Op Lib Jvm.Free Jvm.Stand Jvm.Pilot.@@N@@.Jvm.D
/-! MADE BY PROGRAM (witnessworld.py) out of the Statement's table words and the real class files: 10 classes; the members and pool entries that the words name. The judged class is class 1, her method 1. -/
namespace start1
open Jvm.ClassFile
def u (s : String) : CpInfo := .utf8 (stringToUtf16 s)
/-- a pool by its gaps: so many unusable entries, then the entry; so many at the end -/
def gap : Nat → List CpInfo → List CpInfo
  | 0, r => r
  | n + 1, r => .unusable :: gap n r
def poolList (es : List (Nat × CpInfo)) (last : Nat) : List CpInfo := es.foldr (fun e r => gap e.1 (e.2 :: r)) (gap last [])
def pool (es : List (Nat × CpInfo)) (last : Nat) : Array CpInfo := ⟨poolList es last⟩
def fileOf (pool : Array CpInfo) (this : Nat) (attrs : Array Attribute := #[]) (ms : Array MethodInfo := #[]) (fl : Nat := 33) (sup : Nat := 0) (ifs : Array Nat := #[]) (fds : Array FieldInfo := #[]) : ClassFile where
  minorVersion := 0
  majorVersion := 65
  constantPool := pool
  accessFlags := fl
  thisClass := this
  superClass := sup
  interfaces := ifs
  fields := fds
  methods := ms
  attributes := attrs
def plain (name : String) (sup : Option ClassId) : Class where
  name := name
  kind := .ordinary
  loader := none
  accessFlags := 33
  super := sup
  interfaces := #[]
  cf := none
  fields := #[]
  methods := #[]
  instanceTypes := #[]
  staticTypes := #[]
  resolved := #[]
  callSites := []
  init := .initialized
  statics := none
  mirror := none

def pool0 : Array CpInfo := pool [(5, u "<init>"), (0, u "()V"), (1, .class_ 10), (1, u "java/lang/Object")] 113

def k0c0 : Code := { maxStack := 0, maxLocals := 1, code := object_method_1_code, exceptionTable := #[], attributes := #[] }
def k0m0 : Method := { name := "<init>", desc := "()V", sig := { parameters := [], returnType := none }, accessFlags := 1, code := some k0c0 }
/-- java/lang/Object -/
def k0 : Class := { plain "java/lang/Object" none with
  accessFlags := 33
  interfaces := #[]
  cf := some (fileOf pool0 8 #[] #[{ accessFlags := 1, nameIndex := 5, descriptorIndex := 6, attributes := #[] }] 33 0 #[] #[])
  fields := #[]
  methods := #[k0m0]
  instanceTypes := #[]
  staticTypes := #[]
  resolved := Array.replicate 124 none
  statics := none }

def pool1 : Array CpInfo := pool [(2, .class_ 4), (1, u "java/lang/Object"), (0, u "<init>"), (0, u "()V"), (0, .class_ 8), (0, u "com/example/robust_backoff/robustbackoff/model/RunResult"), (0, .methodref 7 10), (0, .nameAndType 5 11), (0, u "(JJJJJJJJJJJ)V"), (0, .methodref 7 13), (0, .nameAndType 14 15), (0, u "finished"), (0, u "()Z"), (0, .class_ 17), (0, u "com/example/robust_backoff/robustbackoff/model/RunResultFinishedPinLaw"), (2, u "law"), (0, u "(JJIJJ)Z")] 3

def k1m0 : Method := { name := "<init>", desc := "()V", sig := { parameters := [], returnType := none }, accessFlags := 1, code := none }
def k1c1 : Code := { maxStack := 24, maxLocals := 14, code := code, exceptionTable := #[], attributes := #[] }
def k1m1 : Method := { name := "law", desc := "(JJIJJ)Z", sig := { parameters := [.long, .long, .int, .long, .long], returnType := some .boolean }, accessFlags := 9, code := some k1c1 }
/-- com/example/robust_backoff/robustbackoff/model/RunResultFinishedPinLaw -/
def k1 : Class := { plain "com/example/robust_backoff/robustbackoff/model/RunResultFinishedPinLaw" (some 0) with
  accessFlags := 49
  interfaces := #[]
  cf := some (fileOf pool1 16 #[] #[{ accessFlags := 1, nameIndex := 5, descriptorIndex := 6, attributes := #[] }, { accessFlags := 9, nameIndex := 20, descriptorIndex := 21, attributes := #[] }] 49 2 #[] #[])
  fields := #[]
  methods := #[k1m0, k1m1]
  instanceTypes := #[]
  staticTypes := #[]
  resolved := Array.replicate 25 none
  statics := none }

def pool2 : Array CpInfo := pool [(1, .methodref 2 3), (0, .class_ 4), (0, .nameAndType 5 6), (0, u "java/lang/Object"), (0, u "<init>"), (0, u "()V"), (0, .class_ 8), (0, u "java/lang/Record")] 13

def k2c0 : Code := { maxStack := 1, maxLocals := 1, code := jdk_30_method_1_code, exceptionTable := #[], attributes := #[] }
def k2m0 : Method := { name := "<init>", desc := "()V", sig := { parameters := [], returnType := none }, accessFlags := 4, code := some k2c0 }
/-- java/lang/Record -/
def k2 : Class := { plain "java/lang/Record" (some 0) with
  accessFlags := 1057
  interfaces := #[]
  cf := some (fileOf pool2 7 #[] #[{ accessFlags := 4, nameIndex := 5, descriptorIndex := 6, attributes := #[] }] 1057 2 #[] #[])
  fields := #[]
  methods := #[k2m0]
  instanceTypes := #[]
  staticTypes := #[]
  resolved := Array.replicate 22 none
  statics := none }

def pool3 : Array CpInfo := pool [(1, .methodref 2 3), (0, .class_ 4), (0, .nameAndType 5 6), (0, u "java/lang/Record"), (0, u "<init>"), (0, u "()V"), (0, .fieldref 8 9), (0, .class_ 10), (0, .nameAndType 11 12), (0, u "com/example/robust_backoff/robustbackoff/model/RunResult"), (0, u "packets"), (0, u "J"), (0, .fieldref 8 14), (0, .nameAndType 15 12), (0, u "successes"), (0, .fieldref 8 17), (0, .nameAndType 18 12), (0, u "liveSlots"), (0, .fieldref 8 20), (0, .nameAndType 21 12), (0, u "jammedSlots"), (0, .fieldref 8 23), (0, .nameAndType 24 12), (0, u "makespan"), (0, .fieldref 8 26), (0, .nameAndType 27 12), (0, u "sends"), (0, .fieldref 8 29), (0, .nameAndType 30 12), (0, u "maxSendsPerPacket"), (0, .fieldref 8 32), (0, .nameAndType 33 12), (0, u "busyTones"), (0, .fieldref 8 35), (0, .nameAndType 36 12), (0, u "activations"), (0, .fieldref 8 38), (0, .nameAndType 39 12), (0, u "resets"), (0, .fieldref 8 41), (0, .nameAndType 42 12), (0, u "slotTypeDisagreements"), (12, u "(JJJJJJJJJJJ)V"), (3, u "finished"), (0, u "()Z")] 38

def k3c0 : Code := { maxStack := 3, maxLocals := 23, code := prog_13_method_1_code, exceptionTable := #[], attributes := #[] }
def k3m0 : Method := { name := "<init>", desc := "(JJJJJJJJJJJ)V", sig := { parameters := [.long, .long, .long, .long, .long, .long, .long, .long, .long, .long, .long], returnType := none }, accessFlags := 1, code := some k3c0 }
def k3c1 : Code := { maxStack := 4, maxLocals := 1, code := prog_13_method_2_code, exceptionTable := #[], attributes := #[] }
def k3m1 : Method := { name := "finished", desc := "()Z", sig := { parameters := [], returnType := some .boolean }, accessFlags := 1, code := some k3c1 }
/-- com/example/robust_backoff/robustbackoff/model/RunResult -/
def k3 : Class := { plain "com/example/robust_backoff/robustbackoff/model/RunResult" (some 2) with
  accessFlags := 49
  interfaces := #[]
  cf := some (fileOf pool3 8 #[] #[{ accessFlags := 1, nameIndex := 5, descriptorIndex := 55, attributes := #[] }, { accessFlags := 1, nameIndex := 59, descriptorIndex := 60, attributes := #[] }] 49 2 #[] #[{ accessFlags := 18, nameIndex := 11, descriptorIndex := 12, attributes := #[] }, { accessFlags := 18, nameIndex := 15, descriptorIndex := 12, attributes := #[] }, { accessFlags := 18, nameIndex := 18, descriptorIndex := 12, attributes := #[] }, { accessFlags := 18, nameIndex := 21, descriptorIndex := 12, attributes := #[] }, { accessFlags := 18, nameIndex := 24, descriptorIndex := 12, attributes := #[] }, { accessFlags := 18, nameIndex := 27, descriptorIndex := 12, attributes := #[] }, { accessFlags := 18, nameIndex := 30, descriptorIndex := 12, attributes := #[] }, { accessFlags := 18, nameIndex := 33, descriptorIndex := 12, attributes := #[] }, { accessFlags := 18, nameIndex := 36, descriptorIndex := 12, attributes := #[] }, { accessFlags := 18, nameIndex := 39, descriptorIndex := 12, attributes := #[] }, { accessFlags := 18, nameIndex := 42, descriptorIndex := 12, attributes := #[] }])
  fields := #[{ name := "packets", type := .long, accessFlags := 18, slot := 0, constantValue := 0 }, { name := "successes", type := .long, accessFlags := 18, slot := 1, constantValue := 0 }, { name := "liveSlots", type := .long, accessFlags := 18, slot := 2, constantValue := 0 }, { name := "jammedSlots", type := .long, accessFlags := 18, slot := 3, constantValue := 0 }, { name := "makespan", type := .long, accessFlags := 18, slot := 4, constantValue := 0 }, { name := "sends", type := .long, accessFlags := 18, slot := 5, constantValue := 0 }, { name := "maxSendsPerPacket", type := .long, accessFlags := 18, slot := 6, constantValue := 0 }, { name := "busyTones", type := .long, accessFlags := 18, slot := 7, constantValue := 0 }, { name := "activations", type := .long, accessFlags := 18, slot := 8, constantValue := 0 }, { name := "resets", type := .long, accessFlags := 18, slot := 9, constantValue := 0 }, { name := "slotTypeDisagreements", type := .long, accessFlags := 18, slot := 10, constantValue := 0 }]
  methods := #[k3m0, k3m1]
  instanceTypes := #[.long, .long, .long, .long, .long, .long, .long, .long, .long, .long, .long]
  staticTypes := #[]
  resolved := Array.replicate 99 none
  statics := none }

def pool4 : Array CpInfo := pool [(1, u "java/lang/Cloneable"), (0, .class_ 1), (0, u "java/lang/Object"), (0, .class_ 3)] 3

/-- java/lang/Cloneable -/
def k4 : Class := { plain "java/lang/Cloneable" (some 0) with
  accessFlags := 1537
  interfaces := #[]
  cf := some (fileOf pool4 2 #[] #[] 1537 4 #[] #[])
  fields := #[]
  methods := #[]
  instanceTypes := #[]
  staticTypes := #[]
  resolved := Array.replicate 8 none
  statics := none }

def pool5 : Array CpInfo := pool [(1, u "java/io/Serializable"), (0, .class_ 1), (0, u "java/lang/Object"), (0, .class_ 3)] 3

/-- java/io/Serializable -/
def k5 : Class := { plain "java/io/Serializable" (some 0) with
  accessFlags := 1537
  interfaces := #[]
  cf := some (fileOf pool5 2 #[] #[] 1537 4 #[] #[])
  fields := #[]
  methods := #[]
  instanceTypes := #[]
  staticTypes := #[]
  resolved := Array.replicate 8 none
  statics := none }

/-- the primitive byte -/
def k6 : Class := { plain "byte" none with kind := .primitive 'B', accessFlags := 0x411 }
/-- [B -/
def k7 : Class := { plain "[B" (some 0) with kind := .array 6 .byte, interfaces := #[4, 5], accessFlags := 1041 }

/-- the primitive int -/
def k8 : Class := { plain "int" none with kind := .primitive 'I', accessFlags := 0x411 }
/-- [I -/
def k9 : Class := { plain "[I" (some 0) with kind := .array 8 .int, interfaces := #[4, 5], accessFlags := 1041 }

def heap : Heap := #[]
def classes : Array Class := #[k0, k1, k2, k3, k4, k5, k6, k7, k8, k9]
def interned : List (Array UInt16 × Addr) := []
def slotsUsed : Nat := 0
def theMethod : MethodId := ⟨1, 1⟩
def args0 : Array Value := #[.long 5, .long 7, .int 1, .long 3, .long 4]
def aboutOver (below : List Frame) : State where
  vm := { classes := classes, interned := interned.toArray }
  heap := heap
  slotsUsed := slotsUsed
  threads := #[{ frames := .invoking theMethod args0 :: below }]
def below0 : List Frame := [.native { method := ⟨0, 0⟩, args := #[] }]
def about1 : State := aboutOver below0
def p0 : Program := .bare "" "" ""
def e0 : Env := launch0.env 0 0 0
theorem w_frames : about1.frames = Frame.invoking theMethod args0 :: below0 := rfl
set_option maxRecDepth 65536 in
theorem w_args : argsFit about1.vm theMethod args0 = true := by decide +kernel
set_option maxRecDepth 65536 in
theorem w_heap : heapFits about1 = true := by decide +kernel
set_option maxRecDepth 65536 in
theorem w_runnable : about1.curStatus? = some .runnable := by decide +kernel
set_option maxRecDepth 65536 in
theorem w_alone : about1.alone = true := by decide +kernel
set_option maxRecDepth 65536 in
theorem w_named : about1.methodNamed? x = some theMethod := by decide +kernel
set_option maxRecDepth 65536 in
theorem w_hears : about1.hears theMethod below0 = true := by decide +kernel
set_option maxRecDepth 65536 in
theorem w_ripe : about1.ripe theMethod args0 below0 = true := by decide +kernel
theorem w_running : about1.status = .running := rfl
set_option maxRecDepth 65536 in
theorem w_room : about1.hasRoom e0.platform room_1 = true :=
  launch0.hasRoom_least _ room_1 (by decide +kernel) (by decide +kernel) (by decide +kernel) (by decide +kernel) (by decide +kernel) (by decide +kernel)
theorem allAtoms_all (ts : List Jvm.Cond) (a : Array Jvm.Value) (st : Jvm.State) : (allAtoms ts).before a st = ts.all (fun c => c.before a st) := by
  induction ts with
  | nil => rfl
  | cons c t ih =>
    show (Jvm.Cond.and c (allAtoms t)).before a st = _
    rw [Jvm.Cond.before_and, ih, List.all_cons]
def words1 : List Jvm.Cond := Jvm.Cond.code x code maxLocals ret :: tables_1
/-- a 'code' word, met by the world's own term for the bytes: nothing is compared byte by byte -/
theorem code_word {y : MethodName} {bytes : ByteArray} {mx : Nat} {rt : Option FieldType} {a : Array Value} {s : State} {m : MethodId} {meth : Method} {c : Code} (h1 : s.methodNamed? y = some m) (h2 : s.vm.method? m = some meth) (h3 : meth.code = some c) (h4 : c.code = bytes)
    (h5 : (c.maxLocals == mx && c.exceptionTable.isEmpty && decide (c.maxStack ≤ mostOperands) && decide (meth.sig.returnType = rt) && !meth.locks && decide (parseMethodDescriptor y.desc = some meth.sig)) = true) : (Jvm.Cond.code y bytes mx rt).before a s = true := by
  simp only [Bool.and_eq_true, beq_iff_eq, Bool.not_eq_true', decide_eq_true_eq] at h5
  obtain ⟨⟨⟨⟨⟨g1, g2⟩, g3⟩, g4⟩, g5⟩, g6⟩ := h5
  simp [Cond.before, Cond.holds, Cond.value, h1, h2, h3, h4, g1, g2, g3, g4, g5, g6]
def isCode : Jvm.Cond → Bool
  | .code _ _ _ _ => true
  | _ => false
theorem all_split {L : List Jvm.Cond} {P : Jvm.Cond → Bool} (h1 : L.all (fun c => isCode c || P c) = true) (h2 : ∀ c ∈ L.filter isCode, P c = true) : L.all P = true := by
  refine List.all_eq_true.mpr fun c hc => ?_
  have h := List.all_eq_true.mp h1 c hc
  rcases Bool.eq_false_or_eq_true (isCode c) with hi | hi
  · exact h2 c (List.mem_filter.mpr ⟨hc, hi⟩)
  · simpa [hi] using h
set_option maxRecDepth 65536 in
theorem w_c0 : (Jvm.Cond.code x code maxLocals ret).before args0 about1 = true := code_word (m := ⟨1, 1⟩) (meth := k1m1) (c := k1c1) (by decide +kernel) rfl rfl rfl (by decide +kernel)
set_option maxRecDepth 65536 in
theorem w_c1 : (Jvm.Cond.code ({ cls := "com/example/robust_backoff/robustbackoff/model/RunResult", name := "<init>", desc := "(JJJJJJJJJJJ)V" } : Jvm.MethodName) prog_13_method_1_code (23 : Nat) (Option.none : Option Jvm.ClassFile.FieldType)).before args0 about1 = true := code_word (m := ⟨3, 0⟩) (meth := k3m0) (c := k3c0) (by decide +kernel) rfl rfl rfl (by decide +kernel)
set_option maxRecDepth 65536 in
theorem w_c2 : (Jvm.Cond.code ({ cls := "java/lang/Record", name := "<init>", desc := "()V" } : Jvm.MethodName) jdk_30_method_1_code (1 : Nat) (Option.none : Option Jvm.ClassFile.FieldType)).before args0 about1 = true := code_word (m := ⟨2, 0⟩) (meth := k2m0) (c := k2c0) (by decide +kernel) rfl rfl rfl (by decide +kernel)
set_option maxRecDepth 65536 in
theorem w_c3 : (Jvm.Cond.code ({ cls := "java/lang/Object", name := "<init>", desc := "()V" } : Jvm.MethodName) object_method_1_code (1 : Nat) (Option.none : Option Jvm.ClassFile.FieldType)).before args0 about1 = true := code_word (m := ⟨0, 0⟩) (meth := k0m0) (c := k0c0) (by decide +kernel) rfl rfl rfl (by decide +kernel)
set_option maxRecDepth 65536 in
theorem w_c4 : (Jvm.Cond.code ({ cls := "com/example/robust_backoff/robustbackoff/model/RunResult", name := "finished", desc := "()Z" } : Jvm.MethodName) prog_13_method_2_code (1 : Nat) (Option.some Jvm.ClassFile.FieldType.boolean)).before args0 about1 = true := code_word (m := ⟨3, 1⟩) (meth := k3m1) (c := k3c1) (by decide +kernel) rfl rfl rfl (by decide +kernel)
def codes1 : List Jvm.Cond := [Jvm.Cond.code x code maxLocals ret, Jvm.Cond.code ({ cls := "com/example/robust_backoff/robustbackoff/model/RunResult", name := "<init>", desc := "(JJJJJJJJJJJ)V" } : Jvm.MethodName) prog_13_method_1_code (23 : Nat) (Option.none : Option Jvm.ClassFile.FieldType), Jvm.Cond.code ({ cls := "java/lang/Record", name := "<init>", desc := "()V" } : Jvm.MethodName) jdk_30_method_1_code (1 : Nat) (Option.none : Option Jvm.ClassFile.FieldType), Jvm.Cond.code ({ cls := "java/lang/Object", name := "<init>", desc := "()V" } : Jvm.MethodName) object_method_1_code (1 : Nat) (Option.none : Option Jvm.ClassFile.FieldType), Jvm.Cond.code ({ cls := "com/example/robust_backoff/robustbackoff/model/RunResult", name := "finished", desc := "()Z" } : Jvm.MethodName) prog_13_method_2_code (1 : Nat) (Option.some Jvm.ClassFile.FieldType.boolean)]
set_option maxRecDepth 65536 in
theorem codes_eq : words1.filter isCode = codes1 := rfl
theorem w_codes : ∀ c ∈ words1.filter isCode, c.before args0 about1 = true := by
  rw [codes_eq]
  intro c hc
  simp only [codes1, List.mem_cons, List.not_mem_nil, or_false] at hc
  rcases hc with rfl | rfl | rfl | rfl | rfl
  · exact w_c0
  · exact w_c1
  · exact w_c2
  · exact w_c3
  · exact w_c4
set_option maxRecDepth 65536 in
theorem w_t1 : (words1.take 24).all (fun c => isCode c || c.before args0 about1) = true := by decide +kernel
set_option maxRecDepth 65536 in
theorem w_t2 : (words1.drop 24).all (fun c => isCode c || c.before args0 about1) = true := by decide +kernel
theorem w_tables : (allAtoms (Jvm.Cond.code x code maxLocals ret :: tables_1)).before args0 about1 = true := by
  rw [allAtoms_all]
  show words1.all (fun c => c.before args0 about1) = true
  refine all_split ?_ w_codes
  rw [← List.take_append_drop 24 words1, List.all_append, w_t1, w_t2]
  rfl
set_option maxRecDepth 65536 in
theorem w_case : (Jvm.Cond.and given_1 narrow_1).before args0 about1 = true := by decide +kernel
theorem w_applies : (headSpec (Jvm.Cond.code x code maxLocals ret :: tables_1) room_1).applies x e0.platform about1 = true :=
  (Spec.applies_iff w_frames).mpr ⟨w_running, w_runnable, w_alone, w_named, w_hears, w_ripe, w_room, w_tables⟩
theorem atStart : AtStart classFile x code maxLocals ret World_1 tables_1 room_1 Calls_1 rest_1 Pre_1 launch0 p0 e0 about1 theMethod args0 below0 :=
  ⟨lists_1, trivial, launch0.admits_env _ _ _, launch0.least_env, fairChoices_fair.cas, fairChoices_fair.clock, w_frames, w_args, w_heap, w_applies, trivial, trivial, w_case⟩
end start1
theorem witness_1 : WitnessClaimed_1 := ⟨start1.p0, start1.e0, start1.about1, start1.theMethod, start1.args0, start1.below0, start1.atStart⟩
end Jvm.Pilot.@@N@@
