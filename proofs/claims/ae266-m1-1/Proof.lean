import JvmDerived
import JvmDerived.Pilot.@@N@@Statement
import JvmDerived.Pilot.@@N@@Code
set_option linter.unusedVariables false
set_option linter.unusedSimpArgs false
namespace Jvm.Pilot.@@N@@
open Jvm Jvm.ClassFile Sem Op Lib Jvm.Free Jvm.Stand Jvm.LawKit Jvm.RoadKit Bundle Jvm.Pilot.@@N@@.Jvm.D
section GoKit
variable {p : Program} {l : Launch} {e : Env} {R : Room} {s : State} {m : MethodId} {args : Array Value} {below : List Frame} {meth : Method} {c : Code} {T : State} {locs : List Loc} {cells slots : Nat}
/-- from the state S the run comes to an end that P says -/
def Go (p : Program) (e : Env) (below : List Frame) (P : Outcome → State → Prop) (S : State) : Prop := ∃ s₂ o, Steps p.tables e below S s₂ ∧ s₂.status = .running ∧ Ended s₂ below o ∧ P o s₂
def Pst (s : State) (Q : Option Value → Heap → List Loc → Prop) (k n : Nat) : Outcome → State → Prop := fun o U => ∃ v L, o = .returned v ∧ Q v U.heap L ∧ FrameEnd s o U L k n
theorem Go.on {P : Outcome → State → Prop} {S S' : State} (h : ∀ t, Steps p.tables e below S' t → Steps p.tables e below S t) (k : Go p e below P S') : Go p e below P S := by
  obtain ⟨s2, o, h1, h2⟩ := k
  exact ⟨s2, o, h _ h1, h2⟩
theorem Go.st {P : Outcome → State → Prop} {S S' : State} (h : Steps p.tables e below S S') (k : Go p e below P S') : Go p e below P S := Go.on (fun _ q => h.trans q) k
theorem Go.retV (X : Stand p l e R s m args below meth c T locs cells slots) (hx : p.tables.exec = Jvm.exec) (hlk : meth.locks = false) {pc : Nat} {Ls : Array Slot} {w : Value} {t : FieldType} {i : Instr} {rest : List Value} (hret : meth.sig.returnType = some t) (hn : narrow t w = w)
    (hi : (i = .ireturn ∧ (t = .int ∨ t = .boolean ∨ t = .byte ∨ t = .char ∨ t = .short) ∧ ∃ z, w = .int z) ∨ (i = .lreturn ∧ t = .long ∧ ∃ z, w = .long z) ∨ (i = .dreturn ∧ t = .double ∧ ∃ z, w = .double z) ∨ (i = .freturn ∧ t = .float ∧ ∃ z, w = .float z) ∨ (i = .areturn ∧ t.isReference = true ∧ w.isRef = true))
    (hd : decode c.code pc = .ok (i, 1)) {Q : Option Value → Heap → List Loc → Prop} {k n : Nat} (hk : cells ≤ k) (hs : slots ≤ n) (hQ : Q (some w) T.heap locs) : Go p e below (Pst s Q k n) (T.setTop (mkF m pc Ls (w :: rest))) := by
  obtain ⟨fs, hr, hrun, hended, hW, hsame⟩ := X.leave (v := some w) (fun h => by rw [hret] at h; cases h) hlk
  exact ⟨_, _, retOut X hx hret hn hi hd hr, hrun, hended, _, _, rfl, hQ, ⟨_, rfl⟩, hW, hsame.mono hk hs⟩
theorem Go.retI (X : Stand p l e R s m args below meth c T locs cells slots) (hx : p.tables.exec = Jvm.exec) (hlk : meth.locks = false) {pc : Nat} {Ls : Array Slot} {z : Int32} {rest : List Value} (hret : meth.sig.returnType = some .int)
    (hd : decode c.code pc = .ok (.ireturn, 1)) {Q : Option Value → Heap → List Loc → Prop} {k n : Nat} (hk : cells ≤ k) (hs : slots ≤ n) (hQ : Q (some (.int z)) T.heap locs) : Go p e below (Pst s Q k n) (T.setTop (mkF m pc Ls (.int z :: rest))) :=
  Go.retV X hx hlk hret rfl (Or.inl ⟨rfl, Or.inl rfl, _, rfl⟩) hd hk hs hQ
theorem Go.retJ (X : Stand p l e R s m args below meth c T locs cells slots) (hx : p.tables.exec = Jvm.exec) (hlk : meth.locks = false) {pc : Nat} {Ls : Array Slot} {z : Int64} {rest : List Value} (hret : meth.sig.returnType = some .long)
    (hd : decode c.code pc = .ok (.lreturn, 1)) {Q : Option Value → Heap → List Loc → Prop} {k n : Nat} (hk : cells ≤ k) (hs : slots ≤ n) (hQ : Q (some (.long z)) T.heap locs) : Go p e below (Pst s Q k n) (T.setTop (mkF m pc Ls (.long z :: rest))) :=
  Go.retV X hx hlk hret rfl (Or.inr (Or.inl ⟨rfl, rfl, _, rfl⟩)) hd hk hs hQ
theorem Go.retA (X : Stand p l e R s m args below meth c T locs cells slots) (hx : p.tables.exec = Jvm.exec) (hlk : meth.locks = false) {pc : Nat} {Ls : Array Slot} {a : Addr} {t : FieldType} {rest : List Value} (hret : meth.sig.returnType = some t) (ht : t.isReference = true) (hn : narrow t (.ref a) = .ref a)
    (hd : decode c.code pc = .ok (.areturn, 1)) {Q : Option Value → Heap → List Loc → Prop} {k n : Nat} (hk : cells ≤ k) (hs : slots ≤ n) (hQ : Q (some (.ref a)) T.heap locs) : Go p e below (Pst s Q k n) (T.setTop (mkF m pc Ls (.ref a :: rest))) :=
  Go.retV X hx hlk hret hn (Or.inr (Or.inr (Or.inr (Or.inr ⟨rfl, ht, rfl⟩)))) hd hk hs hQ
theorem Go.retN (X : Stand p l e R s m args below meth c T locs cells slots) (hx : p.tables.exec = Jvm.exec) (hlk : meth.locks = false) {pc : Nat} {Ls : Array Slot} {z : Int32} {t : FieldType} {rest : List Value} (hret : meth.sig.returnType = some t) (ht : t = .boolean ∨ t = .byte ∨ t = .char ∨ t = .short)
    (hd : decode c.code pc = .ok (.ireturn, 1)) {Q : Option Value → Heap → List Loc → Prop} {k n : Nat} (hk : cells ≤ k) (hs : slots ≤ n) (hQ : Q (some (.int (nar t z))) T.heap locs) : Go p e below (Pst s Q k n) (T.setTop (mkF m pc Ls (.int z :: rest))) := by
  obtain ⟨fs, hr, hrun, hended, hW, hsame⟩ := X.leave (v := some (.int (nar t z))) (fun h => by rw [hret] at h; cases h) hlk
  exact ⟨_, _, Jvm.RoadKit.retN X hx hret ht hd hr, hrun, hended, _, _, rfl, hQ, ⟨_, rfl⟩, hW, hsame.mono hk hs⟩
theorem Go.ret0 (X : Stand p l e R s m args below meth c T locs cells slots) (hx : p.tables.exec = Jvm.exec) (hlk : meth.locks = false) {pc : Nat} {Ls : Array Slot} (hret : meth.sig.returnType = none)
    (hd : decode c.code pc = .ok (.return_, 1)) {Q : Option Value → Heap → List Loc → Prop} {k n : Nat} (hk : cells ≤ k) (hs : slots ≤ n) (hQ : Q none T.heap locs) : Go p e below (Pst s Q k n) (T.setTop (mkF m pc Ls [])) := by
  obtain ⟨fs, hr, hrun, hended, hW, hsame⟩ := X.leave (v := none) (fun _ => rfl) hlk
  exact ⟨_, _, X.returnOut hx hret hd hr, hrun, hended, _, _, rfl, hQ, ⟨_, rfl⟩, hW, hsame.mono hk hs⟩
theorem lremM {g : JFrame} {target : State} (X : Stand p l e R s m args below meth c T locs cells slots) (hx : p.tables.exec = Jvm.exec) (hg : g.method = m) {x y : Int64} {rest : List Value} (hd : decode c.code g.pc = .ok (.lrem, 1)) (hs : g.stack = .long y :: .long x :: rest) (hy : y ≠ 0)
    (hr : Steps p.tables e below (T.setTop { g with pc := g.pc + 1, stack := .long (x % y) :: rest }) target) : Steps p.tables e below (T.setTop g) target := by
  have q : x - x / y * y = x % y := lrem_mod x y
  exact XS.lrem X.here hx hg hd hs hy (by rw [q]; exact hr)
/-- Java's x >>> k on ints and on longs, as the steps leave it -/
def ushrI (x k : Int32) : Int32 := (x.toUInt32 >>> (k &&& 31).toUInt32).toInt32
def ushrJ (x : Int64) (k : Int32) : Int64 := (x.toUInt64 >>> (k &&& 0x3f).toInt64.toUInt64).toInt64
end GoKit
theorem pd_1 : parseMethodDescriptor "(II)C" = some ⟨[.int, .int], some .char⟩ := by decide +kernel
theorem pd_2 : parseMethodDescriptor "(CZ)Z" = some ⟨[.char, .boolean], some .boolean⟩ := by decide +kernel
def own_base (a : Int32) : Int32 := if (a &&& (3 : Int32)) = (0 : Int32) then 10 else if (a &&& (3 : Int32)) = (1 : Int32) then 13 else if (a &&& (3 : Int32)) = (2 : Int32) then 133 else 8232
def own_pick (a b : Int32) : Int32 := (own_base a + (((b &&& (2147483647 : Int32)) % (5 : Int32)) - (2 : Int32))).toUInt32.toUInt16.toUInt32.toInt32
theorem own_nar (x : Int32) : nar .char (x.toUInt32.toUInt16.toUInt32.toInt32) = x.toUInt32.toUInt16.toUInt32.toInt32 := by simp only [nar, UInt32.toUInt32_toInt32, UInt16.toUInt16_toUInt32]
def QP (a b : Int32) (h0 : Heap) (n0 : Nat) (v : Option Value) (h : Heap) (L : List Loc) : Prop := v = some (.int (own_pick a b)) ∧ Fr n0 L ∧ h = h0
theorem d2_0 : decode method_3_code 0 = .ok (.iload_n 0, 1) := by decide +kernel
theorem d2_1 : decode method_3_code 1 = .ok (.iconst 3, 1) := by decide +kernel
theorem d2_2 : decode method_3_code 2 = .ok (.iand, 1) := by decide +kernel
theorem d2_3 : decode method_3_code 3 = .ok (.istore_n 2, 1) := by decide +kernel
theorem d2_4 : decode method_3_code 4 = .ok (.iload_n 2, 1) := by decide +kernel
theorem d2_5 : decode method_3_code 5 = .ok (.ifCond .ne 9, 3) := by decide +kernel
theorem d2_8 : decode method_3_code 8 = .ok (.bipush 10, 2) := by decide +kernel
theorem d2_10 : decode method_3_code 10 = .ok (.istore_n 3, 1) := by decide +kernel
theorem d2_11 : decode method_3_code 11 = .ok (.goto 30, 3) := by decide +kernel
theorem d2_14 : decode method_3_code 14 = .ok (.iload_n 2, 1) := by decide +kernel
theorem d2_15 : decode method_3_code 15 = .ok (.iconst 1, 1) := by decide +kernel
theorem d2_16 : decode method_3_code 16 = .ok (.if_icmp .ne 9, 3) := by decide +kernel
theorem d2_19 : decode method_3_code 19 = .ok (.bipush 13, 2) := by decide +kernel
theorem d2_21 : decode method_3_code 21 = .ok (.istore_n 3, 1) := by decide +kernel
theorem d2_22 : decode method_3_code 22 = .ok (.goto 19, 3) := by decide +kernel
theorem d2_25 : decode method_3_code 25 = .ok (.iload_n 2, 1) := by decide +kernel
theorem d2_26 : decode method_3_code 26 = .ok (.iconst 2, 1) := by decide +kernel
theorem d2_27 : decode method_3_code 27 = .ok (.if_icmp .ne 10, 3) := by decide +kernel
theorem d2_30 : decode method_3_code 30 = .ok (.sipush 133, 3) := by decide +kernel
theorem d2_33 : decode method_3_code 33 = .ok (.istore_n 3, 1) := by decide +kernel
theorem d2_34 : decode method_3_code 34 = .ok (.goto 7, 3) := by decide +kernel
theorem d2_37 : decode method_3_code 37 = .ok (.sipush 8232, 3) := by decide +kernel
theorem d2_40 : decode method_3_code 40 = .ok (.istore_n 3, 1) := by decide +kernel
theorem d2_41 : decode method_3_code 41 = .ok (.iload_n 1, 1) := by decide +kernel
theorem d2_42 : decode method_3_code 42 = .ok (.ldc 19, 2) := by decide +kernel
theorem d2_44 : decode method_3_code 44 = .ok (.iand, 1) := by decide +kernel
theorem d2_45 : decode method_3_code 45 = .ok (.iconst 5, 1) := by decide +kernel
theorem d2_46 : decode method_3_code 46 = .ok (.irem, 1) := by decide +kernel
theorem d2_47 : decode method_3_code 47 = .ok (.iconst 2, 1) := by decide +kernel
theorem d2_48 : decode method_3_code 48 = .ok (.isub, 1) := by decide +kernel
theorem d2_49 : decode method_3_code 49 = .ok (.istore 4, 2) := by decide +kernel
theorem d2_51 : decode method_3_code 51 = .ok (.iload_n 3, 1) := by decide +kernel
theorem d2_52 : decode method_3_code 52 = .ok (.iload 4, 2) := by decide +kernel
theorem d2_54 : decode method_3_code 54 = .ok (.iadd, 1) := by decide +kernel
theorem d2_55 : decode method_3_code 55 = .ok (.i2c, 1) := by decide +kernel
theorem d2_56 : decode method_3_code 56 = .ok (.ireturn, 1) := by decide +kernel
theorem pn_2 : plainFor (⟨"com/example/olentangy/olentangy/config/LineBreaksIsLineBreakPinLaw", "pick", "(II)C"⟩ : MethodName) = true := by first | exact plainFor_of_name (by first | (simp [plainName, overriddenIn]; done) | decide +kernel) | decide +kernel
theorem ef_2 (m : MethodId) (x0 : Int32) (x1 : Int32) : entryFrame m #[(.int x0), (.int x1)] 5 = mkF m 0 #[.val (.int x0), .val (.int x1), .unset, .unset, .unset] [] := by first | (simp [entryFrame, mkF, argsToLocals, Value.category]; done) | rfl
set_option maxRecDepth 65536 in
set_option maxHeartbeats 40000000 in
theorem rm2 (l : Launch) (Z : State) (a0 : Array Value) (hw : ∀ d ∈ tables_1, d.before a0 Z = true) (ws : List Jvm.Cond) (p1 p2 : Int32) (h0 : Heap) (n0 : Nat) (Z0 : n0 ≤ h0.size)  :
    MetFree l (⟨"com/example/olentangy/olentangy/config/LineBreaksIsLineBreakPinLaw", "pick", "(II)C"⟩ : MethodName) (head1 (Jvm.Cond.code (⟨"com/example/olentangy/olentangy/config/LineBreaksIsLineBreakPinLaw", "pick", "(II)C"⟩ : MethodName) method_3_code 5 (some .char) :: ws) ({ frames := 0, cells := 0, slots := 0, locals := 0 } : Room)) (fun a U => a = #[(.int p1), (.int p2)] ∧ Z.Warmed39 U.vm ∧ U.heap = h0) (fun _ _ _ _ _ => True) (fun _ U o U' => ∃ v L, o = .returned v ∧ QP p1 p2 h0 n0 v U'.heap L ∧ FrameEnd U o U' L ({ frames := 0, cells := 0, slots := 0, locals := 0 } : Room).cells ({ frames := 0, cells := 0, slots := 0, locals := 0 } : Room).slots) := by
  refine MetFree.of_bodySF pn_2 hisR ?_
  intro p e s m args below meth c s₁ Bd hml0 hP hK
  obtain ⟨rfl, hZ, hh⟩ := hP
  have hx := Bd.exec
  have hby := Bd.bytes
  have hlk := Bd.notSynchronized
  have hret := Bd.returns
  have hml : c.maxLocals = 5 := hml0
  have hown : s.vm.findClass "com/example/olentangy/olentangy/config/LineBreaksIsLineBreakPinLaw" = some m.cls := findClass_of_methodNamed Bd.named
  have hnm := (name_of_methodNamed Bd.named Bd.method).1
  have X0 : Stand p l e ({ frames := 0, cells := 0, slots := 0, locals := 0 } : Room) s m #[(.int p1), (.int p2)] below meth c s₁ [] 0 0 := Stand.of_body Bd
  have e0 : s₁.heap = h0 := by rw [← hh, Bd.state]; rfl
  have N0 := Fr.nil n0
  show Go p e below (Pst s (QP p1 p2 h0 n0) ({ frames := 0, cells := 0, slots := 0, locals := 0 } : Room).cells ({ frames := 0, cells := 0, slots := 0, locals := 0 } : Room).slots) (s₁.setTop (entryFrame m #[(.int p1), (.int p2)] 5))
  refine Go.on (fun t k => castTop (ef_2 m p1 p2) k) ?_
  show Go p e below _ (s₁.setTop (mkF m 0 #[.val (.int p1), .val (.int p2), .unset, .unset, .unset] []))
  refine Go.on (fun t k => XS.iloadN X0.here hx rfl (hb hby d2_0) rfl k) ?_
  show Go p e below _ (s₁.setTop (mkF m 1 #[.val (.int p1), .val (.int p2), .unset, .unset, .unset] [(.int p1)]))
  refine Go.on (fun t k => XS.iconst X0.here hx rfl (hb hby d2_1) k) ?_
  show Go p e below _ (s₁.setTop (mkF m 2 #[.val (.int p1), .val (.int p2), .unset, .unset, .unset] [(.int (3 : Int32)), (.int p1)]))
  refine Go.on (fun t k => XS.iand X0.here hx rfl (hb hby d2_2) rfl k) ?_
  show Go p e below _ (s₁.setTop (mkF m 3 #[.val (.int p1), .val (.int p2), .unset, .unset, .unset] [(.int (p1 &&& (3 : Int32)))]))
  refine Go.on (fun t k => XS.istoreN X0.here hx rfl (hb hby d2_3) rfl (l' := #[.val (.int p1), .val (.int p2), .val (.int (p1 &&& (3 : Int32))), .unset, .unset]) rfl k) ?_
  show Go p e below _ (s₁.setTop (mkF m 4 #[.val (.int p1), .val (.int p2), .val (.int (p1 &&& (3 : Int32))), .unset, .unset] []))
  refine Go.on (fun t k => XS.iloadN X0.here hx rfl (hb hby d2_4) rfl k) ?_
  show Go p e below _ (s₁.setTop (mkF m 5 #[.val (.int p1), .val (.int p2), .val (.int (p1 &&& (3 : Int32))), .unset, .unset] [(.int (p1 &&& (3 : Int32)))]))
  by_cases hc5 : (p1 &&& (3 : Int32)) = (0 : Int32)
  · refine Go.on (fun t k => XS.ifNo X0.here hx rfl (hb hby d2_5) rfl ((if0 _ _).trans (teq hc5).2) k) ?_
    show Go p e below _ (s₁.setTop (mkF m 8 #[.val (.int p1), .val (.int p2), .val (.int (p1 &&& (3 : Int32))), .unset, .unset] []))
    refine Go.on (fun t k => XS.bipush X0.here hx rfl (hb hby d2_8) k) ?_
    show Go p e below _ (s₁.setTop (mkF m 10 #[.val (.int p1), .val (.int p2), .val (.int (p1 &&& (3 : Int32))), .unset, .unset] [(.int (10 : Int32))]))
    refine Go.on (fun t k => XS.istoreN X0.here hx rfl (hb hby d2_10) rfl (l' := #[.val (.int p1), .val (.int p2), .val (.int (p1 &&& (3 : Int32))), .val (.int (10 : Int32)), .unset]) rfl k) ?_
    show Go p e below _ (s₁.setTop (mkF m 11 #[.val (.int p1), .val (.int p2), .val (.int (p1 &&& (3 : Int32))), .val (.int (10 : Int32)), .unset] []))
    refine Go.on (fun t k => XS.goto X0.here hx rfl (pc0 := 11) (pc' := 41) rfl (hb hby d2_11) (by decide) (by decide) k) ?_
    show Go p e below _ (s₁.setTop (mkF m 41 #[.val (.int p1), .val (.int p2), .val (.int (p1 &&& (3 : Int32))), .val (.int (10 : Int32)), .unset] []))
    refine Go.on (fun t k => XS.iloadN X0.here hx rfl (hb hby d2_41) rfl k) ?_
    show Go p e below _ (s₁.setTop (mkF m 42 #[.val (.int p1), .val (.int p2), .val (.int (p1 &&& (3 : Int32))), .val (.int (10 : Int32)), .unset] [(.int p2)]))
    refine Go.on (fun t k => X0.ldcInt hx hown (mvT hZ (hw _ (List.mem_of_getElem? (i := 8) rfl))) (g := (mkF m 42 #[.val (.int p1), .val (.int p2), .val (.int (p1 &&& (3 : Int32))), .val (.int (10 : Int32)), .unset] [(.int p2)])) rfl (hb hby d2_42) _ k) ?_
    show Go p e below _ (s₁.setTop (mkF m 44 #[.val (.int p1), .val (.int p2), .val (.int (p1 &&& (3 : Int32))), .val (.int (10 : Int32)), .unset] [(.int (2147483647 : Int32)), (.int p2)]))
    refine Go.on (fun t k => XS.iand X0.here hx rfl (hb hby d2_44) rfl k) ?_
    show Go p e below _ (s₁.setTop (mkF m 45 #[.val (.int p1), .val (.int p2), .val (.int (p1 &&& (3 : Int32))), .val (.int (10 : Int32)), .unset] [(.int (p2 &&& (2147483647 : Int32)))]))
    refine Go.on (fun t k => XS.iconst X0.here hx rfl (hb hby d2_45) k) ?_
    show Go p e below _ (s₁.setTop (mkF m 46 #[.val (.int p1), .val (.int p2), .val (.int (p1 &&& (3 : Int32))), .val (.int (10 : Int32)), .unset] [(.int (5 : Int32)), (.int (p2 &&& (2147483647 : Int32)))]))
    refine Go.on (fun t k => iremM X0 hx rfl (hb hby d2_46) rfl (by decide) k) ?_
    show Go p e below _ (s₁.setTop (mkF m 47 #[.val (.int p1), .val (.int p2), .val (.int (p1 &&& (3 : Int32))), .val (.int (10 : Int32)), .unset] [(.int ((p2 &&& (2147483647 : Int32)) % (5 : Int32)))]))
    refine Go.on (fun t k => XS.iconst X0.here hx rfl (hb hby d2_47) k) ?_
    show Go p e below _ (s₁.setTop (mkF m 48 #[.val (.int p1), .val (.int p2), .val (.int (p1 &&& (3 : Int32))), .val (.int (10 : Int32)), .unset] [(.int (2 : Int32)), (.int ((p2 &&& (2147483647 : Int32)) % (5 : Int32)))]))
    refine Go.on (fun t k => XS.isub X0.here hx rfl (hb hby d2_48) rfl k) ?_
    show Go p e below _ (s₁.setTop (mkF m 49 #[.val (.int p1), .val (.int p2), .val (.int (p1 &&& (3 : Int32))), .val (.int (10 : Int32)), .unset] [(.int (((p2 &&& (2147483647 : Int32)) % (5 : Int32)) - (2 : Int32)))]))
    refine Go.on (fun t k => XS.istore X0.here hx rfl (hb hby d2_49) rfl (l' := #[.val (.int p1), .val (.int p2), .val (.int (p1 &&& (3 : Int32))), .val (.int (10 : Int32)), .val (.int (((p2 &&& (2147483647 : Int32)) % (5 : Int32)) - (2 : Int32)))]) rfl k) ?_
    show Go p e below _ (s₁.setTop (mkF m 51 #[.val (.int p1), .val (.int p2), .val (.int (p1 &&& (3 : Int32))), .val (.int (10 : Int32)), .val (.int (((p2 &&& (2147483647 : Int32)) % (5 : Int32)) - (2 : Int32)))] []))
    refine Go.on (fun t k => XS.iloadN X0.here hx rfl (hb hby d2_51) rfl k) ?_
    show Go p e below _ (s₁.setTop (mkF m 52 #[.val (.int p1), .val (.int p2), .val (.int (p1 &&& (3 : Int32))), .val (.int (10 : Int32)), .val (.int (((p2 &&& (2147483647 : Int32)) % (5 : Int32)) - (2 : Int32)))] [(.int (10 : Int32))]))
    refine Go.on (fun t k => XS.iload X0.here hx rfl (hb hby d2_52) rfl k) ?_
    show Go p e below _ (s₁.setTop (mkF m 54 #[.val (.int p1), .val (.int p2), .val (.int (p1 &&& (3 : Int32))), .val (.int (10 : Int32)), .val (.int (((p2 &&& (2147483647 : Int32)) % (5 : Int32)) - (2 : Int32)))] [(.int (((p2 &&& (2147483647 : Int32)) % (5 : Int32)) - (2 : Int32))), (.int (10 : Int32))]))
    refine Go.on (fun t k => XS.iadd X0.here hx rfl (hb hby d2_54) rfl k) ?_
    show Go p e below _ (s₁.setTop (mkF m 55 #[.val (.int p1), .val (.int p2), .val (.int (p1 &&& (3 : Int32))), .val (.int (10 : Int32)), .val (.int (((p2 &&& (2147483647 : Int32)) % (5 : Int32)) - (2 : Int32)))] [(.int ((10 : Int32) + (((p2 &&& (2147483647 : Int32)) % (5 : Int32)) - (2 : Int32))))]))
    refine Go.on (fun t k => XS.i2c X0.here hx rfl (hb hby d2_55) rfl k) ?_
    show Go p e below _ (s₁.setTop (mkF m 56 #[.val (.int p1), .val (.int p2), .val (.int (p1 &&& (3 : Int32))), .val (.int (10 : Int32)), .val (.int (((p2 &&& (2147483647 : Int32)) % (5 : Int32)) - (2 : Int32)))] [(.int (((10 : Int32) + (((p2 &&& (2147483647 : Int32)) % (5 : Int32)) - (2 : Int32))).toUInt32.toUInt16.toUInt32.toInt32))]))
    have hv : own_pick p1 p2 = nar .char (((10 : Int32) + (((p2 &&& (2147483647 : Int32)) % (5 : Int32)) - (2 : Int32))).toUInt32.toUInt16.toUInt32.toInt32) := by rw [own_nar]; unfold own_pick own_base; rw [if_pos hc5]
    exact Go.retN X0 hx hlk hret (by simp) (hb hby d2_56) (Nat.le_refl _) (Nat.le_refl _) ⟨by rw [hv], N0, e0⟩
  · refine Go.on (fun t k => XS.ifYes X0.here hx rfl (pc0 := 5) (pc' := 14) rfl (hb hby d2_5) rfl ((if0 _ _).trans (feq hc5).2) (by decide) (by decide) k) ?_
    show Go p e below _ (s₁.setTop (mkF m 14 #[.val (.int p1), .val (.int p2), .val (.int (p1 &&& (3 : Int32))), .unset, .unset] []))
    refine Go.on (fun t k => XS.iloadN X0.here hx rfl (hb hby d2_14) rfl k) ?_
    show Go p e below _ (s₁.setTop (mkF m 15 #[.val (.int p1), .val (.int p2), .val (.int (p1 &&& (3 : Int32))), .unset, .unset] [(.int (p1 &&& (3 : Int32)))]))
    refine Go.on (fun t k => XS.iconst X0.here hx rfl (hb hby d2_15) k) ?_
    show Go p e below _ (s₁.setTop (mkF m 16 #[.val (.int p1), .val (.int p2), .val (.int (p1 &&& (3 : Int32))), .unset, .unset] [(.int (1 : Int32)), (.int (p1 &&& (3 : Int32)))]))
    by_cases hc16 : (p1 &&& (3 : Int32)) = (1 : Int32)
    · refine Go.on (fun t k => XS.icmpNo X0.here hx rfl (hb hby d2_16) rfl (teq hc16).2 k) ?_
      show Go p e below _ (s₁.setTop (mkF m 19 #[.val (.int p1), .val (.int p2), .val (.int (p1 &&& (3 : Int32))), .unset, .unset] []))
      refine Go.on (fun t k => XS.bipush X0.here hx rfl (hb hby d2_19) k) ?_
      show Go p e below _ (s₁.setTop (mkF m 21 #[.val (.int p1), .val (.int p2), .val (.int (p1 &&& (3 : Int32))), .unset, .unset] [(.int (13 : Int32))]))
      refine Go.on (fun t k => XS.istoreN X0.here hx rfl (hb hby d2_21) rfl (l' := #[.val (.int p1), .val (.int p2), .val (.int (p1 &&& (3 : Int32))), .val (.int (13 : Int32)), .unset]) rfl k) ?_
      show Go p e below _ (s₁.setTop (mkF m 22 #[.val (.int p1), .val (.int p2), .val (.int (p1 &&& (3 : Int32))), .val (.int (13 : Int32)), .unset] []))
      refine Go.on (fun t k => XS.goto X0.here hx rfl (pc0 := 22) (pc' := 41) rfl (hb hby d2_22) (by decide) (by decide) k) ?_
      show Go p e below _ (s₁.setTop (mkF m 41 #[.val (.int p1), .val (.int p2), .val (.int (p1 &&& (3 : Int32))), .val (.int (13 : Int32)), .unset] []))
      refine Go.on (fun t k => XS.iloadN X0.here hx rfl (hb hby d2_41) rfl k) ?_
      show Go p e below _ (s₁.setTop (mkF m 42 #[.val (.int p1), .val (.int p2), .val (.int (p1 &&& (3 : Int32))), .val (.int (13 : Int32)), .unset] [(.int p2)]))
      refine Go.on (fun t k => X0.ldcInt hx hown (mvT hZ (hw _ (List.mem_of_getElem? (i := 8) rfl))) (g := (mkF m 42 #[.val (.int p1), .val (.int p2), .val (.int (p1 &&& (3 : Int32))), .val (.int (13 : Int32)), .unset] [(.int p2)])) rfl (hb hby d2_42) _ k) ?_
      show Go p e below _ (s₁.setTop (mkF m 44 #[.val (.int p1), .val (.int p2), .val (.int (p1 &&& (3 : Int32))), .val (.int (13 : Int32)), .unset] [(.int (2147483647 : Int32)), (.int p2)]))
      refine Go.on (fun t k => XS.iand X0.here hx rfl (hb hby d2_44) rfl k) ?_
      show Go p e below _ (s₁.setTop (mkF m 45 #[.val (.int p1), .val (.int p2), .val (.int (p1 &&& (3 : Int32))), .val (.int (13 : Int32)), .unset] [(.int (p2 &&& (2147483647 : Int32)))]))
      refine Go.on (fun t k => XS.iconst X0.here hx rfl (hb hby d2_45) k) ?_
      show Go p e below _ (s₁.setTop (mkF m 46 #[.val (.int p1), .val (.int p2), .val (.int (p1 &&& (3 : Int32))), .val (.int (13 : Int32)), .unset] [(.int (5 : Int32)), (.int (p2 &&& (2147483647 : Int32)))]))
      refine Go.on (fun t k => iremM X0 hx rfl (hb hby d2_46) rfl (by decide) k) ?_
      show Go p e below _ (s₁.setTop (mkF m 47 #[.val (.int p1), .val (.int p2), .val (.int (p1 &&& (3 : Int32))), .val (.int (13 : Int32)), .unset] [(.int ((p2 &&& (2147483647 : Int32)) % (5 : Int32)))]))
      refine Go.on (fun t k => XS.iconst X0.here hx rfl (hb hby d2_47) k) ?_
      show Go p e below _ (s₁.setTop (mkF m 48 #[.val (.int p1), .val (.int p2), .val (.int (p1 &&& (3 : Int32))), .val (.int (13 : Int32)), .unset] [(.int (2 : Int32)), (.int ((p2 &&& (2147483647 : Int32)) % (5 : Int32)))]))
      refine Go.on (fun t k => XS.isub X0.here hx rfl (hb hby d2_48) rfl k) ?_
      show Go p e below _ (s₁.setTop (mkF m 49 #[.val (.int p1), .val (.int p2), .val (.int (p1 &&& (3 : Int32))), .val (.int (13 : Int32)), .unset] [(.int (((p2 &&& (2147483647 : Int32)) % (5 : Int32)) - (2 : Int32)))]))
      refine Go.on (fun t k => XS.istore X0.here hx rfl (hb hby d2_49) rfl (l' := #[.val (.int p1), .val (.int p2), .val (.int (p1 &&& (3 : Int32))), .val (.int (13 : Int32)), .val (.int (((p2 &&& (2147483647 : Int32)) % (5 : Int32)) - (2 : Int32)))]) rfl k) ?_
      show Go p e below _ (s₁.setTop (mkF m 51 #[.val (.int p1), .val (.int p2), .val (.int (p1 &&& (3 : Int32))), .val (.int (13 : Int32)), .val (.int (((p2 &&& (2147483647 : Int32)) % (5 : Int32)) - (2 : Int32)))] []))
      refine Go.on (fun t k => XS.iloadN X0.here hx rfl (hb hby d2_51) rfl k) ?_
      show Go p e below _ (s₁.setTop (mkF m 52 #[.val (.int p1), .val (.int p2), .val (.int (p1 &&& (3 : Int32))), .val (.int (13 : Int32)), .val (.int (((p2 &&& (2147483647 : Int32)) % (5 : Int32)) - (2 : Int32)))] [(.int (13 : Int32))]))
      refine Go.on (fun t k => XS.iload X0.here hx rfl (hb hby d2_52) rfl k) ?_
      show Go p e below _ (s₁.setTop (mkF m 54 #[.val (.int p1), .val (.int p2), .val (.int (p1 &&& (3 : Int32))), .val (.int (13 : Int32)), .val (.int (((p2 &&& (2147483647 : Int32)) % (5 : Int32)) - (2 : Int32)))] [(.int (((p2 &&& (2147483647 : Int32)) % (5 : Int32)) - (2 : Int32))), (.int (13 : Int32))]))
      refine Go.on (fun t k => XS.iadd X0.here hx rfl (hb hby d2_54) rfl k) ?_
      show Go p e below _ (s₁.setTop (mkF m 55 #[.val (.int p1), .val (.int p2), .val (.int (p1 &&& (3 : Int32))), .val (.int (13 : Int32)), .val (.int (((p2 &&& (2147483647 : Int32)) % (5 : Int32)) - (2 : Int32)))] [(.int ((13 : Int32) + (((p2 &&& (2147483647 : Int32)) % (5 : Int32)) - (2 : Int32))))]))
      refine Go.on (fun t k => XS.i2c X0.here hx rfl (hb hby d2_55) rfl k) ?_
      show Go p e below _ (s₁.setTop (mkF m 56 #[.val (.int p1), .val (.int p2), .val (.int (p1 &&& (3 : Int32))), .val (.int (13 : Int32)), .val (.int (((p2 &&& (2147483647 : Int32)) % (5 : Int32)) - (2 : Int32)))] [(.int (((13 : Int32) + (((p2 &&& (2147483647 : Int32)) % (5 : Int32)) - (2 : Int32))).toUInt32.toUInt16.toUInt32.toInt32))]))
      have hv : own_pick p1 p2 = nar .char (((13 : Int32) + (((p2 &&& (2147483647 : Int32)) % (5 : Int32)) - (2 : Int32))).toUInt32.toUInt16.toUInt32.toInt32) := by rw [own_nar]; unfold own_pick own_base; rw [if_neg hc5, if_pos hc16]
      exact Go.retN X0 hx hlk hret (by simp) (hb hby d2_56) (Nat.le_refl _) (Nat.le_refl _) ⟨by rw [hv], N0, e0⟩
    · refine Go.on (fun t k => XS.icmpYes X0.here hx rfl (pc0 := 16) (pc' := 25) rfl (hb hby d2_16) rfl (feq hc16).2 (by decide) (by decide) k) ?_
      show Go p e below _ (s₁.setTop (mkF m 25 #[.val (.int p1), .val (.int p2), .val (.int (p1 &&& (3 : Int32))), .unset, .unset] []))
      refine Go.on (fun t k => XS.iloadN X0.here hx rfl (hb hby d2_25) rfl k) ?_
      show Go p e below _ (s₁.setTop (mkF m 26 #[.val (.int p1), .val (.int p2), .val (.int (p1 &&& (3 : Int32))), .unset, .unset] [(.int (p1 &&& (3 : Int32)))]))
      refine Go.on (fun t k => XS.iconst X0.here hx rfl (hb hby d2_26) k) ?_
      show Go p e below _ (s₁.setTop (mkF m 27 #[.val (.int p1), .val (.int p2), .val (.int (p1 &&& (3 : Int32))), .unset, .unset] [(.int (2 : Int32)), (.int (p1 &&& (3 : Int32)))]))
      by_cases hc27 : (p1 &&& (3 : Int32)) = (2 : Int32)
      · refine Go.on (fun t k => XS.icmpNo X0.here hx rfl (hb hby d2_27) rfl (teq hc27).2 k) ?_
        show Go p e below _ (s₁.setTop (mkF m 30 #[.val (.int p1), .val (.int p2), .val (.int (p1 &&& (3 : Int32))), .unset, .unset] []))
        refine Go.on (fun t k => XS.sipush X0.here hx rfl (hb hby d2_30) k) ?_
        show Go p e below _ (s₁.setTop (mkF m 33 #[.val (.int p1), .val (.int p2), .val (.int (p1 &&& (3 : Int32))), .unset, .unset] [(.int (133 : Int32))]))
        refine Go.on (fun t k => XS.istoreN X0.here hx rfl (hb hby d2_33) rfl (l' := #[.val (.int p1), .val (.int p2), .val (.int (p1 &&& (3 : Int32))), .val (.int (133 : Int32)), .unset]) rfl k) ?_
        show Go p e below _ (s₁.setTop (mkF m 34 #[.val (.int p1), .val (.int p2), .val (.int (p1 &&& (3 : Int32))), .val (.int (133 : Int32)), .unset] []))
        refine Go.on (fun t k => XS.goto X0.here hx rfl (pc0 := 34) (pc' := 41) rfl (hb hby d2_34) (by decide) (by decide) k) ?_
        show Go p e below _ (s₁.setTop (mkF m 41 #[.val (.int p1), .val (.int p2), .val (.int (p1 &&& (3 : Int32))), .val (.int (133 : Int32)), .unset] []))
        refine Go.on (fun t k => XS.iloadN X0.here hx rfl (hb hby d2_41) rfl k) ?_
        show Go p e below _ (s₁.setTop (mkF m 42 #[.val (.int p1), .val (.int p2), .val (.int (p1 &&& (3 : Int32))), .val (.int (133 : Int32)), .unset] [(.int p2)]))
        refine Go.on (fun t k => X0.ldcInt hx hown (mvT hZ (hw _ (List.mem_of_getElem? (i := 8) rfl))) (g := (mkF m 42 #[.val (.int p1), .val (.int p2), .val (.int (p1 &&& (3 : Int32))), .val (.int (133 : Int32)), .unset] [(.int p2)])) rfl (hb hby d2_42) _ k) ?_
        show Go p e below _ (s₁.setTop (mkF m 44 #[.val (.int p1), .val (.int p2), .val (.int (p1 &&& (3 : Int32))), .val (.int (133 : Int32)), .unset] [(.int (2147483647 : Int32)), (.int p2)]))
        refine Go.on (fun t k => XS.iand X0.here hx rfl (hb hby d2_44) rfl k) ?_
        show Go p e below _ (s₁.setTop (mkF m 45 #[.val (.int p1), .val (.int p2), .val (.int (p1 &&& (3 : Int32))), .val (.int (133 : Int32)), .unset] [(.int (p2 &&& (2147483647 : Int32)))]))
        refine Go.on (fun t k => XS.iconst X0.here hx rfl (hb hby d2_45) k) ?_
        show Go p e below _ (s₁.setTop (mkF m 46 #[.val (.int p1), .val (.int p2), .val (.int (p1 &&& (3 : Int32))), .val (.int (133 : Int32)), .unset] [(.int (5 : Int32)), (.int (p2 &&& (2147483647 : Int32)))]))
        refine Go.on (fun t k => iremM X0 hx rfl (hb hby d2_46) rfl (by decide) k) ?_
        show Go p e below _ (s₁.setTop (mkF m 47 #[.val (.int p1), .val (.int p2), .val (.int (p1 &&& (3 : Int32))), .val (.int (133 : Int32)), .unset] [(.int ((p2 &&& (2147483647 : Int32)) % (5 : Int32)))]))
        refine Go.on (fun t k => XS.iconst X0.here hx rfl (hb hby d2_47) k) ?_
        show Go p e below _ (s₁.setTop (mkF m 48 #[.val (.int p1), .val (.int p2), .val (.int (p1 &&& (3 : Int32))), .val (.int (133 : Int32)), .unset] [(.int (2 : Int32)), (.int ((p2 &&& (2147483647 : Int32)) % (5 : Int32)))]))
        refine Go.on (fun t k => XS.isub X0.here hx rfl (hb hby d2_48) rfl k) ?_
        show Go p e below _ (s₁.setTop (mkF m 49 #[.val (.int p1), .val (.int p2), .val (.int (p1 &&& (3 : Int32))), .val (.int (133 : Int32)), .unset] [(.int (((p2 &&& (2147483647 : Int32)) % (5 : Int32)) - (2 : Int32)))]))
        refine Go.on (fun t k => XS.istore X0.here hx rfl (hb hby d2_49) rfl (l' := #[.val (.int p1), .val (.int p2), .val (.int (p1 &&& (3 : Int32))), .val (.int (133 : Int32)), .val (.int (((p2 &&& (2147483647 : Int32)) % (5 : Int32)) - (2 : Int32)))]) rfl k) ?_
        show Go p e below _ (s₁.setTop (mkF m 51 #[.val (.int p1), .val (.int p2), .val (.int (p1 &&& (3 : Int32))), .val (.int (133 : Int32)), .val (.int (((p2 &&& (2147483647 : Int32)) % (5 : Int32)) - (2 : Int32)))] []))
        refine Go.on (fun t k => XS.iloadN X0.here hx rfl (hb hby d2_51) rfl k) ?_
        show Go p e below _ (s₁.setTop (mkF m 52 #[.val (.int p1), .val (.int p2), .val (.int (p1 &&& (3 : Int32))), .val (.int (133 : Int32)), .val (.int (((p2 &&& (2147483647 : Int32)) % (5 : Int32)) - (2 : Int32)))] [(.int (133 : Int32))]))
        refine Go.on (fun t k => XS.iload X0.here hx rfl (hb hby d2_52) rfl k) ?_
        show Go p e below _ (s₁.setTop (mkF m 54 #[.val (.int p1), .val (.int p2), .val (.int (p1 &&& (3 : Int32))), .val (.int (133 : Int32)), .val (.int (((p2 &&& (2147483647 : Int32)) % (5 : Int32)) - (2 : Int32)))] [(.int (((p2 &&& (2147483647 : Int32)) % (5 : Int32)) - (2 : Int32))), (.int (133 : Int32))]))
        refine Go.on (fun t k => XS.iadd X0.here hx rfl (hb hby d2_54) rfl k) ?_
        show Go p e below _ (s₁.setTop (mkF m 55 #[.val (.int p1), .val (.int p2), .val (.int (p1 &&& (3 : Int32))), .val (.int (133 : Int32)), .val (.int (((p2 &&& (2147483647 : Int32)) % (5 : Int32)) - (2 : Int32)))] [(.int ((133 : Int32) + (((p2 &&& (2147483647 : Int32)) % (5 : Int32)) - (2 : Int32))))]))
        refine Go.on (fun t k => XS.i2c X0.here hx rfl (hb hby d2_55) rfl k) ?_
        show Go p e below _ (s₁.setTop (mkF m 56 #[.val (.int p1), .val (.int p2), .val (.int (p1 &&& (3 : Int32))), .val (.int (133 : Int32)), .val (.int (((p2 &&& (2147483647 : Int32)) % (5 : Int32)) - (2 : Int32)))] [(.int (((133 : Int32) + (((p2 &&& (2147483647 : Int32)) % (5 : Int32)) - (2 : Int32))).toUInt32.toUInt16.toUInt32.toInt32))]))
        have hv : own_pick p1 p2 = nar .char (((133 : Int32) + (((p2 &&& (2147483647 : Int32)) % (5 : Int32)) - (2 : Int32))).toUInt32.toUInt16.toUInt32.toInt32) := by rw [own_nar]; unfold own_pick own_base; rw [if_neg hc5, if_neg hc16, if_pos hc27]
        exact Go.retN X0 hx hlk hret (by simp) (hb hby d2_56) (Nat.le_refl _) (Nat.le_refl _) ⟨by rw [hv], N0, e0⟩
      · refine Go.on (fun t k => XS.icmpYes X0.here hx rfl (pc0 := 27) (pc' := 37) rfl (hb hby d2_27) rfl (feq hc27).2 (by decide) (by decide) k) ?_
        show Go p e below _ (s₁.setTop (mkF m 37 #[.val (.int p1), .val (.int p2), .val (.int (p1 &&& (3 : Int32))), .unset, .unset] []))
        refine Go.on (fun t k => XS.sipush X0.here hx rfl (hb hby d2_37) k) ?_
        show Go p e below _ (s₁.setTop (mkF m 40 #[.val (.int p1), .val (.int p2), .val (.int (p1 &&& (3 : Int32))), .unset, .unset] [(.int (8232 : Int32))]))
        refine Go.on (fun t k => XS.istoreN X0.here hx rfl (hb hby d2_40) rfl (l' := #[.val (.int p1), .val (.int p2), .val (.int (p1 &&& (3 : Int32))), .val (.int (8232 : Int32)), .unset]) rfl k) ?_
        show Go p e below _ (s₁.setTop (mkF m 41 #[.val (.int p1), .val (.int p2), .val (.int (p1 &&& (3 : Int32))), .val (.int (8232 : Int32)), .unset] []))
        refine Go.on (fun t k => XS.iloadN X0.here hx rfl (hb hby d2_41) rfl k) ?_
        show Go p e below _ (s₁.setTop (mkF m 42 #[.val (.int p1), .val (.int p2), .val (.int (p1 &&& (3 : Int32))), .val (.int (8232 : Int32)), .unset] [(.int p2)]))
        refine Go.on (fun t k => X0.ldcInt hx hown (mvT hZ (hw _ (List.mem_of_getElem? (i := 8) rfl))) (g := (mkF m 42 #[.val (.int p1), .val (.int p2), .val (.int (p1 &&& (3 : Int32))), .val (.int (8232 : Int32)), .unset] [(.int p2)])) rfl (hb hby d2_42) _ k) ?_
        show Go p e below _ (s₁.setTop (mkF m 44 #[.val (.int p1), .val (.int p2), .val (.int (p1 &&& (3 : Int32))), .val (.int (8232 : Int32)), .unset] [(.int (2147483647 : Int32)), (.int p2)]))
        refine Go.on (fun t k => XS.iand X0.here hx rfl (hb hby d2_44) rfl k) ?_
        show Go p e below _ (s₁.setTop (mkF m 45 #[.val (.int p1), .val (.int p2), .val (.int (p1 &&& (3 : Int32))), .val (.int (8232 : Int32)), .unset] [(.int (p2 &&& (2147483647 : Int32)))]))
        refine Go.on (fun t k => XS.iconst X0.here hx rfl (hb hby d2_45) k) ?_
        show Go p e below _ (s₁.setTop (mkF m 46 #[.val (.int p1), .val (.int p2), .val (.int (p1 &&& (3 : Int32))), .val (.int (8232 : Int32)), .unset] [(.int (5 : Int32)), (.int (p2 &&& (2147483647 : Int32)))]))
        refine Go.on (fun t k => iremM X0 hx rfl (hb hby d2_46) rfl (by decide) k) ?_
        show Go p e below _ (s₁.setTop (mkF m 47 #[.val (.int p1), .val (.int p2), .val (.int (p1 &&& (3 : Int32))), .val (.int (8232 : Int32)), .unset] [(.int ((p2 &&& (2147483647 : Int32)) % (5 : Int32)))]))
        refine Go.on (fun t k => XS.iconst X0.here hx rfl (hb hby d2_47) k) ?_
        show Go p e below _ (s₁.setTop (mkF m 48 #[.val (.int p1), .val (.int p2), .val (.int (p1 &&& (3 : Int32))), .val (.int (8232 : Int32)), .unset] [(.int (2 : Int32)), (.int ((p2 &&& (2147483647 : Int32)) % (5 : Int32)))]))
        refine Go.on (fun t k => XS.isub X0.here hx rfl (hb hby d2_48) rfl k) ?_
        show Go p e below _ (s₁.setTop (mkF m 49 #[.val (.int p1), .val (.int p2), .val (.int (p1 &&& (3 : Int32))), .val (.int (8232 : Int32)), .unset] [(.int (((p2 &&& (2147483647 : Int32)) % (5 : Int32)) - (2 : Int32)))]))
        refine Go.on (fun t k => XS.istore X0.here hx rfl (hb hby d2_49) rfl (l' := #[.val (.int p1), .val (.int p2), .val (.int (p1 &&& (3 : Int32))), .val (.int (8232 : Int32)), .val (.int (((p2 &&& (2147483647 : Int32)) % (5 : Int32)) - (2 : Int32)))]) rfl k) ?_
        show Go p e below _ (s₁.setTop (mkF m 51 #[.val (.int p1), .val (.int p2), .val (.int (p1 &&& (3 : Int32))), .val (.int (8232 : Int32)), .val (.int (((p2 &&& (2147483647 : Int32)) % (5 : Int32)) - (2 : Int32)))] []))
        refine Go.on (fun t k => XS.iloadN X0.here hx rfl (hb hby d2_51) rfl k) ?_
        show Go p e below _ (s₁.setTop (mkF m 52 #[.val (.int p1), .val (.int p2), .val (.int (p1 &&& (3 : Int32))), .val (.int (8232 : Int32)), .val (.int (((p2 &&& (2147483647 : Int32)) % (5 : Int32)) - (2 : Int32)))] [(.int (8232 : Int32))]))
        refine Go.on (fun t k => XS.iload X0.here hx rfl (hb hby d2_52) rfl k) ?_
        show Go p e below _ (s₁.setTop (mkF m 54 #[.val (.int p1), .val (.int p2), .val (.int (p1 &&& (3 : Int32))), .val (.int (8232 : Int32)), .val (.int (((p2 &&& (2147483647 : Int32)) % (5 : Int32)) - (2 : Int32)))] [(.int (((p2 &&& (2147483647 : Int32)) % (5 : Int32)) - (2 : Int32))), (.int (8232 : Int32))]))
        refine Go.on (fun t k => XS.iadd X0.here hx rfl (hb hby d2_54) rfl k) ?_
        show Go p e below _ (s₁.setTop (mkF m 55 #[.val (.int p1), .val (.int p2), .val (.int (p1 &&& (3 : Int32))), .val (.int (8232 : Int32)), .val (.int (((p2 &&& (2147483647 : Int32)) % (5 : Int32)) - (2 : Int32)))] [(.int ((8232 : Int32) + (((p2 &&& (2147483647 : Int32)) % (5 : Int32)) - (2 : Int32))))]))
        refine Go.on (fun t k => XS.i2c X0.here hx rfl (hb hby d2_55) rfl k) ?_
        show Go p e below _ (s₁.setTop (mkF m 56 #[.val (.int p1), .val (.int p2), .val (.int (p1 &&& (3 : Int32))), .val (.int (8232 : Int32)), .val (.int (((p2 &&& (2147483647 : Int32)) % (5 : Int32)) - (2 : Int32)))] [(.int (((8232 : Int32) + (((p2 &&& (2147483647 : Int32)) % (5 : Int32)) - (2 : Int32))).toUInt32.toUInt16.toUInt32.toInt32))]))
        have hv : own_pick p1 p2 = nar .char (((8232 : Int32) + (((p2 &&& (2147483647 : Int32)) % (5 : Int32)) - (2 : Int32))).toUInt32.toUInt16.toUInt32.toInt32) := by rw [own_nar]; unfold own_pick own_base; rw [if_neg hc5, if_neg hc16, if_neg hc27]
        exact Go.retN X0 hx hlk hret (by simp) (hb hby d2_56) (Nat.le_refl _) (Nat.le_refl _) ⟨by rw [hv], N0, e0⟩
def own_brk (c x : Int32) : Int32 := if c = (13 : Int32) then 1 else if c = (10 : Int32) then 1 else if x = (0 : Int32) then 0 else if c = (133 : Int32) then 1 else if c = (8232 : Int32) then 1 else 0
def QB (a b : Int32) (h0 : Heap) (n0 : Nat) (v : Option Value) (h : Heap) (L : List Loc) : Prop := v = some (.int (own_brk a b)) ∧ Fr n0 L ∧ h = h0
theorem d1_0 : decode prog_8_method_4_code 0 = .ok (.iload_n 0, 1) := by decide +kernel
theorem d1_1 : decode prog_8_method_4_code 1 = .ok (.bipush 13, 2) := by decide +kernel
theorem d1_3 : decode prog_8_method_4_code 3 = .ok (.if_icmp .eq 27, 3) := by decide +kernel
theorem d1_6 : decode prog_8_method_4_code 6 = .ok (.iload_n 0, 1) := by decide +kernel
theorem d1_7 : decode prog_8_method_4_code 7 = .ok (.bipush 10, 2) := by decide +kernel
theorem d1_9 : decode prog_8_method_4_code 9 = .ok (.if_icmp .eq 21, 3) := by decide +kernel
theorem d1_12 : decode prog_8_method_4_code 12 = .ok (.iload_n 1, 1) := by decide +kernel
theorem d1_13 : decode prog_8_method_4_code 13 = .ok (.ifCond .eq 21, 3) := by decide +kernel
theorem d1_16 : decode prog_8_method_4_code 16 = .ok (.iload_n 0, 1) := by decide +kernel
theorem d1_17 : decode prog_8_method_4_code 17 = .ok (.sipush 133, 3) := by decide +kernel
theorem d1_20 : decode prog_8_method_4_code 20 = .ok (.if_icmp .eq 10, 3) := by decide +kernel
theorem d1_23 : decode prog_8_method_4_code 23 = .ok (.iload_n 0, 1) := by decide +kernel
theorem d1_24 : decode prog_8_method_4_code 24 = .ok (.sipush 8232, 3) := by decide +kernel
theorem d1_27 : decode prog_8_method_4_code 27 = .ok (.if_icmp .ne 7, 3) := by decide +kernel
theorem d1_30 : decode prog_8_method_4_code 30 = .ok (.iconst 1, 1) := by decide +kernel
theorem d1_31 : decode prog_8_method_4_code 31 = .ok (.goto 4, 3) := by decide +kernel
theorem d1_34 : decode prog_8_method_4_code 34 = .ok (.iconst 0, 1) := by decide +kernel
theorem d1_35 : decode prog_8_method_4_code 35 = .ok (.ireturn, 1) := by decide +kernel
theorem pn_1 : plainFor (⟨"com/example/olentangy/olentangy/config/LineBreaks", "isLineBreak", "(CZ)Z"⟩ : MethodName) = true := by first | exact plainFor_of_name (by first | (simp [plainName, overriddenIn]; done) | decide +kernel) | decide +kernel
theorem ef_1 (m : MethodId) (x0 : Int32) (x1 : Int32) : entryFrame m #[(.int x0), (.int x1)] 2 = mkF m 0 #[.val (.int x0), .val (.int x1)] [] := by first | (simp [entryFrame, mkF, argsToLocals, Value.category]; done) | rfl
set_option maxRecDepth 65536 in
set_option maxHeartbeats 40000000 in
theorem rm1 (l : Launch) (Z : State) (a0 : Array Value) (hw : ∀ d ∈ tables_1, d.before a0 Z = true) (ws : List Jvm.Cond) (p1 p2 : Int32) (h0 : Heap) (n0 : Nat) (Z0 : n0 ≤ h0.size)  :
    MetFree l (⟨"com/example/olentangy/olentangy/config/LineBreaks", "isLineBreak", "(CZ)Z"⟩ : MethodName) (head1 (Jvm.Cond.code (⟨"com/example/olentangy/olentangy/config/LineBreaks", "isLineBreak", "(CZ)Z"⟩ : MethodName) prog_8_method_4_code 2 (some .boolean) :: ws) ({ frames := 0, cells := 0, slots := 0, locals := 0 } : Room)) (fun a U => a = #[(.int p1), (.int p2)] ∧ Z.Warmed39 U.vm ∧ U.heap = h0) (fun _ _ _ _ _ => True) (fun _ U o U' => ∃ v L, o = .returned v ∧ QB p1 p2 h0 n0 v U'.heap L ∧ FrameEnd U o U' L ({ frames := 0, cells := 0, slots := 0, locals := 0 } : Room).cells ({ frames := 0, cells := 0, slots := 0, locals := 0 } : Room).slots) := by
  refine MetFree.of_bodySF pn_1 hisR ?_
  intro p e s m args below meth c s₁ Bd hml0 hP hK
  obtain ⟨rfl, hZ, hh⟩ := hP
  have hx := Bd.exec
  have hby := Bd.bytes
  have hlk := Bd.notSynchronized
  have hret := Bd.returns
  have hml : c.maxLocals = 2 := hml0
  have hown : s.vm.findClass "com/example/olentangy/olentangy/config/LineBreaks" = some m.cls := findClass_of_methodNamed Bd.named
  have hnm := (name_of_methodNamed Bd.named Bd.method).1
  have X0 : Stand p l e ({ frames := 0, cells := 0, slots := 0, locals := 0 } : Room) s m #[(.int p1), (.int p2)] below meth c s₁ [] 0 0 := Stand.of_body Bd
  have e0 : s₁.heap = h0 := by rw [← hh, Bd.state]; rfl
  have N0 := Fr.nil n0
  show Go p e below (Pst s (QB p1 p2 h0 n0) ({ frames := 0, cells := 0, slots := 0, locals := 0 } : Room).cells ({ frames := 0, cells := 0, slots := 0, locals := 0 } : Room).slots) (s₁.setTop (entryFrame m #[(.int p1), (.int p2)] 2))
  refine Go.on (fun t k => castTop (ef_1 m p1 p2) k) ?_
  show Go p e below _ (s₁.setTop (mkF m 0 #[.val (.int p1), .val (.int p2)] []))
  refine Go.on (fun t k => XS.iloadN X0.here hx rfl (hb hby d1_0) rfl k) ?_
  show Go p e below _ (s₁.setTop (mkF m 1 #[.val (.int p1), .val (.int p2)] [(.int p1)]))
  refine Go.on (fun t k => XS.bipush X0.here hx rfl (hb hby d1_1) k) ?_
  show Go p e below _ (s₁.setTop (mkF m 3 #[.val (.int p1), .val (.int p2)] [(.int (13 : Int32)), (.int p1)]))
  by_cases hc3 : p1 = (13 : Int32)
  · refine Go.on (fun t k => XS.icmpYes X0.here hx rfl (pc0 := 3) (pc' := 30) rfl (hb hby d1_3) rfl (teq hc3).1 (by decide) (by decide) k) ?_
    show Go p e below _ (s₁.setTop (mkF m 30 #[.val (.int p1), .val (.int p2)] []))
    refine Go.on (fun t k => XS.iconst X0.here hx rfl (hb hby d1_30) k) ?_
    show Go p e below _ (s₁.setTop (mkF m 31 #[.val (.int p1), .val (.int p2)] [(.int (1 : Int32))]))
    refine Go.on (fun t k => XS.goto X0.here hx rfl (pc0 := 31) (pc' := 35) rfl (hb hby d1_31) (by decide) (by decide) k) ?_
    show Go p e below _ (s₁.setTop (mkF m 35 #[.val (.int p1), .val (.int p2)] [(.int (1 : Int32))]))
    have hv : own_brk p1 p2 = nar .boolean (1 : Int32) := by simp only [own_brk, hc3, if_true, if_false]; decide
    exact Go.retN X0 hx hlk hret (by simp) (hb hby d1_35) (Nat.le_refl _) (Nat.le_refl _) ⟨by rw [hv], N0, e0⟩
  · refine Go.on (fun t k => XS.icmpNo X0.here hx rfl (hb hby d1_3) rfl (feq hc3).1 k) ?_
    show Go p e below _ (s₁.setTop (mkF m 6 #[.val (.int p1), .val (.int p2)] []))
    refine Go.on (fun t k => XS.iloadN X0.here hx rfl (hb hby d1_6) rfl k) ?_
    show Go p e below _ (s₁.setTop (mkF m 7 #[.val (.int p1), .val (.int p2)] [(.int p1)]))
    refine Go.on (fun t k => XS.bipush X0.here hx rfl (hb hby d1_7) k) ?_
    show Go p e below _ (s₁.setTop (mkF m 9 #[.val (.int p1), .val (.int p2)] [(.int (10 : Int32)), (.int p1)]))
    by_cases hc9 : p1 = (10 : Int32)
    · refine Go.on (fun t k => XS.icmpYes X0.here hx rfl (pc0 := 9) (pc' := 30) rfl (hb hby d1_9) rfl (teq hc9).1 (by decide) (by decide) k) ?_
      show Go p e below _ (s₁.setTop (mkF m 30 #[.val (.int p1), .val (.int p2)] []))
      refine Go.on (fun t k => XS.iconst X0.here hx rfl (hb hby d1_30) k) ?_
      show Go p e below _ (s₁.setTop (mkF m 31 #[.val (.int p1), .val (.int p2)] [(.int (1 : Int32))]))
      refine Go.on (fun t k => XS.goto X0.here hx rfl (pc0 := 31) (pc' := 35) rfl (hb hby d1_31) (by decide) (by decide) k) ?_
      show Go p e below _ (s₁.setTop (mkF m 35 #[.val (.int p1), .val (.int p2)] [(.int (1 : Int32))]))
      have hv : own_brk p1 p2 = nar .boolean (1 : Int32) := by simp only [own_brk, hc3, hc9, if_true, if_false]; decide
      exact Go.retN X0 hx hlk hret (by simp) (hb hby d1_35) (Nat.le_refl _) (Nat.le_refl _) ⟨by rw [hv], N0, e0⟩
    · refine Go.on (fun t k => XS.icmpNo X0.here hx rfl (hb hby d1_9) rfl (feq hc9).1 k) ?_
      show Go p e below _ (s₁.setTop (mkF m 12 #[.val (.int p1), .val (.int p2)] []))
      refine Go.on (fun t k => XS.iloadN X0.here hx rfl (hb hby d1_12) rfl k) ?_
      show Go p e below _ (s₁.setTop (mkF m 13 #[.val (.int p1), .val (.int p2)] [(.int p2)]))
      by_cases hc13 : p2 = (0 : Int32)
      · refine Go.on (fun t k => XS.ifYes X0.here hx rfl (pc0 := 13) (pc' := 34) rfl (hb hby d1_13) rfl ((if0 _ _).trans (teq hc13).1) (by decide) (by decide) k) ?_
        show Go p e below _ (s₁.setTop (mkF m 34 #[.val (.int p1), .val (.int p2)] []))
        refine Go.on (fun t k => XS.iconst X0.here hx rfl (hb hby d1_34) k) ?_
        show Go p e below _ (s₁.setTop (mkF m 35 #[.val (.int p1), .val (.int p2)] [(.int (0 : Int32))]))
        have hv : own_brk p1 p2 = nar .boolean (0 : Int32) := by simp only [own_brk, hc3, hc9, hc13, if_true, if_false]; decide
        exact Go.retN X0 hx hlk hret (by simp) (hb hby d1_35) (Nat.le_refl _) (Nat.le_refl _) ⟨by rw [hv], N0, e0⟩
      · refine Go.on (fun t k => XS.ifNo X0.here hx rfl (hb hby d1_13) rfl ((if0 _ _).trans (feq hc13).1) k) ?_
        show Go p e below _ (s₁.setTop (mkF m 16 #[.val (.int p1), .val (.int p2)] []))
        refine Go.on (fun t k => XS.iloadN X0.here hx rfl (hb hby d1_16) rfl k) ?_
        show Go p e below _ (s₁.setTop (mkF m 17 #[.val (.int p1), .val (.int p2)] [(.int p1)]))
        refine Go.on (fun t k => XS.sipush X0.here hx rfl (hb hby d1_17) k) ?_
        show Go p e below _ (s₁.setTop (mkF m 20 #[.val (.int p1), .val (.int p2)] [(.int (133 : Int32)), (.int p1)]))
        by_cases hc20 : p1 = (133 : Int32)
        · refine Go.on (fun t k => XS.icmpYes X0.here hx rfl (pc0 := 20) (pc' := 30) rfl (hb hby d1_20) rfl (teq hc20).1 (by decide) (by decide) k) ?_
          show Go p e below _ (s₁.setTop (mkF m 30 #[.val (.int p1), .val (.int p2)] []))
          refine Go.on (fun t k => XS.iconst X0.here hx rfl (hb hby d1_30) k) ?_
          show Go p e below _ (s₁.setTop (mkF m 31 #[.val (.int p1), .val (.int p2)] [(.int (1 : Int32))]))
          refine Go.on (fun t k => XS.goto X0.here hx rfl (pc0 := 31) (pc' := 35) rfl (hb hby d1_31) (by decide) (by decide) k) ?_
          show Go p e below _ (s₁.setTop (mkF m 35 #[.val (.int p1), .val (.int p2)] [(.int (1 : Int32))]))
          have hv : own_brk p1 p2 = nar .boolean (1 : Int32) := by simp only [own_brk, hc3, hc9, hc13, hc20, if_true, if_false]; decide
          exact Go.retN X0 hx hlk hret (by simp) (hb hby d1_35) (Nat.le_refl _) (Nat.le_refl _) ⟨by rw [hv], N0, e0⟩
        · refine Go.on (fun t k => XS.icmpNo X0.here hx rfl (hb hby d1_20) rfl (feq hc20).1 k) ?_
          show Go p e below _ (s₁.setTop (mkF m 23 #[.val (.int p1), .val (.int p2)] []))
          refine Go.on (fun t k => XS.iloadN X0.here hx rfl (hb hby d1_23) rfl k) ?_
          show Go p e below _ (s₁.setTop (mkF m 24 #[.val (.int p1), .val (.int p2)] [(.int p1)]))
          refine Go.on (fun t k => XS.sipush X0.here hx rfl (hb hby d1_24) k) ?_
          show Go p e below _ (s₁.setTop (mkF m 27 #[.val (.int p1), .val (.int p2)] [(.int (8232 : Int32)), (.int p1)]))
          by_cases hc27 : p1 = (8232 : Int32)
          · refine Go.on (fun t k => XS.icmpNo X0.here hx rfl (hb hby d1_27) rfl (teq hc27).2 k) ?_
            show Go p e below _ (s₁.setTop (mkF m 30 #[.val (.int p1), .val (.int p2)] []))
            refine Go.on (fun t k => XS.iconst X0.here hx rfl (hb hby d1_30) k) ?_
            show Go p e below _ (s₁.setTop (mkF m 31 #[.val (.int p1), .val (.int p2)] [(.int (1 : Int32))]))
            refine Go.on (fun t k => XS.goto X0.here hx rfl (pc0 := 31) (pc' := 35) rfl (hb hby d1_31) (by decide) (by decide) k) ?_
            show Go p e below _ (s₁.setTop (mkF m 35 #[.val (.int p1), .val (.int p2)] [(.int (1 : Int32))]))
            have hv : own_brk p1 p2 = nar .boolean (1 : Int32) := by simp only [own_brk, hc3, hc9, hc13, hc20, hc27, if_true, if_false]; decide
            exact Go.retN X0 hx hlk hret (by simp) (hb hby d1_35) (Nat.le_refl _) (Nat.le_refl _) ⟨by rw [hv], N0, e0⟩
          · refine Go.on (fun t k => XS.icmpYes X0.here hx rfl (pc0 := 27) (pc' := 34) rfl (hb hby d1_27) rfl (feq hc27).2 (by decide) (by decide) k) ?_
            show Go p e below _ (s₁.setTop (mkF m 34 #[.val (.int p1), .val (.int p2)] []))
            refine Go.on (fun t k => XS.iconst X0.here hx rfl (hb hby d1_34) k) ?_
            show Go p e below _ (s₁.setTop (mkF m 35 #[.val (.int p1), .val (.int p2)] [(.int (0 : Int32))]))
            have hv : own_brk p1 p2 = nar .boolean (0 : Int32) := by simp only [own_brk, hc3, hc9, hc13, hc20, hc27, if_true, if_false]; decide
            exact Go.retN X0 hx hlk hret (by simp) (hb hby d1_35) (Nat.le_refl _) (Nat.le_refl _) ⟨by rw [hv], N0, e0⟩
def Q0 (n0 : Nat) (v : Option Value) (h : Heap) (L : List Loc) : Prop := v = some (.int 1) ∧ Fr n0 L
theorem pn_0 : plainFor x = true := by first | exact plainFor_of_name (by first | (simp [plainName, overriddenIn]; done) | decide +kernel) | decide +kernel
theorem ef_0 (m : MethodId) (x0 : Int32) (x1 : Int32) (x2 : Int32) : entryFrame m #[(.int x0), (.int x1), (.int x2)] maxLocals = mkF m 0 #[.val (.int x0), .val (.int x1), .val (.int x2), .unset, .unset, .unset, .unset, .unset] [] := by first | (simp [entryFrame, mkF, argsToLocals, Value.category, maxLocals]; done) | rfl
set_option maxRecDepth 65536 in
set_option maxHeartbeats 40000000 in
theorem rm0 (l : Launch) (Z : State) (a0 : Array Value) (hw : ∀ d ∈ tables_1, d.before a0 Z = true) (ws : List Jvm.Cond) (p1 p2 p3 : Int32) (h0 : Heap) (n0 : Nat) (Z0 : n0 ≤ h0.size)  :
    MetFree l x (head1 (Jvm.Cond.code x code maxLocals ret :: ws) room_1) (fun a U => a = #[(.int p1), (.int p2), (.int p3)] ∧ Z.Warmed39 U.vm ∧ U.heap = h0) (fun _ _ _ _ _ => True) (fun _ U o U' => ∃ v L, o = .returned v ∧ Q0 n0 v U'.heap L ∧ FrameEnd U o U' L 0 0) := by
  refine MetFree.of_bodySF pn_0 hisR ?_
  intro p e s m args below meth c s₁ Bd hml0 hP hK
  obtain ⟨rfl, hZ, hh⟩ := hP
  have hx := Bd.exec
  have hby := Bd.bytes
  have hlk := Bd.notSynchronized
  have hret := Bd.returns
  have hml : c.maxLocals = 8 := hml0
  have hown : s.vm.findClass "com/example/olentangy/olentangy/config/LineBreaksIsLineBreakPinLaw" = some m.cls := findClass_of_methodNamed Bd.named
  have hnm := (name_of_methodNamed Bd.named Bd.method).1
  have X0 : Stand p l e room_1 s m #[(.int p1), (.int p2), (.int p3)] below meth c s₁ [] 0 0 := Stand.of_body Bd
  have e0 : s₁.heap = h0 := by rw [← hh, Bd.state]; rfl
  have N0 := Fr.nil n0
  show Go p e below (Pst s (Q0 n0) 0 0) (s₁.setTop (entryFrame m #[(.int p1), (.int p2), (.int p3)] maxLocals))
  refine Go.on (fun t k => castTop (ef_0 m p1 p2 p3) k) ?_
  show Go p e below _ (s₁.setTop (mkF m 0 #[.val (.int p1), .val (.int p2), .val (.int p3), .unset, .unset, .unset, .unset, .unset] []))
  refine Go.on (fun t k => XS.iloadN X0.here hx rfl (hb hby at_0) rfl k) ?_
  show Go p e below _ (s₁.setTop (mkF m 1 #[.val (.int p1), .val (.int p2), .val (.int p3), .unset, .unset, .unset, .unset, .unset] [(.int p3)]))
  refine Go.on (fun t k => XS.iconst X0.here hx rfl (hb hby at_1) k) ?_
  show Go p e below _ (s₁.setTop (mkF m 2 #[.val (.int p1), .val (.int p2), .val (.int p3), .unset, .unset, .unset, .unset, .unset] [(.int (1 : Int32)), (.int p3)]))
  refine Go.on (fun t k => XS.iand X0.here hx rfl (hb hby at_2) rfl k) ?_
  show Go p e below _ (s₁.setTop (mkF m 3 #[.val (.int p1), .val (.int p2), .val (.int p3), .unset, .unset, .unset, .unset, .unset] [(.int (p3 &&& (1 : Int32)))]))
  by_cases hc3 : (p3 &&& (1 : Int32)) = (0 : Int32)
  · refine Go.on (fun t k => XS.ifYes X0.here hx rfl (pc0 := 3) (pc' := 10) rfl (hb hby at_3) rfl ((if0 _ _).trans (teq hc3).1) (by decide) (by decide) k) ?_
    show Go p e below _ (s₁.setTop (mkF m 10 #[.val (.int p1), .val (.int p2), .val (.int p3), .unset, .unset, .unset, .unset, .unset] []))
    refine Go.on (fun t k => XS.iconst X0.here hx rfl (hb hby at_10) k) ?_
    show Go p e below _ (s₁.setTop (mkF m 11 #[.val (.int p1), .val (.int p2), .val (.int p3), .unset, .unset, .unset, .unset, .unset] [(.int (0 : Int32))]))
    refine Go.on (fun t k => XS.istoreN X0.here hx rfl (hb hby at_11) rfl (l' := #[.val (.int p1), .val (.int p2), .val (.int p3), .val (.int (0 : Int32)), .unset, .unset, .unset, .unset]) rfl k) ?_
    show Go p e below _ (s₁.setTop (mkF m 12 #[.val (.int p1), .val (.int p2), .val (.int p3), .val (.int (0 : Int32)), .unset, .unset, .unset, .unset] []))
    refine Go.on (fun t k => XS.iloadN X0.here hx rfl (hb hby at_12) rfl k) ?_
    show Go p e below _ (s₁.setTop (mkF m 13 #[.val (.int p1), .val (.int p2), .val (.int p3), .val (.int (0 : Int32)), .unset, .unset, .unset, .unset] [(.int p3)]))
    refine Go.on (fun t k => XS.iconst X0.here hx rfl (hb hby at_13) k) ?_
    show Go p e below _ (s₁.setTop (mkF m 14 #[.val (.int p1), .val (.int p2), .val (.int p3), .val (.int (0 : Int32)), .unset, .unset, .unset, .unset] [(.int (2 : Int32)), (.int p3)]))
    refine Go.on (fun t k => XS.iand X0.here hx rfl (hb hby at_14) rfl k) ?_
    show Go p e below _ (s₁.setTop (mkF m 15 #[.val (.int p1), .val (.int p2), .val (.int p3), .val (.int (0 : Int32)), .unset, .unset, .unset, .unset] [(.int (p3 &&& (2 : Int32)))]))
    by_cases hc15 : (p3 &&& (2 : Int32)) = (0 : Int32)
    · refine Go.on (fun t k => XS.ifYes X0.here hx rfl (pc0 := 15) (pc' := 25) rfl (hb hby at_15) rfl ((if0 _ _).trans (teq hc15).1) (by decide) (by decide) k) ?_
      show Go p e below _ (s₁.setTop (mkF m 25 #[.val (.int p1), .val (.int p2), .val (.int p3), .val (.int (0 : Int32)), .unset, .unset, .unset, .unset] []))
      refine Go.on (fun t k => XS.iloadN X0.here hx rfl (hb hby at_25) rfl k) ?_
      show Go p e below _ (s₁.setTop (mkF m 26 #[.val (.int p1), .val (.int p2), .val (.int p3), .val (.int (0 : Int32)), .unset, .unset, .unset, .unset] [(.int p1)]))
      refine Go.on (fun t k => XS.iloadN X0.here hx rfl (hb hby at_26) rfl k) ?_
      show Go p e below _ (s₁.setTop (mkF m 27 #[.val (.int p1), .val (.int p2), .val (.int p3), .val (.int (0 : Int32)), .unset, .unset, .unset, .unset] [(.int p2), (.int p1)]))
      obtain ⟨_, _, ⟨T1, L1, k1, n1⟩, -, X1, ⟨Lc1, hQ1, l1, y1, z1⟩, st1⟩ := Jvm.LawKit.callS X0 hx (y := (⟨"com/example/olentangy/olentangy/config/LineBreaksIsLineBreakPinLaw", "pick", "(II)C"⟩ : MethodName)) hown (mvT hZ (hw _ (List.mem_of_getElem? (i := 4) rfl))) (mvT hZ (hw _ (List.mem_of_getElem? (i := 5) rfl))) (mvT hZ (hw _ (List.mem_of_getElem? (i := 6) rfl))) (mvT hZ (hw _ (List.mem_of_getElem? (i := 7) rfl))) (by decide) (backOf (W := 0) (rm2 l Z a0 hw [] p1 p2 h0 n0 Z0) hZ (hw _ (List.mem_of_getElem? (i := 7) rfl)) (hw _ (List.mem_of_getElem? (i := 6) rfl)) (by decide) (by decide)) (g := (mkF m 27 #[.val (.int p1), .val (.int p2), .val (.int p3), .val (.int (0 : Int32)), .unset, .unset, .unset, .unset] [(.int p2), (.int p1)])) rfl (by rw [hml]; rfl) (argsL := [(.int p1), (.int p2)]) (rest := []) (lenOf pd_1 rfl) rfl (by show 2 * 0 + _ ≤ _; exact Nat.le_of_eq rfl) (hb hby at_27) (fun _ _ => ⟨rfl, e0, (by decide : 0 + 0 ≤ _), (by decide : 0 + 0 ≤ _)⟩)
      dsimp only [Pt.U, Pt.locs, Pt.cells, Pt.slots] at X1 l1 y1 z1 st1 hQ1
      subst l1 y1 z1
      obtain ⟨rfl, N1q, e1⟩ := hQ1
      have N1 := Fr.app N0 N1q
      refine Go.on st1 ?_
      show Go p e below _ (T1.setTop (mkF m 30 #[.val (.int p1), .val (.int p2), .val (.int p3), .val (.int (0 : Int32)), .unset, .unset, .unset, .unset] [(.int (own_pick p1 p2))]))
      refine Go.on (fun t k => XS.istore X1.here hx rfl (hb hby at_30) rfl (l' := #[.val (.int p1), .val (.int p2), .val (.int p3), .val (.int (0 : Int32)), .val (.int (own_pick p1 p2)), .unset, .unset, .unset]) rfl k) ?_
      show Go p e below _ (T1.setTop (mkF m 32 #[.val (.int p1), .val (.int p2), .val (.int p3), .val (.int (0 : Int32)), .val (.int (own_pick p1 p2)), .unset, .unset, .unset] []))
      refine Go.on (fun t k => XS.iload X1.here hx rfl (hb hby at_32) rfl k) ?_
      show Go p e below _ (T1.setTop (mkF m 34 #[.val (.int p1), .val (.int p2), .val (.int p3), .val (.int (0 : Int32)), .val (.int (own_pick p1 p2)), .unset, .unset, .unset] [(.int (own_pick p1 p2))]))
      refine Go.on (fun t k => XS.iloadN X1.here hx rfl (hb hby at_34) rfl k) ?_
      show Go p e below _ (T1.setTop (mkF m 35 #[.val (.int p1), .val (.int p2), .val (.int p3), .val (.int (0 : Int32)), .val (.int (own_pick p1 p2)), .unset, .unset, .unset] [(.int (0 : Int32)), (.int (own_pick p1 p2))]))
      obtain ⟨_, _, ⟨T2, L2, k2, n2⟩, -, X2, ⟨Lc2, hQ2, l2, y2, z2⟩, st2⟩ := Jvm.LawKit.callS X1 hx (y := (⟨"com/example/olentangy/olentangy/config/LineBreaks", "isLineBreak", "(CZ)Z"⟩ : MethodName)) hown (mvT hZ (hw _ (List.mem_of_getElem? (i := 0) rfl))) (mvT hZ (hw _ (List.mem_of_getElem? (i := 1) rfl))) (mvT hZ (hw _ (List.mem_of_getElem? (i := 2) rfl))) (mvT hZ (hw _ (List.mem_of_getElem? (i := 3) rfl))) (by decide) (backOf (W := 0) (rm1 l Z a0 hw [] (own_pick p1 p2) (0 : Int32) h0 n0 Z0) hZ (hw _ (List.mem_of_getElem? (i := 3) rfl)) (hw _ (List.mem_of_getElem? (i := 2) rfl)) (by decide) (by decide)) (g := (mkF m 35 #[.val (.int p1), .val (.int p2), .val (.int p3), .val (.int (0 : Int32)), .val (.int (own_pick p1 p2)), .unset, .unset, .unset] [(.int (0 : Int32)), (.int (own_pick p1 p2))])) rfl (by rw [hml]; rfl) (argsL := [(.int (own_pick p1 p2)), (.int (0 : Int32))]) (rest := []) (lenOf pd_2 rfl) rfl (by show 2 * 0 + _ ≤ _; exact Nat.le_of_eq rfl) (hb hby at_35) (fun _ _ => ⟨rfl, (e1), (by decide : 0 + 0 ≤ _), (by decide : 0 + 0 ≤ _)⟩)
      dsimp only [Pt.U, Pt.locs, Pt.cells, Pt.slots] at X2 l2 y2 z2 st2 hQ2
      subst l2 y2 z2
      obtain ⟨rfl, N2q, e2⟩ := hQ2
      have N2 := Fr.app N1 N2q
      refine Go.on st2 ?_
      show Go p e below _ (T2.setTop (mkF m 38 #[.val (.int p1), .val (.int p2), .val (.int p3), .val (.int (0 : Int32)), .val (.int (own_pick p1 p2)), .unset, .unset, .unset] [(.int (own_brk (own_pick p1 p2) (0 : Int32)))]))
      refine Go.on (fun t k => XS.istore X2.here hx rfl (hb hby at_38) rfl (l' := #[.val (.int p1), .val (.int p2), .val (.int p3), .val (.int (0 : Int32)), .val (.int (own_pick p1 p2)), .val (.int (own_brk (own_pick p1 p2) (0 : Int32))), .unset, .unset]) rfl k) ?_
      show Go p e below _ (T2.setTop (mkF m 40 #[.val (.int p1), .val (.int p2), .val (.int p3), .val (.int (0 : Int32)), .val (.int (own_pick p1 p2)), .val (.int (own_brk (own_pick p1 p2) (0 : Int32))), .unset, .unset] []))
      refine Go.on (fun t k => XS.iload X2.here hx rfl (hb hby at_40) rfl k) ?_
      show Go p e below _ (T2.setTop (mkF m 42 #[.val (.int p1), .val (.int p2), .val (.int p3), .val (.int (0 : Int32)), .val (.int (own_pick p1 p2)), .val (.int (own_brk (own_pick p1 p2) (0 : Int32))), .unset, .unset] [(.int (own_pick p1 p2))]))
      refine Go.on (fun t k => XS.istore X2.here hx rfl (hb hby at_42) rfl (l' := #[.val (.int p1), .val (.int p2), .val (.int p3), .val (.int (0 : Int32)), .val (.int (own_pick p1 p2)), .val (.int (own_brk (own_pick p1 p2) (0 : Int32))), .val (.int (own_pick p1 p2)), .unset]) rfl k) ?_
      show Go p e below _ (T2.setTop (mkF m 44 #[.val (.int p1), .val (.int p2), .val (.int p3), .val (.int (0 : Int32)), .val (.int (own_pick p1 p2)), .val (.int (own_brk (own_pick p1 p2) (0 : Int32))), .val (.int (own_pick p1 p2)), .unset] []))
      refine Go.on (fun t k => XS.iload X2.here hx rfl (hb hby at_44) rfl k) ?_
      show Go p e below _ (T2.setTop (mkF m 46 #[.val (.int p1), .val (.int p2), .val (.int p3), .val (.int (0 : Int32)), .val (.int (own_pick p1 p2)), .val (.int (own_brk (own_pick p1 p2) (0 : Int32))), .val (.int (own_pick p1 p2)), .unset] [(.int (own_pick p1 p2))]))
      refine Go.on (fun t k => XS.bipush X2.here hx rfl (hb hby at_46) k) ?_
      show Go p e below _ (T2.setTop (mkF m 48 #[.val (.int p1), .val (.int p2), .val (.int p3), .val (.int (0 : Int32)), .val (.int (own_pick p1 p2)), .val (.int (own_brk (own_pick p1 p2) (0 : Int32))), .val (.int (own_pick p1 p2)), .unset] [(.int (10 : Int32)), (.int (own_pick p1 p2))]))
      by_cases hc48 : (own_pick p1 p2) = (10 : Int32)
      · refine Go.on (fun t k => XS.icmpYes X2.here hx rfl (pc0 := 48) (pc' := 58) rfl (hb hby at_48) rfl (teq hc48).1 (by decide) (by decide) k) ?_
        show Go p e below _ (T2.setTop (mkF m 58 #[.val (.int p1), .val (.int p2), .val (.int p3), .val (.int (0 : Int32)), .val (.int (own_pick p1 p2)), .val (.int (own_brk (own_pick p1 p2) (0 : Int32))), .val (.int (own_pick p1 p2)), .unset] []))
        refine Go.on (fun t k => XS.iconst X2.here hx rfl (hb hby at_58) k) ?_
        show Go p e below _ (T2.setTop (mkF m 59 #[.val (.int p1), .val (.int p2), .val (.int p3), .val (.int (0 : Int32)), .val (.int (own_pick p1 p2)), .val (.int (own_brk (own_pick p1 p2) (0 : Int32))), .val (.int (own_pick p1 p2)), .unset] [(.int (1 : Int32))]))
        refine Go.on (fun t k => XS.istore X2.here hx rfl (hb hby at_59) rfl (l' := #[.val (.int p1), .val (.int p2), .val (.int p3), .val (.int (0 : Int32)), .val (.int (own_pick p1 p2)), .val (.int (own_brk (own_pick p1 p2) (0 : Int32))), .val (.int (own_pick p1 p2)), .val (.int (1 : Int32))]) rfl k) ?_
        show Go p e below _ (T2.setTop (mkF m 61 #[.val (.int p1), .val (.int p2), .val (.int p3), .val (.int (0 : Int32)), .val (.int (own_pick p1 p2)), .val (.int (own_brk (own_pick p1 p2) (0 : Int32))), .val (.int (own_pick p1 p2)), .val (.int (1 : Int32))] []))
        refine Go.on (fun t k => XS.goto X2.here hx rfl (pc0 := 61) (pc' := 89) rfl (hb hby at_61) (by decide) (by decide) k) ?_
        show Go p e below _ (T2.setTop (mkF m 89 #[.val (.int p1), .val (.int p2), .val (.int p3), .val (.int (0 : Int32)), .val (.int (own_pick p1 p2)), .val (.int (own_brk (own_pick p1 p2) (0 : Int32))), .val (.int (own_pick p1 p2)), .val (.int (1 : Int32))] []))
        refine Go.on (fun t k => XS.iload X2.here hx rfl (hb hby at_89) rfl k) ?_
        show Go p e below _ (T2.setTop (mkF m 91 #[.val (.int p1), .val (.int p2), .val (.int p3), .val (.int (0 : Int32)), .val (.int (own_pick p1 p2)), .val (.int (own_brk (own_pick p1 p2) (0 : Int32))), .val (.int (own_pick p1 p2)), .val (.int (1 : Int32))] [(.int (own_brk (own_pick p1 p2) (0 : Int32)))]))
        refine Go.on (fun t k => XS.iload X2.here hx rfl (hb hby at_91) rfl k) ?_
        show Go p e below _ (T2.setTop (mkF m 93 #[.val (.int p1), .val (.int p2), .val (.int p3), .val (.int (0 : Int32)), .val (.int (own_pick p1 p2)), .val (.int (own_brk (own_pick p1 p2) (0 : Int32))), .val (.int (own_pick p1 p2)), .val (.int (1 : Int32))] [(.int (1 : Int32)), (.int (own_brk (own_pick p1 p2) (0 : Int32)))]))
        refine Go.on (fun t k => XS.icmpNo X2.here hx rfl (hb hby at_93) rfl (teq (by first | (simp only [own_brk, hc3, hc15, hc48, if_true, if_false]; done) | (simp only [own_brk, hc3, hc15, hc48, if_true, if_false] <;> decide) | (simp [own_brk, hc3, hc15, hc48]) : (own_brk (own_pick p1 p2) (0 : Int32)) = (1 : Int32))).2 k) ?_
        show Go p e below _ (T2.setTop (mkF m 96 #[.val (.int p1), .val (.int p2), .val (.int p3), .val (.int (0 : Int32)), .val (.int (own_pick p1 p2)), .val (.int (own_brk (own_pick p1 p2) (0 : Int32))), .val (.int (own_pick p1 p2)), .val (.int (1 : Int32))] []))
        refine Go.on (fun t k => XS.iconst X2.here hx rfl (hb hby at_96) k) ?_
        show Go p e below _ (T2.setTop (mkF m 97 #[.val (.int p1), .val (.int p2), .val (.int p3), .val (.int (0 : Int32)), .val (.int (own_pick p1 p2)), .val (.int (own_brk (own_pick p1 p2) (0 : Int32))), .val (.int (own_pick p1 p2)), .val (.int (1 : Int32))] [(.int (1 : Int32))]))
        refine Go.on (fun t k => XS.goto X2.here hx rfl (pc0 := 97) (pc' := 101) rfl (hb hby at_97) (by decide) (by decide) k) ?_
        show Go p e below _ (T2.setTop (mkF m 101 #[.val (.int p1), .val (.int p2), .val (.int p3), .val (.int (0 : Int32)), .val (.int (own_pick p1 p2)), .val (.int (own_brk (own_pick p1 p2) (0 : Int32))), .val (.int (own_pick p1 p2)), .val (.int (1 : Int32))] [(.int (1 : Int32))]))
        exact Go.retN X2 hx hlk hret (by simp) (hb hby at_101) (by decide) (by decide) ⟨by rfl, N2⟩
      · refine Go.on (fun t k => XS.icmpNo X2.here hx rfl (hb hby at_48) rfl (feq hc48).1 k) ?_
        show Go p e below _ (T2.setTop (mkF m 51 #[.val (.int p1), .val (.int p2), .val (.int p3), .val (.int (0 : Int32)), .val (.int (own_pick p1 p2)), .val (.int (own_brk (own_pick p1 p2) (0 : Int32))), .val (.int (own_pick p1 p2)), .unset] []))
        refine Go.on (fun t k => XS.iload X2.here hx rfl (hb hby at_51) rfl k) ?_
        show Go p e below _ (T2.setTop (mkF m 53 #[.val (.int p1), .val (.int p2), .val (.int p3), .val (.int (0 : Int32)), .val (.int (own_pick p1 p2)), .val (.int (own_brk (own_pick p1 p2) (0 : Int32))), .val (.int (own_pick p1 p2)), .unset] [(.int (own_pick p1 p2))]))
        refine Go.on (fun t k => XS.bipush X2.here hx rfl (hb hby at_53) k) ?_
        show Go p e below _ (T2.setTop (mkF m 55 #[.val (.int p1), .val (.int p2), .val (.int p3), .val (.int (0 : Int32)), .val (.int (own_pick p1 p2)), .val (.int (own_brk (own_pick p1 p2) (0 : Int32))), .val (.int (own_pick p1 p2)), .unset] [(.int (13 : Int32)), (.int (own_pick p1 p2))]))
        by_cases hc55 : (own_pick p1 p2) = (13 : Int32)
        · refine Go.on (fun t k => XS.icmpNo X2.here hx rfl (hb hby at_55) rfl (teq hc55).2 k) ?_
          show Go p e below _ (T2.setTop (mkF m 58 #[.val (.int p1), .val (.int p2), .val (.int p3), .val (.int (0 : Int32)), .val (.int (own_pick p1 p2)), .val (.int (own_brk (own_pick p1 p2) (0 : Int32))), .val (.int (own_pick p1 p2)), .unset] []))
          refine Go.on (fun t k => XS.iconst X2.here hx rfl (hb hby at_58) k) ?_
          show Go p e below _ (T2.setTop (mkF m 59 #[.val (.int p1), .val (.int p2), .val (.int p3), .val (.int (0 : Int32)), .val (.int (own_pick p1 p2)), .val (.int (own_brk (own_pick p1 p2) (0 : Int32))), .val (.int (own_pick p1 p2)), .unset] [(.int (1 : Int32))]))
          refine Go.on (fun t k => XS.istore X2.here hx rfl (hb hby at_59) rfl (l' := #[.val (.int p1), .val (.int p2), .val (.int p3), .val (.int (0 : Int32)), .val (.int (own_pick p1 p2)), .val (.int (own_brk (own_pick p1 p2) (0 : Int32))), .val (.int (own_pick p1 p2)), .val (.int (1 : Int32))]) rfl k) ?_
          show Go p e below _ (T2.setTop (mkF m 61 #[.val (.int p1), .val (.int p2), .val (.int p3), .val (.int (0 : Int32)), .val (.int (own_pick p1 p2)), .val (.int (own_brk (own_pick p1 p2) (0 : Int32))), .val (.int (own_pick p1 p2)), .val (.int (1 : Int32))] []))
          refine Go.on (fun t k => XS.goto X2.here hx rfl (pc0 := 61) (pc' := 89) rfl (hb hby at_61) (by decide) (by decide) k) ?_
          show Go p e below _ (T2.setTop (mkF m 89 #[.val (.int p1), .val (.int p2), .val (.int p3), .val (.int (0 : Int32)), .val (.int (own_pick p1 p2)), .val (.int (own_brk (own_pick p1 p2) (0 : Int32))), .val (.int (own_pick p1 p2)), .val (.int (1 : Int32))] []))
          refine Go.on (fun t k => XS.iload X2.here hx rfl (hb hby at_89) rfl k) ?_
          show Go p e below _ (T2.setTop (mkF m 91 #[.val (.int p1), .val (.int p2), .val (.int p3), .val (.int (0 : Int32)), .val (.int (own_pick p1 p2)), .val (.int (own_brk (own_pick p1 p2) (0 : Int32))), .val (.int (own_pick p1 p2)), .val (.int (1 : Int32))] [(.int (own_brk (own_pick p1 p2) (0 : Int32)))]))
          refine Go.on (fun t k => XS.iload X2.here hx rfl (hb hby at_91) rfl k) ?_
          show Go p e below _ (T2.setTop (mkF m 93 #[.val (.int p1), .val (.int p2), .val (.int p3), .val (.int (0 : Int32)), .val (.int (own_pick p1 p2)), .val (.int (own_brk (own_pick p1 p2) (0 : Int32))), .val (.int (own_pick p1 p2)), .val (.int (1 : Int32))] [(.int (1 : Int32)), (.int (own_brk (own_pick p1 p2) (0 : Int32)))]))
          refine Go.on (fun t k => XS.icmpNo X2.here hx rfl (hb hby at_93) rfl (teq (by first | (simp only [own_brk, hc3, hc15, hc48, hc55, if_true, if_false]; done) | (simp only [own_brk, hc3, hc15, hc48, hc55, if_true, if_false] <;> decide) | (simp [own_brk, hc3, hc15, hc48, hc55]) : (own_brk (own_pick p1 p2) (0 : Int32)) = (1 : Int32))).2 k) ?_
          show Go p e below _ (T2.setTop (mkF m 96 #[.val (.int p1), .val (.int p2), .val (.int p3), .val (.int (0 : Int32)), .val (.int (own_pick p1 p2)), .val (.int (own_brk (own_pick p1 p2) (0 : Int32))), .val (.int (own_pick p1 p2)), .val (.int (1 : Int32))] []))
          refine Go.on (fun t k => XS.iconst X2.here hx rfl (hb hby at_96) k) ?_
          show Go p e below _ (T2.setTop (mkF m 97 #[.val (.int p1), .val (.int p2), .val (.int p3), .val (.int (0 : Int32)), .val (.int (own_pick p1 p2)), .val (.int (own_brk (own_pick p1 p2) (0 : Int32))), .val (.int (own_pick p1 p2)), .val (.int (1 : Int32))] [(.int (1 : Int32))]))
          refine Go.on (fun t k => XS.goto X2.here hx rfl (pc0 := 97) (pc' := 101) rfl (hb hby at_97) (by decide) (by decide) k) ?_
          show Go p e below _ (T2.setTop (mkF m 101 #[.val (.int p1), .val (.int p2), .val (.int p3), .val (.int (0 : Int32)), .val (.int (own_pick p1 p2)), .val (.int (own_brk (own_pick p1 p2) (0 : Int32))), .val (.int (own_pick p1 p2)), .val (.int (1 : Int32))] [(.int (1 : Int32))]))
          exact Go.retN X2 hx hlk hret (by simp) (hb hby at_101) (by decide) (by decide) ⟨by rfl, N2⟩
        · refine Go.on (fun t k => XS.icmpYes X2.here hx rfl (pc0 := 55) (pc' := 64) rfl (hb hby at_55) rfl (feq hc55).2 (by decide) (by decide) k) ?_
          show Go p e below _ (T2.setTop (mkF m 64 #[.val (.int p1), .val (.int p2), .val (.int p3), .val (.int (0 : Int32)), .val (.int (own_pick p1 p2)), .val (.int (own_brk (own_pick p1 p2) (0 : Int32))), .val (.int (own_pick p1 p2)), .unset] []))
          refine Go.on (fun t k => XS.iload X2.here hx rfl (hb hby at_64) rfl k) ?_
          show Go p e below _ (T2.setTop (mkF m 66 #[.val (.int p1), .val (.int p2), .val (.int p3), .val (.int (0 : Int32)), .val (.int (own_pick p1 p2)), .val (.int (own_brk (own_pick p1 p2) (0 : Int32))), .val (.int (own_pick p1 p2)), .unset] [(.int (own_pick p1 p2))]))
          refine Go.on (fun t k => XS.sipush X2.here hx rfl (hb hby at_66) k) ?_
          show Go p e below _ (T2.setTop (mkF m 69 #[.val (.int p1), .val (.int p2), .val (.int p3), .val (.int (0 : Int32)), .val (.int (own_pick p1 p2)), .val (.int (own_brk (own_pick p1 p2) (0 : Int32))), .val (.int (own_pick p1 p2)), .unset] [(.int (133 : Int32)), (.int (own_pick p1 p2))]))
          by_cases hc69 : (own_pick p1 p2) = (133 : Int32)
          · refine Go.on (fun t k => XS.icmpYes X2.here hx rfl (pc0 := 69) (pc' := 80) rfl (hb hby at_69) rfl (teq hc69).1 (by decide) (by decide) k) ?_
            show Go p e below _ (T2.setTop (mkF m 80 #[.val (.int p1), .val (.int p2), .val (.int p3), .val (.int (0 : Int32)), .val (.int (own_pick p1 p2)), .val (.int (own_brk (own_pick p1 p2) (0 : Int32))), .val (.int (own_pick p1 p2)), .unset] []))
            refine Go.on (fun t k => XS.iloadN X2.here hx rfl (hb hby at_80) rfl k) ?_
            show Go p e below _ (T2.setTop (mkF m 81 #[.val (.int p1), .val (.int p2), .val (.int p3), .val (.int (0 : Int32)), .val (.int (own_pick p1 p2)), .val (.int (own_brk (own_pick p1 p2) (0 : Int32))), .val (.int (own_pick p1 p2)), .unset] [(.int (0 : Int32))]))
            refine Go.on (fun t k => XS.istore X2.here hx rfl (hb hby at_81) rfl (l' := #[.val (.int p1), .val (.int p2), .val (.int p3), .val (.int (0 : Int32)), .val (.int (own_pick p1 p2)), .val (.int (own_brk (own_pick p1 p2) (0 : Int32))), .val (.int (own_pick p1 p2)), .val (.int (0 : Int32))]) rfl k) ?_
            show Go p e below _ (T2.setTop (mkF m 83 #[.val (.int p1), .val (.int p2), .val (.int p3), .val (.int (0 : Int32)), .val (.int (own_pick p1 p2)), .val (.int (own_brk (own_pick p1 p2) (0 : Int32))), .val (.int (own_pick p1 p2)), .val (.int (0 : Int32))] []))
            refine Go.on (fun t k => XS.goto X2.here hx rfl (pc0 := 83) (pc' := 89) rfl (hb hby at_83) (by decide) (by decide) k) ?_
            show Go p e below _ (T2.setTop (mkF m 89 #[.val (.int p1), .val (.int p2), .val (.int p3), .val (.int (0 : Int32)), .val (.int (own_pick p1 p2)), .val (.int (own_brk (own_pick p1 p2) (0 : Int32))), .val (.int (own_pick p1 p2)), .val (.int (0 : Int32))] []))
            refine Go.on (fun t k => XS.iload X2.here hx rfl (hb hby at_89) rfl k) ?_
            show Go p e below _ (T2.setTop (mkF m 91 #[.val (.int p1), .val (.int p2), .val (.int p3), .val (.int (0 : Int32)), .val (.int (own_pick p1 p2)), .val (.int (own_brk (own_pick p1 p2) (0 : Int32))), .val (.int (own_pick p1 p2)), .val (.int (0 : Int32))] [(.int (own_brk (own_pick p1 p2) (0 : Int32)))]))
            refine Go.on (fun t k => XS.iload X2.here hx rfl (hb hby at_91) rfl k) ?_
            show Go p e below _ (T2.setTop (mkF m 93 #[.val (.int p1), .val (.int p2), .val (.int p3), .val (.int (0 : Int32)), .val (.int (own_pick p1 p2)), .val (.int (own_brk (own_pick p1 p2) (0 : Int32))), .val (.int (own_pick p1 p2)), .val (.int (0 : Int32))] [(.int (0 : Int32)), (.int (own_brk (own_pick p1 p2) (0 : Int32)))]))
            refine Go.on (fun t k => XS.icmpNo X2.here hx rfl (hb hby at_93) rfl (teq (by first | (simp only [own_brk, hc3, hc15, hc48, hc55, hc69, if_true, if_false]; done) | (simp only [own_brk, hc3, hc15, hc48, hc55, hc69, if_true, if_false] <;> decide) | (simp [own_brk, hc3, hc15, hc48, hc55, hc69]) : (own_brk (own_pick p1 p2) (0 : Int32)) = (0 : Int32))).2 k) ?_
            show Go p e below _ (T2.setTop (mkF m 96 #[.val (.int p1), .val (.int p2), .val (.int p3), .val (.int (0 : Int32)), .val (.int (own_pick p1 p2)), .val (.int (own_brk (own_pick p1 p2) (0 : Int32))), .val (.int (own_pick p1 p2)), .val (.int (0 : Int32))] []))
            refine Go.on (fun t k => XS.iconst X2.here hx rfl (hb hby at_96) k) ?_
            show Go p e below _ (T2.setTop (mkF m 97 #[.val (.int p1), .val (.int p2), .val (.int p3), .val (.int (0 : Int32)), .val (.int (own_pick p1 p2)), .val (.int (own_brk (own_pick p1 p2) (0 : Int32))), .val (.int (own_pick p1 p2)), .val (.int (0 : Int32))] [(.int (1 : Int32))]))
            refine Go.on (fun t k => XS.goto X2.here hx rfl (pc0 := 97) (pc' := 101) rfl (hb hby at_97) (by decide) (by decide) k) ?_
            show Go p e below _ (T2.setTop (mkF m 101 #[.val (.int p1), .val (.int p2), .val (.int p3), .val (.int (0 : Int32)), .val (.int (own_pick p1 p2)), .val (.int (own_brk (own_pick p1 p2) (0 : Int32))), .val (.int (own_pick p1 p2)), .val (.int (0 : Int32))] [(.int (1 : Int32))]))
            exact Go.retN X2 hx hlk hret (by simp) (hb hby at_101) (by decide) (by decide) ⟨by rfl, N2⟩
          · refine Go.on (fun t k => XS.icmpNo X2.here hx rfl (hb hby at_69) rfl (feq hc69).1 k) ?_
            show Go p e below _ (T2.setTop (mkF m 72 #[.val (.int p1), .val (.int p2), .val (.int p3), .val (.int (0 : Int32)), .val (.int (own_pick p1 p2)), .val (.int (own_brk (own_pick p1 p2) (0 : Int32))), .val (.int (own_pick p1 p2)), .unset] []))
            refine Go.on (fun t k => XS.iload X2.here hx rfl (hb hby at_72) rfl k) ?_
            show Go p e below _ (T2.setTop (mkF m 74 #[.val (.int p1), .val (.int p2), .val (.int p3), .val (.int (0 : Int32)), .val (.int (own_pick p1 p2)), .val (.int (own_brk (own_pick p1 p2) (0 : Int32))), .val (.int (own_pick p1 p2)), .unset] [(.int (own_pick p1 p2))]))
            refine Go.on (fun t k => XS.sipush X2.here hx rfl (hb hby at_74) k) ?_
            show Go p e below _ (T2.setTop (mkF m 77 #[.val (.int p1), .val (.int p2), .val (.int p3), .val (.int (0 : Int32)), .val (.int (own_pick p1 p2)), .val (.int (own_brk (own_pick p1 p2) (0 : Int32))), .val (.int (own_pick p1 p2)), .unset] [(.int (8232 : Int32)), (.int (own_pick p1 p2))]))
            by_cases hc77 : (own_pick p1 p2) = (8232 : Int32)
            · refine Go.on (fun t k => XS.icmpNo X2.here hx rfl (hb hby at_77) rfl (teq hc77).2 k) ?_
              show Go p e below _ (T2.setTop (mkF m 80 #[.val (.int p1), .val (.int p2), .val (.int p3), .val (.int (0 : Int32)), .val (.int (own_pick p1 p2)), .val (.int (own_brk (own_pick p1 p2) (0 : Int32))), .val (.int (own_pick p1 p2)), .unset] []))
              refine Go.on (fun t k => XS.iloadN X2.here hx rfl (hb hby at_80) rfl k) ?_
              show Go p e below _ (T2.setTop (mkF m 81 #[.val (.int p1), .val (.int p2), .val (.int p3), .val (.int (0 : Int32)), .val (.int (own_pick p1 p2)), .val (.int (own_brk (own_pick p1 p2) (0 : Int32))), .val (.int (own_pick p1 p2)), .unset] [(.int (0 : Int32))]))
              refine Go.on (fun t k => XS.istore X2.here hx rfl (hb hby at_81) rfl (l' := #[.val (.int p1), .val (.int p2), .val (.int p3), .val (.int (0 : Int32)), .val (.int (own_pick p1 p2)), .val (.int (own_brk (own_pick p1 p2) (0 : Int32))), .val (.int (own_pick p1 p2)), .val (.int (0 : Int32))]) rfl k) ?_
              show Go p e below _ (T2.setTop (mkF m 83 #[.val (.int p1), .val (.int p2), .val (.int p3), .val (.int (0 : Int32)), .val (.int (own_pick p1 p2)), .val (.int (own_brk (own_pick p1 p2) (0 : Int32))), .val (.int (own_pick p1 p2)), .val (.int (0 : Int32))] []))
              refine Go.on (fun t k => XS.goto X2.here hx rfl (pc0 := 83) (pc' := 89) rfl (hb hby at_83) (by decide) (by decide) k) ?_
              show Go p e below _ (T2.setTop (mkF m 89 #[.val (.int p1), .val (.int p2), .val (.int p3), .val (.int (0 : Int32)), .val (.int (own_pick p1 p2)), .val (.int (own_brk (own_pick p1 p2) (0 : Int32))), .val (.int (own_pick p1 p2)), .val (.int (0 : Int32))] []))
              refine Go.on (fun t k => XS.iload X2.here hx rfl (hb hby at_89) rfl k) ?_
              show Go p e below _ (T2.setTop (mkF m 91 #[.val (.int p1), .val (.int p2), .val (.int p3), .val (.int (0 : Int32)), .val (.int (own_pick p1 p2)), .val (.int (own_brk (own_pick p1 p2) (0 : Int32))), .val (.int (own_pick p1 p2)), .val (.int (0 : Int32))] [(.int (own_brk (own_pick p1 p2) (0 : Int32)))]))
              refine Go.on (fun t k => XS.iload X2.here hx rfl (hb hby at_91) rfl k) ?_
              show Go p e below _ (T2.setTop (mkF m 93 #[.val (.int p1), .val (.int p2), .val (.int p3), .val (.int (0 : Int32)), .val (.int (own_pick p1 p2)), .val (.int (own_brk (own_pick p1 p2) (0 : Int32))), .val (.int (own_pick p1 p2)), .val (.int (0 : Int32))] [(.int (0 : Int32)), (.int (own_brk (own_pick p1 p2) (0 : Int32)))]))
              refine Go.on (fun t k => XS.icmpNo X2.here hx rfl (hb hby at_93) rfl (teq (by first | (simp only [own_brk, hc3, hc15, hc48, hc55, hc69, hc77, if_true, if_false]; done) | (simp only [own_brk, hc3, hc15, hc48, hc55, hc69, hc77, if_true, if_false] <;> decide) | (simp [own_brk, hc3, hc15, hc48, hc55, hc69, hc77]) : (own_brk (own_pick p1 p2) (0 : Int32)) = (0 : Int32))).2 k) ?_
              show Go p e below _ (T2.setTop (mkF m 96 #[.val (.int p1), .val (.int p2), .val (.int p3), .val (.int (0 : Int32)), .val (.int (own_pick p1 p2)), .val (.int (own_brk (own_pick p1 p2) (0 : Int32))), .val (.int (own_pick p1 p2)), .val (.int (0 : Int32))] []))
              refine Go.on (fun t k => XS.iconst X2.here hx rfl (hb hby at_96) k) ?_
              show Go p e below _ (T2.setTop (mkF m 97 #[.val (.int p1), .val (.int p2), .val (.int p3), .val (.int (0 : Int32)), .val (.int (own_pick p1 p2)), .val (.int (own_brk (own_pick p1 p2) (0 : Int32))), .val (.int (own_pick p1 p2)), .val (.int (0 : Int32))] [(.int (1 : Int32))]))
              refine Go.on (fun t k => XS.goto X2.here hx rfl (pc0 := 97) (pc' := 101) rfl (hb hby at_97) (by decide) (by decide) k) ?_
              show Go p e below _ (T2.setTop (mkF m 101 #[.val (.int p1), .val (.int p2), .val (.int p3), .val (.int (0 : Int32)), .val (.int (own_pick p1 p2)), .val (.int (own_brk (own_pick p1 p2) (0 : Int32))), .val (.int (own_pick p1 p2)), .val (.int (0 : Int32))] [(.int (1 : Int32))]))
              exact Go.retN X2 hx hlk hret (by simp) (hb hby at_101) (by decide) (by decide) ⟨by rfl, N2⟩
            · refine Go.on (fun t k => XS.icmpYes X2.here hx rfl (pc0 := 77) (pc' := 86) rfl (hb hby at_77) rfl (feq hc77).2 (by decide) (by decide) k) ?_
              show Go p e below _ (T2.setTop (mkF m 86 #[.val (.int p1), .val (.int p2), .val (.int p3), .val (.int (0 : Int32)), .val (.int (own_pick p1 p2)), .val (.int (own_brk (own_pick p1 p2) (0 : Int32))), .val (.int (own_pick p1 p2)), .unset] []))
              refine Go.on (fun t k => XS.iconst X2.here hx rfl (hb hby at_86) k) ?_
              show Go p e below _ (T2.setTop (mkF m 87 #[.val (.int p1), .val (.int p2), .val (.int p3), .val (.int (0 : Int32)), .val (.int (own_pick p1 p2)), .val (.int (own_brk (own_pick p1 p2) (0 : Int32))), .val (.int (own_pick p1 p2)), .unset] [(.int (0 : Int32))]))
              refine Go.on (fun t k => XS.istore X2.here hx rfl (hb hby at_87) rfl (l' := #[.val (.int p1), .val (.int p2), .val (.int p3), .val (.int (0 : Int32)), .val (.int (own_pick p1 p2)), .val (.int (own_brk (own_pick p1 p2) (0 : Int32))), .val (.int (own_pick p1 p2)), .val (.int (0 : Int32))]) rfl k) ?_
              show Go p e below _ (T2.setTop (mkF m 89 #[.val (.int p1), .val (.int p2), .val (.int p3), .val (.int (0 : Int32)), .val (.int (own_pick p1 p2)), .val (.int (own_brk (own_pick p1 p2) (0 : Int32))), .val (.int (own_pick p1 p2)), .val (.int (0 : Int32))] []))
              refine Go.on (fun t k => XS.iload X2.here hx rfl (hb hby at_89) rfl k) ?_
              show Go p e below _ (T2.setTop (mkF m 91 #[.val (.int p1), .val (.int p2), .val (.int p3), .val (.int (0 : Int32)), .val (.int (own_pick p1 p2)), .val (.int (own_brk (own_pick p1 p2) (0 : Int32))), .val (.int (own_pick p1 p2)), .val (.int (0 : Int32))] [(.int (own_brk (own_pick p1 p2) (0 : Int32)))]))
              refine Go.on (fun t k => XS.iload X2.here hx rfl (hb hby at_91) rfl k) ?_
              show Go p e below _ (T2.setTop (mkF m 93 #[.val (.int p1), .val (.int p2), .val (.int p3), .val (.int (0 : Int32)), .val (.int (own_pick p1 p2)), .val (.int (own_brk (own_pick p1 p2) (0 : Int32))), .val (.int (own_pick p1 p2)), .val (.int (0 : Int32))] [(.int (0 : Int32)), (.int (own_brk (own_pick p1 p2) (0 : Int32)))]))
              refine Go.on (fun t k => XS.icmpNo X2.here hx rfl (hb hby at_93) rfl (teq (by first | (simp only [own_brk, hc3, hc15, hc48, hc55, hc69, hc77, if_true, if_false]; done) | (simp only [own_brk, hc3, hc15, hc48, hc55, hc69, hc77, if_true, if_false] <;> decide) | (simp [own_brk, hc3, hc15, hc48, hc55, hc69, hc77]) : (own_brk (own_pick p1 p2) (0 : Int32)) = (0 : Int32))).2 k) ?_
              show Go p e below _ (T2.setTop (mkF m 96 #[.val (.int p1), .val (.int p2), .val (.int p3), .val (.int (0 : Int32)), .val (.int (own_pick p1 p2)), .val (.int (own_brk (own_pick p1 p2) (0 : Int32))), .val (.int (own_pick p1 p2)), .val (.int (0 : Int32))] []))
              refine Go.on (fun t k => XS.iconst X2.here hx rfl (hb hby at_96) k) ?_
              show Go p e below _ (T2.setTop (mkF m 97 #[.val (.int p1), .val (.int p2), .val (.int p3), .val (.int (0 : Int32)), .val (.int (own_pick p1 p2)), .val (.int (own_brk (own_pick p1 p2) (0 : Int32))), .val (.int (own_pick p1 p2)), .val (.int (0 : Int32))] [(.int (1 : Int32))]))
              refine Go.on (fun t k => XS.goto X2.here hx rfl (pc0 := 97) (pc' := 101) rfl (hb hby at_97) (by decide) (by decide) k) ?_
              show Go p e below _ (T2.setTop (mkF m 101 #[.val (.int p1), .val (.int p2), .val (.int p3), .val (.int (0 : Int32)), .val (.int (own_pick p1 p2)), .val (.int (own_brk (own_pick p1 p2) (0 : Int32))), .val (.int (own_pick p1 p2)), .val (.int (0 : Int32))] [(.int (1 : Int32))]))
              exact Go.retN X2 hx hlk hret (by simp) (hb hby at_101) (by decide) (by decide) ⟨by rfl, N2⟩
    · refine Go.on (fun t k => XS.ifNo X0.here hx rfl (hb hby at_15) rfl ((if0 _ _).trans (feq hc15).1) k) ?_
      show Go p e below _ (s₁.setTop (mkF m 18 #[.val (.int p1), .val (.int p2), .val (.int p3), .val (.int (0 : Int32)), .unset, .unset, .unset, .unset] []))
      refine Go.on (fun t k => XS.iloadN X0.here hx rfl (hb hby at_18) rfl k) ?_
      show Go p e below _ (s₁.setTop (mkF m 19 #[.val (.int p1), .val (.int p2), .val (.int p3), .val (.int (0 : Int32)), .unset, .unset, .unset, .unset] [(.int p1)]))
      refine Go.on (fun t k => XS.i2c X0.here hx rfl (hb hby at_19) rfl k) ?_
      show Go p e below _ (s₁.setTop (mkF m 20 #[.val (.int p1), .val (.int p2), .val (.int p3), .val (.int (0 : Int32)), .unset, .unset, .unset, .unset] [(.int (p1.toUInt32.toUInt16.toUInt32.toInt32))]))
      refine Go.on (fun t k => XS.istore X0.here hx rfl (hb hby at_20) rfl (l' := #[.val (.int p1), .val (.int p2), .val (.int p3), .val (.int (0 : Int32)), .val (.int (p1.toUInt32.toUInt16.toUInt32.toInt32)), .unset, .unset, .unset]) rfl k) ?_
      show Go p e below _ (s₁.setTop (mkF m 22 #[.val (.int p1), .val (.int p2), .val (.int p3), .val (.int (0 : Int32)), .val (.int (p1.toUInt32.toUInt16.toUInt32.toInt32)), .unset, .unset, .unset] []))
      refine Go.on (fun t k => XS.goto X0.here hx rfl (pc0 := 22) (pc' := 32) rfl (hb hby at_22) (by decide) (by decide) k) ?_
      show Go p e below _ (s₁.setTop (mkF m 32 #[.val (.int p1), .val (.int p2), .val (.int p3), .val (.int (0 : Int32)), .val (.int (p1.toUInt32.toUInt16.toUInt32.toInt32)), .unset, .unset, .unset] []))
      refine Go.on (fun t k => XS.iload X0.here hx rfl (hb hby at_32) rfl k) ?_
      show Go p e below _ (s₁.setTop (mkF m 34 #[.val (.int p1), .val (.int p2), .val (.int p3), .val (.int (0 : Int32)), .val (.int (p1.toUInt32.toUInt16.toUInt32.toInt32)), .unset, .unset, .unset] [(.int (p1.toUInt32.toUInt16.toUInt32.toInt32))]))
      refine Go.on (fun t k => XS.iloadN X0.here hx rfl (hb hby at_34) rfl k) ?_
      show Go p e below _ (s₁.setTop (mkF m 35 #[.val (.int p1), .val (.int p2), .val (.int p3), .val (.int (0 : Int32)), .val (.int (p1.toUInt32.toUInt16.toUInt32.toInt32)), .unset, .unset, .unset] [(.int (0 : Int32)), (.int (p1.toUInt32.toUInt16.toUInt32.toInt32))]))
      obtain ⟨_, _, ⟨T3, L3, k3, n3⟩, -, X3, ⟨Lc3, hQ3, l3, y3, z3⟩, st3⟩ := Jvm.LawKit.callS X0 hx (y := (⟨"com/example/olentangy/olentangy/config/LineBreaks", "isLineBreak", "(CZ)Z"⟩ : MethodName)) hown (mvT hZ (hw _ (List.mem_of_getElem? (i := 0) rfl))) (mvT hZ (hw _ (List.mem_of_getElem? (i := 1) rfl))) (mvT hZ (hw _ (List.mem_of_getElem? (i := 2) rfl))) (mvT hZ (hw _ (List.mem_of_getElem? (i := 3) rfl))) (by decide) (backOf (W := 0) (rm1 l Z a0 hw [] (p1.toUInt32.toUInt16.toUInt32.toInt32) (0 : Int32) h0 n0 Z0) hZ (hw _ (List.mem_of_getElem? (i := 3) rfl)) (hw _ (List.mem_of_getElem? (i := 2) rfl)) (by decide) (by decide)) (g := (mkF m 35 #[.val (.int p1), .val (.int p2), .val (.int p3), .val (.int (0 : Int32)), .val (.int (p1.toUInt32.toUInt16.toUInt32.toInt32)), .unset, .unset, .unset] [(.int (0 : Int32)), (.int (p1.toUInt32.toUInt16.toUInt32.toInt32))])) rfl (by rw [hml]; rfl) (argsL := [(.int (p1.toUInt32.toUInt16.toUInt32.toInt32)), (.int (0 : Int32))]) (rest := []) (lenOf pd_2 rfl) rfl (by show 2 * 0 + _ ≤ _; exact Nat.le_of_eq rfl) (hb hby at_35) (fun _ _ => ⟨rfl, e0, (by decide : 0 + 0 ≤ _), (by decide : 0 + 0 ≤ _)⟩)
      dsimp only [Pt.U, Pt.locs, Pt.cells, Pt.slots] at X3 l3 y3 z3 st3 hQ3
      subst l3 y3 z3
      obtain ⟨rfl, N3q, e3⟩ := hQ3
      have N3 := Fr.app N0 N3q
      refine Go.on st3 ?_
      show Go p e below _ (T3.setTop (mkF m 38 #[.val (.int p1), .val (.int p2), .val (.int p3), .val (.int (0 : Int32)), .val (.int (p1.toUInt32.toUInt16.toUInt32.toInt32)), .unset, .unset, .unset] [(.int (own_brk (p1.toUInt32.toUInt16.toUInt32.toInt32) (0 : Int32)))]))
      refine Go.on (fun t k => XS.istore X3.here hx rfl (hb hby at_38) rfl (l' := #[.val (.int p1), .val (.int p2), .val (.int p3), .val (.int (0 : Int32)), .val (.int (p1.toUInt32.toUInt16.toUInt32.toInt32)), .val (.int (own_brk (p1.toUInt32.toUInt16.toUInt32.toInt32) (0 : Int32))), .unset, .unset]) rfl k) ?_
      show Go p e below _ (T3.setTop (mkF m 40 #[.val (.int p1), .val (.int p2), .val (.int p3), .val (.int (0 : Int32)), .val (.int (p1.toUInt32.toUInt16.toUInt32.toInt32)), .val (.int (own_brk (p1.toUInt32.toUInt16.toUInt32.toInt32) (0 : Int32))), .unset, .unset] []))
      refine Go.on (fun t k => XS.iload X3.here hx rfl (hb hby at_40) rfl k) ?_
      show Go p e below _ (T3.setTop (mkF m 42 #[.val (.int p1), .val (.int p2), .val (.int p3), .val (.int (0 : Int32)), .val (.int (p1.toUInt32.toUInt16.toUInt32.toInt32)), .val (.int (own_brk (p1.toUInt32.toUInt16.toUInt32.toInt32) (0 : Int32))), .unset, .unset] [(.int (p1.toUInt32.toUInt16.toUInt32.toInt32))]))
      refine Go.on (fun t k => XS.istore X3.here hx rfl (hb hby at_42) rfl (l' := #[.val (.int p1), .val (.int p2), .val (.int p3), .val (.int (0 : Int32)), .val (.int (p1.toUInt32.toUInt16.toUInt32.toInt32)), .val (.int (own_brk (p1.toUInt32.toUInt16.toUInt32.toInt32) (0 : Int32))), .val (.int (p1.toUInt32.toUInt16.toUInt32.toInt32)), .unset]) rfl k) ?_
      show Go p e below _ (T3.setTop (mkF m 44 #[.val (.int p1), .val (.int p2), .val (.int p3), .val (.int (0 : Int32)), .val (.int (p1.toUInt32.toUInt16.toUInt32.toInt32)), .val (.int (own_brk (p1.toUInt32.toUInt16.toUInt32.toInt32) (0 : Int32))), .val (.int (p1.toUInt32.toUInt16.toUInt32.toInt32)), .unset] []))
      refine Go.on (fun t k => XS.iload X3.here hx rfl (hb hby at_44) rfl k) ?_
      show Go p e below _ (T3.setTop (mkF m 46 #[.val (.int p1), .val (.int p2), .val (.int p3), .val (.int (0 : Int32)), .val (.int (p1.toUInt32.toUInt16.toUInt32.toInt32)), .val (.int (own_brk (p1.toUInt32.toUInt16.toUInt32.toInt32) (0 : Int32))), .val (.int (p1.toUInt32.toUInt16.toUInt32.toInt32)), .unset] [(.int (p1.toUInt32.toUInt16.toUInt32.toInt32))]))
      refine Go.on (fun t k => XS.bipush X3.here hx rfl (hb hby at_46) k) ?_
      show Go p e below _ (T3.setTop (mkF m 48 #[.val (.int p1), .val (.int p2), .val (.int p3), .val (.int (0 : Int32)), .val (.int (p1.toUInt32.toUInt16.toUInt32.toInt32)), .val (.int (own_brk (p1.toUInt32.toUInt16.toUInt32.toInt32) (0 : Int32))), .val (.int (p1.toUInt32.toUInt16.toUInt32.toInt32)), .unset] [(.int (10 : Int32)), (.int (p1.toUInt32.toUInt16.toUInt32.toInt32))]))
      by_cases hc48 : (p1.toUInt32.toUInt16.toUInt32.toInt32) = (10 : Int32)
      · refine Go.on (fun t k => XS.icmpYes X3.here hx rfl (pc0 := 48) (pc' := 58) rfl (hb hby at_48) rfl (teq hc48).1 (by decide) (by decide) k) ?_
        show Go p e below _ (T3.setTop (mkF m 58 #[.val (.int p1), .val (.int p2), .val (.int p3), .val (.int (0 : Int32)), .val (.int (p1.toUInt32.toUInt16.toUInt32.toInt32)), .val (.int (own_brk (p1.toUInt32.toUInt16.toUInt32.toInt32) (0 : Int32))), .val (.int (p1.toUInt32.toUInt16.toUInt32.toInt32)), .unset] []))
        refine Go.on (fun t k => XS.iconst X3.here hx rfl (hb hby at_58) k) ?_
        show Go p e below _ (T3.setTop (mkF m 59 #[.val (.int p1), .val (.int p2), .val (.int p3), .val (.int (0 : Int32)), .val (.int (p1.toUInt32.toUInt16.toUInt32.toInt32)), .val (.int (own_brk (p1.toUInt32.toUInt16.toUInt32.toInt32) (0 : Int32))), .val (.int (p1.toUInt32.toUInt16.toUInt32.toInt32)), .unset] [(.int (1 : Int32))]))
        refine Go.on (fun t k => XS.istore X3.here hx rfl (hb hby at_59) rfl (l' := #[.val (.int p1), .val (.int p2), .val (.int p3), .val (.int (0 : Int32)), .val (.int (p1.toUInt32.toUInt16.toUInt32.toInt32)), .val (.int (own_brk (p1.toUInt32.toUInt16.toUInt32.toInt32) (0 : Int32))), .val (.int (p1.toUInt32.toUInt16.toUInt32.toInt32)), .val (.int (1 : Int32))]) rfl k) ?_
        show Go p e below _ (T3.setTop (mkF m 61 #[.val (.int p1), .val (.int p2), .val (.int p3), .val (.int (0 : Int32)), .val (.int (p1.toUInt32.toUInt16.toUInt32.toInt32)), .val (.int (own_brk (p1.toUInt32.toUInt16.toUInt32.toInt32) (0 : Int32))), .val (.int (p1.toUInt32.toUInt16.toUInt32.toInt32)), .val (.int (1 : Int32))] []))
        refine Go.on (fun t k => XS.goto X3.here hx rfl (pc0 := 61) (pc' := 89) rfl (hb hby at_61) (by decide) (by decide) k) ?_
        show Go p e below _ (T3.setTop (mkF m 89 #[.val (.int p1), .val (.int p2), .val (.int p3), .val (.int (0 : Int32)), .val (.int (p1.toUInt32.toUInt16.toUInt32.toInt32)), .val (.int (own_brk (p1.toUInt32.toUInt16.toUInt32.toInt32) (0 : Int32))), .val (.int (p1.toUInt32.toUInt16.toUInt32.toInt32)), .val (.int (1 : Int32))] []))
        refine Go.on (fun t k => XS.iload X3.here hx rfl (hb hby at_89) rfl k) ?_
        show Go p e below _ (T3.setTop (mkF m 91 #[.val (.int p1), .val (.int p2), .val (.int p3), .val (.int (0 : Int32)), .val (.int (p1.toUInt32.toUInt16.toUInt32.toInt32)), .val (.int (own_brk (p1.toUInt32.toUInt16.toUInt32.toInt32) (0 : Int32))), .val (.int (p1.toUInt32.toUInt16.toUInt32.toInt32)), .val (.int (1 : Int32))] [(.int (own_brk (p1.toUInt32.toUInt16.toUInt32.toInt32) (0 : Int32)))]))
        refine Go.on (fun t k => XS.iload X3.here hx rfl (hb hby at_91) rfl k) ?_
        show Go p e below _ (T3.setTop (mkF m 93 #[.val (.int p1), .val (.int p2), .val (.int p3), .val (.int (0 : Int32)), .val (.int (p1.toUInt32.toUInt16.toUInt32.toInt32)), .val (.int (own_brk (p1.toUInt32.toUInt16.toUInt32.toInt32) (0 : Int32))), .val (.int (p1.toUInt32.toUInt16.toUInt32.toInt32)), .val (.int (1 : Int32))] [(.int (1 : Int32)), (.int (own_brk (p1.toUInt32.toUInt16.toUInt32.toInt32) (0 : Int32)))]))
        refine Go.on (fun t k => XS.icmpNo X3.here hx rfl (hb hby at_93) rfl (teq (by first | (simp only [own_brk, hc3, hc15, hc48, if_true, if_false]; done) | (simp only [own_brk, hc3, hc15, hc48, if_true, if_false] <;> decide) | (simp [own_brk, hc3, hc15, hc48]) : (own_brk (p1.toUInt32.toUInt16.toUInt32.toInt32) (0 : Int32)) = (1 : Int32))).2 k) ?_
        show Go p e below _ (T3.setTop (mkF m 96 #[.val (.int p1), .val (.int p2), .val (.int p3), .val (.int (0 : Int32)), .val (.int (p1.toUInt32.toUInt16.toUInt32.toInt32)), .val (.int (own_brk (p1.toUInt32.toUInt16.toUInt32.toInt32) (0 : Int32))), .val (.int (p1.toUInt32.toUInt16.toUInt32.toInt32)), .val (.int (1 : Int32))] []))
        refine Go.on (fun t k => XS.iconst X3.here hx rfl (hb hby at_96) k) ?_
        show Go p e below _ (T3.setTop (mkF m 97 #[.val (.int p1), .val (.int p2), .val (.int p3), .val (.int (0 : Int32)), .val (.int (p1.toUInt32.toUInt16.toUInt32.toInt32)), .val (.int (own_brk (p1.toUInt32.toUInt16.toUInt32.toInt32) (0 : Int32))), .val (.int (p1.toUInt32.toUInt16.toUInt32.toInt32)), .val (.int (1 : Int32))] [(.int (1 : Int32))]))
        refine Go.on (fun t k => XS.goto X3.here hx rfl (pc0 := 97) (pc' := 101) rfl (hb hby at_97) (by decide) (by decide) k) ?_
        show Go p e below _ (T3.setTop (mkF m 101 #[.val (.int p1), .val (.int p2), .val (.int p3), .val (.int (0 : Int32)), .val (.int (p1.toUInt32.toUInt16.toUInt32.toInt32)), .val (.int (own_brk (p1.toUInt32.toUInt16.toUInt32.toInt32) (0 : Int32))), .val (.int (p1.toUInt32.toUInt16.toUInt32.toInt32)), .val (.int (1 : Int32))] [(.int (1 : Int32))]))
        exact Go.retN X3 hx hlk hret (by simp) (hb hby at_101) (by decide) (by decide) ⟨by rfl, N3⟩
      · refine Go.on (fun t k => XS.icmpNo X3.here hx rfl (hb hby at_48) rfl (feq hc48).1 k) ?_
        show Go p e below _ (T3.setTop (mkF m 51 #[.val (.int p1), .val (.int p2), .val (.int p3), .val (.int (0 : Int32)), .val (.int (p1.toUInt32.toUInt16.toUInt32.toInt32)), .val (.int (own_brk (p1.toUInt32.toUInt16.toUInt32.toInt32) (0 : Int32))), .val (.int (p1.toUInt32.toUInt16.toUInt32.toInt32)), .unset] []))
        refine Go.on (fun t k => XS.iload X3.here hx rfl (hb hby at_51) rfl k) ?_
        show Go p e below _ (T3.setTop (mkF m 53 #[.val (.int p1), .val (.int p2), .val (.int p3), .val (.int (0 : Int32)), .val (.int (p1.toUInt32.toUInt16.toUInt32.toInt32)), .val (.int (own_brk (p1.toUInt32.toUInt16.toUInt32.toInt32) (0 : Int32))), .val (.int (p1.toUInt32.toUInt16.toUInt32.toInt32)), .unset] [(.int (p1.toUInt32.toUInt16.toUInt32.toInt32))]))
        refine Go.on (fun t k => XS.bipush X3.here hx rfl (hb hby at_53) k) ?_
        show Go p e below _ (T3.setTop (mkF m 55 #[.val (.int p1), .val (.int p2), .val (.int p3), .val (.int (0 : Int32)), .val (.int (p1.toUInt32.toUInt16.toUInt32.toInt32)), .val (.int (own_brk (p1.toUInt32.toUInt16.toUInt32.toInt32) (0 : Int32))), .val (.int (p1.toUInt32.toUInt16.toUInt32.toInt32)), .unset] [(.int (13 : Int32)), (.int (p1.toUInt32.toUInt16.toUInt32.toInt32))]))
        by_cases hc55 : (p1.toUInt32.toUInt16.toUInt32.toInt32) = (13 : Int32)
        · refine Go.on (fun t k => XS.icmpNo X3.here hx rfl (hb hby at_55) rfl (teq hc55).2 k) ?_
          show Go p e below _ (T3.setTop (mkF m 58 #[.val (.int p1), .val (.int p2), .val (.int p3), .val (.int (0 : Int32)), .val (.int (p1.toUInt32.toUInt16.toUInt32.toInt32)), .val (.int (own_brk (p1.toUInt32.toUInt16.toUInt32.toInt32) (0 : Int32))), .val (.int (p1.toUInt32.toUInt16.toUInt32.toInt32)), .unset] []))
          refine Go.on (fun t k => XS.iconst X3.here hx rfl (hb hby at_58) k) ?_
          show Go p e below _ (T3.setTop (mkF m 59 #[.val (.int p1), .val (.int p2), .val (.int p3), .val (.int (0 : Int32)), .val (.int (p1.toUInt32.toUInt16.toUInt32.toInt32)), .val (.int (own_brk (p1.toUInt32.toUInt16.toUInt32.toInt32) (0 : Int32))), .val (.int (p1.toUInt32.toUInt16.toUInt32.toInt32)), .unset] [(.int (1 : Int32))]))
          refine Go.on (fun t k => XS.istore X3.here hx rfl (hb hby at_59) rfl (l' := #[.val (.int p1), .val (.int p2), .val (.int p3), .val (.int (0 : Int32)), .val (.int (p1.toUInt32.toUInt16.toUInt32.toInt32)), .val (.int (own_brk (p1.toUInt32.toUInt16.toUInt32.toInt32) (0 : Int32))), .val (.int (p1.toUInt32.toUInt16.toUInt32.toInt32)), .val (.int (1 : Int32))]) rfl k) ?_
          show Go p e below _ (T3.setTop (mkF m 61 #[.val (.int p1), .val (.int p2), .val (.int p3), .val (.int (0 : Int32)), .val (.int (p1.toUInt32.toUInt16.toUInt32.toInt32)), .val (.int (own_brk (p1.toUInt32.toUInt16.toUInt32.toInt32) (0 : Int32))), .val (.int (p1.toUInt32.toUInt16.toUInt32.toInt32)), .val (.int (1 : Int32))] []))
          refine Go.on (fun t k => XS.goto X3.here hx rfl (pc0 := 61) (pc' := 89) rfl (hb hby at_61) (by decide) (by decide) k) ?_
          show Go p e below _ (T3.setTop (mkF m 89 #[.val (.int p1), .val (.int p2), .val (.int p3), .val (.int (0 : Int32)), .val (.int (p1.toUInt32.toUInt16.toUInt32.toInt32)), .val (.int (own_brk (p1.toUInt32.toUInt16.toUInt32.toInt32) (0 : Int32))), .val (.int (p1.toUInt32.toUInt16.toUInt32.toInt32)), .val (.int (1 : Int32))] []))
          refine Go.on (fun t k => XS.iload X3.here hx rfl (hb hby at_89) rfl k) ?_
          show Go p e below _ (T3.setTop (mkF m 91 #[.val (.int p1), .val (.int p2), .val (.int p3), .val (.int (0 : Int32)), .val (.int (p1.toUInt32.toUInt16.toUInt32.toInt32)), .val (.int (own_brk (p1.toUInt32.toUInt16.toUInt32.toInt32) (0 : Int32))), .val (.int (p1.toUInt32.toUInt16.toUInt32.toInt32)), .val (.int (1 : Int32))] [(.int (own_brk (p1.toUInt32.toUInt16.toUInt32.toInt32) (0 : Int32)))]))
          refine Go.on (fun t k => XS.iload X3.here hx rfl (hb hby at_91) rfl k) ?_
          show Go p e below _ (T3.setTop (mkF m 93 #[.val (.int p1), .val (.int p2), .val (.int p3), .val (.int (0 : Int32)), .val (.int (p1.toUInt32.toUInt16.toUInt32.toInt32)), .val (.int (own_brk (p1.toUInt32.toUInt16.toUInt32.toInt32) (0 : Int32))), .val (.int (p1.toUInt32.toUInt16.toUInt32.toInt32)), .val (.int (1 : Int32))] [(.int (1 : Int32)), (.int (own_brk (p1.toUInt32.toUInt16.toUInt32.toInt32) (0 : Int32)))]))
          refine Go.on (fun t k => XS.icmpNo X3.here hx rfl (hb hby at_93) rfl (teq (by first | (simp only [own_brk, hc3, hc15, hc48, hc55, if_true, if_false]; done) | (simp only [own_brk, hc3, hc15, hc48, hc55, if_true, if_false] <;> decide) | (simp [own_brk, hc3, hc15, hc48, hc55]) : (own_brk (p1.toUInt32.toUInt16.toUInt32.toInt32) (0 : Int32)) = (1 : Int32))).2 k) ?_
          show Go p e below _ (T3.setTop (mkF m 96 #[.val (.int p1), .val (.int p2), .val (.int p3), .val (.int (0 : Int32)), .val (.int (p1.toUInt32.toUInt16.toUInt32.toInt32)), .val (.int (own_brk (p1.toUInt32.toUInt16.toUInt32.toInt32) (0 : Int32))), .val (.int (p1.toUInt32.toUInt16.toUInt32.toInt32)), .val (.int (1 : Int32))] []))
          refine Go.on (fun t k => XS.iconst X3.here hx rfl (hb hby at_96) k) ?_
          show Go p e below _ (T3.setTop (mkF m 97 #[.val (.int p1), .val (.int p2), .val (.int p3), .val (.int (0 : Int32)), .val (.int (p1.toUInt32.toUInt16.toUInt32.toInt32)), .val (.int (own_brk (p1.toUInt32.toUInt16.toUInt32.toInt32) (0 : Int32))), .val (.int (p1.toUInt32.toUInt16.toUInt32.toInt32)), .val (.int (1 : Int32))] [(.int (1 : Int32))]))
          refine Go.on (fun t k => XS.goto X3.here hx rfl (pc0 := 97) (pc' := 101) rfl (hb hby at_97) (by decide) (by decide) k) ?_
          show Go p e below _ (T3.setTop (mkF m 101 #[.val (.int p1), .val (.int p2), .val (.int p3), .val (.int (0 : Int32)), .val (.int (p1.toUInt32.toUInt16.toUInt32.toInt32)), .val (.int (own_brk (p1.toUInt32.toUInt16.toUInt32.toInt32) (0 : Int32))), .val (.int (p1.toUInt32.toUInt16.toUInt32.toInt32)), .val (.int (1 : Int32))] [(.int (1 : Int32))]))
          exact Go.retN X3 hx hlk hret (by simp) (hb hby at_101) (by decide) (by decide) ⟨by rfl, N3⟩
        · refine Go.on (fun t k => XS.icmpYes X3.here hx rfl (pc0 := 55) (pc' := 64) rfl (hb hby at_55) rfl (feq hc55).2 (by decide) (by decide) k) ?_
          show Go p e below _ (T3.setTop (mkF m 64 #[.val (.int p1), .val (.int p2), .val (.int p3), .val (.int (0 : Int32)), .val (.int (p1.toUInt32.toUInt16.toUInt32.toInt32)), .val (.int (own_brk (p1.toUInt32.toUInt16.toUInt32.toInt32) (0 : Int32))), .val (.int (p1.toUInt32.toUInt16.toUInt32.toInt32)), .unset] []))
          refine Go.on (fun t k => XS.iload X3.here hx rfl (hb hby at_64) rfl k) ?_
          show Go p e below _ (T3.setTop (mkF m 66 #[.val (.int p1), .val (.int p2), .val (.int p3), .val (.int (0 : Int32)), .val (.int (p1.toUInt32.toUInt16.toUInt32.toInt32)), .val (.int (own_brk (p1.toUInt32.toUInt16.toUInt32.toInt32) (0 : Int32))), .val (.int (p1.toUInt32.toUInt16.toUInt32.toInt32)), .unset] [(.int (p1.toUInt32.toUInt16.toUInt32.toInt32))]))
          refine Go.on (fun t k => XS.sipush X3.here hx rfl (hb hby at_66) k) ?_
          show Go p e below _ (T3.setTop (mkF m 69 #[.val (.int p1), .val (.int p2), .val (.int p3), .val (.int (0 : Int32)), .val (.int (p1.toUInt32.toUInt16.toUInt32.toInt32)), .val (.int (own_brk (p1.toUInt32.toUInt16.toUInt32.toInt32) (0 : Int32))), .val (.int (p1.toUInt32.toUInt16.toUInt32.toInt32)), .unset] [(.int (133 : Int32)), (.int (p1.toUInt32.toUInt16.toUInt32.toInt32))]))
          by_cases hc69 : (p1.toUInt32.toUInt16.toUInt32.toInt32) = (133 : Int32)
          · refine Go.on (fun t k => XS.icmpYes X3.here hx rfl (pc0 := 69) (pc' := 80) rfl (hb hby at_69) rfl (teq hc69).1 (by decide) (by decide) k) ?_
            show Go p e below _ (T3.setTop (mkF m 80 #[.val (.int p1), .val (.int p2), .val (.int p3), .val (.int (0 : Int32)), .val (.int (p1.toUInt32.toUInt16.toUInt32.toInt32)), .val (.int (own_brk (p1.toUInt32.toUInt16.toUInt32.toInt32) (0 : Int32))), .val (.int (p1.toUInt32.toUInt16.toUInt32.toInt32)), .unset] []))
            refine Go.on (fun t k => XS.iloadN X3.here hx rfl (hb hby at_80) rfl k) ?_
            show Go p e below _ (T3.setTop (mkF m 81 #[.val (.int p1), .val (.int p2), .val (.int p3), .val (.int (0 : Int32)), .val (.int (p1.toUInt32.toUInt16.toUInt32.toInt32)), .val (.int (own_brk (p1.toUInt32.toUInt16.toUInt32.toInt32) (0 : Int32))), .val (.int (p1.toUInt32.toUInt16.toUInt32.toInt32)), .unset] [(.int (0 : Int32))]))
            refine Go.on (fun t k => XS.istore X3.here hx rfl (hb hby at_81) rfl (l' := #[.val (.int p1), .val (.int p2), .val (.int p3), .val (.int (0 : Int32)), .val (.int (p1.toUInt32.toUInt16.toUInt32.toInt32)), .val (.int (own_brk (p1.toUInt32.toUInt16.toUInt32.toInt32) (0 : Int32))), .val (.int (p1.toUInt32.toUInt16.toUInt32.toInt32)), .val (.int (0 : Int32))]) rfl k) ?_
            show Go p e below _ (T3.setTop (mkF m 83 #[.val (.int p1), .val (.int p2), .val (.int p3), .val (.int (0 : Int32)), .val (.int (p1.toUInt32.toUInt16.toUInt32.toInt32)), .val (.int (own_brk (p1.toUInt32.toUInt16.toUInt32.toInt32) (0 : Int32))), .val (.int (p1.toUInt32.toUInt16.toUInt32.toInt32)), .val (.int (0 : Int32))] []))
            refine Go.on (fun t k => XS.goto X3.here hx rfl (pc0 := 83) (pc' := 89) rfl (hb hby at_83) (by decide) (by decide) k) ?_
            show Go p e below _ (T3.setTop (mkF m 89 #[.val (.int p1), .val (.int p2), .val (.int p3), .val (.int (0 : Int32)), .val (.int (p1.toUInt32.toUInt16.toUInt32.toInt32)), .val (.int (own_brk (p1.toUInt32.toUInt16.toUInt32.toInt32) (0 : Int32))), .val (.int (p1.toUInt32.toUInt16.toUInt32.toInt32)), .val (.int (0 : Int32))] []))
            refine Go.on (fun t k => XS.iload X3.here hx rfl (hb hby at_89) rfl k) ?_
            show Go p e below _ (T3.setTop (mkF m 91 #[.val (.int p1), .val (.int p2), .val (.int p3), .val (.int (0 : Int32)), .val (.int (p1.toUInt32.toUInt16.toUInt32.toInt32)), .val (.int (own_brk (p1.toUInt32.toUInt16.toUInt32.toInt32) (0 : Int32))), .val (.int (p1.toUInt32.toUInt16.toUInt32.toInt32)), .val (.int (0 : Int32))] [(.int (own_brk (p1.toUInt32.toUInt16.toUInt32.toInt32) (0 : Int32)))]))
            refine Go.on (fun t k => XS.iload X3.here hx rfl (hb hby at_91) rfl k) ?_
            show Go p e below _ (T3.setTop (mkF m 93 #[.val (.int p1), .val (.int p2), .val (.int p3), .val (.int (0 : Int32)), .val (.int (p1.toUInt32.toUInt16.toUInt32.toInt32)), .val (.int (own_brk (p1.toUInt32.toUInt16.toUInt32.toInt32) (0 : Int32))), .val (.int (p1.toUInt32.toUInt16.toUInt32.toInt32)), .val (.int (0 : Int32))] [(.int (0 : Int32)), (.int (own_brk (p1.toUInt32.toUInt16.toUInt32.toInt32) (0 : Int32)))]))
            refine Go.on (fun t k => XS.icmpNo X3.here hx rfl (hb hby at_93) rfl (teq (by first | (simp only [own_brk, hc3, hc15, hc48, hc55, hc69, if_true, if_false]; done) | (simp only [own_brk, hc3, hc15, hc48, hc55, hc69, if_true, if_false] <;> decide) | (simp [own_brk, hc3, hc15, hc48, hc55, hc69]) : (own_brk (p1.toUInt32.toUInt16.toUInt32.toInt32) (0 : Int32)) = (0 : Int32))).2 k) ?_
            show Go p e below _ (T3.setTop (mkF m 96 #[.val (.int p1), .val (.int p2), .val (.int p3), .val (.int (0 : Int32)), .val (.int (p1.toUInt32.toUInt16.toUInt32.toInt32)), .val (.int (own_brk (p1.toUInt32.toUInt16.toUInt32.toInt32) (0 : Int32))), .val (.int (p1.toUInt32.toUInt16.toUInt32.toInt32)), .val (.int (0 : Int32))] []))
            refine Go.on (fun t k => XS.iconst X3.here hx rfl (hb hby at_96) k) ?_
            show Go p e below _ (T3.setTop (mkF m 97 #[.val (.int p1), .val (.int p2), .val (.int p3), .val (.int (0 : Int32)), .val (.int (p1.toUInt32.toUInt16.toUInt32.toInt32)), .val (.int (own_brk (p1.toUInt32.toUInt16.toUInt32.toInt32) (0 : Int32))), .val (.int (p1.toUInt32.toUInt16.toUInt32.toInt32)), .val (.int (0 : Int32))] [(.int (1 : Int32))]))
            refine Go.on (fun t k => XS.goto X3.here hx rfl (pc0 := 97) (pc' := 101) rfl (hb hby at_97) (by decide) (by decide) k) ?_
            show Go p e below _ (T3.setTop (mkF m 101 #[.val (.int p1), .val (.int p2), .val (.int p3), .val (.int (0 : Int32)), .val (.int (p1.toUInt32.toUInt16.toUInt32.toInt32)), .val (.int (own_brk (p1.toUInt32.toUInt16.toUInt32.toInt32) (0 : Int32))), .val (.int (p1.toUInt32.toUInt16.toUInt32.toInt32)), .val (.int (0 : Int32))] [(.int (1 : Int32))]))
            exact Go.retN X3 hx hlk hret (by simp) (hb hby at_101) (by decide) (by decide) ⟨by rfl, N3⟩
          · refine Go.on (fun t k => XS.icmpNo X3.here hx rfl (hb hby at_69) rfl (feq hc69).1 k) ?_
            show Go p e below _ (T3.setTop (mkF m 72 #[.val (.int p1), .val (.int p2), .val (.int p3), .val (.int (0 : Int32)), .val (.int (p1.toUInt32.toUInt16.toUInt32.toInt32)), .val (.int (own_brk (p1.toUInt32.toUInt16.toUInt32.toInt32) (0 : Int32))), .val (.int (p1.toUInt32.toUInt16.toUInt32.toInt32)), .unset] []))
            refine Go.on (fun t k => XS.iload X3.here hx rfl (hb hby at_72) rfl k) ?_
            show Go p e below _ (T3.setTop (mkF m 74 #[.val (.int p1), .val (.int p2), .val (.int p3), .val (.int (0 : Int32)), .val (.int (p1.toUInt32.toUInt16.toUInt32.toInt32)), .val (.int (own_brk (p1.toUInt32.toUInt16.toUInt32.toInt32) (0 : Int32))), .val (.int (p1.toUInt32.toUInt16.toUInt32.toInt32)), .unset] [(.int (p1.toUInt32.toUInt16.toUInt32.toInt32))]))
            refine Go.on (fun t k => XS.sipush X3.here hx rfl (hb hby at_74) k) ?_
            show Go p e below _ (T3.setTop (mkF m 77 #[.val (.int p1), .val (.int p2), .val (.int p3), .val (.int (0 : Int32)), .val (.int (p1.toUInt32.toUInt16.toUInt32.toInt32)), .val (.int (own_brk (p1.toUInt32.toUInt16.toUInt32.toInt32) (0 : Int32))), .val (.int (p1.toUInt32.toUInt16.toUInt32.toInt32)), .unset] [(.int (8232 : Int32)), (.int (p1.toUInt32.toUInt16.toUInt32.toInt32))]))
            by_cases hc77 : (p1.toUInt32.toUInt16.toUInt32.toInt32) = (8232 : Int32)
            · refine Go.on (fun t k => XS.icmpNo X3.here hx rfl (hb hby at_77) rfl (teq hc77).2 k) ?_
              show Go p e below _ (T3.setTop (mkF m 80 #[.val (.int p1), .val (.int p2), .val (.int p3), .val (.int (0 : Int32)), .val (.int (p1.toUInt32.toUInt16.toUInt32.toInt32)), .val (.int (own_brk (p1.toUInt32.toUInt16.toUInt32.toInt32) (0 : Int32))), .val (.int (p1.toUInt32.toUInt16.toUInt32.toInt32)), .unset] []))
              refine Go.on (fun t k => XS.iloadN X3.here hx rfl (hb hby at_80) rfl k) ?_
              show Go p e below _ (T3.setTop (mkF m 81 #[.val (.int p1), .val (.int p2), .val (.int p3), .val (.int (0 : Int32)), .val (.int (p1.toUInt32.toUInt16.toUInt32.toInt32)), .val (.int (own_brk (p1.toUInt32.toUInt16.toUInt32.toInt32) (0 : Int32))), .val (.int (p1.toUInt32.toUInt16.toUInt32.toInt32)), .unset] [(.int (0 : Int32))]))
              refine Go.on (fun t k => XS.istore X3.here hx rfl (hb hby at_81) rfl (l' := #[.val (.int p1), .val (.int p2), .val (.int p3), .val (.int (0 : Int32)), .val (.int (p1.toUInt32.toUInt16.toUInt32.toInt32)), .val (.int (own_brk (p1.toUInt32.toUInt16.toUInt32.toInt32) (0 : Int32))), .val (.int (p1.toUInt32.toUInt16.toUInt32.toInt32)), .val (.int (0 : Int32))]) rfl k) ?_
              show Go p e below _ (T3.setTop (mkF m 83 #[.val (.int p1), .val (.int p2), .val (.int p3), .val (.int (0 : Int32)), .val (.int (p1.toUInt32.toUInt16.toUInt32.toInt32)), .val (.int (own_brk (p1.toUInt32.toUInt16.toUInt32.toInt32) (0 : Int32))), .val (.int (p1.toUInt32.toUInt16.toUInt32.toInt32)), .val (.int (0 : Int32))] []))
              refine Go.on (fun t k => XS.goto X3.here hx rfl (pc0 := 83) (pc' := 89) rfl (hb hby at_83) (by decide) (by decide) k) ?_
              show Go p e below _ (T3.setTop (mkF m 89 #[.val (.int p1), .val (.int p2), .val (.int p3), .val (.int (0 : Int32)), .val (.int (p1.toUInt32.toUInt16.toUInt32.toInt32)), .val (.int (own_brk (p1.toUInt32.toUInt16.toUInt32.toInt32) (0 : Int32))), .val (.int (p1.toUInt32.toUInt16.toUInt32.toInt32)), .val (.int (0 : Int32))] []))
              refine Go.on (fun t k => XS.iload X3.here hx rfl (hb hby at_89) rfl k) ?_
              show Go p e below _ (T3.setTop (mkF m 91 #[.val (.int p1), .val (.int p2), .val (.int p3), .val (.int (0 : Int32)), .val (.int (p1.toUInt32.toUInt16.toUInt32.toInt32)), .val (.int (own_brk (p1.toUInt32.toUInt16.toUInt32.toInt32) (0 : Int32))), .val (.int (p1.toUInt32.toUInt16.toUInt32.toInt32)), .val (.int (0 : Int32))] [(.int (own_brk (p1.toUInt32.toUInt16.toUInt32.toInt32) (0 : Int32)))]))
              refine Go.on (fun t k => XS.iload X3.here hx rfl (hb hby at_91) rfl k) ?_
              show Go p e below _ (T3.setTop (mkF m 93 #[.val (.int p1), .val (.int p2), .val (.int p3), .val (.int (0 : Int32)), .val (.int (p1.toUInt32.toUInt16.toUInt32.toInt32)), .val (.int (own_brk (p1.toUInt32.toUInt16.toUInt32.toInt32) (0 : Int32))), .val (.int (p1.toUInt32.toUInt16.toUInt32.toInt32)), .val (.int (0 : Int32))] [(.int (0 : Int32)), (.int (own_brk (p1.toUInt32.toUInt16.toUInt32.toInt32) (0 : Int32)))]))
              refine Go.on (fun t k => XS.icmpNo X3.here hx rfl (hb hby at_93) rfl (teq (by first | (simp only [own_brk, hc3, hc15, hc48, hc55, hc69, hc77, if_true, if_false]; done) | (simp only [own_brk, hc3, hc15, hc48, hc55, hc69, hc77, if_true, if_false] <;> decide) | (simp [own_brk, hc3, hc15, hc48, hc55, hc69, hc77]) : (own_brk (p1.toUInt32.toUInt16.toUInt32.toInt32) (0 : Int32)) = (0 : Int32))).2 k) ?_
              show Go p e below _ (T3.setTop (mkF m 96 #[.val (.int p1), .val (.int p2), .val (.int p3), .val (.int (0 : Int32)), .val (.int (p1.toUInt32.toUInt16.toUInt32.toInt32)), .val (.int (own_brk (p1.toUInt32.toUInt16.toUInt32.toInt32) (0 : Int32))), .val (.int (p1.toUInt32.toUInt16.toUInt32.toInt32)), .val (.int (0 : Int32))] []))
              refine Go.on (fun t k => XS.iconst X3.here hx rfl (hb hby at_96) k) ?_
              show Go p e below _ (T3.setTop (mkF m 97 #[.val (.int p1), .val (.int p2), .val (.int p3), .val (.int (0 : Int32)), .val (.int (p1.toUInt32.toUInt16.toUInt32.toInt32)), .val (.int (own_brk (p1.toUInt32.toUInt16.toUInt32.toInt32) (0 : Int32))), .val (.int (p1.toUInt32.toUInt16.toUInt32.toInt32)), .val (.int (0 : Int32))] [(.int (1 : Int32))]))
              refine Go.on (fun t k => XS.goto X3.here hx rfl (pc0 := 97) (pc' := 101) rfl (hb hby at_97) (by decide) (by decide) k) ?_
              show Go p e below _ (T3.setTop (mkF m 101 #[.val (.int p1), .val (.int p2), .val (.int p3), .val (.int (0 : Int32)), .val (.int (p1.toUInt32.toUInt16.toUInt32.toInt32)), .val (.int (own_brk (p1.toUInt32.toUInt16.toUInt32.toInt32) (0 : Int32))), .val (.int (p1.toUInt32.toUInt16.toUInt32.toInt32)), .val (.int (0 : Int32))] [(.int (1 : Int32))]))
              exact Go.retN X3 hx hlk hret (by simp) (hb hby at_101) (by decide) (by decide) ⟨by rfl, N3⟩
            · refine Go.on (fun t k => XS.icmpYes X3.here hx rfl (pc0 := 77) (pc' := 86) rfl (hb hby at_77) rfl (feq hc77).2 (by decide) (by decide) k) ?_
              show Go p e below _ (T3.setTop (mkF m 86 #[.val (.int p1), .val (.int p2), .val (.int p3), .val (.int (0 : Int32)), .val (.int (p1.toUInt32.toUInt16.toUInt32.toInt32)), .val (.int (own_brk (p1.toUInt32.toUInt16.toUInt32.toInt32) (0 : Int32))), .val (.int (p1.toUInt32.toUInt16.toUInt32.toInt32)), .unset] []))
              refine Go.on (fun t k => XS.iconst X3.here hx rfl (hb hby at_86) k) ?_
              show Go p e below _ (T3.setTop (mkF m 87 #[.val (.int p1), .val (.int p2), .val (.int p3), .val (.int (0 : Int32)), .val (.int (p1.toUInt32.toUInt16.toUInt32.toInt32)), .val (.int (own_brk (p1.toUInt32.toUInt16.toUInt32.toInt32) (0 : Int32))), .val (.int (p1.toUInt32.toUInt16.toUInt32.toInt32)), .unset] [(.int (0 : Int32))]))
              refine Go.on (fun t k => XS.istore X3.here hx rfl (hb hby at_87) rfl (l' := #[.val (.int p1), .val (.int p2), .val (.int p3), .val (.int (0 : Int32)), .val (.int (p1.toUInt32.toUInt16.toUInt32.toInt32)), .val (.int (own_brk (p1.toUInt32.toUInt16.toUInt32.toInt32) (0 : Int32))), .val (.int (p1.toUInt32.toUInt16.toUInt32.toInt32)), .val (.int (0 : Int32))]) rfl k) ?_
              show Go p e below _ (T3.setTop (mkF m 89 #[.val (.int p1), .val (.int p2), .val (.int p3), .val (.int (0 : Int32)), .val (.int (p1.toUInt32.toUInt16.toUInt32.toInt32)), .val (.int (own_brk (p1.toUInt32.toUInt16.toUInt32.toInt32) (0 : Int32))), .val (.int (p1.toUInt32.toUInt16.toUInt32.toInt32)), .val (.int (0 : Int32))] []))
              refine Go.on (fun t k => XS.iload X3.here hx rfl (hb hby at_89) rfl k) ?_
              show Go p e below _ (T3.setTop (mkF m 91 #[.val (.int p1), .val (.int p2), .val (.int p3), .val (.int (0 : Int32)), .val (.int (p1.toUInt32.toUInt16.toUInt32.toInt32)), .val (.int (own_brk (p1.toUInt32.toUInt16.toUInt32.toInt32) (0 : Int32))), .val (.int (p1.toUInt32.toUInt16.toUInt32.toInt32)), .val (.int (0 : Int32))] [(.int (own_brk (p1.toUInt32.toUInt16.toUInt32.toInt32) (0 : Int32)))]))
              refine Go.on (fun t k => XS.iload X3.here hx rfl (hb hby at_91) rfl k) ?_
              show Go p e below _ (T3.setTop (mkF m 93 #[.val (.int p1), .val (.int p2), .val (.int p3), .val (.int (0 : Int32)), .val (.int (p1.toUInt32.toUInt16.toUInt32.toInt32)), .val (.int (own_brk (p1.toUInt32.toUInt16.toUInt32.toInt32) (0 : Int32))), .val (.int (p1.toUInt32.toUInt16.toUInt32.toInt32)), .val (.int (0 : Int32))] [(.int (0 : Int32)), (.int (own_brk (p1.toUInt32.toUInt16.toUInt32.toInt32) (0 : Int32)))]))
              refine Go.on (fun t k => XS.icmpNo X3.here hx rfl (hb hby at_93) rfl (teq (by first | (simp only [own_brk, hc3, hc15, hc48, hc55, hc69, hc77, if_true, if_false]; done) | (simp only [own_brk, hc3, hc15, hc48, hc55, hc69, hc77, if_true, if_false] <;> decide) | (simp [own_brk, hc3, hc15, hc48, hc55, hc69, hc77]) : (own_brk (p1.toUInt32.toUInt16.toUInt32.toInt32) (0 : Int32)) = (0 : Int32))).2 k) ?_
              show Go p e below _ (T3.setTop (mkF m 96 #[.val (.int p1), .val (.int p2), .val (.int p3), .val (.int (0 : Int32)), .val (.int (p1.toUInt32.toUInt16.toUInt32.toInt32)), .val (.int (own_brk (p1.toUInt32.toUInt16.toUInt32.toInt32) (0 : Int32))), .val (.int (p1.toUInt32.toUInt16.toUInt32.toInt32)), .val (.int (0 : Int32))] []))
              refine Go.on (fun t k => XS.iconst X3.here hx rfl (hb hby at_96) k) ?_
              show Go p e below _ (T3.setTop (mkF m 97 #[.val (.int p1), .val (.int p2), .val (.int p3), .val (.int (0 : Int32)), .val (.int (p1.toUInt32.toUInt16.toUInt32.toInt32)), .val (.int (own_brk (p1.toUInt32.toUInt16.toUInt32.toInt32) (0 : Int32))), .val (.int (p1.toUInt32.toUInt16.toUInt32.toInt32)), .val (.int (0 : Int32))] [(.int (1 : Int32))]))
              refine Go.on (fun t k => XS.goto X3.here hx rfl (pc0 := 97) (pc' := 101) rfl (hb hby at_97) (by decide) (by decide) k) ?_
              show Go p e below _ (T3.setTop (mkF m 101 #[.val (.int p1), .val (.int p2), .val (.int p3), .val (.int (0 : Int32)), .val (.int (p1.toUInt32.toUInt16.toUInt32.toInt32)), .val (.int (own_brk (p1.toUInt32.toUInt16.toUInt32.toInt32) (0 : Int32))), .val (.int (p1.toUInt32.toUInt16.toUInt32.toInt32)), .val (.int (0 : Int32))] [(.int (1 : Int32))]))
              exact Go.retN X3 hx hlk hret (by simp) (hb hby at_101) (by decide) (by decide) ⟨by rfl, N3⟩
  · refine Go.on (fun t k => XS.ifNo X0.here hx rfl (hb hby at_3) rfl ((if0 _ _).trans (feq hc3).1) k) ?_
    show Go p e below _ (s₁.setTop (mkF m 6 #[.val (.int p1), .val (.int p2), .val (.int p3), .unset, .unset, .unset, .unset, .unset] []))
    refine Go.on (fun t k => XS.iconst X0.here hx rfl (hb hby at_6) k) ?_
    show Go p e below _ (s₁.setTop (mkF m 7 #[.val (.int p1), .val (.int p2), .val (.int p3), .unset, .unset, .unset, .unset, .unset] [(.int (1 : Int32))]))
    refine Go.on (fun t k => XS.goto X0.here hx rfl (pc0 := 7) (pc' := 11) rfl (hb hby at_7) (by decide) (by decide) k) ?_
    show Go p e below _ (s₁.setTop (mkF m 11 #[.val (.int p1), .val (.int p2), .val (.int p3), .unset, .unset, .unset, .unset, .unset] [(.int (1 : Int32))]))
    refine Go.on (fun t k => XS.istoreN X0.here hx rfl (hb hby at_11) rfl (l' := #[.val (.int p1), .val (.int p2), .val (.int p3), .val (.int (1 : Int32)), .unset, .unset, .unset, .unset]) rfl k) ?_
    show Go p e below _ (s₁.setTop (mkF m 12 #[.val (.int p1), .val (.int p2), .val (.int p3), .val (.int (1 : Int32)), .unset, .unset, .unset, .unset] []))
    refine Go.on (fun t k => XS.iloadN X0.here hx rfl (hb hby at_12) rfl k) ?_
    show Go p e below _ (s₁.setTop (mkF m 13 #[.val (.int p1), .val (.int p2), .val (.int p3), .val (.int (1 : Int32)), .unset, .unset, .unset, .unset] [(.int p3)]))
    refine Go.on (fun t k => XS.iconst X0.here hx rfl (hb hby at_13) k) ?_
    show Go p e below _ (s₁.setTop (mkF m 14 #[.val (.int p1), .val (.int p2), .val (.int p3), .val (.int (1 : Int32)), .unset, .unset, .unset, .unset] [(.int (2 : Int32)), (.int p3)]))
    refine Go.on (fun t k => XS.iand X0.here hx rfl (hb hby at_14) rfl k) ?_
    show Go p e below _ (s₁.setTop (mkF m 15 #[.val (.int p1), .val (.int p2), .val (.int p3), .val (.int (1 : Int32)), .unset, .unset, .unset, .unset] [(.int (p3 &&& (2 : Int32)))]))
    by_cases hc15 : (p3 &&& (2 : Int32)) = (0 : Int32)
    · refine Go.on (fun t k => XS.ifYes X0.here hx rfl (pc0 := 15) (pc' := 25) rfl (hb hby at_15) rfl ((if0 _ _).trans (teq hc15).1) (by decide) (by decide) k) ?_
      show Go p e below _ (s₁.setTop (mkF m 25 #[.val (.int p1), .val (.int p2), .val (.int p3), .val (.int (1 : Int32)), .unset, .unset, .unset, .unset] []))
      refine Go.on (fun t k => XS.iloadN X0.here hx rfl (hb hby at_25) rfl k) ?_
      show Go p e below _ (s₁.setTop (mkF m 26 #[.val (.int p1), .val (.int p2), .val (.int p3), .val (.int (1 : Int32)), .unset, .unset, .unset, .unset] [(.int p1)]))
      refine Go.on (fun t k => XS.iloadN X0.here hx rfl (hb hby at_26) rfl k) ?_
      show Go p e below _ (s₁.setTop (mkF m 27 #[.val (.int p1), .val (.int p2), .val (.int p3), .val (.int (1 : Int32)), .unset, .unset, .unset, .unset] [(.int p2), (.int p1)]))
      obtain ⟨_, _, ⟨T4, L4, k4, n4⟩, -, X4, ⟨Lc4, hQ4, l4, y4, z4⟩, st4⟩ := Jvm.LawKit.callS X0 hx (y := (⟨"com/example/olentangy/olentangy/config/LineBreaksIsLineBreakPinLaw", "pick", "(II)C"⟩ : MethodName)) hown (mvT hZ (hw _ (List.mem_of_getElem? (i := 4) rfl))) (mvT hZ (hw _ (List.mem_of_getElem? (i := 5) rfl))) (mvT hZ (hw _ (List.mem_of_getElem? (i := 6) rfl))) (mvT hZ (hw _ (List.mem_of_getElem? (i := 7) rfl))) (by decide) (backOf (W := 0) (rm2 l Z a0 hw [] p1 p2 h0 n0 Z0) hZ (hw _ (List.mem_of_getElem? (i := 7) rfl)) (hw _ (List.mem_of_getElem? (i := 6) rfl)) (by decide) (by decide)) (g := (mkF m 27 #[.val (.int p1), .val (.int p2), .val (.int p3), .val (.int (1 : Int32)), .unset, .unset, .unset, .unset] [(.int p2), (.int p1)])) rfl (by rw [hml]; rfl) (argsL := [(.int p1), (.int p2)]) (rest := []) (lenOf pd_1 rfl) rfl (by show 2 * 0 + _ ≤ _; exact Nat.le_of_eq rfl) (hb hby at_27) (fun _ _ => ⟨rfl, e0, (by decide : 0 + 0 ≤ _), (by decide : 0 + 0 ≤ _)⟩)
      dsimp only [Pt.U, Pt.locs, Pt.cells, Pt.slots] at X4 l4 y4 z4 st4 hQ4
      subst l4 y4 z4
      obtain ⟨rfl, N4q, e4⟩ := hQ4
      have N4 := Fr.app N0 N4q
      refine Go.on st4 ?_
      show Go p e below _ (T4.setTop (mkF m 30 #[.val (.int p1), .val (.int p2), .val (.int p3), .val (.int (1 : Int32)), .unset, .unset, .unset, .unset] [(.int (own_pick p1 p2))]))
      refine Go.on (fun t k => XS.istore X4.here hx rfl (hb hby at_30) rfl (l' := #[.val (.int p1), .val (.int p2), .val (.int p3), .val (.int (1 : Int32)), .val (.int (own_pick p1 p2)), .unset, .unset, .unset]) rfl k) ?_
      show Go p e below _ (T4.setTop (mkF m 32 #[.val (.int p1), .val (.int p2), .val (.int p3), .val (.int (1 : Int32)), .val (.int (own_pick p1 p2)), .unset, .unset, .unset] []))
      refine Go.on (fun t k => XS.iload X4.here hx rfl (hb hby at_32) rfl k) ?_
      show Go p e below _ (T4.setTop (mkF m 34 #[.val (.int p1), .val (.int p2), .val (.int p3), .val (.int (1 : Int32)), .val (.int (own_pick p1 p2)), .unset, .unset, .unset] [(.int (own_pick p1 p2))]))
      refine Go.on (fun t k => XS.iloadN X4.here hx rfl (hb hby at_34) rfl k) ?_
      show Go p e below _ (T4.setTop (mkF m 35 #[.val (.int p1), .val (.int p2), .val (.int p3), .val (.int (1 : Int32)), .val (.int (own_pick p1 p2)), .unset, .unset, .unset] [(.int (1 : Int32)), (.int (own_pick p1 p2))]))
      obtain ⟨_, _, ⟨T5, L5, k5, n5⟩, -, X5, ⟨Lc5, hQ5, l5, y5, z5⟩, st5⟩ := Jvm.LawKit.callS X4 hx (y := (⟨"com/example/olentangy/olentangy/config/LineBreaks", "isLineBreak", "(CZ)Z"⟩ : MethodName)) hown (mvT hZ (hw _ (List.mem_of_getElem? (i := 0) rfl))) (mvT hZ (hw _ (List.mem_of_getElem? (i := 1) rfl))) (mvT hZ (hw _ (List.mem_of_getElem? (i := 2) rfl))) (mvT hZ (hw _ (List.mem_of_getElem? (i := 3) rfl))) (by decide) (backOf (W := 0) (rm1 l Z a0 hw [] (own_pick p1 p2) (1 : Int32) h0 n0 Z0) hZ (hw _ (List.mem_of_getElem? (i := 3) rfl)) (hw _ (List.mem_of_getElem? (i := 2) rfl)) (by decide) (by decide)) (g := (mkF m 35 #[.val (.int p1), .val (.int p2), .val (.int p3), .val (.int (1 : Int32)), .val (.int (own_pick p1 p2)), .unset, .unset, .unset] [(.int (1 : Int32)), (.int (own_pick p1 p2))])) rfl (by rw [hml]; rfl) (argsL := [(.int (own_pick p1 p2)), (.int (1 : Int32))]) (rest := []) (lenOf pd_2 rfl) rfl (by show 2 * 0 + _ ≤ _; exact Nat.le_of_eq rfl) (hb hby at_35) (fun _ _ => ⟨rfl, (e4), (by decide : 0 + 0 ≤ _), (by decide : 0 + 0 ≤ _)⟩)
      dsimp only [Pt.U, Pt.locs, Pt.cells, Pt.slots] at X5 l5 y5 z5 st5 hQ5
      subst l5 y5 z5
      obtain ⟨rfl, N5q, e5⟩ := hQ5
      have N5 := Fr.app N4 N5q
      refine Go.on st5 ?_
      show Go p e below _ (T5.setTop (mkF m 38 #[.val (.int p1), .val (.int p2), .val (.int p3), .val (.int (1 : Int32)), .val (.int (own_pick p1 p2)), .unset, .unset, .unset] [(.int (own_brk (own_pick p1 p2) (1 : Int32)))]))
      refine Go.on (fun t k => XS.istore X5.here hx rfl (hb hby at_38) rfl (l' := #[.val (.int p1), .val (.int p2), .val (.int p3), .val (.int (1 : Int32)), .val (.int (own_pick p1 p2)), .val (.int (own_brk (own_pick p1 p2) (1 : Int32))), .unset, .unset]) rfl k) ?_
      show Go p e below _ (T5.setTop (mkF m 40 #[.val (.int p1), .val (.int p2), .val (.int p3), .val (.int (1 : Int32)), .val (.int (own_pick p1 p2)), .val (.int (own_brk (own_pick p1 p2) (1 : Int32))), .unset, .unset] []))
      refine Go.on (fun t k => XS.iload X5.here hx rfl (hb hby at_40) rfl k) ?_
      show Go p e below _ (T5.setTop (mkF m 42 #[.val (.int p1), .val (.int p2), .val (.int p3), .val (.int (1 : Int32)), .val (.int (own_pick p1 p2)), .val (.int (own_brk (own_pick p1 p2) (1 : Int32))), .unset, .unset] [(.int (own_pick p1 p2))]))
      refine Go.on (fun t k => XS.istore X5.here hx rfl (hb hby at_42) rfl (l' := #[.val (.int p1), .val (.int p2), .val (.int p3), .val (.int (1 : Int32)), .val (.int (own_pick p1 p2)), .val (.int (own_brk (own_pick p1 p2) (1 : Int32))), .val (.int (own_pick p1 p2)), .unset]) rfl k) ?_
      show Go p e below _ (T5.setTop (mkF m 44 #[.val (.int p1), .val (.int p2), .val (.int p3), .val (.int (1 : Int32)), .val (.int (own_pick p1 p2)), .val (.int (own_brk (own_pick p1 p2) (1 : Int32))), .val (.int (own_pick p1 p2)), .unset] []))
      refine Go.on (fun t k => XS.iload X5.here hx rfl (hb hby at_44) rfl k) ?_
      show Go p e below _ (T5.setTop (mkF m 46 #[.val (.int p1), .val (.int p2), .val (.int p3), .val (.int (1 : Int32)), .val (.int (own_pick p1 p2)), .val (.int (own_brk (own_pick p1 p2) (1 : Int32))), .val (.int (own_pick p1 p2)), .unset] [(.int (own_pick p1 p2))]))
      refine Go.on (fun t k => XS.bipush X5.here hx rfl (hb hby at_46) k) ?_
      show Go p e below _ (T5.setTop (mkF m 48 #[.val (.int p1), .val (.int p2), .val (.int p3), .val (.int (1 : Int32)), .val (.int (own_pick p1 p2)), .val (.int (own_brk (own_pick p1 p2) (1 : Int32))), .val (.int (own_pick p1 p2)), .unset] [(.int (10 : Int32)), (.int (own_pick p1 p2))]))
      by_cases hc48 : (own_pick p1 p2) = (10 : Int32)
      · refine Go.on (fun t k => XS.icmpYes X5.here hx rfl (pc0 := 48) (pc' := 58) rfl (hb hby at_48) rfl (teq hc48).1 (by decide) (by decide) k) ?_
        show Go p e below _ (T5.setTop (mkF m 58 #[.val (.int p1), .val (.int p2), .val (.int p3), .val (.int (1 : Int32)), .val (.int (own_pick p1 p2)), .val (.int (own_brk (own_pick p1 p2) (1 : Int32))), .val (.int (own_pick p1 p2)), .unset] []))
        refine Go.on (fun t k => XS.iconst X5.here hx rfl (hb hby at_58) k) ?_
        show Go p e below _ (T5.setTop (mkF m 59 #[.val (.int p1), .val (.int p2), .val (.int p3), .val (.int (1 : Int32)), .val (.int (own_pick p1 p2)), .val (.int (own_brk (own_pick p1 p2) (1 : Int32))), .val (.int (own_pick p1 p2)), .unset] [(.int (1 : Int32))]))
        refine Go.on (fun t k => XS.istore X5.here hx rfl (hb hby at_59) rfl (l' := #[.val (.int p1), .val (.int p2), .val (.int p3), .val (.int (1 : Int32)), .val (.int (own_pick p1 p2)), .val (.int (own_brk (own_pick p1 p2) (1 : Int32))), .val (.int (own_pick p1 p2)), .val (.int (1 : Int32))]) rfl k) ?_
        show Go p e below _ (T5.setTop (mkF m 61 #[.val (.int p1), .val (.int p2), .val (.int p3), .val (.int (1 : Int32)), .val (.int (own_pick p1 p2)), .val (.int (own_brk (own_pick p1 p2) (1 : Int32))), .val (.int (own_pick p1 p2)), .val (.int (1 : Int32))] []))
        refine Go.on (fun t k => XS.goto X5.here hx rfl (pc0 := 61) (pc' := 89) rfl (hb hby at_61) (by decide) (by decide) k) ?_
        show Go p e below _ (T5.setTop (mkF m 89 #[.val (.int p1), .val (.int p2), .val (.int p3), .val (.int (1 : Int32)), .val (.int (own_pick p1 p2)), .val (.int (own_brk (own_pick p1 p2) (1 : Int32))), .val (.int (own_pick p1 p2)), .val (.int (1 : Int32))] []))
        refine Go.on (fun t k => XS.iload X5.here hx rfl (hb hby at_89) rfl k) ?_
        show Go p e below _ (T5.setTop (mkF m 91 #[.val (.int p1), .val (.int p2), .val (.int p3), .val (.int (1 : Int32)), .val (.int (own_pick p1 p2)), .val (.int (own_brk (own_pick p1 p2) (1 : Int32))), .val (.int (own_pick p1 p2)), .val (.int (1 : Int32))] [(.int (own_brk (own_pick p1 p2) (1 : Int32)))]))
        refine Go.on (fun t k => XS.iload X5.here hx rfl (hb hby at_91) rfl k) ?_
        show Go p e below _ (T5.setTop (mkF m 93 #[.val (.int p1), .val (.int p2), .val (.int p3), .val (.int (1 : Int32)), .val (.int (own_pick p1 p2)), .val (.int (own_brk (own_pick p1 p2) (1 : Int32))), .val (.int (own_pick p1 p2)), .val (.int (1 : Int32))] [(.int (1 : Int32)), (.int (own_brk (own_pick p1 p2) (1 : Int32)))]))
        refine Go.on (fun t k => XS.icmpNo X5.here hx rfl (hb hby at_93) rfl (teq (by first | (simp only [own_brk, hc3, hc15, hc48, if_true, if_false]; done) | (simp only [own_brk, hc3, hc15, hc48, if_true, if_false] <;> decide) | (simp [own_brk, hc3, hc15, hc48]) : (own_brk (own_pick p1 p2) (1 : Int32)) = (1 : Int32))).2 k) ?_
        show Go p e below _ (T5.setTop (mkF m 96 #[.val (.int p1), .val (.int p2), .val (.int p3), .val (.int (1 : Int32)), .val (.int (own_pick p1 p2)), .val (.int (own_brk (own_pick p1 p2) (1 : Int32))), .val (.int (own_pick p1 p2)), .val (.int (1 : Int32))] []))
        refine Go.on (fun t k => XS.iconst X5.here hx rfl (hb hby at_96) k) ?_
        show Go p e below _ (T5.setTop (mkF m 97 #[.val (.int p1), .val (.int p2), .val (.int p3), .val (.int (1 : Int32)), .val (.int (own_pick p1 p2)), .val (.int (own_brk (own_pick p1 p2) (1 : Int32))), .val (.int (own_pick p1 p2)), .val (.int (1 : Int32))] [(.int (1 : Int32))]))
        refine Go.on (fun t k => XS.goto X5.here hx rfl (pc0 := 97) (pc' := 101) rfl (hb hby at_97) (by decide) (by decide) k) ?_
        show Go p e below _ (T5.setTop (mkF m 101 #[.val (.int p1), .val (.int p2), .val (.int p3), .val (.int (1 : Int32)), .val (.int (own_pick p1 p2)), .val (.int (own_brk (own_pick p1 p2) (1 : Int32))), .val (.int (own_pick p1 p2)), .val (.int (1 : Int32))] [(.int (1 : Int32))]))
        exact Go.retN X5 hx hlk hret (by simp) (hb hby at_101) (by decide) (by decide) ⟨by rfl, N5⟩
      · refine Go.on (fun t k => XS.icmpNo X5.here hx rfl (hb hby at_48) rfl (feq hc48).1 k) ?_
        show Go p e below _ (T5.setTop (mkF m 51 #[.val (.int p1), .val (.int p2), .val (.int p3), .val (.int (1 : Int32)), .val (.int (own_pick p1 p2)), .val (.int (own_brk (own_pick p1 p2) (1 : Int32))), .val (.int (own_pick p1 p2)), .unset] []))
        refine Go.on (fun t k => XS.iload X5.here hx rfl (hb hby at_51) rfl k) ?_
        show Go p e below _ (T5.setTop (mkF m 53 #[.val (.int p1), .val (.int p2), .val (.int p3), .val (.int (1 : Int32)), .val (.int (own_pick p1 p2)), .val (.int (own_brk (own_pick p1 p2) (1 : Int32))), .val (.int (own_pick p1 p2)), .unset] [(.int (own_pick p1 p2))]))
        refine Go.on (fun t k => XS.bipush X5.here hx rfl (hb hby at_53) k) ?_
        show Go p e below _ (T5.setTop (mkF m 55 #[.val (.int p1), .val (.int p2), .val (.int p3), .val (.int (1 : Int32)), .val (.int (own_pick p1 p2)), .val (.int (own_brk (own_pick p1 p2) (1 : Int32))), .val (.int (own_pick p1 p2)), .unset] [(.int (13 : Int32)), (.int (own_pick p1 p2))]))
        by_cases hc55 : (own_pick p1 p2) = (13 : Int32)
        · refine Go.on (fun t k => XS.icmpNo X5.here hx rfl (hb hby at_55) rfl (teq hc55).2 k) ?_
          show Go p e below _ (T5.setTop (mkF m 58 #[.val (.int p1), .val (.int p2), .val (.int p3), .val (.int (1 : Int32)), .val (.int (own_pick p1 p2)), .val (.int (own_brk (own_pick p1 p2) (1 : Int32))), .val (.int (own_pick p1 p2)), .unset] []))
          refine Go.on (fun t k => XS.iconst X5.here hx rfl (hb hby at_58) k) ?_
          show Go p e below _ (T5.setTop (mkF m 59 #[.val (.int p1), .val (.int p2), .val (.int p3), .val (.int (1 : Int32)), .val (.int (own_pick p1 p2)), .val (.int (own_brk (own_pick p1 p2) (1 : Int32))), .val (.int (own_pick p1 p2)), .unset] [(.int (1 : Int32))]))
          refine Go.on (fun t k => XS.istore X5.here hx rfl (hb hby at_59) rfl (l' := #[.val (.int p1), .val (.int p2), .val (.int p3), .val (.int (1 : Int32)), .val (.int (own_pick p1 p2)), .val (.int (own_brk (own_pick p1 p2) (1 : Int32))), .val (.int (own_pick p1 p2)), .val (.int (1 : Int32))]) rfl k) ?_
          show Go p e below _ (T5.setTop (mkF m 61 #[.val (.int p1), .val (.int p2), .val (.int p3), .val (.int (1 : Int32)), .val (.int (own_pick p1 p2)), .val (.int (own_brk (own_pick p1 p2) (1 : Int32))), .val (.int (own_pick p1 p2)), .val (.int (1 : Int32))] []))
          refine Go.on (fun t k => XS.goto X5.here hx rfl (pc0 := 61) (pc' := 89) rfl (hb hby at_61) (by decide) (by decide) k) ?_
          show Go p e below _ (T5.setTop (mkF m 89 #[.val (.int p1), .val (.int p2), .val (.int p3), .val (.int (1 : Int32)), .val (.int (own_pick p1 p2)), .val (.int (own_brk (own_pick p1 p2) (1 : Int32))), .val (.int (own_pick p1 p2)), .val (.int (1 : Int32))] []))
          refine Go.on (fun t k => XS.iload X5.here hx rfl (hb hby at_89) rfl k) ?_
          show Go p e below _ (T5.setTop (mkF m 91 #[.val (.int p1), .val (.int p2), .val (.int p3), .val (.int (1 : Int32)), .val (.int (own_pick p1 p2)), .val (.int (own_brk (own_pick p1 p2) (1 : Int32))), .val (.int (own_pick p1 p2)), .val (.int (1 : Int32))] [(.int (own_brk (own_pick p1 p2) (1 : Int32)))]))
          refine Go.on (fun t k => XS.iload X5.here hx rfl (hb hby at_91) rfl k) ?_
          show Go p e below _ (T5.setTop (mkF m 93 #[.val (.int p1), .val (.int p2), .val (.int p3), .val (.int (1 : Int32)), .val (.int (own_pick p1 p2)), .val (.int (own_brk (own_pick p1 p2) (1 : Int32))), .val (.int (own_pick p1 p2)), .val (.int (1 : Int32))] [(.int (1 : Int32)), (.int (own_brk (own_pick p1 p2) (1 : Int32)))]))
          refine Go.on (fun t k => XS.icmpNo X5.here hx rfl (hb hby at_93) rfl (teq (by first | (simp only [own_brk, hc3, hc15, hc48, hc55, if_true, if_false]; done) | (simp only [own_brk, hc3, hc15, hc48, hc55, if_true, if_false] <;> decide) | (simp [own_brk, hc3, hc15, hc48, hc55]) : (own_brk (own_pick p1 p2) (1 : Int32)) = (1 : Int32))).2 k) ?_
          show Go p e below _ (T5.setTop (mkF m 96 #[.val (.int p1), .val (.int p2), .val (.int p3), .val (.int (1 : Int32)), .val (.int (own_pick p1 p2)), .val (.int (own_brk (own_pick p1 p2) (1 : Int32))), .val (.int (own_pick p1 p2)), .val (.int (1 : Int32))] []))
          refine Go.on (fun t k => XS.iconst X5.here hx rfl (hb hby at_96) k) ?_
          show Go p e below _ (T5.setTop (mkF m 97 #[.val (.int p1), .val (.int p2), .val (.int p3), .val (.int (1 : Int32)), .val (.int (own_pick p1 p2)), .val (.int (own_brk (own_pick p1 p2) (1 : Int32))), .val (.int (own_pick p1 p2)), .val (.int (1 : Int32))] [(.int (1 : Int32))]))
          refine Go.on (fun t k => XS.goto X5.here hx rfl (pc0 := 97) (pc' := 101) rfl (hb hby at_97) (by decide) (by decide) k) ?_
          show Go p e below _ (T5.setTop (mkF m 101 #[.val (.int p1), .val (.int p2), .val (.int p3), .val (.int (1 : Int32)), .val (.int (own_pick p1 p2)), .val (.int (own_brk (own_pick p1 p2) (1 : Int32))), .val (.int (own_pick p1 p2)), .val (.int (1 : Int32))] [(.int (1 : Int32))]))
          exact Go.retN X5 hx hlk hret (by simp) (hb hby at_101) (by decide) (by decide) ⟨by rfl, N5⟩
        · refine Go.on (fun t k => XS.icmpYes X5.here hx rfl (pc0 := 55) (pc' := 64) rfl (hb hby at_55) rfl (feq hc55).2 (by decide) (by decide) k) ?_
          show Go p e below _ (T5.setTop (mkF m 64 #[.val (.int p1), .val (.int p2), .val (.int p3), .val (.int (1 : Int32)), .val (.int (own_pick p1 p2)), .val (.int (own_brk (own_pick p1 p2) (1 : Int32))), .val (.int (own_pick p1 p2)), .unset] []))
          refine Go.on (fun t k => XS.iload X5.here hx rfl (hb hby at_64) rfl k) ?_
          show Go p e below _ (T5.setTop (mkF m 66 #[.val (.int p1), .val (.int p2), .val (.int p3), .val (.int (1 : Int32)), .val (.int (own_pick p1 p2)), .val (.int (own_brk (own_pick p1 p2) (1 : Int32))), .val (.int (own_pick p1 p2)), .unset] [(.int (own_pick p1 p2))]))
          refine Go.on (fun t k => XS.sipush X5.here hx rfl (hb hby at_66) k) ?_
          show Go p e below _ (T5.setTop (mkF m 69 #[.val (.int p1), .val (.int p2), .val (.int p3), .val (.int (1 : Int32)), .val (.int (own_pick p1 p2)), .val (.int (own_brk (own_pick p1 p2) (1 : Int32))), .val (.int (own_pick p1 p2)), .unset] [(.int (133 : Int32)), (.int (own_pick p1 p2))]))
          by_cases hc69 : (own_pick p1 p2) = (133 : Int32)
          · refine Go.on (fun t k => XS.icmpYes X5.here hx rfl (pc0 := 69) (pc' := 80) rfl (hb hby at_69) rfl (teq hc69).1 (by decide) (by decide) k) ?_
            show Go p e below _ (T5.setTop (mkF m 80 #[.val (.int p1), .val (.int p2), .val (.int p3), .val (.int (1 : Int32)), .val (.int (own_pick p1 p2)), .val (.int (own_brk (own_pick p1 p2) (1 : Int32))), .val (.int (own_pick p1 p2)), .unset] []))
            refine Go.on (fun t k => XS.iloadN X5.here hx rfl (hb hby at_80) rfl k) ?_
            show Go p e below _ (T5.setTop (mkF m 81 #[.val (.int p1), .val (.int p2), .val (.int p3), .val (.int (1 : Int32)), .val (.int (own_pick p1 p2)), .val (.int (own_brk (own_pick p1 p2) (1 : Int32))), .val (.int (own_pick p1 p2)), .unset] [(.int (1 : Int32))]))
            refine Go.on (fun t k => XS.istore X5.here hx rfl (hb hby at_81) rfl (l' := #[.val (.int p1), .val (.int p2), .val (.int p3), .val (.int (1 : Int32)), .val (.int (own_pick p1 p2)), .val (.int (own_brk (own_pick p1 p2) (1 : Int32))), .val (.int (own_pick p1 p2)), .val (.int (1 : Int32))]) rfl k) ?_
            show Go p e below _ (T5.setTop (mkF m 83 #[.val (.int p1), .val (.int p2), .val (.int p3), .val (.int (1 : Int32)), .val (.int (own_pick p1 p2)), .val (.int (own_brk (own_pick p1 p2) (1 : Int32))), .val (.int (own_pick p1 p2)), .val (.int (1 : Int32))] []))
            refine Go.on (fun t k => XS.goto X5.here hx rfl (pc0 := 83) (pc' := 89) rfl (hb hby at_83) (by decide) (by decide) k) ?_
            show Go p e below _ (T5.setTop (mkF m 89 #[.val (.int p1), .val (.int p2), .val (.int p3), .val (.int (1 : Int32)), .val (.int (own_pick p1 p2)), .val (.int (own_brk (own_pick p1 p2) (1 : Int32))), .val (.int (own_pick p1 p2)), .val (.int (1 : Int32))] []))
            refine Go.on (fun t k => XS.iload X5.here hx rfl (hb hby at_89) rfl k) ?_
            show Go p e below _ (T5.setTop (mkF m 91 #[.val (.int p1), .val (.int p2), .val (.int p3), .val (.int (1 : Int32)), .val (.int (own_pick p1 p2)), .val (.int (own_brk (own_pick p1 p2) (1 : Int32))), .val (.int (own_pick p1 p2)), .val (.int (1 : Int32))] [(.int (own_brk (own_pick p1 p2) (1 : Int32)))]))
            refine Go.on (fun t k => XS.iload X5.here hx rfl (hb hby at_91) rfl k) ?_
            show Go p e below _ (T5.setTop (mkF m 93 #[.val (.int p1), .val (.int p2), .val (.int p3), .val (.int (1 : Int32)), .val (.int (own_pick p1 p2)), .val (.int (own_brk (own_pick p1 p2) (1 : Int32))), .val (.int (own_pick p1 p2)), .val (.int (1 : Int32))] [(.int (1 : Int32)), (.int (own_brk (own_pick p1 p2) (1 : Int32)))]))
            refine Go.on (fun t k => XS.icmpNo X5.here hx rfl (hb hby at_93) rfl (teq (by first | (simp only [own_brk, hc3, hc15, hc48, hc55, hc69, if_true, if_false]; done) | (simp only [own_brk, hc3, hc15, hc48, hc55, hc69, if_true, if_false] <;> decide) | (simp [own_brk, hc3, hc15, hc48, hc55, hc69]) : (own_brk (own_pick p1 p2) (1 : Int32)) = (1 : Int32))).2 k) ?_
            show Go p e below _ (T5.setTop (mkF m 96 #[.val (.int p1), .val (.int p2), .val (.int p3), .val (.int (1 : Int32)), .val (.int (own_pick p1 p2)), .val (.int (own_brk (own_pick p1 p2) (1 : Int32))), .val (.int (own_pick p1 p2)), .val (.int (1 : Int32))] []))
            refine Go.on (fun t k => XS.iconst X5.here hx rfl (hb hby at_96) k) ?_
            show Go p e below _ (T5.setTop (mkF m 97 #[.val (.int p1), .val (.int p2), .val (.int p3), .val (.int (1 : Int32)), .val (.int (own_pick p1 p2)), .val (.int (own_brk (own_pick p1 p2) (1 : Int32))), .val (.int (own_pick p1 p2)), .val (.int (1 : Int32))] [(.int (1 : Int32))]))
            refine Go.on (fun t k => XS.goto X5.here hx rfl (pc0 := 97) (pc' := 101) rfl (hb hby at_97) (by decide) (by decide) k) ?_
            show Go p e below _ (T5.setTop (mkF m 101 #[.val (.int p1), .val (.int p2), .val (.int p3), .val (.int (1 : Int32)), .val (.int (own_pick p1 p2)), .val (.int (own_brk (own_pick p1 p2) (1 : Int32))), .val (.int (own_pick p1 p2)), .val (.int (1 : Int32))] [(.int (1 : Int32))]))
            exact Go.retN X5 hx hlk hret (by simp) (hb hby at_101) (by decide) (by decide) ⟨by rfl, N5⟩
          · refine Go.on (fun t k => XS.icmpNo X5.here hx rfl (hb hby at_69) rfl (feq hc69).1 k) ?_
            show Go p e below _ (T5.setTop (mkF m 72 #[.val (.int p1), .val (.int p2), .val (.int p3), .val (.int (1 : Int32)), .val (.int (own_pick p1 p2)), .val (.int (own_brk (own_pick p1 p2) (1 : Int32))), .val (.int (own_pick p1 p2)), .unset] []))
            refine Go.on (fun t k => XS.iload X5.here hx rfl (hb hby at_72) rfl k) ?_
            show Go p e below _ (T5.setTop (mkF m 74 #[.val (.int p1), .val (.int p2), .val (.int p3), .val (.int (1 : Int32)), .val (.int (own_pick p1 p2)), .val (.int (own_brk (own_pick p1 p2) (1 : Int32))), .val (.int (own_pick p1 p2)), .unset] [(.int (own_pick p1 p2))]))
            refine Go.on (fun t k => XS.sipush X5.here hx rfl (hb hby at_74) k) ?_
            show Go p e below _ (T5.setTop (mkF m 77 #[.val (.int p1), .val (.int p2), .val (.int p3), .val (.int (1 : Int32)), .val (.int (own_pick p1 p2)), .val (.int (own_brk (own_pick p1 p2) (1 : Int32))), .val (.int (own_pick p1 p2)), .unset] [(.int (8232 : Int32)), (.int (own_pick p1 p2))]))
            by_cases hc77 : (own_pick p1 p2) = (8232 : Int32)
            · refine Go.on (fun t k => XS.icmpNo X5.here hx rfl (hb hby at_77) rfl (teq hc77).2 k) ?_
              show Go p e below _ (T5.setTop (mkF m 80 #[.val (.int p1), .val (.int p2), .val (.int p3), .val (.int (1 : Int32)), .val (.int (own_pick p1 p2)), .val (.int (own_brk (own_pick p1 p2) (1 : Int32))), .val (.int (own_pick p1 p2)), .unset] []))
              refine Go.on (fun t k => XS.iloadN X5.here hx rfl (hb hby at_80) rfl k) ?_
              show Go p e below _ (T5.setTop (mkF m 81 #[.val (.int p1), .val (.int p2), .val (.int p3), .val (.int (1 : Int32)), .val (.int (own_pick p1 p2)), .val (.int (own_brk (own_pick p1 p2) (1 : Int32))), .val (.int (own_pick p1 p2)), .unset] [(.int (1 : Int32))]))
              refine Go.on (fun t k => XS.istore X5.here hx rfl (hb hby at_81) rfl (l' := #[.val (.int p1), .val (.int p2), .val (.int p3), .val (.int (1 : Int32)), .val (.int (own_pick p1 p2)), .val (.int (own_brk (own_pick p1 p2) (1 : Int32))), .val (.int (own_pick p1 p2)), .val (.int (1 : Int32))]) rfl k) ?_
              show Go p e below _ (T5.setTop (mkF m 83 #[.val (.int p1), .val (.int p2), .val (.int p3), .val (.int (1 : Int32)), .val (.int (own_pick p1 p2)), .val (.int (own_brk (own_pick p1 p2) (1 : Int32))), .val (.int (own_pick p1 p2)), .val (.int (1 : Int32))] []))
              refine Go.on (fun t k => XS.goto X5.here hx rfl (pc0 := 83) (pc' := 89) rfl (hb hby at_83) (by decide) (by decide) k) ?_
              show Go p e below _ (T5.setTop (mkF m 89 #[.val (.int p1), .val (.int p2), .val (.int p3), .val (.int (1 : Int32)), .val (.int (own_pick p1 p2)), .val (.int (own_brk (own_pick p1 p2) (1 : Int32))), .val (.int (own_pick p1 p2)), .val (.int (1 : Int32))] []))
              refine Go.on (fun t k => XS.iload X5.here hx rfl (hb hby at_89) rfl k) ?_
              show Go p e below _ (T5.setTop (mkF m 91 #[.val (.int p1), .val (.int p2), .val (.int p3), .val (.int (1 : Int32)), .val (.int (own_pick p1 p2)), .val (.int (own_brk (own_pick p1 p2) (1 : Int32))), .val (.int (own_pick p1 p2)), .val (.int (1 : Int32))] [(.int (own_brk (own_pick p1 p2) (1 : Int32)))]))
              refine Go.on (fun t k => XS.iload X5.here hx rfl (hb hby at_91) rfl k) ?_
              show Go p e below _ (T5.setTop (mkF m 93 #[.val (.int p1), .val (.int p2), .val (.int p3), .val (.int (1 : Int32)), .val (.int (own_pick p1 p2)), .val (.int (own_brk (own_pick p1 p2) (1 : Int32))), .val (.int (own_pick p1 p2)), .val (.int (1 : Int32))] [(.int (1 : Int32)), (.int (own_brk (own_pick p1 p2) (1 : Int32)))]))
              refine Go.on (fun t k => XS.icmpNo X5.here hx rfl (hb hby at_93) rfl (teq (by first | (simp only [own_brk, hc3, hc15, hc48, hc55, hc69, hc77, if_true, if_false]; done) | (simp only [own_brk, hc3, hc15, hc48, hc55, hc69, hc77, if_true, if_false] <;> decide) | (simp [own_brk, hc3, hc15, hc48, hc55, hc69, hc77]) : (own_brk (own_pick p1 p2) (1 : Int32)) = (1 : Int32))).2 k) ?_
              show Go p e below _ (T5.setTop (mkF m 96 #[.val (.int p1), .val (.int p2), .val (.int p3), .val (.int (1 : Int32)), .val (.int (own_pick p1 p2)), .val (.int (own_brk (own_pick p1 p2) (1 : Int32))), .val (.int (own_pick p1 p2)), .val (.int (1 : Int32))] []))
              refine Go.on (fun t k => XS.iconst X5.here hx rfl (hb hby at_96) k) ?_
              show Go p e below _ (T5.setTop (mkF m 97 #[.val (.int p1), .val (.int p2), .val (.int p3), .val (.int (1 : Int32)), .val (.int (own_pick p1 p2)), .val (.int (own_brk (own_pick p1 p2) (1 : Int32))), .val (.int (own_pick p1 p2)), .val (.int (1 : Int32))] [(.int (1 : Int32))]))
              refine Go.on (fun t k => XS.goto X5.here hx rfl (pc0 := 97) (pc' := 101) rfl (hb hby at_97) (by decide) (by decide) k) ?_
              show Go p e below _ (T5.setTop (mkF m 101 #[.val (.int p1), .val (.int p2), .val (.int p3), .val (.int (1 : Int32)), .val (.int (own_pick p1 p2)), .val (.int (own_brk (own_pick p1 p2) (1 : Int32))), .val (.int (own_pick p1 p2)), .val (.int (1 : Int32))] [(.int (1 : Int32))]))
              exact Go.retN X5 hx hlk hret (by simp) (hb hby at_101) (by decide) (by decide) ⟨by rfl, N5⟩
            · refine Go.on (fun t k => XS.icmpYes X5.here hx rfl (pc0 := 77) (pc' := 86) rfl (hb hby at_77) rfl (feq hc77).2 (by decide) (by decide) k) ?_
              show Go p e below _ (T5.setTop (mkF m 86 #[.val (.int p1), .val (.int p2), .val (.int p3), .val (.int (1 : Int32)), .val (.int (own_pick p1 p2)), .val (.int (own_brk (own_pick p1 p2) (1 : Int32))), .val (.int (own_pick p1 p2)), .unset] []))
              refine Go.on (fun t k => XS.iconst X5.here hx rfl (hb hby at_86) k) ?_
              show Go p e below _ (T5.setTop (mkF m 87 #[.val (.int p1), .val (.int p2), .val (.int p3), .val (.int (1 : Int32)), .val (.int (own_pick p1 p2)), .val (.int (own_brk (own_pick p1 p2) (1 : Int32))), .val (.int (own_pick p1 p2)), .unset] [(.int (0 : Int32))]))
              refine Go.on (fun t k => XS.istore X5.here hx rfl (hb hby at_87) rfl (l' := #[.val (.int p1), .val (.int p2), .val (.int p3), .val (.int (1 : Int32)), .val (.int (own_pick p1 p2)), .val (.int (own_brk (own_pick p1 p2) (1 : Int32))), .val (.int (own_pick p1 p2)), .val (.int (0 : Int32))]) rfl k) ?_
              show Go p e below _ (T5.setTop (mkF m 89 #[.val (.int p1), .val (.int p2), .val (.int p3), .val (.int (1 : Int32)), .val (.int (own_pick p1 p2)), .val (.int (own_brk (own_pick p1 p2) (1 : Int32))), .val (.int (own_pick p1 p2)), .val (.int (0 : Int32))] []))
              refine Go.on (fun t k => XS.iload X5.here hx rfl (hb hby at_89) rfl k) ?_
              show Go p e below _ (T5.setTop (mkF m 91 #[.val (.int p1), .val (.int p2), .val (.int p3), .val (.int (1 : Int32)), .val (.int (own_pick p1 p2)), .val (.int (own_brk (own_pick p1 p2) (1 : Int32))), .val (.int (own_pick p1 p2)), .val (.int (0 : Int32))] [(.int (own_brk (own_pick p1 p2) (1 : Int32)))]))
              refine Go.on (fun t k => XS.iload X5.here hx rfl (hb hby at_91) rfl k) ?_
              show Go p e below _ (T5.setTop (mkF m 93 #[.val (.int p1), .val (.int p2), .val (.int p3), .val (.int (1 : Int32)), .val (.int (own_pick p1 p2)), .val (.int (own_brk (own_pick p1 p2) (1 : Int32))), .val (.int (own_pick p1 p2)), .val (.int (0 : Int32))] [(.int (0 : Int32)), (.int (own_brk (own_pick p1 p2) (1 : Int32)))]))
              refine Go.on (fun t k => XS.icmpNo X5.here hx rfl (hb hby at_93) rfl (teq (by first | (simp only [own_brk, hc3, hc15, hc48, hc55, hc69, hc77, if_true, if_false]; done) | (simp only [own_brk, hc3, hc15, hc48, hc55, hc69, hc77, if_true, if_false] <;> decide) | (simp [own_brk, hc3, hc15, hc48, hc55, hc69, hc77]) : (own_brk (own_pick p1 p2) (1 : Int32)) = (0 : Int32))).2 k) ?_
              show Go p e below _ (T5.setTop (mkF m 96 #[.val (.int p1), .val (.int p2), .val (.int p3), .val (.int (1 : Int32)), .val (.int (own_pick p1 p2)), .val (.int (own_brk (own_pick p1 p2) (1 : Int32))), .val (.int (own_pick p1 p2)), .val (.int (0 : Int32))] []))
              refine Go.on (fun t k => XS.iconst X5.here hx rfl (hb hby at_96) k) ?_
              show Go p e below _ (T5.setTop (mkF m 97 #[.val (.int p1), .val (.int p2), .val (.int p3), .val (.int (1 : Int32)), .val (.int (own_pick p1 p2)), .val (.int (own_brk (own_pick p1 p2) (1 : Int32))), .val (.int (own_pick p1 p2)), .val (.int (0 : Int32))] [(.int (1 : Int32))]))
              refine Go.on (fun t k => XS.goto X5.here hx rfl (pc0 := 97) (pc' := 101) rfl (hb hby at_97) (by decide) (by decide) k) ?_
              show Go p e below _ (T5.setTop (mkF m 101 #[.val (.int p1), .val (.int p2), .val (.int p3), .val (.int (1 : Int32)), .val (.int (own_pick p1 p2)), .val (.int (own_brk (own_pick p1 p2) (1 : Int32))), .val (.int (own_pick p1 p2)), .val (.int (0 : Int32))] [(.int (1 : Int32))]))
              exact Go.retN X5 hx hlk hret (by simp) (hb hby at_101) (by decide) (by decide) ⟨by rfl, N5⟩
    · refine Go.on (fun t k => XS.ifNo X0.here hx rfl (hb hby at_15) rfl ((if0 _ _).trans (feq hc15).1) k) ?_
      show Go p e below _ (s₁.setTop (mkF m 18 #[.val (.int p1), .val (.int p2), .val (.int p3), .val (.int (1 : Int32)), .unset, .unset, .unset, .unset] []))
      refine Go.on (fun t k => XS.iloadN X0.here hx rfl (hb hby at_18) rfl k) ?_
      show Go p e below _ (s₁.setTop (mkF m 19 #[.val (.int p1), .val (.int p2), .val (.int p3), .val (.int (1 : Int32)), .unset, .unset, .unset, .unset] [(.int p1)]))
      refine Go.on (fun t k => XS.i2c X0.here hx rfl (hb hby at_19) rfl k) ?_
      show Go p e below _ (s₁.setTop (mkF m 20 #[.val (.int p1), .val (.int p2), .val (.int p3), .val (.int (1 : Int32)), .unset, .unset, .unset, .unset] [(.int (p1.toUInt32.toUInt16.toUInt32.toInt32))]))
      refine Go.on (fun t k => XS.istore X0.here hx rfl (hb hby at_20) rfl (l' := #[.val (.int p1), .val (.int p2), .val (.int p3), .val (.int (1 : Int32)), .val (.int (p1.toUInt32.toUInt16.toUInt32.toInt32)), .unset, .unset, .unset]) rfl k) ?_
      show Go p e below _ (s₁.setTop (mkF m 22 #[.val (.int p1), .val (.int p2), .val (.int p3), .val (.int (1 : Int32)), .val (.int (p1.toUInt32.toUInt16.toUInt32.toInt32)), .unset, .unset, .unset] []))
      refine Go.on (fun t k => XS.goto X0.here hx rfl (pc0 := 22) (pc' := 32) rfl (hb hby at_22) (by decide) (by decide) k) ?_
      show Go p e below _ (s₁.setTop (mkF m 32 #[.val (.int p1), .val (.int p2), .val (.int p3), .val (.int (1 : Int32)), .val (.int (p1.toUInt32.toUInt16.toUInt32.toInt32)), .unset, .unset, .unset] []))
      refine Go.on (fun t k => XS.iload X0.here hx rfl (hb hby at_32) rfl k) ?_
      show Go p e below _ (s₁.setTop (mkF m 34 #[.val (.int p1), .val (.int p2), .val (.int p3), .val (.int (1 : Int32)), .val (.int (p1.toUInt32.toUInt16.toUInt32.toInt32)), .unset, .unset, .unset] [(.int (p1.toUInt32.toUInt16.toUInt32.toInt32))]))
      refine Go.on (fun t k => XS.iloadN X0.here hx rfl (hb hby at_34) rfl k) ?_
      show Go p e below _ (s₁.setTop (mkF m 35 #[.val (.int p1), .val (.int p2), .val (.int p3), .val (.int (1 : Int32)), .val (.int (p1.toUInt32.toUInt16.toUInt32.toInt32)), .unset, .unset, .unset] [(.int (1 : Int32)), (.int (p1.toUInt32.toUInt16.toUInt32.toInt32))]))
      obtain ⟨_, _, ⟨T6, L6, k6, n6⟩, -, X6, ⟨Lc6, hQ6, l6, y6, z6⟩, st6⟩ := Jvm.LawKit.callS X0 hx (y := (⟨"com/example/olentangy/olentangy/config/LineBreaks", "isLineBreak", "(CZ)Z"⟩ : MethodName)) hown (mvT hZ (hw _ (List.mem_of_getElem? (i := 0) rfl))) (mvT hZ (hw _ (List.mem_of_getElem? (i := 1) rfl))) (mvT hZ (hw _ (List.mem_of_getElem? (i := 2) rfl))) (mvT hZ (hw _ (List.mem_of_getElem? (i := 3) rfl))) (by decide) (backOf (W := 0) (rm1 l Z a0 hw [] (p1.toUInt32.toUInt16.toUInt32.toInt32) (1 : Int32) h0 n0 Z0) hZ (hw _ (List.mem_of_getElem? (i := 3) rfl)) (hw _ (List.mem_of_getElem? (i := 2) rfl)) (by decide) (by decide)) (g := (mkF m 35 #[.val (.int p1), .val (.int p2), .val (.int p3), .val (.int (1 : Int32)), .val (.int (p1.toUInt32.toUInt16.toUInt32.toInt32)), .unset, .unset, .unset] [(.int (1 : Int32)), (.int (p1.toUInt32.toUInt16.toUInt32.toInt32))])) rfl (by rw [hml]; rfl) (argsL := [(.int (p1.toUInt32.toUInt16.toUInt32.toInt32)), (.int (1 : Int32))]) (rest := []) (lenOf pd_2 rfl) rfl (by show 2 * 0 + _ ≤ _; exact Nat.le_of_eq rfl) (hb hby at_35) (fun _ _ => ⟨rfl, e0, (by decide : 0 + 0 ≤ _), (by decide : 0 + 0 ≤ _)⟩)
      dsimp only [Pt.U, Pt.locs, Pt.cells, Pt.slots] at X6 l6 y6 z6 st6 hQ6
      subst l6 y6 z6
      obtain ⟨rfl, N6q, e6⟩ := hQ6
      have N6 := Fr.app N0 N6q
      refine Go.on st6 ?_
      show Go p e below _ (T6.setTop (mkF m 38 #[.val (.int p1), .val (.int p2), .val (.int p3), .val (.int (1 : Int32)), .val (.int (p1.toUInt32.toUInt16.toUInt32.toInt32)), .unset, .unset, .unset] [(.int (own_brk (p1.toUInt32.toUInt16.toUInt32.toInt32) (1 : Int32)))]))
      refine Go.on (fun t k => XS.istore X6.here hx rfl (hb hby at_38) rfl (l' := #[.val (.int p1), .val (.int p2), .val (.int p3), .val (.int (1 : Int32)), .val (.int (p1.toUInt32.toUInt16.toUInt32.toInt32)), .val (.int (own_brk (p1.toUInt32.toUInt16.toUInt32.toInt32) (1 : Int32))), .unset, .unset]) rfl k) ?_
      show Go p e below _ (T6.setTop (mkF m 40 #[.val (.int p1), .val (.int p2), .val (.int p3), .val (.int (1 : Int32)), .val (.int (p1.toUInt32.toUInt16.toUInt32.toInt32)), .val (.int (own_brk (p1.toUInt32.toUInt16.toUInt32.toInt32) (1 : Int32))), .unset, .unset] []))
      refine Go.on (fun t k => XS.iload X6.here hx rfl (hb hby at_40) rfl k) ?_
      show Go p e below _ (T6.setTop (mkF m 42 #[.val (.int p1), .val (.int p2), .val (.int p3), .val (.int (1 : Int32)), .val (.int (p1.toUInt32.toUInt16.toUInt32.toInt32)), .val (.int (own_brk (p1.toUInt32.toUInt16.toUInt32.toInt32) (1 : Int32))), .unset, .unset] [(.int (p1.toUInt32.toUInt16.toUInt32.toInt32))]))
      refine Go.on (fun t k => XS.istore X6.here hx rfl (hb hby at_42) rfl (l' := #[.val (.int p1), .val (.int p2), .val (.int p3), .val (.int (1 : Int32)), .val (.int (p1.toUInt32.toUInt16.toUInt32.toInt32)), .val (.int (own_brk (p1.toUInt32.toUInt16.toUInt32.toInt32) (1 : Int32))), .val (.int (p1.toUInt32.toUInt16.toUInt32.toInt32)), .unset]) rfl k) ?_
      show Go p e below _ (T6.setTop (mkF m 44 #[.val (.int p1), .val (.int p2), .val (.int p3), .val (.int (1 : Int32)), .val (.int (p1.toUInt32.toUInt16.toUInt32.toInt32)), .val (.int (own_brk (p1.toUInt32.toUInt16.toUInt32.toInt32) (1 : Int32))), .val (.int (p1.toUInt32.toUInt16.toUInt32.toInt32)), .unset] []))
      refine Go.on (fun t k => XS.iload X6.here hx rfl (hb hby at_44) rfl k) ?_
      show Go p e below _ (T6.setTop (mkF m 46 #[.val (.int p1), .val (.int p2), .val (.int p3), .val (.int (1 : Int32)), .val (.int (p1.toUInt32.toUInt16.toUInt32.toInt32)), .val (.int (own_brk (p1.toUInt32.toUInt16.toUInt32.toInt32) (1 : Int32))), .val (.int (p1.toUInt32.toUInt16.toUInt32.toInt32)), .unset] [(.int (p1.toUInt32.toUInt16.toUInt32.toInt32))]))
      refine Go.on (fun t k => XS.bipush X6.here hx rfl (hb hby at_46) k) ?_
      show Go p e below _ (T6.setTop (mkF m 48 #[.val (.int p1), .val (.int p2), .val (.int p3), .val (.int (1 : Int32)), .val (.int (p1.toUInt32.toUInt16.toUInt32.toInt32)), .val (.int (own_brk (p1.toUInt32.toUInt16.toUInt32.toInt32) (1 : Int32))), .val (.int (p1.toUInt32.toUInt16.toUInt32.toInt32)), .unset] [(.int (10 : Int32)), (.int (p1.toUInt32.toUInt16.toUInt32.toInt32))]))
      by_cases hc48 : (p1.toUInt32.toUInt16.toUInt32.toInt32) = (10 : Int32)
      · refine Go.on (fun t k => XS.icmpYes X6.here hx rfl (pc0 := 48) (pc' := 58) rfl (hb hby at_48) rfl (teq hc48).1 (by decide) (by decide) k) ?_
        show Go p e below _ (T6.setTop (mkF m 58 #[.val (.int p1), .val (.int p2), .val (.int p3), .val (.int (1 : Int32)), .val (.int (p1.toUInt32.toUInt16.toUInt32.toInt32)), .val (.int (own_brk (p1.toUInt32.toUInt16.toUInt32.toInt32) (1 : Int32))), .val (.int (p1.toUInt32.toUInt16.toUInt32.toInt32)), .unset] []))
        refine Go.on (fun t k => XS.iconst X6.here hx rfl (hb hby at_58) k) ?_
        show Go p e below _ (T6.setTop (mkF m 59 #[.val (.int p1), .val (.int p2), .val (.int p3), .val (.int (1 : Int32)), .val (.int (p1.toUInt32.toUInt16.toUInt32.toInt32)), .val (.int (own_brk (p1.toUInt32.toUInt16.toUInt32.toInt32) (1 : Int32))), .val (.int (p1.toUInt32.toUInt16.toUInt32.toInt32)), .unset] [(.int (1 : Int32))]))
        refine Go.on (fun t k => XS.istore X6.here hx rfl (hb hby at_59) rfl (l' := #[.val (.int p1), .val (.int p2), .val (.int p3), .val (.int (1 : Int32)), .val (.int (p1.toUInt32.toUInt16.toUInt32.toInt32)), .val (.int (own_brk (p1.toUInt32.toUInt16.toUInt32.toInt32) (1 : Int32))), .val (.int (p1.toUInt32.toUInt16.toUInt32.toInt32)), .val (.int (1 : Int32))]) rfl k) ?_
        show Go p e below _ (T6.setTop (mkF m 61 #[.val (.int p1), .val (.int p2), .val (.int p3), .val (.int (1 : Int32)), .val (.int (p1.toUInt32.toUInt16.toUInt32.toInt32)), .val (.int (own_brk (p1.toUInt32.toUInt16.toUInt32.toInt32) (1 : Int32))), .val (.int (p1.toUInt32.toUInt16.toUInt32.toInt32)), .val (.int (1 : Int32))] []))
        refine Go.on (fun t k => XS.goto X6.here hx rfl (pc0 := 61) (pc' := 89) rfl (hb hby at_61) (by decide) (by decide) k) ?_
        show Go p e below _ (T6.setTop (mkF m 89 #[.val (.int p1), .val (.int p2), .val (.int p3), .val (.int (1 : Int32)), .val (.int (p1.toUInt32.toUInt16.toUInt32.toInt32)), .val (.int (own_brk (p1.toUInt32.toUInt16.toUInt32.toInt32) (1 : Int32))), .val (.int (p1.toUInt32.toUInt16.toUInt32.toInt32)), .val (.int (1 : Int32))] []))
        refine Go.on (fun t k => XS.iload X6.here hx rfl (hb hby at_89) rfl k) ?_
        show Go p e below _ (T6.setTop (mkF m 91 #[.val (.int p1), .val (.int p2), .val (.int p3), .val (.int (1 : Int32)), .val (.int (p1.toUInt32.toUInt16.toUInt32.toInt32)), .val (.int (own_brk (p1.toUInt32.toUInt16.toUInt32.toInt32) (1 : Int32))), .val (.int (p1.toUInt32.toUInt16.toUInt32.toInt32)), .val (.int (1 : Int32))] [(.int (own_brk (p1.toUInt32.toUInt16.toUInt32.toInt32) (1 : Int32)))]))
        refine Go.on (fun t k => XS.iload X6.here hx rfl (hb hby at_91) rfl k) ?_
        show Go p e below _ (T6.setTop (mkF m 93 #[.val (.int p1), .val (.int p2), .val (.int p3), .val (.int (1 : Int32)), .val (.int (p1.toUInt32.toUInt16.toUInt32.toInt32)), .val (.int (own_brk (p1.toUInt32.toUInt16.toUInt32.toInt32) (1 : Int32))), .val (.int (p1.toUInt32.toUInt16.toUInt32.toInt32)), .val (.int (1 : Int32))] [(.int (1 : Int32)), (.int (own_brk (p1.toUInt32.toUInt16.toUInt32.toInt32) (1 : Int32)))]))
        refine Go.on (fun t k => XS.icmpNo X6.here hx rfl (hb hby at_93) rfl (teq (by first | (simp only [own_brk, hc3, hc15, hc48, if_true, if_false]; done) | (simp only [own_brk, hc3, hc15, hc48, if_true, if_false] <;> decide) | (simp [own_brk, hc3, hc15, hc48]) : (own_brk (p1.toUInt32.toUInt16.toUInt32.toInt32) (1 : Int32)) = (1 : Int32))).2 k) ?_
        show Go p e below _ (T6.setTop (mkF m 96 #[.val (.int p1), .val (.int p2), .val (.int p3), .val (.int (1 : Int32)), .val (.int (p1.toUInt32.toUInt16.toUInt32.toInt32)), .val (.int (own_brk (p1.toUInt32.toUInt16.toUInt32.toInt32) (1 : Int32))), .val (.int (p1.toUInt32.toUInt16.toUInt32.toInt32)), .val (.int (1 : Int32))] []))
        refine Go.on (fun t k => XS.iconst X6.here hx rfl (hb hby at_96) k) ?_
        show Go p e below _ (T6.setTop (mkF m 97 #[.val (.int p1), .val (.int p2), .val (.int p3), .val (.int (1 : Int32)), .val (.int (p1.toUInt32.toUInt16.toUInt32.toInt32)), .val (.int (own_brk (p1.toUInt32.toUInt16.toUInt32.toInt32) (1 : Int32))), .val (.int (p1.toUInt32.toUInt16.toUInt32.toInt32)), .val (.int (1 : Int32))] [(.int (1 : Int32))]))
        refine Go.on (fun t k => XS.goto X6.here hx rfl (pc0 := 97) (pc' := 101) rfl (hb hby at_97) (by decide) (by decide) k) ?_
        show Go p e below _ (T6.setTop (mkF m 101 #[.val (.int p1), .val (.int p2), .val (.int p3), .val (.int (1 : Int32)), .val (.int (p1.toUInt32.toUInt16.toUInt32.toInt32)), .val (.int (own_brk (p1.toUInt32.toUInt16.toUInt32.toInt32) (1 : Int32))), .val (.int (p1.toUInt32.toUInt16.toUInt32.toInt32)), .val (.int (1 : Int32))] [(.int (1 : Int32))]))
        exact Go.retN X6 hx hlk hret (by simp) (hb hby at_101) (by decide) (by decide) ⟨by rfl, N6⟩
      · refine Go.on (fun t k => XS.icmpNo X6.here hx rfl (hb hby at_48) rfl (feq hc48).1 k) ?_
        show Go p e below _ (T6.setTop (mkF m 51 #[.val (.int p1), .val (.int p2), .val (.int p3), .val (.int (1 : Int32)), .val (.int (p1.toUInt32.toUInt16.toUInt32.toInt32)), .val (.int (own_brk (p1.toUInt32.toUInt16.toUInt32.toInt32) (1 : Int32))), .val (.int (p1.toUInt32.toUInt16.toUInt32.toInt32)), .unset] []))
        refine Go.on (fun t k => XS.iload X6.here hx rfl (hb hby at_51) rfl k) ?_
        show Go p e below _ (T6.setTop (mkF m 53 #[.val (.int p1), .val (.int p2), .val (.int p3), .val (.int (1 : Int32)), .val (.int (p1.toUInt32.toUInt16.toUInt32.toInt32)), .val (.int (own_brk (p1.toUInt32.toUInt16.toUInt32.toInt32) (1 : Int32))), .val (.int (p1.toUInt32.toUInt16.toUInt32.toInt32)), .unset] [(.int (p1.toUInt32.toUInt16.toUInt32.toInt32))]))
        refine Go.on (fun t k => XS.bipush X6.here hx rfl (hb hby at_53) k) ?_
        show Go p e below _ (T6.setTop (mkF m 55 #[.val (.int p1), .val (.int p2), .val (.int p3), .val (.int (1 : Int32)), .val (.int (p1.toUInt32.toUInt16.toUInt32.toInt32)), .val (.int (own_brk (p1.toUInt32.toUInt16.toUInt32.toInt32) (1 : Int32))), .val (.int (p1.toUInt32.toUInt16.toUInt32.toInt32)), .unset] [(.int (13 : Int32)), (.int (p1.toUInt32.toUInt16.toUInt32.toInt32))]))
        by_cases hc55 : (p1.toUInt32.toUInt16.toUInt32.toInt32) = (13 : Int32)
        · refine Go.on (fun t k => XS.icmpNo X6.here hx rfl (hb hby at_55) rfl (teq hc55).2 k) ?_
          show Go p e below _ (T6.setTop (mkF m 58 #[.val (.int p1), .val (.int p2), .val (.int p3), .val (.int (1 : Int32)), .val (.int (p1.toUInt32.toUInt16.toUInt32.toInt32)), .val (.int (own_brk (p1.toUInt32.toUInt16.toUInt32.toInt32) (1 : Int32))), .val (.int (p1.toUInt32.toUInt16.toUInt32.toInt32)), .unset] []))
          refine Go.on (fun t k => XS.iconst X6.here hx rfl (hb hby at_58) k) ?_
          show Go p e below _ (T6.setTop (mkF m 59 #[.val (.int p1), .val (.int p2), .val (.int p3), .val (.int (1 : Int32)), .val (.int (p1.toUInt32.toUInt16.toUInt32.toInt32)), .val (.int (own_brk (p1.toUInt32.toUInt16.toUInt32.toInt32) (1 : Int32))), .val (.int (p1.toUInt32.toUInt16.toUInt32.toInt32)), .unset] [(.int (1 : Int32))]))
          refine Go.on (fun t k => XS.istore X6.here hx rfl (hb hby at_59) rfl (l' := #[.val (.int p1), .val (.int p2), .val (.int p3), .val (.int (1 : Int32)), .val (.int (p1.toUInt32.toUInt16.toUInt32.toInt32)), .val (.int (own_brk (p1.toUInt32.toUInt16.toUInt32.toInt32) (1 : Int32))), .val (.int (p1.toUInt32.toUInt16.toUInt32.toInt32)), .val (.int (1 : Int32))]) rfl k) ?_
          show Go p e below _ (T6.setTop (mkF m 61 #[.val (.int p1), .val (.int p2), .val (.int p3), .val (.int (1 : Int32)), .val (.int (p1.toUInt32.toUInt16.toUInt32.toInt32)), .val (.int (own_brk (p1.toUInt32.toUInt16.toUInt32.toInt32) (1 : Int32))), .val (.int (p1.toUInt32.toUInt16.toUInt32.toInt32)), .val (.int (1 : Int32))] []))
          refine Go.on (fun t k => XS.goto X6.here hx rfl (pc0 := 61) (pc' := 89) rfl (hb hby at_61) (by decide) (by decide) k) ?_
          show Go p e below _ (T6.setTop (mkF m 89 #[.val (.int p1), .val (.int p2), .val (.int p3), .val (.int (1 : Int32)), .val (.int (p1.toUInt32.toUInt16.toUInt32.toInt32)), .val (.int (own_brk (p1.toUInt32.toUInt16.toUInt32.toInt32) (1 : Int32))), .val (.int (p1.toUInt32.toUInt16.toUInt32.toInt32)), .val (.int (1 : Int32))] []))
          refine Go.on (fun t k => XS.iload X6.here hx rfl (hb hby at_89) rfl k) ?_
          show Go p e below _ (T6.setTop (mkF m 91 #[.val (.int p1), .val (.int p2), .val (.int p3), .val (.int (1 : Int32)), .val (.int (p1.toUInt32.toUInt16.toUInt32.toInt32)), .val (.int (own_brk (p1.toUInt32.toUInt16.toUInt32.toInt32) (1 : Int32))), .val (.int (p1.toUInt32.toUInt16.toUInt32.toInt32)), .val (.int (1 : Int32))] [(.int (own_brk (p1.toUInt32.toUInt16.toUInt32.toInt32) (1 : Int32)))]))
          refine Go.on (fun t k => XS.iload X6.here hx rfl (hb hby at_91) rfl k) ?_
          show Go p e below _ (T6.setTop (mkF m 93 #[.val (.int p1), .val (.int p2), .val (.int p3), .val (.int (1 : Int32)), .val (.int (p1.toUInt32.toUInt16.toUInt32.toInt32)), .val (.int (own_brk (p1.toUInt32.toUInt16.toUInt32.toInt32) (1 : Int32))), .val (.int (p1.toUInt32.toUInt16.toUInt32.toInt32)), .val (.int (1 : Int32))] [(.int (1 : Int32)), (.int (own_brk (p1.toUInt32.toUInt16.toUInt32.toInt32) (1 : Int32)))]))
          refine Go.on (fun t k => XS.icmpNo X6.here hx rfl (hb hby at_93) rfl (teq (by first | (simp only [own_brk, hc3, hc15, hc48, hc55, if_true, if_false]; done) | (simp only [own_brk, hc3, hc15, hc48, hc55, if_true, if_false] <;> decide) | (simp [own_brk, hc3, hc15, hc48, hc55]) : (own_brk (p1.toUInt32.toUInt16.toUInt32.toInt32) (1 : Int32)) = (1 : Int32))).2 k) ?_
          show Go p e below _ (T6.setTop (mkF m 96 #[.val (.int p1), .val (.int p2), .val (.int p3), .val (.int (1 : Int32)), .val (.int (p1.toUInt32.toUInt16.toUInt32.toInt32)), .val (.int (own_brk (p1.toUInt32.toUInt16.toUInt32.toInt32) (1 : Int32))), .val (.int (p1.toUInt32.toUInt16.toUInt32.toInt32)), .val (.int (1 : Int32))] []))
          refine Go.on (fun t k => XS.iconst X6.here hx rfl (hb hby at_96) k) ?_
          show Go p e below _ (T6.setTop (mkF m 97 #[.val (.int p1), .val (.int p2), .val (.int p3), .val (.int (1 : Int32)), .val (.int (p1.toUInt32.toUInt16.toUInt32.toInt32)), .val (.int (own_brk (p1.toUInt32.toUInt16.toUInt32.toInt32) (1 : Int32))), .val (.int (p1.toUInt32.toUInt16.toUInt32.toInt32)), .val (.int (1 : Int32))] [(.int (1 : Int32))]))
          refine Go.on (fun t k => XS.goto X6.here hx rfl (pc0 := 97) (pc' := 101) rfl (hb hby at_97) (by decide) (by decide) k) ?_
          show Go p e below _ (T6.setTop (mkF m 101 #[.val (.int p1), .val (.int p2), .val (.int p3), .val (.int (1 : Int32)), .val (.int (p1.toUInt32.toUInt16.toUInt32.toInt32)), .val (.int (own_brk (p1.toUInt32.toUInt16.toUInt32.toInt32) (1 : Int32))), .val (.int (p1.toUInt32.toUInt16.toUInt32.toInt32)), .val (.int (1 : Int32))] [(.int (1 : Int32))]))
          exact Go.retN X6 hx hlk hret (by simp) (hb hby at_101) (by decide) (by decide) ⟨by rfl, N6⟩
        · refine Go.on (fun t k => XS.icmpYes X6.here hx rfl (pc0 := 55) (pc' := 64) rfl (hb hby at_55) rfl (feq hc55).2 (by decide) (by decide) k) ?_
          show Go p e below _ (T6.setTop (mkF m 64 #[.val (.int p1), .val (.int p2), .val (.int p3), .val (.int (1 : Int32)), .val (.int (p1.toUInt32.toUInt16.toUInt32.toInt32)), .val (.int (own_brk (p1.toUInt32.toUInt16.toUInt32.toInt32) (1 : Int32))), .val (.int (p1.toUInt32.toUInt16.toUInt32.toInt32)), .unset] []))
          refine Go.on (fun t k => XS.iload X6.here hx rfl (hb hby at_64) rfl k) ?_
          show Go p e below _ (T6.setTop (mkF m 66 #[.val (.int p1), .val (.int p2), .val (.int p3), .val (.int (1 : Int32)), .val (.int (p1.toUInt32.toUInt16.toUInt32.toInt32)), .val (.int (own_brk (p1.toUInt32.toUInt16.toUInt32.toInt32) (1 : Int32))), .val (.int (p1.toUInt32.toUInt16.toUInt32.toInt32)), .unset] [(.int (p1.toUInt32.toUInt16.toUInt32.toInt32))]))
          refine Go.on (fun t k => XS.sipush X6.here hx rfl (hb hby at_66) k) ?_
          show Go p e below _ (T6.setTop (mkF m 69 #[.val (.int p1), .val (.int p2), .val (.int p3), .val (.int (1 : Int32)), .val (.int (p1.toUInt32.toUInt16.toUInt32.toInt32)), .val (.int (own_brk (p1.toUInt32.toUInt16.toUInt32.toInt32) (1 : Int32))), .val (.int (p1.toUInt32.toUInt16.toUInt32.toInt32)), .unset] [(.int (133 : Int32)), (.int (p1.toUInt32.toUInt16.toUInt32.toInt32))]))
          by_cases hc69 : (p1.toUInt32.toUInt16.toUInt32.toInt32) = (133 : Int32)
          · refine Go.on (fun t k => XS.icmpYes X6.here hx rfl (pc0 := 69) (pc' := 80) rfl (hb hby at_69) rfl (teq hc69).1 (by decide) (by decide) k) ?_
            show Go p e below _ (T6.setTop (mkF m 80 #[.val (.int p1), .val (.int p2), .val (.int p3), .val (.int (1 : Int32)), .val (.int (p1.toUInt32.toUInt16.toUInt32.toInt32)), .val (.int (own_brk (p1.toUInt32.toUInt16.toUInt32.toInt32) (1 : Int32))), .val (.int (p1.toUInt32.toUInt16.toUInt32.toInt32)), .unset] []))
            refine Go.on (fun t k => XS.iloadN X6.here hx rfl (hb hby at_80) rfl k) ?_
            show Go p e below _ (T6.setTop (mkF m 81 #[.val (.int p1), .val (.int p2), .val (.int p3), .val (.int (1 : Int32)), .val (.int (p1.toUInt32.toUInt16.toUInt32.toInt32)), .val (.int (own_brk (p1.toUInt32.toUInt16.toUInt32.toInt32) (1 : Int32))), .val (.int (p1.toUInt32.toUInt16.toUInt32.toInt32)), .unset] [(.int (1 : Int32))]))
            refine Go.on (fun t k => XS.istore X6.here hx rfl (hb hby at_81) rfl (l' := #[.val (.int p1), .val (.int p2), .val (.int p3), .val (.int (1 : Int32)), .val (.int (p1.toUInt32.toUInt16.toUInt32.toInt32)), .val (.int (own_brk (p1.toUInt32.toUInt16.toUInt32.toInt32) (1 : Int32))), .val (.int (p1.toUInt32.toUInt16.toUInt32.toInt32)), .val (.int (1 : Int32))]) rfl k) ?_
            show Go p e below _ (T6.setTop (mkF m 83 #[.val (.int p1), .val (.int p2), .val (.int p3), .val (.int (1 : Int32)), .val (.int (p1.toUInt32.toUInt16.toUInt32.toInt32)), .val (.int (own_brk (p1.toUInt32.toUInt16.toUInt32.toInt32) (1 : Int32))), .val (.int (p1.toUInt32.toUInt16.toUInt32.toInt32)), .val (.int (1 : Int32))] []))
            refine Go.on (fun t k => XS.goto X6.here hx rfl (pc0 := 83) (pc' := 89) rfl (hb hby at_83) (by decide) (by decide) k) ?_
            show Go p e below _ (T6.setTop (mkF m 89 #[.val (.int p1), .val (.int p2), .val (.int p3), .val (.int (1 : Int32)), .val (.int (p1.toUInt32.toUInt16.toUInt32.toInt32)), .val (.int (own_brk (p1.toUInt32.toUInt16.toUInt32.toInt32) (1 : Int32))), .val (.int (p1.toUInt32.toUInt16.toUInt32.toInt32)), .val (.int (1 : Int32))] []))
            refine Go.on (fun t k => XS.iload X6.here hx rfl (hb hby at_89) rfl k) ?_
            show Go p e below _ (T6.setTop (mkF m 91 #[.val (.int p1), .val (.int p2), .val (.int p3), .val (.int (1 : Int32)), .val (.int (p1.toUInt32.toUInt16.toUInt32.toInt32)), .val (.int (own_brk (p1.toUInt32.toUInt16.toUInt32.toInt32) (1 : Int32))), .val (.int (p1.toUInt32.toUInt16.toUInt32.toInt32)), .val (.int (1 : Int32))] [(.int (own_brk (p1.toUInt32.toUInt16.toUInt32.toInt32) (1 : Int32)))]))
            refine Go.on (fun t k => XS.iload X6.here hx rfl (hb hby at_91) rfl k) ?_
            show Go p e below _ (T6.setTop (mkF m 93 #[.val (.int p1), .val (.int p2), .val (.int p3), .val (.int (1 : Int32)), .val (.int (p1.toUInt32.toUInt16.toUInt32.toInt32)), .val (.int (own_brk (p1.toUInt32.toUInt16.toUInt32.toInt32) (1 : Int32))), .val (.int (p1.toUInt32.toUInt16.toUInt32.toInt32)), .val (.int (1 : Int32))] [(.int (1 : Int32)), (.int (own_brk (p1.toUInt32.toUInt16.toUInt32.toInt32) (1 : Int32)))]))
            refine Go.on (fun t k => XS.icmpNo X6.here hx rfl (hb hby at_93) rfl (teq (by first | (simp only [own_brk, hc3, hc15, hc48, hc55, hc69, if_true, if_false]; done) | (simp only [own_brk, hc3, hc15, hc48, hc55, hc69, if_true, if_false] <;> decide) | (simp [own_brk, hc3, hc15, hc48, hc55, hc69]) : (own_brk (p1.toUInt32.toUInt16.toUInt32.toInt32) (1 : Int32)) = (1 : Int32))).2 k) ?_
            show Go p e below _ (T6.setTop (mkF m 96 #[.val (.int p1), .val (.int p2), .val (.int p3), .val (.int (1 : Int32)), .val (.int (p1.toUInt32.toUInt16.toUInt32.toInt32)), .val (.int (own_brk (p1.toUInt32.toUInt16.toUInt32.toInt32) (1 : Int32))), .val (.int (p1.toUInt32.toUInt16.toUInt32.toInt32)), .val (.int (1 : Int32))] []))
            refine Go.on (fun t k => XS.iconst X6.here hx rfl (hb hby at_96) k) ?_
            show Go p e below _ (T6.setTop (mkF m 97 #[.val (.int p1), .val (.int p2), .val (.int p3), .val (.int (1 : Int32)), .val (.int (p1.toUInt32.toUInt16.toUInt32.toInt32)), .val (.int (own_brk (p1.toUInt32.toUInt16.toUInt32.toInt32) (1 : Int32))), .val (.int (p1.toUInt32.toUInt16.toUInt32.toInt32)), .val (.int (1 : Int32))] [(.int (1 : Int32))]))
            refine Go.on (fun t k => XS.goto X6.here hx rfl (pc0 := 97) (pc' := 101) rfl (hb hby at_97) (by decide) (by decide) k) ?_
            show Go p e below _ (T6.setTop (mkF m 101 #[.val (.int p1), .val (.int p2), .val (.int p3), .val (.int (1 : Int32)), .val (.int (p1.toUInt32.toUInt16.toUInt32.toInt32)), .val (.int (own_brk (p1.toUInt32.toUInt16.toUInt32.toInt32) (1 : Int32))), .val (.int (p1.toUInt32.toUInt16.toUInt32.toInt32)), .val (.int (1 : Int32))] [(.int (1 : Int32))]))
            exact Go.retN X6 hx hlk hret (by simp) (hb hby at_101) (by decide) (by decide) ⟨by rfl, N6⟩
          · refine Go.on (fun t k => XS.icmpNo X6.here hx rfl (hb hby at_69) rfl (feq hc69).1 k) ?_
            show Go p e below _ (T6.setTop (mkF m 72 #[.val (.int p1), .val (.int p2), .val (.int p3), .val (.int (1 : Int32)), .val (.int (p1.toUInt32.toUInt16.toUInt32.toInt32)), .val (.int (own_brk (p1.toUInt32.toUInt16.toUInt32.toInt32) (1 : Int32))), .val (.int (p1.toUInt32.toUInt16.toUInt32.toInt32)), .unset] []))
            refine Go.on (fun t k => XS.iload X6.here hx rfl (hb hby at_72) rfl k) ?_
            show Go p e below _ (T6.setTop (mkF m 74 #[.val (.int p1), .val (.int p2), .val (.int p3), .val (.int (1 : Int32)), .val (.int (p1.toUInt32.toUInt16.toUInt32.toInt32)), .val (.int (own_brk (p1.toUInt32.toUInt16.toUInt32.toInt32) (1 : Int32))), .val (.int (p1.toUInt32.toUInt16.toUInt32.toInt32)), .unset] [(.int (p1.toUInt32.toUInt16.toUInt32.toInt32))]))
            refine Go.on (fun t k => XS.sipush X6.here hx rfl (hb hby at_74) k) ?_
            show Go p e below _ (T6.setTop (mkF m 77 #[.val (.int p1), .val (.int p2), .val (.int p3), .val (.int (1 : Int32)), .val (.int (p1.toUInt32.toUInt16.toUInt32.toInt32)), .val (.int (own_brk (p1.toUInt32.toUInt16.toUInt32.toInt32) (1 : Int32))), .val (.int (p1.toUInt32.toUInt16.toUInt32.toInt32)), .unset] [(.int (8232 : Int32)), (.int (p1.toUInt32.toUInt16.toUInt32.toInt32))]))
            by_cases hc77 : (p1.toUInt32.toUInt16.toUInt32.toInt32) = (8232 : Int32)
            · refine Go.on (fun t k => XS.icmpNo X6.here hx rfl (hb hby at_77) rfl (teq hc77).2 k) ?_
              show Go p e below _ (T6.setTop (mkF m 80 #[.val (.int p1), .val (.int p2), .val (.int p3), .val (.int (1 : Int32)), .val (.int (p1.toUInt32.toUInt16.toUInt32.toInt32)), .val (.int (own_brk (p1.toUInt32.toUInt16.toUInt32.toInt32) (1 : Int32))), .val (.int (p1.toUInt32.toUInt16.toUInt32.toInt32)), .unset] []))
              refine Go.on (fun t k => XS.iloadN X6.here hx rfl (hb hby at_80) rfl k) ?_
              show Go p e below _ (T6.setTop (mkF m 81 #[.val (.int p1), .val (.int p2), .val (.int p3), .val (.int (1 : Int32)), .val (.int (p1.toUInt32.toUInt16.toUInt32.toInt32)), .val (.int (own_brk (p1.toUInt32.toUInt16.toUInt32.toInt32) (1 : Int32))), .val (.int (p1.toUInt32.toUInt16.toUInt32.toInt32)), .unset] [(.int (1 : Int32))]))
              refine Go.on (fun t k => XS.istore X6.here hx rfl (hb hby at_81) rfl (l' := #[.val (.int p1), .val (.int p2), .val (.int p3), .val (.int (1 : Int32)), .val (.int (p1.toUInt32.toUInt16.toUInt32.toInt32)), .val (.int (own_brk (p1.toUInt32.toUInt16.toUInt32.toInt32) (1 : Int32))), .val (.int (p1.toUInt32.toUInt16.toUInt32.toInt32)), .val (.int (1 : Int32))]) rfl k) ?_
              show Go p e below _ (T6.setTop (mkF m 83 #[.val (.int p1), .val (.int p2), .val (.int p3), .val (.int (1 : Int32)), .val (.int (p1.toUInt32.toUInt16.toUInt32.toInt32)), .val (.int (own_brk (p1.toUInt32.toUInt16.toUInt32.toInt32) (1 : Int32))), .val (.int (p1.toUInt32.toUInt16.toUInt32.toInt32)), .val (.int (1 : Int32))] []))
              refine Go.on (fun t k => XS.goto X6.here hx rfl (pc0 := 83) (pc' := 89) rfl (hb hby at_83) (by decide) (by decide) k) ?_
              show Go p e below _ (T6.setTop (mkF m 89 #[.val (.int p1), .val (.int p2), .val (.int p3), .val (.int (1 : Int32)), .val (.int (p1.toUInt32.toUInt16.toUInt32.toInt32)), .val (.int (own_brk (p1.toUInt32.toUInt16.toUInt32.toInt32) (1 : Int32))), .val (.int (p1.toUInt32.toUInt16.toUInt32.toInt32)), .val (.int (1 : Int32))] []))
              refine Go.on (fun t k => XS.iload X6.here hx rfl (hb hby at_89) rfl k) ?_
              show Go p e below _ (T6.setTop (mkF m 91 #[.val (.int p1), .val (.int p2), .val (.int p3), .val (.int (1 : Int32)), .val (.int (p1.toUInt32.toUInt16.toUInt32.toInt32)), .val (.int (own_brk (p1.toUInt32.toUInt16.toUInt32.toInt32) (1 : Int32))), .val (.int (p1.toUInt32.toUInt16.toUInt32.toInt32)), .val (.int (1 : Int32))] [(.int (own_brk (p1.toUInt32.toUInt16.toUInt32.toInt32) (1 : Int32)))]))
              refine Go.on (fun t k => XS.iload X6.here hx rfl (hb hby at_91) rfl k) ?_
              show Go p e below _ (T6.setTop (mkF m 93 #[.val (.int p1), .val (.int p2), .val (.int p3), .val (.int (1 : Int32)), .val (.int (p1.toUInt32.toUInt16.toUInt32.toInt32)), .val (.int (own_brk (p1.toUInt32.toUInt16.toUInt32.toInt32) (1 : Int32))), .val (.int (p1.toUInt32.toUInt16.toUInt32.toInt32)), .val (.int (1 : Int32))] [(.int (1 : Int32)), (.int (own_brk (p1.toUInt32.toUInt16.toUInt32.toInt32) (1 : Int32)))]))
              refine Go.on (fun t k => XS.icmpNo X6.here hx rfl (hb hby at_93) rfl (teq (by first | (simp only [own_brk, hc3, hc15, hc48, hc55, hc69, hc77, if_true, if_false]; done) | (simp only [own_brk, hc3, hc15, hc48, hc55, hc69, hc77, if_true, if_false] <;> decide) | (simp [own_brk, hc3, hc15, hc48, hc55, hc69, hc77]) : (own_brk (p1.toUInt32.toUInt16.toUInt32.toInt32) (1 : Int32)) = (1 : Int32))).2 k) ?_
              show Go p e below _ (T6.setTop (mkF m 96 #[.val (.int p1), .val (.int p2), .val (.int p3), .val (.int (1 : Int32)), .val (.int (p1.toUInt32.toUInt16.toUInt32.toInt32)), .val (.int (own_brk (p1.toUInt32.toUInt16.toUInt32.toInt32) (1 : Int32))), .val (.int (p1.toUInt32.toUInt16.toUInt32.toInt32)), .val (.int (1 : Int32))] []))
              refine Go.on (fun t k => XS.iconst X6.here hx rfl (hb hby at_96) k) ?_
              show Go p e below _ (T6.setTop (mkF m 97 #[.val (.int p1), .val (.int p2), .val (.int p3), .val (.int (1 : Int32)), .val (.int (p1.toUInt32.toUInt16.toUInt32.toInt32)), .val (.int (own_brk (p1.toUInt32.toUInt16.toUInt32.toInt32) (1 : Int32))), .val (.int (p1.toUInt32.toUInt16.toUInt32.toInt32)), .val (.int (1 : Int32))] [(.int (1 : Int32))]))
              refine Go.on (fun t k => XS.goto X6.here hx rfl (pc0 := 97) (pc' := 101) rfl (hb hby at_97) (by decide) (by decide) k) ?_
              show Go p e below _ (T6.setTop (mkF m 101 #[.val (.int p1), .val (.int p2), .val (.int p3), .val (.int (1 : Int32)), .val (.int (p1.toUInt32.toUInt16.toUInt32.toInt32)), .val (.int (own_brk (p1.toUInt32.toUInt16.toUInt32.toInt32) (1 : Int32))), .val (.int (p1.toUInt32.toUInt16.toUInt32.toInt32)), .val (.int (1 : Int32))] [(.int (1 : Int32))]))
              exact Go.retN X6 hx hlk hret (by simp) (hb hby at_101) (by decide) (by decide) ⟨by rfl, N6⟩
            · refine Go.on (fun t k => XS.icmpYes X6.here hx rfl (pc0 := 77) (pc' := 86) rfl (hb hby at_77) rfl (feq hc77).2 (by decide) (by decide) k) ?_
              show Go p e below _ (T6.setTop (mkF m 86 #[.val (.int p1), .val (.int p2), .val (.int p3), .val (.int (1 : Int32)), .val (.int (p1.toUInt32.toUInt16.toUInt32.toInt32)), .val (.int (own_brk (p1.toUInt32.toUInt16.toUInt32.toInt32) (1 : Int32))), .val (.int (p1.toUInt32.toUInt16.toUInt32.toInt32)), .unset] []))
              refine Go.on (fun t k => XS.iconst X6.here hx rfl (hb hby at_86) k) ?_
              show Go p e below _ (T6.setTop (mkF m 87 #[.val (.int p1), .val (.int p2), .val (.int p3), .val (.int (1 : Int32)), .val (.int (p1.toUInt32.toUInt16.toUInt32.toInt32)), .val (.int (own_brk (p1.toUInt32.toUInt16.toUInt32.toInt32) (1 : Int32))), .val (.int (p1.toUInt32.toUInt16.toUInt32.toInt32)), .unset] [(.int (0 : Int32))]))
              refine Go.on (fun t k => XS.istore X6.here hx rfl (hb hby at_87) rfl (l' := #[.val (.int p1), .val (.int p2), .val (.int p3), .val (.int (1 : Int32)), .val (.int (p1.toUInt32.toUInt16.toUInt32.toInt32)), .val (.int (own_brk (p1.toUInt32.toUInt16.toUInt32.toInt32) (1 : Int32))), .val (.int (p1.toUInt32.toUInt16.toUInt32.toInt32)), .val (.int (0 : Int32))]) rfl k) ?_
              show Go p e below _ (T6.setTop (mkF m 89 #[.val (.int p1), .val (.int p2), .val (.int p3), .val (.int (1 : Int32)), .val (.int (p1.toUInt32.toUInt16.toUInt32.toInt32)), .val (.int (own_brk (p1.toUInt32.toUInt16.toUInt32.toInt32) (1 : Int32))), .val (.int (p1.toUInt32.toUInt16.toUInt32.toInt32)), .val (.int (0 : Int32))] []))
              refine Go.on (fun t k => XS.iload X6.here hx rfl (hb hby at_89) rfl k) ?_
              show Go p e below _ (T6.setTop (mkF m 91 #[.val (.int p1), .val (.int p2), .val (.int p3), .val (.int (1 : Int32)), .val (.int (p1.toUInt32.toUInt16.toUInt32.toInt32)), .val (.int (own_brk (p1.toUInt32.toUInt16.toUInt32.toInt32) (1 : Int32))), .val (.int (p1.toUInt32.toUInt16.toUInt32.toInt32)), .val (.int (0 : Int32))] [(.int (own_brk (p1.toUInt32.toUInt16.toUInt32.toInt32) (1 : Int32)))]))
              refine Go.on (fun t k => XS.iload X6.here hx rfl (hb hby at_91) rfl k) ?_
              show Go p e below _ (T6.setTop (mkF m 93 #[.val (.int p1), .val (.int p2), .val (.int p3), .val (.int (1 : Int32)), .val (.int (p1.toUInt32.toUInt16.toUInt32.toInt32)), .val (.int (own_brk (p1.toUInt32.toUInt16.toUInt32.toInt32) (1 : Int32))), .val (.int (p1.toUInt32.toUInt16.toUInt32.toInt32)), .val (.int (0 : Int32))] [(.int (0 : Int32)), (.int (own_brk (p1.toUInt32.toUInt16.toUInt32.toInt32) (1 : Int32)))]))
              refine Go.on (fun t k => XS.icmpNo X6.here hx rfl (hb hby at_93) rfl (teq (by first | (simp only [own_brk, hc3, hc15, hc48, hc55, hc69, hc77, if_true, if_false]; done) | (simp only [own_brk, hc3, hc15, hc48, hc55, hc69, hc77, if_true, if_false] <;> decide) | (simp [own_brk, hc3, hc15, hc48, hc55, hc69, hc77]) : (own_brk (p1.toUInt32.toUInt16.toUInt32.toInt32) (1 : Int32)) = (0 : Int32))).2 k) ?_
              show Go p e below _ (T6.setTop (mkF m 96 #[.val (.int p1), .val (.int p2), .val (.int p3), .val (.int (1 : Int32)), .val (.int (p1.toUInt32.toUInt16.toUInt32.toInt32)), .val (.int (own_brk (p1.toUInt32.toUInt16.toUInt32.toInt32) (1 : Int32))), .val (.int (p1.toUInt32.toUInt16.toUInt32.toInt32)), .val (.int (0 : Int32))] []))
              refine Go.on (fun t k => XS.iconst X6.here hx rfl (hb hby at_96) k) ?_
              show Go p e below _ (T6.setTop (mkF m 97 #[.val (.int p1), .val (.int p2), .val (.int p3), .val (.int (1 : Int32)), .val (.int (p1.toUInt32.toUInt16.toUInt32.toInt32)), .val (.int (own_brk (p1.toUInt32.toUInt16.toUInt32.toInt32) (1 : Int32))), .val (.int (p1.toUInt32.toUInt16.toUInt32.toInt32)), .val (.int (0 : Int32))] [(.int (1 : Int32))]))
              refine Go.on (fun t k => XS.goto X6.here hx rfl (pc0 := 97) (pc' := 101) rfl (hb hby at_97) (by decide) (by decide) k) ?_
              show Go p e below _ (T6.setTop (mkF m 101 #[.val (.int p1), .val (.int p2), .val (.int p3), .val (.int (1 : Int32)), .val (.int (p1.toUInt32.toUInt16.toUInt32.toInt32)), .val (.int (own_brk (p1.toUInt32.toUInt16.toUInt32.toInt32) (1 : Int32))), .val (.int (p1.toUInt32.toUInt16.toUInt32.toInt32)), .val (.int (0 : Int32))] [(.int (1 : Int32))]))
              exact Go.retN X6 hx hlk hret (by simp) (hb hby at_101) (by decide) (by decide) ⟨by rfl, N6⟩
set_option maxRecDepth 65536 in
set_option maxHeartbeats 40000000 in
theorem comes_1 {Post : Tables → Env → Array Value → State → Outcome → State → Prop} (hpost : ∀ tb e args s v u, (limb_1_1.after args s (.returned v) u = true ∧ limb_1_2.after args s (.returned v) u = true ∧ True) → FrameEnd s (.returned v) u (Jvm.fieldLocs frame_1_writes args s ++ Jvm.arrayLocs frame_1_arrays args s ++ Jvm.staticLocs frame_1_statics s) 0 0 → Post tb e args s (.returned v) u) :
    ArmFor flags0 classFile x code maxLocals ret World_1 tables_1 room_1 Calls_1 rest_1 Pre_1 Post := by
  intro l hfl _ _ p e ha hc hk s m args below hf hA hF happ hP
  obtain ⟨hcalls, hrest, hpre⟩ := hP
  obtain ⟨-, -, -, hnamed, -, -, -, hat⟩ := (Spec.applies_iff hf).mp happ
  obtain ⟨hg, hn⟩ := and_e (Cond.before_iff.mp (show (Jvm.Cond.and given_1 narrow_1).before args s = true from hpre))
  obtain ⟨g0, gA0⟩ := and_e hg
  obtain ⟨w0, w1, w2, rfl⟩ : ∃ w0 w1 w2 : Value, args = #[w0, w1, w2] := by
    have hs : args.size = 3 := by simpa [Cond.value, given_1] using g0
    obtain ⟨L⟩ := args
    match L, hs with
    | [w0, w1, w2], _ => exact ⟨w0, w1, w2, rfl⟩
  have hw := fun d (hd : d ∈ tables_1) => atoms_spec (ws := Jvm.Cond.code x code maxLocals ret :: tables_1) hat d (List.mem_cons_of_mem _ hd)
  obtain ⟨g1, gA1⟩ := and_e gA0
  obtain ⟨i0, ei0⟩ := is_v g1
  obtain rfl : w0 = (.int i0) := Option.some.inj ei0
  obtain ⟨g2, gA2⟩ := and_e gA1
  obtain ⟨i1, ei1⟩ := is_v g2
  obtain rfl : w1 = (.int i1) := Option.some.inj ei1
  obtain ⟨i2, ei2⟩ := is_v gA2
  obtain rfl : w2 = (.int i2) := Option.some.inj ei2
  obtain ⟨n, o, h1, h2, h3, _, L, rfl, ⟨rfl, N⟩, hq⟩ := rm0 l s _ hw tables_1 i0 i1 i2 s.heap s.heap.size (Nat.le_refl _)  p e ha hc hk s m _ below hf ((Spec.applies_iff_loose hf).mp happ).1 ⟨rfl, State.Warmed39.refl s, rfl⟩ trivial
  refine ⟨n, _, h1, h2, h3, hpost _ _ _ _ _ _ ⟨Cond.after_iff.mpr rfl, Cond.after_iff.mpr (eq_i res_at (Term.int_eval (1)) rfl), trivial⟩ ⟨hq.1, hq.2.1, (hq.2.2.sift fun y hy => Or.inr (N y hy)).mono (by decide) (by decide)⟩⟩
theorem main_1_1 : Claimed_1_1 := comes_1 fun _ _ _ _ _ _ h hF => ⟨h.1, hF⟩
theorem main_1_2 : Claimed_1_2 := comes_1 fun _ _ _ _ _ _ h hF => ⟨h.2.1, hF⟩
end Jvm.Pilot.@@N@@
namespace Jvm.Pilot.@@N@@
open Jvm Jvm.ClassFile Sem Op Lib Jvm.Free Jvm.Stand Jvm.Pilot.@@N@@.Jvm.D
/-! MADE BY PROGRAM (witnessworld.py) out of the Statement's table words and the real class files: 9 classes; the members and pool entries that the words name. The judged class is class 1, her method 1. -/
namespace start1
open Jvm.ClassFile
def u (s : String) : CpInfo := .utf8 (stringToUtf16 s)
/-- a pool by its gaps: so many unusable entries, then the entry; so many at the end -/
def gap : Nat → List CpInfo → List CpInfo
  | 0, r => r
  | n + 1, r => .unusable :: gap n r
def poolList (es : List (Nat × CpInfo)) (last : Nat) : List CpInfo := es.foldr (fun e r => gap e.1 (e.2 :: r)) (gap last [])
def pool (es : List (Nat × CpInfo)) (last : Nat) : Array CpInfo := ⟨poolList es last⟩
def fileOf (pool : Array CpInfo) (this : Nat) (attrs : Array Attribute := #[]) (ms : Array MethodInfo := #[]) (fl : Nat := 33) (sup : Nat := 0) (ifs : Array Nat := #[]) (fds : Array FieldInfo := #[]) : ClassFile where
  minorVersion := 0
  majorVersion := 65
  constantPool := pool
  accessFlags := fl
  thisClass := this
  superClass := sup
  interfaces := ifs
  fields := fds
  methods := ms
  attributes := attrs
def plain (name : String) (sup : Option ClassId) : Class where
  name := name
  kind := .ordinary
  loader := none
  accessFlags := 33
  super := sup
  interfaces := #[]
  cf := none
  fields := #[]
  methods := #[]
  instanceTypes := #[]
  staticTypes := #[]
  resolved := #[]
  callSites := []
  init := .initialized
  statics := none
  mirror := none

def pool0 : Array CpInfo := pool [(5, u "<init>"), (0, u "()V"), (1, .class_ 10), (1, u "java/lang/Object")] 113

def k0m0 : Method := { name := "<init>", desc := "()V", sig := { parameters := [], returnType := none }, accessFlags := 1, code := none }
/-- java/lang/Object -/
def k0 : Class := { plain "java/lang/Object" none with
  accessFlags := 33
  interfaces := #[]
  cf := some (fileOf pool0 8 #[] #[{ accessFlags := 1, nameIndex := 5, descriptorIndex := 6, attributes := #[] }] 33 0 #[] #[])
  fields := #[]
  methods := #[k0m0]
  instanceTypes := #[]
  staticTypes := #[]
  resolved := Array.replicate 124 none
  statics := none }

def pool1 : Array CpInfo := pool [(2, .class_ 4), (1, u "java/lang/Object"), (0, u "<init>"), (0, u "()V"), (0, .methodref 8 9), (0, .class_ 10), (0, .nameAndType 11 12), (0, u "com/example/olentangy/olentangy/config/LineBreaksIsLineBreakPinLaw"), (0, u "pick"), (0, u "(II)C"), (0, .methodref 14 15), (0, .class_ 16), (0, .nameAndType 17 18), (0, u "com/example/olentangy/olentangy/config/LineBreaks"), (0, u "isLineBreak"), (0, u "(CZ)Z"), (0, .integer 2147483647), (2, u "law"), (0, u "(III)Z")] 3

def k1m0 : Method := { name := "<init>", desc := "()V", sig := { parameters := [], returnType := none }, accessFlags := 2, code := none }
def k1c1 : Code := { maxStack := 2, maxLocals := 8, code := code, exceptionTable := #[], attributes := #[] }
def k1m1 : Method := { name := "law", desc := "(III)Z", sig := { parameters := [.int, .int, .int], returnType := some .boolean }, accessFlags := 9, code := some k1c1 }
def k1c2 : Code := { maxStack := 2, maxLocals := 5, code := method_3_code, exceptionTable := #[], attributes := #[] }
def k1m2 : Method := { name := "pick", desc := "(II)C", sig := { parameters := [.int, .int], returnType := some .char }, accessFlags := 10, code := some k1c2 }
/-- com/example/olentangy/olentangy/config/LineBreaksIsLineBreakPinLaw -/
def k1 : Class := { plain "com/example/olentangy/olentangy/config/LineBreaksIsLineBreakPinLaw" (some 0) with
  accessFlags := 49
  interfaces := #[]
  cf := some (fileOf pool1 8 #[] #[{ accessFlags := 2, nameIndex := 5, descriptorIndex := 6, attributes := #[] }, { accessFlags := 9, nameIndex := 22, descriptorIndex := 23, attributes := #[] }, { accessFlags := 10, nameIndex := 11, descriptorIndex := 12, attributes := #[] }] 49 2 #[] #[])
  fields := #[]
  methods := #[k1m0, k1m1, k1m2]
  instanceTypes := #[]
  staticTypes := #[]
  resolved := Array.replicate 27 none
  statics := none }

def pool2 : Array CpInfo := pool [(2, .class_ 4), (1, u "java/lang/Object"), (0, u "<init>"), (0, u "()V"), (1, .class_ 10), (1, u "com/example/olentangy/olentangy/config/LineBreaks"), (15, u "(CZ)Z"), (2, u "isLineBreak")] 6

def k2m0 : Method := { name := "<init>", desc := "()V", sig := { parameters := [], returnType := none }, accessFlags := 2, code := none }
def k2c1 : Code := { maxStack := 2, maxLocals := 2, code := prog_8_method_4_code, exceptionTable := #[], attributes := #[] }
def k2m1 : Method := { name := "isLineBreak", desc := "(CZ)Z", sig := { parameters := [.char, .boolean], returnType := some .boolean }, accessFlags := 8, code := some k2c1 }
/-- com/example/olentangy/olentangy/config/LineBreaks -/
def k2 : Class := { plain "com/example/olentangy/olentangy/config/LineBreaks" (some 0) with
  accessFlags := 48
  interfaces := #[]
  cf := some (fileOf pool2 8 #[] #[{ accessFlags := 2, nameIndex := 5, descriptorIndex := 6, attributes := #[] }, { accessFlags := 8, nameIndex := 29, descriptorIndex := 26, attributes := #[] }] 48 2 #[] #[])
  fields := #[]
  methods := #[k2m0, k2m1]
  instanceTypes := #[]
  staticTypes := #[]
  resolved := Array.replicate 36 none
  statics := none }

def pool3 : Array CpInfo := pool [(1, u "java/lang/Cloneable"), (0, .class_ 1), (0, u "java/lang/Object"), (0, .class_ 3)] 3

/-- java/lang/Cloneable -/
def k3 : Class := { plain "java/lang/Cloneable" (some 0) with
  accessFlags := 1537
  interfaces := #[]
  cf := some (fileOf pool3 2 #[] #[] 1537 4 #[] #[])
  fields := #[]
  methods := #[]
  instanceTypes := #[]
  staticTypes := #[]
  resolved := Array.replicate 8 none
  statics := none }

def pool4 : Array CpInfo := pool [(1, u "java/io/Serializable"), (0, .class_ 1), (0, u "java/lang/Object"), (0, .class_ 3)] 3

/-- java/io/Serializable -/
def k4 : Class := { plain "java/io/Serializable" (some 0) with
  accessFlags := 1537
  interfaces := #[]
  cf := some (fileOf pool4 2 #[] #[] 1537 4 #[] #[])
  fields := #[]
  methods := #[]
  instanceTypes := #[]
  staticTypes := #[]
  resolved := Array.replicate 8 none
  statics := none }

/-- the primitive byte -/
def k5 : Class := { plain "byte" none with kind := .primitive 'B', accessFlags := 0x411 }
/-- [B -/
def k6 : Class := { plain "[B" (some 0) with kind := .array 5 .byte, interfaces := #[3, 4], accessFlags := 1041 }

/-- the primitive int -/
def k7 : Class := { plain "int" none with kind := .primitive 'I', accessFlags := 0x411 }
/-- [I -/
def k8 : Class := { plain "[I" (some 0) with kind := .array 7 .int, interfaces := #[3, 4], accessFlags := 1041 }

def heap : Heap := #[]
def classes : Array Class := #[k0, k1, k2, k3, k4, k5, k6, k7, k8]
def interned : List (Array UInt16 × Addr) := []
def slotsUsed : Nat := 0
def theMethod : MethodId := ⟨1, 1⟩
def args0 : Array Value := #[.int 5, .int 300, .int 3]
def aboutOver (below : List Frame) : State where
  vm := { classes := classes, interned := interned.toArray }
  heap := heap
  slotsUsed := slotsUsed
  threads := #[{ frames := .invoking theMethod args0 :: below }]
def below0 : List Frame := [.native { method := ⟨0, 0⟩, args := #[] }]
def about1 : State := aboutOver below0
def p0 : Program := .bare "" "" ""
def e0 : Env := launch0.env 0 0 0
theorem w_frames : about1.frames = Frame.invoking theMethod args0 :: below0 := rfl
set_option maxRecDepth 65536 in
theorem w_args : argsFit about1.vm theMethod args0 = true := by decide +kernel
set_option maxRecDepth 65536 in
theorem w_heap : heapFits about1 = true := by decide +kernel
set_option maxRecDepth 65536 in
theorem w_runnable : about1.curStatus? = some .runnable := by decide +kernel
set_option maxRecDepth 65536 in
theorem w_alone : about1.alone = true := by decide +kernel
set_option maxRecDepth 65536 in
theorem w_named : about1.methodNamed? x = some theMethod := by decide +kernel
set_option maxRecDepth 65536 in
theorem w_hears : about1.hears theMethod below0 = true := by decide +kernel
set_option maxRecDepth 65536 in
theorem w_ripe : about1.ripe theMethod args0 below0 = true := by decide +kernel
theorem w_running : about1.status = .running := rfl
set_option maxRecDepth 65536 in
theorem w_room : about1.hasRoom e0.platform room_1 = true :=
  launch0.hasRoom_least _ room_1 (by decide +kernel) (by decide +kernel) (by decide +kernel) (by decide +kernel) (by decide +kernel) (by decide +kernel)
theorem allAtoms_all (ts : List Jvm.Cond) (a : Array Jvm.Value) (st : Jvm.State) : (allAtoms ts).before a st = ts.all (fun c => c.before a st) := by
  induction ts with
  | nil => rfl
  | cons c t ih =>
    show (Jvm.Cond.and c (allAtoms t)).before a st = _
    rw [Jvm.Cond.before_and, ih, List.all_cons]
def words1 : List Jvm.Cond := Jvm.Cond.code x code maxLocals ret :: tables_1
/-- a 'code' word, met by the world's own term for the bytes: nothing is compared byte by byte -/
theorem code_word {y : MethodName} {bytes : ByteArray} {mx : Nat} {rt : Option FieldType} {a : Array Value} {s : State} {m : MethodId} {meth : Method} {c : Code} (h1 : s.methodNamed? y = some m) (h2 : s.vm.method? m = some meth) (h3 : meth.code = some c) (h4 : c.code = bytes)
    (h5 : (c.maxLocals == mx && c.exceptionTable.isEmpty && decide (c.maxStack ≤ mostOperands) && decide (meth.sig.returnType = rt) && !meth.locks && decide (parseMethodDescriptor y.desc = some meth.sig)) = true) : (Jvm.Cond.code y bytes mx rt).before a s = true := by
  simp only [Bool.and_eq_true, beq_iff_eq, Bool.not_eq_true', decide_eq_true_eq] at h5
  obtain ⟨⟨⟨⟨⟨g1, g2⟩, g3⟩, g4⟩, g5⟩, g6⟩ := h5
  simp [Cond.before, Cond.holds, Cond.value, h1, h2, h3, h4, g1, g2, g3, g4, g5, g6]
def isCode : Jvm.Cond → Bool
  | .code _ _ _ _ => true
  | _ => false
theorem all_split {L : List Jvm.Cond} {P : Jvm.Cond → Bool} (h1 : L.all (fun c => isCode c || P c) = true) (h2 : ∀ c ∈ L.filter isCode, P c = true) : L.all P = true := by
  refine List.all_eq_true.mpr fun c hc => ?_
  have h := List.all_eq_true.mp h1 c hc
  rcases Bool.eq_false_or_eq_true (isCode c) with hi | hi
  · exact h2 c (List.mem_filter.mpr ⟨hc, hi⟩)
  · simpa [hi] using h
set_option maxRecDepth 65536 in
theorem w_c0 : (Jvm.Cond.code x code maxLocals ret).before args0 about1 = true := code_word (m := ⟨1, 1⟩) (meth := k1m1) (c := k1c1) (by decide +kernel) rfl rfl rfl (by decide +kernel)
set_option maxRecDepth 65536 in
theorem w_c1 : (Jvm.Cond.code ({ cls := "com/example/olentangy/olentangy/config/LineBreaks", name := "isLineBreak", desc := "(CZ)Z" } : Jvm.MethodName) prog_8_method_4_code (2 : Nat) (Option.some Jvm.ClassFile.FieldType.boolean)).before args0 about1 = true := code_word (m := ⟨2, 1⟩) (meth := k2m1) (c := k2c1) (by decide +kernel) rfl rfl rfl (by decide +kernel)
set_option maxRecDepth 65536 in
theorem w_c2 : (Jvm.Cond.code ({ cls := "com/example/olentangy/olentangy/config/LineBreaksIsLineBreakPinLaw", name := "pick", desc := "(II)C" } : Jvm.MethodName) method_3_code (5 : Nat) (Option.some Jvm.ClassFile.FieldType.char)).before args0 about1 = true := code_word (m := ⟨1, 2⟩) (meth := k1m2) (c := k1c2) (by decide +kernel) rfl rfl rfl (by decide +kernel)
def codes1 : List Jvm.Cond := [Jvm.Cond.code x code maxLocals ret, Jvm.Cond.code ({ cls := "com/example/olentangy/olentangy/config/LineBreaks", name := "isLineBreak", desc := "(CZ)Z" } : Jvm.MethodName) prog_8_method_4_code (2 : Nat) (Option.some Jvm.ClassFile.FieldType.boolean), Jvm.Cond.code ({ cls := "com/example/olentangy/olentangy/config/LineBreaksIsLineBreakPinLaw", name := "pick", desc := "(II)C" } : Jvm.MethodName) method_3_code (5 : Nat) (Option.some Jvm.ClassFile.FieldType.char)]
set_option maxRecDepth 65536 in
theorem codes_eq : words1.filter isCode = codes1 := rfl
theorem w_codes : ∀ c ∈ words1.filter isCode, c.before args0 about1 = true := by
  rw [codes_eq]
  intro c hc
  simp only [codes1, List.mem_cons, List.not_mem_nil, or_false] at hc
  rcases hc with rfl | rfl | rfl
  · exact w_c0
  · exact w_c1
  · exact w_c2
set_option maxRecDepth 65536 in
theorem w_t1 : words1.all (fun c => isCode c || c.before args0 about1) = true := by decide +kernel
theorem w_tables : (allAtoms (Jvm.Cond.code x code maxLocals ret :: tables_1)).before args0 about1 = true := by
  rw [allAtoms_all]
  show words1.all (fun c => c.before args0 about1) = true
  refine all_split ?_ w_codes
  rw [w_t1]
set_option maxRecDepth 65536 in
theorem w_case : (Jvm.Cond.and given_1 narrow_1).before args0 about1 = true := by decide +kernel
theorem w_applies : (headSpec (Jvm.Cond.code x code maxLocals ret :: tables_1) room_1).applies x e0.platform about1 = true :=
  (Spec.applies_iff w_frames).mpr ⟨w_running, w_runnable, w_alone, w_named, w_hears, w_ripe, w_room, w_tables⟩
theorem atStart : AtStart classFile x code maxLocals ret World_1 tables_1 room_1 Calls_1 rest_1 Pre_1 launch0 p0 e0 about1 theMethod args0 below0 :=
  ⟨lists_1, trivial, launch0.admits_env _ _ _, launch0.least_env, fairChoices_fair.cas, fairChoices_fair.clock, w_frames, w_args, w_heap, w_applies, trivial, trivial, w_case⟩
end start1
theorem witness_1 : WitnessClaimed_1 := ⟨start1.p0, start1.e0, start1.about1, start1.theMethod, start1.args0, start1.below0, start1.atStart⟩
end Jvm.Pilot.@@N@@
