import JvmDerived
import JvmDerived.Pilot.@@N@@Statement
import JvmDerived.Pilot.@@N@@Code
set_option linter.unusedVariables false
set_option linter.unusedSimpArgs false
namespace Jvm.Pilot.@@N@@
open Jvm Jvm.ClassFile Sem Op Lib Jvm.Free Jvm.Stand Jvm.LawKit Jvm.RoadKit Bundle Jvm.Pilot.@@N@@.Jvm.D
section GoKit
variable {p : Program} {l : Launch} {e : Env} {R : Room} {s : State} {m : MethodId} {args : Array Value} {below : List Frame} {meth : Method} {c : Code} {T : State} {locs : List Loc} {cells slots : Nat}
/-- from the state S the run comes to an end that P says -/
def Go (p : Program) (e : Env) (below : List Frame) (P : Outcome → State → Prop) (S : State) : Prop := ∃ s₂ o, Steps p.tables e below S s₂ ∧ s₂.status = .running ∧ Ended s₂ below o ∧ P o s₂
def Pst (s : State) (Q : Option Value → Heap → List Loc → Prop) (k n : Nat) : Outcome → State → Prop := fun o U => ∃ v L, o = .returned v ∧ Q v U.heap L ∧ FrameEnd s o U L k n
theorem Go.on {P : Outcome → State → Prop} {S S' : State} (h : ∀ t, Steps p.tables e below S' t → Steps p.tables e below S t) (k : Go p e below P S') : Go p e below P S := by
  obtain ⟨s2, o, h1, h2⟩ := k
  exact ⟨s2, o, h _ h1, h2⟩
theorem Go.st {P : Outcome → State → Prop} {S S' : State} (h : Steps p.tables e below S S') (k : Go p e below P S') : Go p e below P S := Go.on (fun _ q => h.trans q) k
theorem Go.retV (X : Stand p l e R s m args below meth c T locs cells slots) (hx : p.tables.exec = Jvm.exec) (hlk : meth.locks = false) {pc : Nat} {Ls : Array Slot} {w : Value} {t : FieldType} {i : Instr} {rest : List Value} (hret : meth.sig.returnType = some t) (hn : narrow t w = w)
    (hi : (i = .ireturn ∧ (t = .int ∨ t = .boolean ∨ t = .byte ∨ t = .char ∨ t = .short) ∧ ∃ z, w = .int z) ∨ (i = .lreturn ∧ t = .long ∧ ∃ z, w = .long z) ∨ (i = .dreturn ∧ t = .double ∧ ∃ z, w = .double z) ∨ (i = .freturn ∧ t = .float ∧ ∃ z, w = .float z) ∨ (i = .areturn ∧ t.isReference = true ∧ w.isRef = true))
    (hd : decode c.code pc = .ok (i, 1)) {Q : Option Value → Heap → List Loc → Prop} {k n : Nat} (hk : cells ≤ k) (hs : slots ≤ n) (hQ : Q (some w) T.heap locs) : Go p e below (Pst s Q k n) (T.setTop (mkF m pc Ls (w :: rest))) := by
  obtain ⟨fs, hr, hrun, hended, hW, hsame⟩ := X.leave (v := some w) (fun h => by rw [hret] at h; cases h) hlk
  exact ⟨_, _, retOut X hx hret hn hi hd hr, hrun, hended, _, _, rfl, hQ, ⟨_, rfl⟩, hW, hsame.mono hk hs⟩
theorem Go.retI (X : Stand p l e R s m args below meth c T locs cells slots) (hx : p.tables.exec = Jvm.exec) (hlk : meth.locks = false) {pc : Nat} {Ls : Array Slot} {z : Int32} {rest : List Value} (hret : meth.sig.returnType = some .int)
    (hd : decode c.code pc = .ok (.ireturn, 1)) {Q : Option Value → Heap → List Loc → Prop} {k n : Nat} (hk : cells ≤ k) (hs : slots ≤ n) (hQ : Q (some (.int z)) T.heap locs) : Go p e below (Pst s Q k n) (T.setTop (mkF m pc Ls (.int z :: rest))) :=
  Go.retV X hx hlk hret rfl (Or.inl ⟨rfl, Or.inl rfl, _, rfl⟩) hd hk hs hQ
theorem Go.retJ (X : Stand p l e R s m args below meth c T locs cells slots) (hx : p.tables.exec = Jvm.exec) (hlk : meth.locks = false) {pc : Nat} {Ls : Array Slot} {z : Int64} {rest : List Value} (hret : meth.sig.returnType = some .long)
    (hd : decode c.code pc = .ok (.lreturn, 1)) {Q : Option Value → Heap → List Loc → Prop} {k n : Nat} (hk : cells ≤ k) (hs : slots ≤ n) (hQ : Q (some (.long z)) T.heap locs) : Go p e below (Pst s Q k n) (T.setTop (mkF m pc Ls (.long z :: rest))) :=
  Go.retV X hx hlk hret rfl (Or.inr (Or.inl ⟨rfl, rfl, _, rfl⟩)) hd hk hs hQ
theorem Go.retA (X : Stand p l e R s m args below meth c T locs cells slots) (hx : p.tables.exec = Jvm.exec) (hlk : meth.locks = false) {pc : Nat} {Ls : Array Slot} {a : Addr} {t : FieldType} {rest : List Value} (hret : meth.sig.returnType = some t) (ht : t.isReference = true) (hn : narrow t (.ref a) = .ref a)
    (hd : decode c.code pc = .ok (.areturn, 1)) {Q : Option Value → Heap → List Loc → Prop} {k n : Nat} (hk : cells ≤ k) (hs : slots ≤ n) (hQ : Q (some (.ref a)) T.heap locs) : Go p e below (Pst s Q k n) (T.setTop (mkF m pc Ls (.ref a :: rest))) :=
  Go.retV X hx hlk hret hn (Or.inr (Or.inr (Or.inr (Or.inr ⟨rfl, ht, rfl⟩)))) hd hk hs hQ
theorem Go.retN (X : Stand p l e R s m args below meth c T locs cells slots) (hx : p.tables.exec = Jvm.exec) (hlk : meth.locks = false) {pc : Nat} {Ls : Array Slot} {z : Int32} {t : FieldType} {rest : List Value} (hret : meth.sig.returnType = some t) (ht : t = .boolean ∨ t = .byte ∨ t = .char ∨ t = .short)
    (hd : decode c.code pc = .ok (.ireturn, 1)) {Q : Option Value → Heap → List Loc → Prop} {k n : Nat} (hk : cells ≤ k) (hs : slots ≤ n) (hQ : Q (some (.int (nar t z))) T.heap locs) : Go p e below (Pst s Q k n) (T.setTop (mkF m pc Ls (.int z :: rest))) := by
  obtain ⟨fs, hr, hrun, hended, hW, hsame⟩ := X.leave (v := some (.int (nar t z))) (fun h => by rw [hret] at h; cases h) hlk
  exact ⟨_, _, Jvm.RoadKit.retN X hx hret ht hd hr, hrun, hended, _, _, rfl, hQ, ⟨_, rfl⟩, hW, hsame.mono hk hs⟩
theorem Go.ret0 (X : Stand p l e R s m args below meth c T locs cells slots) (hx : p.tables.exec = Jvm.exec) (hlk : meth.locks = false) {pc : Nat} {Ls : Array Slot} (hret : meth.sig.returnType = none)
    (hd : decode c.code pc = .ok (.return_, 1)) {Q : Option Value → Heap → List Loc → Prop} {k n : Nat} (hk : cells ≤ k) (hs : slots ≤ n) (hQ : Q none T.heap locs) : Go p e below (Pst s Q k n) (T.setTop (mkF m pc Ls [])) := by
  obtain ⟨fs, hr, hrun, hended, hW, hsame⟩ := X.leave (v := none) (fun _ => rfl) hlk
  exact ⟨_, _, X.returnOut hx hret hd hr, hrun, hended, _, _, rfl, hQ, ⟨_, rfl⟩, hW, hsame.mono hk hs⟩
theorem lremM {g : JFrame} {target : State} (X : Stand p l e R s m args below meth c T locs cells slots) (hx : p.tables.exec = Jvm.exec) (hg : g.method = m) {x y : Int64} {rest : List Value} (hd : decode c.code g.pc = .ok (.lrem, 1)) (hs : g.stack = .long y :: .long x :: rest) (hy : y ≠ 0)
    (hr : Steps p.tables e below (T.setTop { g with pc := g.pc + 1, stack := .long (x % y) :: rest }) target) : Steps p.tables e below (T.setTop g) target := by
  have q : x - x / y * y = x % y := lrem_mod x y
  exact XS.lrem X.here hx hg hd hs hy (by rw [q]; exact hr)
/-- Java's x >>> k on ints and on longs, as the steps leave it -/
def ushrI (x k : Int32) : Int32 := (x.toUInt32 >>> (k &&& 31).toUInt32).toInt32
def ushrJ (x : Int64) (k : Int32) : Int64 := (x.toUInt64 >>> (k &&& 0x3f).toInt64.toUInt64).toInt64
end GoKit
section RefKit
variable {p : Program} {l : Launch} {e : Env} {R : Room} {s : State} {m : MethodId} {args : Array Value} {below : List Frame} {meth : Method} {c : Code} {T : State} {locs : List Loc} {cells slots : Nat} {Z : State} {h h' : Heap} {a b : Addr} {C : String} {n : Nat} {f : Nat → Value}
/-- in h the array of C's at a has n places; place j holds f j -/
def RA (Z : State) (h : Heap) (a : Addr) (C : String) (n : Nat) (f : Nat → Value) : Prop := ∃ cl : Cell, Arr Z h a cl (.object C) ∧ Ovr Z cl.cls C ∧ cl.slots.size = n ∧ ∀ j, j < n → cl.slots[j]? = some (f j)
def upd (f : Nat → Value) (i : Nat) (v : Value) : Nat → Value := fun j => if j = i then v else f j
theorem RA.lt (F : RA Z h a C n f) : a < h.size := by
  obtain ⟨cl, A, -⟩ := F
  exact A.lt
theorem RA.ext (F : RA Z h a C n f) (E : Ext h h') : RA Z h' a C n f := by
  obtain ⟨cl, A, r⟩ := F
  exact ⟨cl, A.ext E, r⟩
theorem RA.other {sl : Nat} {v : Value} (F : RA Z h a C n f) (W : Wr h h' b sl v) (q : a ≠ b) : RA Z h' a C n f := by
  obtain ⟨cl, A, r⟩ := F
  exact ⟨cl, A.other W q, r⟩
theorem RA.keep {ws : List Addr} (F : RA Z h a C n f) (K : Keep h h' ws) (q : a ∉ ws) : RA Z h' a C n f := by
  obtain ⟨cl, A, r⟩ := F
  exact ⟨cl, ⟨K.2.1 a cl A.1 q, A.2⟩, r⟩
theorem RA.new {k : ClassId} {z : Int32} (A : Arr Z h a (newA k (.object C) z) (.object C)) (O : Ovr Z k C) (hz : z.toNatClampNeg = n) : RA Z h a C n (fun _ => .null) := by
  subst hz
  refine ⟨_, A, O, sz_new _ _ _, fun j hj => ?_⟩
  show (Array.replicate z.toNatClampNeg (defaultValue (.object C)))[j]? = _
  rw [Array.getElem?_replicate, if_pos hj]
  rfl
theorem RA.wr {i : Nat} {v : Value} (F : RA Z h a C n f) (W : Wr h h' a i v) : RA Z h' a C n (upd f i v) := by
  obtain ⟨cl, A, O, r1, r2⟩ := F
  refine ⟨_, A.same W, O, by rw [sz_set, r1], fun j hj => ?_⟩
  show (cl.slots.setIfInBounds i v)[j]? = _
  rw [Array.getElem?_setIfInBounds]
  by_cases q : i = j
  · subst q
    rw [if_pos rfl, r1, if_pos hj]
    simp [upd]
  · rw [if_neg q, r2 j hj]
    show some (f j) = some (if j = i then v else f j)
    rw [if_neg (fun w : j = i => q w.symm)]
theorem inb {cl : Cell} {j : Int32} {i : Nat} (h0 : ¬ j < 0) (hi : j.toNatClampNeg = i) (hs : cl.slots.size = n) (hn : i < n) : ¬ (j < 0 ∨ cl.slots.size ≤ j.toNatClampNeg) := by
  rintro (q | q)
  · exact h0 q
  · rw [hs, hi] at q
    omega
theorem Go.stR (X : Stand p l e R s m args below meth c T locs cells slots) (hx : p.tables.exec = Jvm.exec) (hZ : Z.Warmed39 s.vm) (eT : T.heap = h) (F : RA Z h a C n f) {y : Addr} (I : Ins Z h y C true) {j : Int32} {i : Nat} (h0 : ¬ j < 0) (hi : j.toNatClampNeg = i) (hn : i < n) {pc : Nat} {Ls : Array Slot} {rest : List Value} (hd : decode c.code pc = .ok (.aastore, 1)) {P : Outcome → State → Prop}
    (k : ∀ T' h', Stand p l e R s m args below meth c T' (locs ++ [⟨a, i⟩]) cells slots → T'.heap = h' → Wr h h' a i (.ref y) → RA Z h' a C n (upd f i (.ref y)) → Go p e below P (T'.setTop (mkF m (pc + 1) Ls rest))) : Go p e below P (T.setTop (mkF m pc Ls (.ref y :: .int j :: .ref a :: rest))) := by
  have F' := F
  obtain ⟨cl, A, O, hs, hv⟩ := F
  obtain ⟨T', h', X', e', W, st⟩ := Jvm.RoadKit.stR X hx hZ eT A (j := j) (inb h0 hi hs hn) rfl (Sto.of A O I) (g := mkF m pc Ls (.ref y :: .int j :: .ref a :: rest)) rfl rfl hd
  subst hi
  exact Go.on st (k T' h' X' e' W (F'.wr W))
theorem Go.ldR (X : Stand p l e R s m args below meth c T locs cells slots) (hx : p.tables.exec = Jvm.exec) (hZ : Z.Warmed39 s.vm) (eT : T.heap = h) (F : RA Z h a C n f) {j : Int32} {i : Nat} (h0 : ¬ j < 0) (hi : j.toNatClampNeg = i) (hn : i < n) {pc : Nat} {Ls : Array Slot} {rest : List Value} (hd : decode c.code pc = .ok (.aaload, 1)) {P : Outcome → State → Prop}
    (k : Go p e below P (T.setTop (mkF m (pc + 1) Ls (f i :: rest)))) : Go p e below P (T.setTop (mkF m pc Ls (.int j :: .ref a :: rest))) := by
  obtain ⟨cl, A, O, hs, hv⟩ := F
  exact Go.on (fun t q => X.aaload hx (by rw [eT]; exact A.1) (State.isArrayOf_alike hZ.alike A.2.1) rfl A.2.2 (inb h0 hi hs hn) (by rw [hi]; exact hv i hn) (g := mkF m pc Ls (.int j :: .ref a :: rest)) rfl rfl hd t q) k
theorem ix {j : Int32} {i : Nat} (h : j.toInt = (i : Int)) : ¬ j < 0 ∧ j.toNatClampNeg = i := by
  constructor
  · intro q
    have q2 := Int32.lt_iff_toInt_lt.mp q
    have z : (0 : Int32).toInt = 0 := by decide
    omega
  · show j.toInt.toNat = i
    omega
theorem own_sta {O nm d : String} {v : Value} {ws : List Addr} (S : Sta Z h O nm d v) (K : Keep h h' ws) (q : ∀ w ∈ ws, (∃ D, Exa Z h w D) ∨ h.size ≤ w) : Sta Z h' O nm d v := by
  obtain ⟨cf, i, k, fl, st, cell, h1, h2, h3, h4, h5, h6, h7⟩ := S
  refine ⟨cf, i, k, fl, st, cell, h1, h2, h3, h4, K.2.1 st cell h5 (fun w => ?_), h6, h7⟩
  rcases q st w with ⟨D, cell', k', g1, -, -, g4, -⟩ | g
  · rw [h5] at g1
    cases g1
    rw [h6] at g4
    cases g4
  · exact absurd (Array.getElem?_eq_some_iff.mp h5).1 (Nat.not_lt.mpr g)
theorem own_ins {ws : List Addr} {D : String} (I : Ins Z h a D true) (K : Keep h h' ws) : Ins Z h' a D true := by
  obtain ⟨cell, cT, h1, h2, h3⟩ := I
  obtain ⟨c', q1, q2, q3, -⟩ := K.2.2 a cell h1
  exact ⟨c', cT, q1, h2, by rw [q2, q3]; exact h3⟩
end RefKit
section RefCall
variable {p : Program} {l : Launch} {e : Env} {R : Room} {s : State} {m : MethodId} {args : Array Value} {below : List Frame} {meth : Method} {c : Code} {T : State} {locs : List Loc} {cells slots : Nat}
/-- 'invokespecial' of a constructor whose pool entry stands resolved (the word 'methodRef'), by its contract -/
theorem own_specialRef (X : Stand p l e R s m args below meth c T locs cells slots) (hexec : p.tables.exec = Jvm.exec) {own : String} {index : Nat} {y : MethodName} (hy1 : y.name = "<init>")
    (hown : s.vm.findClass own = some m.cls) (hlink : (Cond.methodRef own index y).before args T = true) (hinst : (Cond.instanceMethod y).before args s = true)
    {bytes : ByteArray} {maxL : Nat} (hcode : (Cond.code y bytes maxL none).before args s = true)
    (hy : y.cls ≠ "java/lang/invoke/MethodHandle" ∧ y.cls ≠ "java/lang/invoke/VarHandle")
    {W : Nat} {Pre : Pt → Array Value → Prop} {Post : Pt → Array Value → Option Value → Pt → Prop} (hK : Back l R p e below s args y 3 W Pre Post)
    {g : JFrame} (hg : g.method = m) (hsize : g.locals.size = c.maxLocals) {s₀ : State} (hcome : Steps p.tables e below s₀ (T.setTop g)) {a : Addr} {argsL rest : List Value}
    (hlen : ∀ sig, parseMethodDescriptor y.desc = some sig → argsL.length = sig.parameters.length) (hstack : g.stack = argsL.reverse ++ .ref a :: rest) (hW : 2 * g.monitorRoom + (rest.map fun v => v.category).sum ≤ W)
    (hdg : decode c.code g.pc = .ok (.invokespecial index, 3)) (hpre : ∀ vm₁, s.WarmedH vm₁ → Pre ⟨T.setVm vm₁, locs, cells, slots⟩ (.ref a :: argsL).toArray) :
    ∃ (v : Option Value) (vm₁ : Vm) (B : Pt), s.WarmedH vm₁ ∧ Stand p l e R s m args below meth c B.U B.locs B.cells B.slots ∧ Post ⟨T.setVm vm₁, locs, cells, slots⟩ (.ref a :: argsL).toArray v B ∧
      Steps p.tables e below s₀ (B.U.setTop { g with pc := g.pc + 3, stack := v.toList ++ rest }) := by
  obtain ⟨obj, methO, hnO, hmO, hstO, habO⟩ := Cond.instanceMethod_spec hinst
  obtain ⟨methO', cO, hmO', hcO, hbO, hlO, -, hlockO, -, hsigO⟩ := Cond.code_spec hnO hcode
  cases hmO.symm.trans hmO'
  obtain ⟨kO, hkO, hnameO⟩ := className_of_methodNamed hnO
  obtain ⟨hnameMO, hdescO⟩ := name_of_methodNamed hnO hmO
  have hwarm := X.warmed
  have hcurT : T.vm.findClass own = some m.cls := by rw [hwarm.alike.findClass]; exact hown
  obtain ⟨m', c', hf', hready, hfind, hnames⟩ := Cond.methodRef_named e hcurT hlink
  have hnT : T.methodNamed? y = some obj := X.named hnO
  cases (State.methodFound?_of_named hnT hy).symm.trans hf'
  have hclsC : c' = obj.cls := Option.some.inj (hfind.symm.trans (findClass_of_methodNamed hnT))
  subst hclsC
  obtain ⟨kO₂, hkO₂, heO₂⟩ := hwarm.alike.2.2 _ _ hkO
  have hmO₂ : T.vm.method? obj = some methO := by rw [hwarm.alike.method?]; exact hmO
  have hfound : lookupSpecial T.vm obj.cls "<init>" methO.desc = .method obj := by
    rw [hwarm.alike.lookupSpecial, hdescO, ← hy1]
    exact lookupSpecial_of_named hnO hmO hstO
  have hstep : ∀ target, (∀ acts, Steps p.tables e below (doInvoke e (T.setTop { g with stack := rest }) acts obj (.ref a :: argsL).toArray).1 target) → Steps p.tables e below (T.setTop g) target := fun target hrest => by
    subst hg
    jvm_step X.here [hexec, hdg, invokespecial.wp_init (e := e) (s := T) (k := kO₂) (meth := methO) (m := obj) (a := a) (args := argsL) (rest := rest) (f := g) X.here.top hnames hready hkO₂ hmO₂ (by rw [hnameMO]; exact hy1) hstO habO hfound (hlen _ hsigO) hstack]
    exact hrest
  obtain ⟨v, B, X', hpost, hsteps⟩ := hK m meth c ⟨T.setVm T.vm, locs, cells, slots⟩ { g with stack := rest } (.invokespecial index) obj (.ref a :: argsL).toArray (X.noted hwarm) hg hsize hdg hW ((X.noted hwarm).named hnO) (hpre T.vm hwarm)
  exact ⟨v, T.vm, B, hwarm, X', hpost, (hcome.trans (hstep _ fun acts => by rw [doInvoke_state]; exact Steps.refl _)).trans hsteps⟩
theorem own_mvRef {Z : State} {a0 : Array Value} {own : String} {index : Nat} {y : MethodName} (X : Stand p l e R s m args below meth c T locs cells slots) (hZ : Z.Warmed39 s.vm) (w : (Cond.methodRef own index y).before a0 Z = true) (wi : (Cond.instanceMethod y).before a0 Z = true) (hy : y.cls ≠ "java/lang/invoke/MethodHandle" ∧ y.cls ≠ "java/lang/invoke/VarHandle") : (Cond.methodRef own index y).before args T = true := by
  obtain ⟨obj, methO, hnO, -⟩ := Cond.instanceMethod_spec wi
  exact (Cond.methodRef_warmed39 (wtrans hZ X.warmed) hnO hy w :)
theorem own_mvNest {Z : State} {a0 : Array Value} {own host : String} {index : Nat} {y : MethodName} (hZ : Z.Warmed39 s.vm) (w : (Cond.methodLinkNest own index y host).before a0 Z = true) : (Cond.methodLinkNest own index y host).before args s = true := (Cond.methodLinkNest_wide hZ w :)
end RefCall
theorem pd_1 : parseMethodDescriptor "(C)Z" = some ⟨[.char], some .boolean⟩ := by decide +kernel
theorem pd_2 : parseMethodDescriptor "(C)[B" = some ⟨[.char], some (.array .byte)⟩ := by decide +kernel
theorem pd_3 : parseMethodDescriptor "([BB)V" = some ⟨[(.array .byte), .byte], none⟩ := by decide +kernel
theorem pd_4 : parseMethodDescriptor "()V" = some ⟨[], none⟩ := by decide +kernel
theorem pd_5 : parseMethodDescriptor "(Lcom/example/olentangy/olentangy/engine/AttributeMap;)V" = some ⟨[(.object "com/example/olentangy/olentangy/engine/AttributeMap")], none⟩ := by decide +kernel
theorem pd_6 : parseMethodDescriptor "([Ljava/lang/String;[Ljava/util/List;I)V" = some ⟨[(.array (.object "java/lang/String")), (.array (.object "java/util/List")), .int], none⟩ := by decide +kernel
theorem pd_7 : parseMethodDescriptor "(C)Ljava/lang/String;" = some ⟨[.char], some (.object "java/lang/String")⟩ := by decide +kernel
theorem pd_8 : parseMethodDescriptor "(I)V" = some ⟨[.int], none⟩ := by decide +kernel
theorem pd_9 : parseMethodDescriptor "(Ljava/lang/String;Ljava/util/List;)V" = some ⟨[(.object "java/lang/String"), (.object "java/util/List")], none⟩ := by decide +kernel
theorem pd_10 : parseMethodDescriptor "()Lcom/example/olentangy/olentangy/engine/AttributeMap;" = some ⟨[], some (.object "com/example/olentangy/olentangy/engine/AttributeMap")⟩ := by decide +kernel
theorem pd_11 : parseMethodDescriptor "()I" = some ⟨[], some .int⟩ := by decide +kernel
theorem pd_12 : parseMethodDescriptor "(I)Ljava/lang/String;" = some ⟨[.int], some (.object "java/lang/String")⟩ := by decide +kernel
theorem pd_13 : parseMethodDescriptor "(I)Ljava/util/List;" = some ⟨[.int], some (.object "java/util/List")⟩ := by decide +kernel
def Q2 (h0 : Heap) (n0 : Nat) (v : Option Value) (h : Heap) (L : List Loc) : Prop := v = some (.int 1) ∧ Fr n0 L ∧ h = h0
theorem d2_0 : decode jdk_43_method_3_code 0 = .ok (.iload_n 0, 1) := by decide +kernel
theorem d2_1 : decode jdk_43_method_3_code 1 = .ok (.sipush 255, 3) := by decide +kernel
theorem d2_4 : decode jdk_43_method_3_code 4 = .ok (.if_icmp .gt 7, 3) := by decide +kernel
theorem d2_7 : decode jdk_43_method_3_code 7 = .ok (.iconst 1, 1) := by decide +kernel
theorem d2_8 : decode jdk_43_method_3_code 8 = .ok (.goto 4, 3) := by decide +kernel
theorem d2_12 : decode jdk_43_method_3_code 12 = .ok (.ireturn, 1) := by decide +kernel
theorem pn_2 : plainFor (⟨"java/lang/StringLatin1", "canEncode", "(C)Z"⟩ : MethodName) = true := by first | exact plainFor_of_name (by first | (simp [plainName, overriddenIn]; done) | decide +kernel) | decide +kernel
theorem ef_2 (m : MethodId) (x0 : Int32) : entryFrame m #[(.int x0)] 1 = mkF m 0 #[.val (.int x0)] [] := by first | (simp [entryFrame, mkF, argsToLocals, Value.category]; done) | rfl
set_option maxRecDepth 65536 in
set_option maxHeartbeats 40000000 in
theorem rm2 (l : Launch) (Z : State) (a0 : Array Value) (hw : ∀ d ∈ tables_1, d.before a0 Z = true) (ws : List Jvm.Cond) (p1 : Int32) (h0 : Heap) (n0 : Nat) (Z0 : n0 ≤ h0.size) (hp : ¬ (255 : Int32) < p1) :
    MetFree l (⟨"java/lang/StringLatin1", "canEncode", "(C)Z"⟩ : MethodName) (head1 (Jvm.Cond.code (⟨"java/lang/StringLatin1", "canEncode", "(C)Z"⟩ : MethodName) jdk_43_method_3_code 1 (some .boolean) :: ws) ({ frames := 0, cells := 0, slots := 0, locals := 0 } : Room)) (fun a U => a = #[(.int p1)] ∧ Z.Warmed39 U.vm ∧ U.heap = h0) (fun _ _ _ _ _ => True) (fun _ U o U' => ∃ v L, o = .returned v ∧ Q2 h0 n0 v U'.heap L ∧ FrameEnd U o U' L ({ frames := 0, cells := 0, slots := 0, locals := 0 } : Room).cells ({ frames := 0, cells := 0, slots := 0, locals := 0 } : Room).slots) := by
  refine MetFree.of_bodySF pn_2 hisR ?_
  intro p e s m args below meth c s₁ Bd hml0 hP hK
  obtain ⟨rfl, hZ, hh⟩ := hP
  have hx := Bd.exec
  have hby := Bd.bytes
  have hlk := Bd.notSynchronized
  have hret := Bd.returns
  have hml : c.maxLocals = 1 := hml0
  have hown : s.vm.findClass "java/lang/StringLatin1" = some m.cls := findClass_of_methodNamed Bd.named
  have hnm := (name_of_methodNamed Bd.named Bd.method).1
  have X0 : Stand p l e ({ frames := 0, cells := 0, slots := 0, locals := 0 } : Room) s m #[(.int p1)] below meth c s₁ [] 0 0 := Stand.of_body Bd
  have e0 : s₁.heap = h0 := by rw [← hh, Bd.state]; rfl
  have N0 := Fr.nil n0
  show Go p e below (Pst s (Q2 h0 n0) ({ frames := 0, cells := 0, slots := 0, locals := 0 } : Room).cells ({ frames := 0, cells := 0, slots := 0, locals := 0 } : Room).slots) (s₁.setTop (entryFrame m #[(.int p1)] 1))
  refine Go.on (fun t k => castTop (ef_2 m p1) k) ?_
  show Go p e below _ (s₁.setTop (mkF m 0 #[.val (.int p1)] []))
  refine Go.on (fun t k => XS.iloadN X0.here hx rfl (hb hby d2_0) rfl k) ?_
  show Go p e below _ (s₁.setTop (mkF m 1 #[.val (.int p1)] [(.int p1)]))
  refine Go.on (fun t k => XS.sipush X0.here hx rfl (hb hby d2_1) k) ?_
  show Go p e below _ (s₁.setTop (mkF m 4 #[.val (.int p1)] [(.int (255 : Int32)), (.int p1)]))
  refine Go.on (fun t k => XS.icmpNo X0.here hx rfl (hb hby d2_4) rfl (flt hp).2.2.1 k) ?_
  show Go p e below _ (s₁.setTop (mkF m 7 #[.val (.int p1)] []))
  refine Go.on (fun t k => XS.iconst X0.here hx rfl (hb hby d2_7) k) ?_
  show Go p e below _ (s₁.setTop (mkF m 8 #[.val (.int p1)] [(.int (1 : Int32))]))
  refine Go.on (fun t k => XS.goto X0.here hx rfl (pc0 := 8) (pc' := 12) rfl (hb hby d2_8) (by decide) (by decide) k) ?_
  show Go p e below _ (s₁.setTop (mkF m 12 #[.val (.int p1)] [(.int (1 : Int32))]))
  exact Go.retN X0 hx hlk hret (by simp) (hb hby d2_12) (Nat.le_refl _) (Nat.le_refl _) (show Q2 h0 n0 _ _ _ from ⟨rfl, N0, e0⟩)
def Q3 (h0 : Heap) (n0 : Nat) (v : Option Value) (h : Heap) (L : List Loc) : Prop := ∃ b : Addr, v = some (.ref b) ∧ Fr n0 L ∧ Keep h0 h [] ∧ h0.size ≤ b
theorem d3_0 : decode jdk_43_method_46_code 0 = .ok (.iconst 1, 1) := by decide +kernel
theorem d3_1 : decode jdk_43_method_46_code 1 = .ok (.newarray .byte, 2) := by decide +kernel
theorem d3_3 : decode jdk_43_method_46_code 3 = .ok (.dup, 1) := by decide +kernel
theorem d3_4 : decode jdk_43_method_46_code 4 = .ok (.iconst 0, 1) := by decide +kernel
theorem d3_5 : decode jdk_43_method_46_code 5 = .ok (.iload_n 0, 1) := by decide +kernel
theorem d3_6 : decode jdk_43_method_46_code 6 = .ok (.i2b, 1) := by decide +kernel
theorem d3_7 : decode jdk_43_method_46_code 7 = .ok (.bastore, 1) := by decide +kernel
theorem d3_8 : decode jdk_43_method_46_code 8 = .ok (.areturn, 1) := by decide +kernel
theorem pn_3 : plainFor (⟨"java/lang/StringLatin1", "toBytes", "(C)[B"⟩ : MethodName) = true := by first | exact plainFor_of_name (by first | (simp [plainName, overriddenIn]; done) | decide +kernel) | decide +kernel
theorem ef_3 (m : MethodId) (x0 : Int32) : entryFrame m #[(.int x0)] 1 = mkF m 0 #[.val (.int x0)] [] := by first | (simp [entryFrame, mkF, argsToLocals, Value.category]; done) | rfl
set_option maxRecDepth 65536 in
set_option maxHeartbeats 40000000 in
theorem rm3 (l : Launch) (Z : State) (a0 : Array Value) (hw : ∀ d ∈ tables_1, d.before a0 Z = true) (ws : List Jvm.Cond) (p1 : Int32) (h0 : Heap) (n0 : Nat) (Z0 : n0 ≤ h0.size)  :
    MetFree l (⟨"java/lang/StringLatin1", "toBytes", "(C)[B"⟩ : MethodName) (head1 (Jvm.Cond.code (⟨"java/lang/StringLatin1", "toBytes", "(C)[B"⟩ : MethodName) jdk_43_method_46_code 1 (some (.array .byte)) :: ws) ({ frames := 0, cells := 1, slots := 1, locals := 0 } : Room)) (fun a U => a = #[(.int p1)] ∧ Z.Warmed39 U.vm ∧ U.heap = h0) (fun _ _ _ _ _ => True) (fun _ U o U' => ∃ v L, o = .returned v ∧ Q3 h0 n0 v U'.heap L ∧ FrameEnd U o U' L ({ frames := 0, cells := 1, slots := 1, locals := 0 } : Room).cells ({ frames := 0, cells := 1, slots := 1, locals := 0 } : Room).slots) := by
  refine MetFree.of_bodySF pn_3 hisR ?_
  intro p e s m args below meth c s₁ Bd hml0 hP hK
  obtain ⟨rfl, hZ, hh⟩ := hP
  have hx := Bd.exec
  have hby := Bd.bytes
  have hlk := Bd.notSynchronized
  have hret := Bd.returns
  have hml : c.maxLocals = 1 := hml0
  have hown : s.vm.findClass "java/lang/StringLatin1" = some m.cls := findClass_of_methodNamed Bd.named
  have hnm := (name_of_methodNamed Bd.named Bd.method).1
  have X0 : Stand p l e ({ frames := 0, cells := 1, slots := 1, locals := 0 } : Room) s m #[(.int p1)] below meth c s₁ [] 0 0 := Stand.of_body Bd
  have e0 : s₁.heap = h0 := by rw [← hh, Bd.state]; rfl
  have N0 := Fr.nil n0
  show Go p e below (Pst s (Q3 h0 n0) ({ frames := 0, cells := 1, slots := 1, locals := 0 } : Room).cells ({ frames := 0, cells := 1, slots := 1, locals := 0 } : Room).slots) (s₁.setTop (entryFrame m #[(.int p1)] 1))
  refine Go.on (fun t k => castTop (ef_3 m p1) k) ?_
  show Go p e below _ (s₁.setTop (mkF m 0 #[.val (.int p1)] []))
  refine Go.on (fun t k => XS.iconst X0.here hx rfl (hb hby d3_0) k) ?_
  show Go p e below _ (s₁.setTop (mkF m 1 #[.val (.int p1)] [(.int (1 : Int32))]))
  obtain ⟨T1, h1, cA1, X1, e1, E1, A1, st1⟩ := newP X0 hx hZ (aty := .byte) (hw _ (List.mem_of_getElem? (i := 14) rfl)) e0 (g := (mkF m 1 #[.val (.int p1)] [(.int (1 : Int32))])) rfl (hb hby d3_1) (n := (1 : Int32)) rfl (by decide) (cap := 1) (by decide) (by decide) (by decide) (by decide)
  obtain ⟨b1, g1⟩ : ∃ z, z = h0.size := ⟨_, rfl⟩
  rw [← g1] at A1 st1
  refine Go.on st1 ?_
  show Go p e below _ (T1.setTop (mkF m 3 #[.val (.int p1)] [(.ref b1)]))
  refine Go.on (fun t k => XS.dup X1.here hx rfl (hb hby d3_3) rfl rfl k) ?_
  show Go p e below _ (T1.setTop (mkF m 4 #[.val (.int p1)] [(.ref b1), (.ref b1)]))
  refine Go.on (fun t k => XS.iconst X1.here hx rfl (hb hby d3_4) k) ?_
  show Go p e below _ (T1.setTop (mkF m 5 #[.val (.int p1)] [(.int (0 : Int32)), (.ref b1), (.ref b1)]))
  refine Go.on (fun t k => XS.iloadN X1.here hx rfl (hb hby d3_5) rfl k) ?_
  show Go p e below _ (T1.setTop (mkF m 6 #[.val (.int p1)] [(.int p1), (.int (0 : Int32)), (.ref b1), (.ref b1)]))
  refine Go.on (fun t k => XS.i2b X1.here hx rfl (hb hby d3_6) rfl k) ?_
  show Go p e below _ (T1.setTop (mkF m 7 #[.val (.int p1)] [(.int (p1.toInt8.toInt32)), (.int (0 : Int32)), (.ref b1), (.ref b1)]))
  obtain ⟨T2, h2, X2, e2, W2, st2⟩ := stB X1 hx hZ e1 A1 (j := (0 : Int32)) (by rw [sz_new]; decide) (g := (mkF m 7 #[.val (.int p1)] [(.int (p1.toInt8.toInt32)), (.int (0 : Int32)), (.ref b1), (.ref b1)])) rfl rfl (hb hby d3_7)
  have N2 := Fr.snoc X2 N0 (Nat.le_trans Z0 (Nat.le_of_eq g1.symm))
  obtain K2 : Keep h0 h2 [] := ((Keep.refl h0 []).ext E1).wr W2 (Or.inr (Nat.le_of_eq g1.symm))
  refine Go.on st2 ?_
  show Go p e below _ (T2.setTop (mkF m 8 #[.val (.int p1)] [(.ref b1)]))
  exact Go.retA X2 hx hlk hret rfl rfl (hb hby d3_8) (by decide) (by decide) (show Q3 h0 n0 _ T2.heap _ from ⟨_, rfl, N2, by rw [e2]; exact K2, Nat.le_of_eq g1.symm⟩)
def Q4 (Z : State) (a1 : Addr) (h0 : Heap) (n0 : Nat) (v : Option Value) (h : Heap) (L : List Loc) : Prop := v = none ∧ Fr n0 L ∧ Keep h0 h [a1] ∧ Exa Z h a1 "java/lang/String"
theorem d4_0 : decode jdk_42_method_151_code 0 = .ok (.aload_n 0, 1) := by decide +kernel
theorem d4_1 : decode jdk_42_method_151_code 1 = .ok (.invokespecial 1, 3) := by decide +kernel
theorem d4_4 : decode jdk_42_method_151_code 4 = .ok (.aload_n 0, 1) := by decide +kernel
theorem d4_5 : decode jdk_42_method_151_code 5 = .ok (.aload_n 1, 1) := by decide +kernel
theorem d4_6 : decode jdk_42_method_151_code 6 = .ok (.putfield 9, 3) := by decide +kernel
theorem d4_9 : decode jdk_42_method_151_code 9 = .ok (.aload_n 0, 1) := by decide +kernel
theorem d4_10 : decode jdk_42_method_151_code 10 = .ok (.iload_n 2, 1) := by decide +kernel
theorem d4_11 : decode jdk_42_method_151_code 11 = .ok (.putfield 15, 3) := by decide +kernel
theorem d4_14 : decode jdk_42_method_151_code 14 = .ok (.return_, 1) := by decide +kernel
theorem pn_4 : plainFor (⟨"java/lang/String", "<init>", "([BB)V"⟩ : MethodName) = true := by first | exact plainFor_of_name (by first | (simp [plainName, overriddenIn]; done) | decide +kernel) | decide +kernel
theorem ef_4 (m : MethodId) (x0 : Addr) (x1 : Addr) (x2 : Int32) : entryFrame m #[(.ref x0), (.ref x1), (.int x2)] 3 = mkF m 0 #[.val (.ref x0), .val (.ref x1), .val (.int x2)] [] := by first | (simp [entryFrame, mkF, argsToLocals, Value.category]; done) | rfl
set_option maxRecDepth 65536 in
set_option maxHeartbeats 40000000 in
theorem rm4 (l : Launch) (Z : State) (a0 : Array Value) (hw : ∀ d ∈ tables_1, d.before a0 Z = true) (ws : List Jvm.Cond) (a1 a2 : Addr) (u1 u2 : Value) (h0 : Heap) (n0 : Nat) (Z0 : n0 ≤ h0.size) (E0 : Exa Z h0 a1 "java/lang/String") (F_value : Fld Z h0 a1 "java/lang/String" "value" "[B" u1) (F_coder : Fld Z h0 a1 "java/lang/String" "coder" "B" u2) (g0 : n0 ≤ a1) :
    MetFree l (⟨"java/lang/String", "<init>", "([BB)V"⟩ : MethodName) (head1 (Jvm.Cond.code (⟨"java/lang/String", "<init>", "([BB)V"⟩ : MethodName) jdk_42_method_151_code 3 none :: ws) ({ frames := 1, cells := 0, slots := 0, locals := 12 } : Room)) (fun a U => a = #[(.ref a1), (.ref a2), (.int (0 : Int32))] ∧ Z.Warmed39 U.vm ∧ U.heap = h0) (fun _ _ _ _ _ => True) (fun _ U o U' => ∃ v L, o = .returned v ∧ Q4 Z a1 h0 n0 v U'.heap L ∧ FrameEnd U o U' L ({ frames := 1, cells := 0, slots := 0, locals := 12 } : Room).cells ({ frames := 1, cells := 0, slots := 0, locals := 12 } : Room).slots) := by
  refine MetFree.of_bodySF pn_4 hisR ?_
  intro p e s m args below meth c s₁ Bd hml0 hP hK
  obtain ⟨rfl, hZ, hh⟩ := hP
  have hx := Bd.exec
  have hby := Bd.bytes
  have hlk := Bd.notSynchronized
  have hret := Bd.returns
  have hml : c.maxLocals = 3 := hml0
  have hown : s.vm.findClass "java/lang/String" = some m.cls := findClass_of_methodNamed Bd.named
  have hnm := (name_of_methodNamed Bd.named Bd.method).1
  have X0 : Stand p l e ({ frames := 1, cells := 0, slots := 0, locals := 12 } : Room) s m #[(.ref a1), (.ref a2), (.int (0 : Int32))] below meth c s₁ [] 0 0 := Stand.of_body Bd
  have e0 : s₁.heap = h0 := by rw [← hh, Bd.state]; rfl
  have N0 := Fr.nil n0
  show Go p e below (Pst s (Q4 Z a1 h0 n0) ({ frames := 1, cells := 0, slots := 0, locals := 12 } : Room).cells ({ frames := 1, cells := 0, slots := 0, locals := 12 } : Room).slots) (s₁.setTop (entryFrame m #[(.ref a1), (.ref a2), (.int (0 : Int32))] 3))
  refine Go.on (fun t k => castTop (ef_4 m a1 a2 (0 : Int32)) k) ?_
  show Go p e below _ (s₁.setTop (mkF m 0 #[.val (.ref a1), .val (.ref a2), .val (.int (0 : Int32))] []))
  refine Go.on (fun t k => XS.aloadN X0.here hx rfl (hb hby d4_0) rfl rfl k) ?_
  show Go p e below _ (s₁.setTop (mkF m 1 #[.val (.ref a1), .val (.ref a2), .val (.int (0 : Int32))] [(.ref a1)]))
  obtain ⟨T1, X1, e1, st1⟩ := initO X0 hx hZ hown (hw _ (List.mem_of_getElem? (i := 19) rfl)) (hw _ (List.mem_of_getElem? (i := 20) rfl)) (hw _ (List.mem_of_getElem? (i := 21) rfl)) e0 (g := (mkF m 1 #[.val (.ref a1), .val (.ref a2), .val (.int (0 : Int32))] [(.ref a1)])) rfl (by rw [hml]; rfl) rfl (hb hby d4_1) (by decide) (W := 0) (by show 2 * 0 + _ ≤ _; exact Nat.le_of_eq rfl) (by decide)
  refine Go.on st1 ?_
  show Go p e below _ (T1.setTop (mkF m 4 #[.val (.ref a1), .val (.ref a2), .val (.int (0 : Int32))] []))
  refine Go.on (fun t k => XS.aloadN X1.here hx rfl (hb hby d4_4) rfl rfl k) ?_
  show Go p e below _ (T1.setTop (mkF m 5 #[.val (.ref a1), .val (.ref a2), .val (.int (0 : Int32))] [(.ref a1)]))
  refine Go.on (fun t k => XS.aloadN X1.here hx rfl (hb hby d4_5) rfl rfl k) ?_
  show Go p e below _ (T1.setTop (mkF m 6 #[.val (.ref a1), .val (.ref a2), .val (.int (0 : Int32))] [(.ref a2), (.ref a1)]))
  obtain ⟨T2, h2, X2, e2, W2, st2⟩ := putF X1 hx hZ hown (host := "") (Or.inl (hw _ (List.mem_of_getElem? (i := 22) rfl))) Via.refl e1 F_value E0 (Or.inr ⟨(hw _ (List.mem_of_getElem? (i := 23) rfl)), rfl, hnm⟩) (hw _ (List.mem_of_getElem? (i := 10) rfl)) (ty := (.array .byte)) (by decide) rfl rfl (g := (mkF m 6 #[.val (.ref a1), .val (.ref a2), .val (.int (0 : Int32))] [(.ref a2), (.ref a1)])) rfl rfl (hb hby d4_6)
  have E2 := E0.wr W2
  have K2 := (Keep.refl h0 [a1]).wr W2 (Or.inl (List.mem_of_getElem? (i := 0) rfl))
  have N2 := Fr.snoc X2 N0 g0
  have Fc2 := F_coder.other W2 (Or.inr (slot_ne (Or.inr (hw _ (List.mem_of_getElem? (i := 25) rfl))) (Or.inr (hw _ (List.mem_of_getElem? (i := 23) rfl))) (by decide) (t := .byte) (t' := (.array .byte)) (by decide) (by decide)))
  refine Go.on st2 ?_
  show Go p e below _ (T2.setTop (mkF m 9 #[.val (.ref a1), .val (.ref a2), .val (.int (0 : Int32))] []))
  refine Go.on (fun t k => XS.aloadN X2.here hx rfl (hb hby d4_9) rfl rfl k) ?_
  show Go p e below _ (T2.setTop (mkF m 10 #[.val (.ref a1), .val (.ref a2), .val (.int (0 : Int32))] [(.ref a1)]))
  refine Go.on (fun t k => XS.iloadN X2.here hx rfl (hb hby d4_10) rfl k) ?_
  show Go p e below _ (T2.setTop (mkF m 11 #[.val (.ref a1), .val (.ref a2), .val (.int (0 : Int32))] [(.int (0 : Int32)), (.ref a1)]))
  obtain ⟨T3, h3, X3, e3, W3, st3⟩ := putFN X2 hx hZ hown (hw _ (List.mem_of_getElem? (i := 24) rfl)) Via.refl e2 Fc2 E2 (Or.inr ⟨(hw _ (List.mem_of_getElem? (i := 25) rfl)), rfl, hnm⟩) (hw _ (List.mem_of_getElem? (i := 10) rfl)) (ty := .byte) (v' := .int (0 : Int32)) (by decide) rfl rfl (g := (mkF m 11 #[.val (.ref a1), .val (.ref a2), .val (.int (0 : Int32))] [(.int (0 : Int32)), (.ref a1)])) rfl rfl (hb hby d4_11)
  have E3 := E2.wr W3
  have K3 := K2.wr W3 (Or.inl (List.mem_of_getElem? (i := 0) rfl))
  have N3 := Fr.snoc X3 N2 g0
  refine Go.on st3 ?_
  show Go p e below _ (T3.setTop (mkF m 14 #[.val (.ref a1), .val (.ref a2), .val (.int (0 : Int32))] []))
  exact Go.ret0 X3 hx hlk hret (hb hby d4_14) (Nat.le_refl _) (Nat.le_refl _) (show Q4 Z a1 h0 n0 _ T3.heap _ from by rw [e3]; exact ⟨rfl, N3, K3, E3⟩)
def Q1 (Z : State) (h0 : Heap) (n0 : Nat) (v : Option Value) (h : Heap) (L : List Loc) : Prop := ∃ b : Addr, v = some (.ref b) ∧ Fr n0 L ∧ Keep h0 h [] ∧ Exa Z h b "java/lang/String"
theorem d1_0 : decode jdk_42_method_139_code 0 = .ok (.getstatic 38, 3) := by decide +kernel
theorem d1_3 : decode jdk_42_method_139_code 3 = .ok (.ifCond .eq 23, 3) := by decide +kernel
theorem d1_6 : decode jdk_42_method_139_code 6 = .ok (.iload_n 0, 1) := by decide +kernel
theorem d1_7 : decode jdk_42_method_139_code 7 = .ok (.invokestatic 1015, 3) := by decide +kernel
theorem d1_10 : decode jdk_42_method_139_code 10 = .ok (.ifCond .eq 16, 3) := by decide +kernel
theorem d1_13 : decode jdk_42_method_139_code 13 = .ok (.new 10, 3) := by decide +kernel
theorem d1_16 : decode jdk_42_method_139_code 16 = .ok (.dup, 1) := by decide +kernel
theorem d1_17 : decode jdk_42_method_139_code 17 = .ok (.iload_n 0, 1) := by decide +kernel
theorem d1_18 : decode jdk_42_method_139_code 18 = .ok (.invokestatic 1018, 3) := by decide +kernel
theorem d1_21 : decode jdk_42_method_139_code 21 = .ok (.iconst 0, 1) := by decide +kernel
theorem d1_22 : decode jdk_42_method_139_code 22 = .ok (.invokespecial 209, 3) := by decide +kernel
theorem d1_25 : decode jdk_42_method_139_code 25 = .ok (.areturn, 1) := by decide +kernel
theorem pn_1 : plainFor (⟨"java/lang/String", "valueOf", "(C)Ljava/lang/String;"⟩ : MethodName) = true := by first | exact plainFor_of_name (by first | (simp [plainName, overriddenIn]; done) | decide +kernel) | decide +kernel
theorem ef_1 (m : MethodId) (x0 : Int32) : entryFrame m #[(.int x0)] 1 = mkF m 0 #[.val (.int x0)] [] := by first | (simp [entryFrame, mkF, argsToLocals, Value.category]; done) | rfl
set_option maxRecDepth 65536 in
set_option maxHeartbeats 40000000 in
theorem rm1 (l : Launch) (Z : State) (a0 : Array Value) (hw : ∀ d ∈ tables_1, d.before a0 Z = true) (ws : List Jvm.Cond) (p1 u : Int32) (h0 : Heap) (n0 : Nat) (Z0 : n0 ≤ h0.size) (hp : ¬ (255 : Int32) < p1) (hu : ¬ u = (0 : Int32)) (S0 : Sta Z h0 "java/lang/String" "COMPACT_STRINGS" "Z" (.int u)) :
    MetFree l (⟨"java/lang/String", "valueOf", "(C)Ljava/lang/String;"⟩ : MethodName) (head1 (Jvm.Cond.code (⟨"java/lang/String", "valueOf", "(C)Ljava/lang/String;"⟩ : MethodName) jdk_42_method_139_code 1 (some (.object "java/lang/String")) :: ws) ({ frames := 2, cells := 2, slots := 5, locals := 27 } : Room)) (fun a U => a = #[(.int p1)] ∧ Z.Warmed39 U.vm ∧ U.heap = h0) (fun _ _ _ _ _ => True) (fun _ U o U' => ∃ v L, o = .returned v ∧ Q1 Z h0 n0 v U'.heap L ∧ FrameEnd U o U' L ({ frames := 2, cells := 2, slots := 5, locals := 27 } : Room).cells ({ frames := 2, cells := 2, slots := 5, locals := 27 } : Room).slots) := by
  refine MetFree.of_bodySF pn_1 hisR ?_
  intro p e s m args below meth c s₁ Bd hml0 hP hK
  obtain ⟨rfl, hZ, hh⟩ := hP
  have hx := Bd.exec
  have hby := Bd.bytes
  have hlk := Bd.notSynchronized
  have hret := Bd.returns
  have hml : c.maxLocals = 1 := hml0
  have hown : s.vm.findClass "java/lang/String" = some m.cls := findClass_of_methodNamed Bd.named
  have hnm := (name_of_methodNamed Bd.named Bd.method).1
  have X0 : Stand p l e ({ frames := 2, cells := 2, slots := 5, locals := 27 } : Room) s m #[(.int p1)] below meth c s₁ [] 0 0 := Stand.of_body Bd
  have e0 : s₁.heap = h0 := by rw [← hh, Bd.state]; rfl
  have N0 := Fr.nil n0
  show Go p e below (Pst s (Q1 Z h0 n0) ({ frames := 2, cells := 2, slots := 5, locals := 27 } : Room).cells ({ frames := 2, cells := 2, slots := 5, locals := 27 } : Room).slots) (s₁.setTop (entryFrame m #[(.int p1)] 1))
  refine Go.on (fun t k => castTop (ef_1 m p1) k) ?_
  show Go p e below _ (s₁.setTop (mkF m 0 #[.val (.int p1)] []))
  obtain ⟨T1, X1, e1, st1⟩ := getS2 X0 hx hZ hown (host := "") (Or.inl (hw _ (List.mem_of_getElem? (i := 4) rfl))) Via.refl e0 S0 (g := (mkF m 0 #[.val (.int p1)] [])) rfl (hb hby d1_0)
  refine Go.on st1 ?_
  show Go p e below _ (T1.setTop (mkF m 3 #[.val (.int p1)] [(.int u)]))
  refine Go.on (fun t k => XS.ifNo X1.here hx rfl (hb hby d1_3) rfl ((if0 _ _).trans (feq hu).1) k) ?_
  show Go p e below _ (T1.setTop (mkF m 6 #[.val (.int p1)] []))
  refine Go.on (fun t k => XS.iloadN X1.here hx rfl (hb hby d1_6) rfl k) ?_
  show Go p e below _ (T1.setTop (mkF m 7 #[.val (.int p1)] [(.int p1)]))
  obtain ⟨_, _, ⟨T2, L2, k2, n2⟩, -, X2, ⟨Lc2, hQ2, l2, y2, z2⟩, st2⟩ := Jvm.LawKit.callS X1 hx (y := (⟨"java/lang/StringLatin1", "canEncode", "(C)Z"⟩ : MethodName)) hown (mvT hZ (hw _ (List.mem_of_getElem? (i := 5) rfl))) (mvT hZ (hw _ (List.mem_of_getElem? (i := 6) rfl))) (mvT hZ (hw _ (List.mem_of_getElem? (i := 7) rfl))) (mvT hZ (hw _ (List.mem_of_getElem? (i := 8) rfl))) (by decide) (backOf (W := 0) (rm2 l Z a0 hw [] p1 h0 n0 Z0 hp) hZ (hw _ (List.mem_of_getElem? (i := 8) rfl)) (hw _ (List.mem_of_getElem? (i := 7) rfl)) (by decide) (by decide)) (g := (mkF m 7 #[.val (.int p1)] [(.int p1)])) rfl (by rw [hml]; rfl) (argsL := [(.int p1)]) (rest := []) (lenOf pd_1 rfl) rfl (by show 2 * 0 + _ ≤ _; exact Nat.le_of_eq rfl) (hb hby d1_7) (fun _ _ => ⟨rfl, e1, (by decide : 0 + 0 ≤ _), (by decide : 0 + 0 ≤ _)⟩)
  dsimp only [Pt.U, Pt.locs, Pt.cells, Pt.slots] at X2 l2 y2 z2 st2 hQ2
  subst l2 y2 z2
  obtain ⟨rfl, N2q, e2⟩ := hQ2
  have N2 := Fr.app N0 N2q
  refine Go.on st2 ?_
  show Go p e below _ (T2.setTop (mkF m 10 #[.val (.int p1)] [(.int (1 : Int32))]))
  refine Go.on (fun t k => XS.ifNo X2.here hx rfl (hb hby d1_10) rfl ((if0 _ _).trans (feq (by decide : ¬ ((1 : Int32) = (0 : Int32)))).1) k) ?_
  show Go p e below _ (T2.setTop (mkF m 13 #[.val (.int p1)] []))
  obtain ⟨T3, h3, X3, e3, E3, A3, D3, -, st3⟩ := newO X2 hx hZ hown (hw _ (List.mem_of_getElem? (i := 9) rfl)) (hw _ (List.mem_of_getElem? (i := 10) rfl)) (hw _ (List.mem_of_getElem? (i := 2) rfl)) e2 (g := (mkF m 13 #[.val (.int p1)] [])) rfl (hb hby d1_13) (by decide) (by decide)
  obtain ⟨a3, g3⟩ : ∃ z, z = h0.size := ⟨_, rfl⟩
  rw [← g3] at A3 D3 st3
  have Z3 : n0 ≤ h3.size := Nat.le_trans Z0 E3.1
  have G3 : n0 ≤ a3 := Nat.le_trans Z0 (Nat.le_of_eq g3.symm)
  refine Go.on st3 ?_
  show Go p e below _ (T3.setTop (mkF m 16 #[.val (.int p1)] [(.ref a3)]))
  refine Go.on (fun t k => XS.dup X3.here hx rfl (hb hby d1_16) rfl rfl k) ?_
  show Go p e below _ (T3.setTop (mkF m 17 #[.val (.int p1)] [(.ref a3), (.ref a3)]))
  refine Go.on (fun t k => XS.iloadN X3.here hx rfl (hb hby d1_17) rfl k) ?_
  show Go p e below _ (T3.setTop (mkF m 18 #[.val (.int p1)] [(.int p1), (.ref a3), (.ref a3)]))
  obtain ⟨_, _, ⟨T4, L4, k4, n4⟩, -, X4, ⟨Lc4, hQ4, l4, y4, z4⟩, st4⟩ := Jvm.LawKit.callS X3 hx (y := (⟨"java/lang/StringLatin1", "toBytes", "(C)[B"⟩ : MethodName)) hown (mvT hZ (hw _ (List.mem_of_getElem? (i := 11) rfl))) (mvT hZ (hw _ (List.mem_of_getElem? (i := 12) rfl))) (mvT hZ (hw _ (List.mem_of_getElem? (i := 7) rfl))) (mvT hZ (hw _ (List.mem_of_getElem? (i := 13) rfl))) (by decide) (backOf (W := 2) (rm3 l Z a0 hw [] p1 h3 n0 Z3) hZ (hw _ (List.mem_of_getElem? (i := 13) rfl)) (hw _ (List.mem_of_getElem? (i := 7) rfl)) (by decide) (by decide)) (g := (mkF m 18 #[.val (.int p1)] [(.int p1), (.ref a3), (.ref a3)])) rfl (by rw [hml]; rfl) (argsL := [(.int p1)]) (rest := [(.ref a3), (.ref a3)]) (lenOf pd_2 rfl) rfl (by show 2 * 0 + _ ≤ _; exact Nat.le_of_eq rfl) (hb hby d1_18) (fun _ _ => ⟨rfl, e3, (by decide : 1 + 1 ≤ _), (by decide : 4 + 1 ≤ _)⟩)
  dsimp only [Pt.U, Pt.locs, Pt.cells, Pt.slots] at X4 l4 y4 z4 st4 hQ4
  subst l4 y4 z4
  obtain ⟨b4, rfl, N4q, K4, gb4⟩ := hQ4
  have N4 := Fr.app N2 N4q
  refine Go.on st4 ?_
  show Go p e below _ (T4.setTop (mkF m 21 #[.val (.int p1)] [(.ref b4), (.ref a3), (.ref a3)]))
  refine Go.on (fun t k => XS.iconst X4.here hx rfl (hb hby d1_21) k) ?_
  show Go p e below _ (T4.setTop (mkF m 22 #[.val (.int p1)] [(.int (0 : Int32)), (.ref b4), (.ref a3), (.ref a3)]))
  obtain ⟨_, _, ⟨T5, L5, k5, n5⟩, -, X5, ⟨Lc5, hQ5, l5, y5, z5⟩, st5⟩ := X4.specialBack hx (y := (⟨"java/lang/String", "<init>", "([BB)V"⟩ : MethodName)) rfl hown (mvT hZ (hw _ (List.mem_of_getElem? (i := 15) rfl))) (mvT hZ (hw _ (List.mem_of_getElem? (i := 16) rfl))) (mvT hZ (hw _ (List.mem_of_getElem? (i := 18) rfl))) (by decide) (backOf (W := 1) (rm4 l Z a0 hw [] a3 b4 _ _ T4.heap n0 (Nat.le_trans Z3 K4.1) (A3.keep K4) ((D3 (Or.inr (hw _ (List.mem_of_getElem? (i := 23) rfl))) (ty := .array .byte) (by decide)).keep K4 (by simp)) ((D3 (Or.inr (hw _ (List.mem_of_getElem? (i := 25) rfl))) (ty := .byte) (by decide)).keep K4 (by simp)) G3) hZ (hw _ (List.mem_of_getElem? (i := 18) rfl)) (hw _ (List.mem_of_getElem? (i := 2) rfl)) (by decide) (by decide)) (g := (mkF m 22 #[.val (.int p1)] [(.int (0 : Int32)), (.ref b4), (.ref a3), (.ref a3)])) rfl (by rw [hml]; rfl) (Steps.refl _) (a := a3) (argsL := [(.ref b4), (.int (0 : Int32))]) (rest := [(.ref a3)]) (lenOf pd_3 rfl) rfl (by show 2 * 0 + _ ≤ _; exact Nat.le_of_eq rfl) (hb hby d1_22) (fun _ _ => ⟨rfl, (rfl : T4.heap = T4.heap), (by decide : 2 + 0 ≤ _), (by decide : 5 + 0 ≤ _)⟩)
  dsimp only [Pt.U, Pt.locs, Pt.cells, Pt.slots] at X5 l5 y5 z5 st5 hQ5
  subst l5 y5 z5
  obtain ⟨rfl, N5q, K5, A5⟩ := hQ5
  have N5 := Fr.app N4 N5q
  refine Go.st st5 ?_
  show Go p e below _ (T5.setTop (mkF m 25 #[.val (.int p1)] [(.ref a3)]))
  have Kf : Keep h0 T5.heap [] := (((Keep.refl h0 []).ext E3).trans K4 (fun x hx => by cases hx)).trans K5 (fun x hx => by cases List.mem_singleton.mp hx; exact Or.inr (Nat.le_of_eq g3.symm))
  exact Go.retA X5 hx hlk hret rfl rfl (hb hby d1_25) (by decide) (by decide) (show Q1 Z h0 n0 _ T5.heap _ from ⟨_, rfl, N5, Kf, A5⟩)
def Q8 (h0 : Heap) (n0 : Nat) (v : Option Value) (h : Heap) (L : List Loc) : Prop := v = none ∧ Fr n0 L ∧ h = h0
theorem d8_0 : decode jdk_22_method_1_code 0 = .ok (.aload_n 0, 1) := by decide +kernel
theorem d8_1 : decode jdk_22_method_1_code 1 = .ok (.invokespecial 1, 3) := by decide +kernel
theorem d8_4 : decode jdk_22_method_1_code 4 = .ok (.return_, 1) := by decide +kernel
theorem pn_8 : plainFor (⟨"java/util/AbstractCollection", "<init>", "()V"⟩ : MethodName) = true := by first | exact plainFor_of_name (by first | (simp [plainName, overriddenIn]; done) | decide +kernel) | decide +kernel
theorem ef_8 (m : MethodId) (x0 : Addr) : entryFrame m #[(.ref x0)] 1 = mkF m 0 #[.val (.ref x0)] [] := by first | (simp [entryFrame, mkF, argsToLocals, Value.category]; done) | rfl
set_option maxRecDepth 65536 in
set_option maxHeartbeats 40000000 in
theorem rm8 (l : Launch) (Z : State) (a0 : Array Value) (hw : ∀ d ∈ tables_1, d.before a0 Z = true) (ws : List Jvm.Cond) (a1 : Addr) (h0 : Heap) (n0 : Nat) (Z0 : n0 ≤ h0.size)  :
    MetFree l (⟨"java/util/AbstractCollection", "<init>", "()V"⟩ : MethodName) (head1 (Jvm.Cond.code (⟨"java/util/AbstractCollection", "<init>", "()V"⟩ : MethodName) jdk_22_method_1_code 1 none :: ws) ({ frames := 1, cells := 0, slots := 0, locals := 12 } : Room)) (fun a U => a = #[(.ref a1)] ∧ Z.Warmed39 U.vm ∧ U.heap = h0) (fun _ _ _ _ _ => True) (fun _ U o U' => ∃ v L, o = .returned v ∧ Q8 h0 n0 v U'.heap L ∧ FrameEnd U o U' L ({ frames := 1, cells := 0, slots := 0, locals := 12 } : Room).cells ({ frames := 1, cells := 0, slots := 0, locals := 12 } : Room).slots) := by
  refine MetFree.of_bodySF pn_8 hisR ?_
  intro p e s m args below meth c s₁ Bd hml0 hP hK
  obtain ⟨rfl, hZ, hh⟩ := hP
  have hx := Bd.exec
  have hby := Bd.bytes
  have hlk := Bd.notSynchronized
  have hret := Bd.returns
  have hml : c.maxLocals = 1 := hml0
  have hown : s.vm.findClass "java/util/AbstractCollection" = some m.cls := findClass_of_methodNamed Bd.named
  have hnm := (name_of_methodNamed Bd.named Bd.method).1
  have X0 : Stand p l e ({ frames := 1, cells := 0, slots := 0, locals := 12 } : Room) s m #[(.ref a1)] below meth c s₁ [] 0 0 := Stand.of_body Bd
  have e0 : s₁.heap = h0 := by rw [← hh, Bd.state]; rfl
  have N0 := Fr.nil n0
  show Go p e below (Pst s (Q8 h0 n0) ({ frames := 1, cells := 0, slots := 0, locals := 12 } : Room).cells ({ frames := 1, cells := 0, slots := 0, locals := 12 } : Room).slots) (s₁.setTop (entryFrame m #[(.ref a1)] 1))
  refine Go.on (fun t k => castTop (ef_8 m a1) k) ?_
  show Go p e below _ (s₁.setTop (mkF m 0 #[.val (.ref a1)] []))
  refine Go.on (fun t k => XS.aloadN X0.here hx rfl (hb hby d8_0) rfl rfl k) ?_
  show Go p e below _ (s₁.setTop (mkF m 1 #[.val (.ref a1)] [(.ref a1)]))
  obtain ⟨T1, X1, e1, st1⟩ := initO X0 hx hZ hown (hw _ (List.mem_of_getElem? (i := 44) rfl)) (hw _ (List.mem_of_getElem? (i := 20) rfl)) (hw _ (List.mem_of_getElem? (i := 21) rfl)) e0 (g := (mkF m 1 #[.val (.ref a1)] [(.ref a1)])) rfl (by rw [hml]; rfl) rfl (hb hby d8_1) (by decide) (W := 0) (by show 2 * 0 + _ ≤ _; exact Nat.le_of_eq rfl) (by decide)
  refine Go.on st1 ?_
  show Go p e below _ (T1.setTop (mkF m 4 #[.val (.ref a1)] []))
  exact Go.ret0 X1 hx hlk hret (hb hby d8_4) (Nat.le_refl _) (Nat.le_refl _) (show Q8 h0 n0 _ _ _ from ⟨rfl, N0, e1⟩)
def Q7 (Z : State) (a1 : Addr) (u2 : Value) (w : Addr) (h0 : Heap) (n0 : Nat) (v : Option Value) (h : Heap) (L : List Loc) : Prop := v = none ∧ Fr n0 L ∧ Keep h0 h [a1] ∧ Exa Z h a1 "java/util/ArrayList" ∧ Fld Z h a1 "java/util/ArrayList" "elementData" "[Ljava/lang/Object;" u2 ∧ Sta Z h "java/util/ArrayList" "DEFAULTCAPACITY_EMPTY_ELEMENTDATA" "[Ljava/lang/Object;" (.ref w)
theorem d7_0 : decode jdk_39_method_1_code 0 = .ok (.aload_n 0, 1) := by decide +kernel
theorem d7_1 : decode jdk_39_method_1_code 1 = .ok (.invokespecial 1, 3) := by decide +kernel
theorem d7_4 : decode jdk_39_method_1_code 4 = .ok (.aload_n 0, 1) := by decide +kernel
theorem d7_5 : decode jdk_39_method_1_code 5 = .ok (.iconst 0, 1) := by decide +kernel
theorem d7_6 : decode jdk_39_method_1_code 6 = .ok (.putfield 7, 3) := by decide +kernel
theorem d7_9 : decode jdk_39_method_1_code 9 = .ok (.return_, 1) := by decide +kernel
theorem pn_7 : plainFor (⟨"java/util/AbstractList", "<init>", "()V"⟩ : MethodName) = true := by first | exact plainFor_of_name (by first | (simp [plainName, overriddenIn]; done) | decide +kernel) | decide +kernel
theorem ef_7 (m : MethodId) (x0 : Addr) : entryFrame m #[(.ref x0)] 1 = mkF m 0 #[.val (.ref x0)] [] := by first | (simp [entryFrame, mkF, argsToLocals, Value.category]; done) | rfl
set_option maxRecDepth 65536 in
set_option maxHeartbeats 40000000 in
theorem rm7 (l : Launch) (Z : State) (a0 : Array Value) (hw : ∀ d ∈ tables_1, d.before a0 Z = true) (ws : List Jvm.Cond) (a1 : Addr) (u1 u2 : Value) (w : Addr) (h0 : Heap) (n0 : Nat) (Z0 : n0 ≤ h0.size) (E0 : Exa Z h0 a1 "java/util/ArrayList") (F_mod : Fld Z h0 a1 "java/util/AbstractList" "modCount" "I" u1) (F_ed : Fld Z h0 a1 "java/util/ArrayList" "elementData" "[Ljava/lang/Object;" u2) (S0 : Sta Z h0 "java/util/ArrayList" "DEFAULTCAPACITY_EMPTY_ELEMENTDATA" "[Ljava/lang/Object;" (.ref w)) (g0 : n0 ≤ a1) :
    MetFree l (⟨"java/util/AbstractList", "<init>", "()V"⟩ : MethodName) (head1 (Jvm.Cond.code (⟨"java/util/AbstractList", "<init>", "()V"⟩ : MethodName) jdk_39_method_1_code 1 none :: ws) ({ frames := 2, cells := 0, slots := 0, locals := 24 } : Room)) (fun a U => a = #[(.ref a1)] ∧ Z.Warmed39 U.vm ∧ U.heap = h0) (fun _ _ _ _ _ => True) (fun _ U o U' => ∃ v L, o = .returned v ∧ Q7 Z a1 u2 w h0 n0 v U'.heap L ∧ FrameEnd U o U' L ({ frames := 2, cells := 0, slots := 0, locals := 24 } : Room).cells ({ frames := 2, cells := 0, slots := 0, locals := 24 } : Room).slots) := by
  refine MetFree.of_bodySF pn_7 hisR ?_
  intro p e s m args below meth c s₁ Bd hml0 hP hK
  obtain ⟨rfl, hZ, hh⟩ := hP
  have hx := Bd.exec
  have hby := Bd.bytes
  have hlk := Bd.notSynchronized
  have hret := Bd.returns
  have hml : c.maxLocals = 1 := hml0
  have hown : s.vm.findClass "java/util/AbstractList" = some m.cls := findClass_of_methodNamed Bd.named
  have hnm := (name_of_methodNamed Bd.named Bd.method).1
  have X0 : Stand p l e ({ frames := 2, cells := 0, slots := 0, locals := 24 } : Room) s m #[(.ref a1)] below meth c s₁ [] 0 0 := Stand.of_body Bd
  have e0 : s₁.heap = h0 := by rw [← hh, Bd.state]; rfl
  have N0 := Fr.nil n0
  show Go p e below (Pst s (Q7 Z a1 u2 w h0 n0) ({ frames := 2, cells := 0, slots := 0, locals := 24 } : Room).cells ({ frames := 2, cells := 0, slots := 0, locals := 24 } : Room).slots) (s₁.setTop (entryFrame m #[(.ref a1)] 1))
  refine Go.on (fun t k => castTop (ef_7 m a1) k) ?_
  show Go p e below _ (s₁.setTop (mkF m 0 #[.val (.ref a1)] []))
  refine Go.on (fun t k => XS.aloadN X0.here hx rfl (hb hby d7_0) rfl rfl k) ?_
  show Go p e below _ (s₁.setTop (mkF m 1 #[.val (.ref a1)] [(.ref a1)]))
  obtain ⟨_, _, ⟨T1, L1, k1, n1⟩, -, X1, ⟨Lc1, hQ1, l1, y1, z1⟩, st1⟩ := X0.specialBack hx (y := (⟨"java/util/AbstractCollection", "<init>", "()V"⟩ : MethodName)) rfl hown (mvT hZ (hw _ (List.mem_of_getElem? (i := 38) rfl))) (mvT hZ (hw _ (List.mem_of_getElem? (i := 39) rfl))) (mvT hZ (hw _ (List.mem_of_getElem? (i := 43) rfl))) (by decide) (backOf (W := 0) (rm8 l Z a0 hw [] a1 h0 n0 Z0) hZ (hw _ (List.mem_of_getElem? (i := 43) rfl)) (hw _ (List.mem_of_getElem? (i := 42) rfl)) (by decide) (by decide)) (g := (mkF m 1 #[.val (.ref a1)] [(.ref a1)])) rfl (by rw [hml]; rfl) (Steps.refl _) (a := a1) (argsL := []) (rest := []) (lenOf pd_4 rfl) rfl (by show 2 * 0 + _ ≤ _; exact Nat.le_of_eq rfl) (hb hby d7_1) (fun _ _ => ⟨rfl, e0, (by decide : 0 + 0 ≤ _), (by decide : 0 + 0 ≤ _)⟩)
  dsimp only [Pt.U, Pt.locs, Pt.cells, Pt.slots] at X1 l1 y1 z1 st1 hQ1
  subst l1 y1 z1
  obtain ⟨rfl, N1q, e1⟩ := hQ1
  have N1 := Fr.app N0 N1q
  refine Go.st st1 ?_
  show Go p e below _ (T1.setTop (mkF m 4 #[.val (.ref a1)] []))
  refine Go.on (fun t k => XS.aloadN X1.here hx rfl (hb hby d7_4) rfl rfl k) ?_
  show Go p e below _ (T1.setTop (mkF m 5 #[.val (.ref a1)] [(.ref a1)]))
  refine Go.on (fun t k => XS.iconst X1.here hx rfl (hb hby d7_5) k) ?_
  show Go p e below _ (T1.setTop (mkF m 6 #[.val (.ref a1)] [(.int (0 : Int32)), (.ref a1)]))
  obtain ⟨T2, h2, X2, e2, W2, st2⟩ := putF X1 hx hZ hown (host := "") (Or.inl (hw _ (List.mem_of_getElem? (i := 45) rfl))) Via.refl e1 F_mod E0 (Or.inl (hw _ (List.mem_of_getElem? (i := 46) rfl))) (hw _ (List.mem_of_getElem? (i := 27) rfl)) (ty := .int) (by decide) rfl rfl (g := (mkF m 6 #[.val (.ref a1)] [(.int (0 : Int32)), (.ref a1)])) rfl rfl (hb hby d7_6)
  have E2 := E0.wr W2
  have K2 := (Keep.refl h0 [a1]).wr W2 (Or.inl (List.mem_of_getElem? (i := 0) rfl))
  have N2 := Fr.snoc X2 N1 g0
  have Fe2 := F_ed.other W2 (Or.inr (slot_ne (Or.inl (hw _ (List.mem_of_getElem? (i := 49) rfl))) (Or.inl (hw _ (List.mem_of_getElem? (i := 46) rfl))) (by decide) (t := (.array (.object "java/lang/Object"))) (t' := .int) (by decide) (by decide)))
  have S2 := S0.wr W2
  refine Go.on st2 ?_
  show Go p e below _ (T2.setTop (mkF m 9 #[.val (.ref a1)] []))
  exact Go.ret0 X2 hx hlk hret (hb hby d7_9) (Nat.le_refl _) (Nat.le_refl _) (show Q7 Z a1 u2 w h0 n0 _ T2.heap _ from by rw [e2]; exact ⟨rfl, N2, K2, E2, Fe2, S2⟩)
def Q6 (Z : State) (a1 : Addr) (h0 : Heap) (n0 : Nat) (v : Option Value) (h : Heap) (L : List Loc) : Prop := v = none ∧ Fr n0 L ∧ Keep h0 h [a1] ∧ Exa Z h a1 "java/util/ArrayList"
theorem d6_0 : decode jdk_38_method_2_code 0 = .ok (.aload_n 0, 1) := by decide +kernel
theorem d6_1 : decode jdk_38_method_2_code 1 = .ok (.invokespecial 1, 3) := by decide +kernel
theorem d6_4 : decode jdk_38_method_2_code 4 = .ok (.aload_n 0, 1) := by decide +kernel
theorem d6_5 : decode jdk_38_method_2_code 5 = .ok (.getstatic 39, 3) := by decide +kernel
theorem d6_8 : decode jdk_38_method_2_code 8 = .ok (.putfield 9, 3) := by decide +kernel
theorem d6_11 : decode jdk_38_method_2_code 11 = .ok (.return_, 1) := by decide +kernel
theorem pn_6 : plainFor (⟨"java/util/ArrayList", "<init>", "()V"⟩ : MethodName) = true := by first | exact plainFor_of_name (by first | (simp [plainName, overriddenIn]; done) | decide +kernel) | decide +kernel
theorem ef_6 (m : MethodId) (x0 : Addr) : entryFrame m #[(.ref x0)] 1 = mkF m 0 #[.val (.ref x0)] [] := by first | (simp [entryFrame, mkF, argsToLocals, Value.category]; done) | rfl
set_option maxRecDepth 65536 in
set_option maxHeartbeats 40000000 in
theorem rm6 (l : Launch) (Z : State) (a0 : Array Value) (hw : ∀ d ∈ tables_1, d.before a0 Z = true) (ws : List Jvm.Cond) (a1 : Addr) (u1 u2 : Value) (w : Addr) (h0 : Heap) (n0 : Nat) (Z0 : n0 ≤ h0.size) (E0 : Exa Z h0 a1 "java/util/ArrayList") (F_mod : Fld Z h0 a1 "java/util/AbstractList" "modCount" "I" u1) (F_ed : Fld Z h0 a1 "java/util/ArrayList" "elementData" "[Ljava/lang/Object;" u2) (S0 : Sta Z h0 "java/util/ArrayList" "DEFAULTCAPACITY_EMPTY_ELEMENTDATA" "[Ljava/lang/Object;" (.ref w)) (g0 : n0 ≤ a1) :
    MetFree l (⟨"java/util/ArrayList", "<init>", "()V"⟩ : MethodName) (head1 (Jvm.Cond.code (⟨"java/util/ArrayList", "<init>", "()V"⟩ : MethodName) jdk_38_method_2_code 1 none :: ws) ({ frames := 3, cells := 0, slots := 0, locals := 36 } : Room)) (fun a U => a = #[(.ref a1)] ∧ Z.Warmed39 U.vm ∧ U.heap = h0) (fun _ _ _ _ _ => True) (fun _ U o U' => ∃ v L, o = .returned v ∧ Q6 Z a1 h0 n0 v U'.heap L ∧ FrameEnd U o U' L ({ frames := 3, cells := 0, slots := 0, locals := 36 } : Room).cells ({ frames := 3, cells := 0, slots := 0, locals := 36 } : Room).slots) := by
  refine MetFree.of_bodySF pn_6 hisR ?_
  intro p e s m args below meth c s₁ Bd hml0 hP hK
  obtain ⟨rfl, hZ, hh⟩ := hP
  have hx := Bd.exec
  have hby := Bd.bytes
  have hlk := Bd.notSynchronized
  have hret := Bd.returns
  have hml : c.maxLocals = 1 := hml0
  have hown : s.vm.findClass "java/util/ArrayList" = some m.cls := findClass_of_methodNamed Bd.named
  have hnm := (name_of_methodNamed Bd.named Bd.method).1
  have X0 : Stand p l e ({ frames := 3, cells := 0, slots := 0, locals := 36 } : Room) s m #[(.ref a1)] below meth c s₁ [] 0 0 := Stand.of_body Bd
  have e0 : s₁.heap = h0 := by rw [← hh, Bd.state]; rfl
  have N0 := Fr.nil n0
  show Go p e below (Pst s (Q6 Z a1 h0 n0) ({ frames := 3, cells := 0, slots := 0, locals := 36 } : Room).cells ({ frames := 3, cells := 0, slots := 0, locals := 36 } : Room).slots) (s₁.setTop (entryFrame m #[(.ref a1)] 1))
  refine Go.on (fun t k => castTop (ef_6 m a1) k) ?_
  show Go p e below _ (s₁.setTop (mkF m 0 #[.val (.ref a1)] []))
  refine Go.on (fun t k => XS.aloadN X0.here hx rfl (hb hby d6_0) rfl rfl k) ?_
  show Go p e below _ (s₁.setTop (mkF m 1 #[.val (.ref a1)] [(.ref a1)]))
  obtain ⟨_, _, ⟨T1, L1, k1, n1⟩, -, X1, ⟨Lc1, hQ1, l1, y1, z1⟩, st1⟩ := X0.specialBack hx (y := (⟨"java/util/AbstractList", "<init>", "()V"⟩ : MethodName)) rfl hown (mvT hZ (hw _ (List.mem_of_getElem? (i := 32) rfl))) (mvT hZ (hw _ (List.mem_of_getElem? (i := 33) rfl))) (mvT hZ (hw _ (List.mem_of_getElem? (i := 37) rfl))) (by decide) (backOf (W := 0) (rm7 l Z a0 hw [] a1 u1 u2 w h0 n0 Z0 E0 F_mod F_ed S0 g0) hZ (hw _ (List.mem_of_getElem? (i := 37) rfl)) (hw _ (List.mem_of_getElem? (i := 36) rfl)) (by decide) (by decide)) (g := (mkF m 1 #[.val (.ref a1)] [(.ref a1)])) rfl (by rw [hml]; rfl) (Steps.refl _) (a := a1) (argsL := []) (rest := []) (lenOf pd_4 rfl) rfl (by show 2 * 0 + _ ≤ _; exact Nat.le_of_eq rfl) (hb hby d6_1) (fun _ _ => ⟨rfl, e0, (by decide : 0 + 0 ≤ _), (by decide : 0 + 0 ≤ _)⟩)
  dsimp only [Pt.U, Pt.locs, Pt.cells, Pt.slots] at X1 l1 y1 z1 st1 hQ1
  subst l1 y1 z1
  obtain ⟨rfl, N1q, K1, E1, Fe1, S1⟩ := hQ1
  have N1 := Fr.app N0 N1q
  refine Go.st st1 ?_
  show Go p e below _ (T1.setTop (mkF m 4 #[.val (.ref a1)] []))
  refine Go.on (fun t k => XS.aloadN X1.here hx rfl (hb hby d6_4) rfl rfl k) ?_
  show Go p e below _ (T1.setTop (mkF m 5 #[.val (.ref a1)] [(.ref a1)]))
  obtain ⟨T2, X2, e2, st2⟩ := getS2 X1 hx hZ hown (host := "") (Or.inl (hw _ (List.mem_of_getElem? (i := 47) rfl))) Via.refl (rfl : T1.heap = T1.heap) S1 (g := (mkF m 5 #[.val (.ref a1)] [(.ref a1)])) rfl (hb hby d6_5)
  refine Go.on st2 ?_
  show Go p e below _ (T2.setTop (mkF m 8 #[.val (.ref a1)] [(.ref w), (.ref a1)]))
  obtain ⟨T3, h3, X3, e3, W3, st3⟩ := putF X2 hx hZ hown (host := "") (Or.inl (hw _ (List.mem_of_getElem? (i := 48) rfl))) Via.refl e2 Fe1 E1 (Or.inl (hw _ (List.mem_of_getElem? (i := 49) rfl))) (hw _ (List.mem_of_getElem? (i := 27) rfl)) (ty := (.array (.object "java/lang/Object"))) (by decide) rfl rfl (g := (mkF m 8 #[.val (.ref a1)] [(.ref w), (.ref a1)])) rfl rfl (hb hby d6_8)
  have E3 := E1.wr W3
  have K3 := K1.wr W3 (Or.inl (List.mem_of_getElem? (i := 0) rfl))
  have N3 := Fr.snoc X3 N1 g0
  refine Go.on st3 ?_
  show Go p e below _ (T3.setTop (mkF m 11 #[.val (.ref a1)] []))
  exact Go.ret0 X3 hx hlk hret (hb hby d6_11) (Nat.le_refl _) (Nat.le_refl _) (show Q6 Z a1 h0 n0 _ T3.heap _ from by rw [e3]; exact ⟨rfl, N3, K3, E3⟩)
def Q9 (Z : State) (a1 : Addr) (n : Nat) (h0 : Heap) (n0 : Nat) (v : Option Value) (h : Heap) (L : List Loc) : Prop := ∃ i w : Addr, v = none ∧ Fr n0 L ∧ Keep h0 h [a1] ∧ Exa Z h a1 "com/example/olentangy/olentangy/engine/AttributeMap$Builder" ∧ Fld Z h a1 "com/example/olentangy/olentangy/engine/AttributeMap$Builder" "ids" "[Ljava/lang/String;" (.ref i) ∧ Fld Z h a1 "com/example/olentangy/olentangy/engine/AttributeMap$Builder" "values" "[Ljava/util/List;" (.ref w) ∧ Fld Z h a1 "com/example/olentangy/olentangy/engine/AttributeMap$Builder" "size" "I" (.int (0 : Int32)) ∧ RA Z h i "java/lang/String" n (fun _ => .null) ∧ RA Z h w "java/util/List" n (fun _ => .null) ∧ h0.size ≤ i ∧ i < w
theorem d9_0 : decode prog_39_method_1_code 0 = .ok (.aload_n 0, 1) := by decide +kernel
theorem d9_1 : decode prog_39_method_1_code 1 = .ok (.invokespecial 1, 3) := by decide +kernel
theorem d9_4 : decode prog_39_method_1_code 4 = .ok (.aload_n 0, 1) := by decide +kernel
theorem d9_5 : decode prog_39_method_1_code 5 = .ok (.iload_n 1, 1) := by decide +kernel
theorem d9_6 : decode prog_39_method_1_code 6 = .ok (.anewarray 7, 3) := by decide +kernel
theorem d9_9 : decode prog_39_method_1_code 9 = .ok (.putfield 9, 3) := by decide +kernel
theorem d9_12 : decode prog_39_method_1_code 12 = .ok (.aload_n 0, 1) := by decide +kernel
theorem d9_13 : decode prog_39_method_1_code 13 = .ok (.iload_n 1, 1) := by decide +kernel
theorem d9_14 : decode prog_39_method_1_code 14 = .ok (.anewarray 15, 3) := by decide +kernel
theorem d9_17 : decode prog_39_method_1_code 17 = .ok (.putfield 17, 3) := by decide +kernel
theorem d9_20 : decode prog_39_method_1_code 20 = .ok (.return_, 1) := by decide +kernel
theorem pn_9 : plainFor (⟨"com/example/olentangy/olentangy/engine/AttributeMap$Builder", "<init>", "(I)V"⟩ : MethodName) = true := by first | exact plainFor_of_name (by first | (simp [plainName, overriddenIn]; done) | decide +kernel) | decide +kernel
theorem ef_9 (m : MethodId) (x0 : Addr) (x1 : Int32) : entryFrame m #[(.ref x0), (.int x1)] 2 = mkF m 0 #[.val (.ref x0), .val (.int x1)] [] := by first | (simp [entryFrame, mkF, argsToLocals, Value.category]; done) | rfl
set_option maxRecDepth 65536 in
set_option maxHeartbeats 40000000 in
theorem rm9 (l : Launch) (Z : State) (a0 : Array Value) (hw : ∀ d ∈ tables_1, d.before a0 Z = true) (ws : List Jvm.Cond) (a1 : Addr) (p2 : Int32) (n : Nat) (u1 u2 : Value) (h0 : Heap) (n0 : Nat) (Z0 : n0 ≤ h0.size) (hcx : ¬ p2 < 0 ∧ p2.toNatClampNeg = n) (hcap : n ≤ 4) (E0 : Exa Z h0 a1 "com/example/olentangy/olentangy/engine/AttributeMap$Builder") (F_ids : Fld Z h0 a1 "com/example/olentangy/olentangy/engine/AttributeMap$Builder" "ids" "[Ljava/lang/String;" u1) (F_values : Fld Z h0 a1 "com/example/olentangy/olentangy/engine/AttributeMap$Builder" "values" "[Ljava/util/List;" u2) (F_size : Fld Z h0 a1 "com/example/olentangy/olentangy/engine/AttributeMap$Builder" "size" "I" (.int (0 : Int32))) (g0 : n0 ≤ a1) :
    MetFree l (⟨"com/example/olentangy/olentangy/engine/AttributeMap$Builder", "<init>", "(I)V"⟩ : MethodName) (head1 (Jvm.Cond.code (⟨"com/example/olentangy/olentangy/engine/AttributeMap$Builder", "<init>", "(I)V"⟩ : MethodName) prog_39_method_1_code 2 none :: ws) ({ frames := 1, cells := 2, slots := 8, locals := 12 } : Room)) (fun a U => a = #[(.ref a1), (.int p2)] ∧ Z.Warmed39 U.vm ∧ U.heap = h0) (fun _ _ _ _ _ => True) (fun _ U o U' => ∃ v L, o = .returned v ∧ Q9 Z a1 n h0 n0 v U'.heap L ∧ FrameEnd U o U' L ({ frames := 1, cells := 2, slots := 8, locals := 12 } : Room).cells ({ frames := 1, cells := 2, slots := 8, locals := 12 } : Room).slots) := by
  refine MetFree.of_bodySF pn_9 hisR ?_
  intro p e s m args below meth c s₁ Bd hml0 hP hK
  obtain ⟨rfl, hZ, hh⟩ := hP
  have hx := Bd.exec
  have hby := Bd.bytes
  have hlk := Bd.notSynchronized
  have hret := Bd.returns
  have hml : c.maxLocals = 2 := hml0
  have hown : s.vm.findClass "com/example/olentangy/olentangy/engine/AttributeMap$Builder" = some m.cls := findClass_of_methodNamed Bd.named
  have hnm := (name_of_methodNamed Bd.named Bd.method).1
  have X0 : Stand p l e ({ frames := 1, cells := 2, slots := 8, locals := 12 } : Room) s m #[(.ref a1), (.int p2)] below meth c s₁ [] 0 0 := Stand.of_body Bd
  have e0 : s₁.heap = h0 := by rw [← hh, Bd.state]; rfl
  have N0 := Fr.nil n0
  show Go p e below (Pst s (Q9 Z a1 n h0 n0) ({ frames := 1, cells := 2, slots := 8, locals := 12 } : Room).cells ({ frames := 1, cells := 2, slots := 8, locals := 12 } : Room).slots) (s₁.setTop (entryFrame m #[(.ref a1), (.int p2)] 2))
  refine Go.on (fun t k => castTop (ef_9 m a1 p2) k) ?_
  show Go p e below _ (s₁.setTop (mkF m 0 #[.val (.ref a1), .val (.int p2)] []))
  refine Go.on (fun t k => XS.aloadN X0.here hx rfl (hb hby d9_0) rfl rfl k) ?_
  show Go p e below _ (s₁.setTop (mkF m 1 #[.val (.ref a1), .val (.int p2)] [(.ref a1)]))
  obtain ⟨T1, X1, e1, st1⟩ := initO X0 hx hZ hown (hw _ (List.mem_of_getElem? (i := 56) rfl)) (hw _ (List.mem_of_getElem? (i := 20) rfl)) (hw _ (List.mem_of_getElem? (i := 21) rfl)) e0 (g := (mkF m 1 #[.val (.ref a1), .val (.int p2)] [(.ref a1)])) rfl (by rw [hml]; rfl) rfl (hb hby d9_1) (by decide) (W := 0) (by show 2 * 0 + _ ≤ _; exact Nat.le_of_eq rfl) (by decide)
  refine Go.on st1 ?_
  show Go p e below _ (T1.setTop (mkF m 4 #[.val (.ref a1), .val (.int p2)] []))
  refine Go.on (fun t k => XS.aloadN X1.here hx rfl (hb hby d9_4) rfl rfl k) ?_
  show Go p e below _ (T1.setTop (mkF m 5 #[.val (.ref a1), .val (.int p2)] [(.ref a1)]))
  refine Go.on (fun t k => XS.iloadN X1.here hx rfl (hb hby d9_5) rfl k) ?_
  show Go p e below _ (T1.setTop (mkF m 6 #[.val (.ref a1), .val (.int p2)] [(.int p2), (.ref a1)]))
  obtain ⟨T2, h2, cA2, X2, e2, E2, A2, O2, st2⟩ := newR X1 hx hZ hown (hw _ (List.mem_of_getElem? (i := 57) rfl)) (hw _ (List.mem_of_getElem? (i := 58) rfl)) e1 (g := (mkF m 6 #[.val (.ref a1), .val (.int p2)] [(.int p2), (.ref a1)])) rfl (hb hby d9_6) rfl hcx.1 (cap := 4) (by rw [hcx.2]; exact hcap) (by decide) (by decide) (by decide)
  obtain ⟨b2, g2⟩ : ∃ z, z = h0.size := ⟨_, rfl⟩
  rw [← g2] at A2 st2
  have RA2 : RA Z h2 b2 "java/lang/String" n (fun _ => .null) := RA.new A2 O2 hcx.2
  refine Go.on st2 ?_
  show Go p e below _ (T2.setTop (mkF m 9 #[.val (.ref a1), .val (.int p2)] [(.ref b2), (.ref a1)]))
  obtain ⟨T3, h3, X3, e3, W3, st3⟩ := putF X2 hx hZ hown (host := "") (Or.inl (hw _ (List.mem_of_getElem? (i := 59) rfl))) Via.refl e2 (F_ids.ext E2) (E0.ext E2) (Or.inr ⟨(hw _ (List.mem_of_getElem? (i := 60) rfl)), rfl, hnm⟩) (hw _ (List.mem_of_getElem? (i := 51) rfl)) (ty := (.array (.object "java/lang/String"))) (by decide) rfl rfl (g := (mkF m 9 #[.val (.ref a1), .val (.int p2)] [(.ref b2), (.ref a1)])) rfl rfl (hb hby d9_9)
  have N3 := Fr.snoc X3 N0 g0
  refine Go.on st3 ?_
  show Go p e below _ (T3.setTop (mkF m 12 #[.val (.ref a1), .val (.int p2)] []))
  refine Go.on (fun t k => XS.aloadN X3.here hx rfl (hb hby d9_12) rfl rfl k) ?_
  show Go p e below _ (T3.setTop (mkF m 13 #[.val (.ref a1), .val (.int p2)] [(.ref a1)]))
  refine Go.on (fun t k => XS.iloadN X3.here hx rfl (hb hby d9_13) rfl k) ?_
  show Go p e below _ (T3.setTop (mkF m 14 #[.val (.ref a1), .val (.int p2)] [(.int p2), (.ref a1)]))
  obtain ⟨T4, h4, cA4, X4, e4, E4, A4, O4, st4⟩ := newR X3 hx hZ hown (hw _ (List.mem_of_getElem? (i := 61) rfl)) (hw _ (List.mem_of_getElem? (i := 62) rfl)) e3 (g := (mkF m 14 #[.val (.ref a1), .val (.int p2)] [(.int p2), (.ref a1)])) rfl (hb hby d9_14) rfl hcx.1 (cap := 4) (by rw [hcx.2]; exact hcap) (by decide) (by decide) (by decide)
  obtain ⟨b4, g4⟩ : ∃ z, z = h3.size := ⟨_, rfl⟩
  rw [← g4] at A4 st4
  have RA4 : RA Z h4 b4 "java/util/List" n (fun _ => .null) := RA.new A4 O4 hcx.2
  refine Go.on st4 ?_
  show Go p e below _ (T4.setTop (mkF m 17 #[.val (.ref a1), .val (.int p2)] [(.ref b4), (.ref a1)]))
  obtain ⟨T5, h5, X5, e5, W5, st5⟩ := putF X4 hx hZ hown (host := "") (Or.inl (hw _ (List.mem_of_getElem? (i := 63) rfl))) Via.refl e4 (((F_values.ext E2).other W3 (Or.inr (slot_ne (Or.inr (hw _ (List.mem_of_getElem? (i := 64) rfl))) (Or.inr (hw _ (List.mem_of_getElem? (i := 60) rfl))) (by decide) (t := (.array (.object "java/util/List"))) (t' := (.array (.object "java/lang/String"))) (by decide) (by decide)))).ext E4) (((E0.ext E2).wr W3).ext E4) (Or.inr ⟨(hw _ (List.mem_of_getElem? (i := 64) rfl)), rfl, hnm⟩) (hw _ (List.mem_of_getElem? (i := 51) rfl)) (ty := (.array (.object "java/util/List"))) (by decide) rfl rfl (g := (mkF m 17 #[.val (.ref a1), .val (.int p2)] [(.ref b4), (.ref a1)])) rfl rfl (hb hby d9_17)
  have N5 := Fr.snoc X5 N3 g0
  refine Go.on st5 ?_
  show Go p e below _ (T5.setTop (mkF m 20 #[.val (.ref a1), .val (.int p2)] []))
  have hai : a1 < b2 := (Nat.lt_of_lt_of_eq E0.lt g2.symm)
  have hiv : b2 < b4 := Nat.lt_of_lt_of_eq (Nat.lt_of_lt_of_eq RA2.lt W3.size.symm) g4.symm
  have hav : a1 < b4 := Nat.lt_trans hai hiv
  have fI : Fld Z h5 a1 "com/example/olentangy/olentangy/engine/AttributeMap$Builder" "ids" "[Ljava/lang/String;" (.ref b2) := (((F_ids.ext E2).same W3).ext E4).other W5 (Or.inr (slot_ne (Or.inr (hw _ (List.mem_of_getElem? (i := 60) rfl))) (Or.inr (hw _ (List.mem_of_getElem? (i := 64) rfl))) (by decide) (t := (.array (.object "java/lang/String"))) (t' := (.array (.object "java/util/List"))) (by decide) (by decide)))
  have fV : Fld Z h5 a1 "com/example/olentangy/olentangy/engine/AttributeMap$Builder" "values" "[Ljava/util/List;" (.ref b4) := (((F_values.ext E2).other W3 (Or.inr (slot_ne (Or.inr (hw _ (List.mem_of_getElem? (i := 64) rfl))) (Or.inr (hw _ (List.mem_of_getElem? (i := 60) rfl))) (by decide) (t := (.array (.object "java/util/List"))) (t' := (.array (.object "java/lang/String"))) (by decide) (by decide)))).ext E4).same W5
  have fS : Fld Z h5 a1 "com/example/olentangy/olentangy/engine/AttributeMap$Builder" "size" "I" (.int (0 : Int32)) := ((((F_size.ext E2).other W3 (Or.inr (slot_ne (Or.inl (hw _ (List.mem_of_getElem? (i := 74) rfl))) (Or.inr (hw _ (List.mem_of_getElem? (i := 60) rfl))) (by decide) (t := .int) (t' := (.array (.object "java/lang/String"))) (by decide) (by decide)))).ext E4).other W5 (Or.inr (slot_ne (Or.inl (hw _ (List.mem_of_getElem? (i := 74) rfl))) (Or.inr (hw _ (List.mem_of_getElem? (i := 64) rfl))) (by decide) (t := .int) (t' := (.array (.object "java/util/List"))) (by decide) (by decide))))
  have rI := ((RA2.other W3 (Nat.ne_of_gt hai)).ext E4).other W5 (Nat.ne_of_gt hai)
  have rV := RA4.other W5 (Nat.ne_of_gt hav)
  exact Go.ret0 X5 hx hlk hret (hb hby d9_20) (by decide) (by decide) (show Q9 Z a1 n h0 n0 _ T5.heap _ from by rw [e5]; exact ⟨b2, b4, rfl, N5, (((((Keep.refl h0 [a1]).ext E2).wr W3 (Or.inl (List.mem_of_getElem? (i := 0) rfl))).ext E4).wr W5 (Or.inl (List.mem_of_getElem? (i := 0) rfl))), ((((E0.ext E2).wr W3).ext E4).wr W5), fI, fV, fS, rI, rV, Nat.le_of_eq g2.symm, hiv⟩)
def Q16 (Z : State) (a1 i w a2 a3 : Addr) (k : Int32) (K n : Nat) (f g : Nat → Value) (h0 : Heap) (n0 : Nat) (v : Option Value) (h : Heap) (L : List Loc) : Prop := v = none ∧ Fr n0 L ∧ Keep h0 h [i, w, a1] ∧ Exa Z h a1 "com/example/olentangy/olentangy/engine/AttributeMap$Builder" ∧ Fld Z h a1 "com/example/olentangy/olentangy/engine/AttributeMap$Builder" "ids" "[Ljava/lang/String;" (.ref i) ∧ Fld Z h a1 "com/example/olentangy/olentangy/engine/AttributeMap$Builder" "values" "[Ljava/util/List;" (.ref w) ∧ Fld Z h a1 "com/example/olentangy/olentangy/engine/AttributeMap$Builder" "size" "I" (.int (k + (1 : Int32))) ∧ RA Z h i "java/lang/String" n (upd f K (.ref a2)) ∧ RA Z h w "java/util/List" n (upd g K (.ref a3))
theorem d16_0 : decode prog_39_method_2_code 0 = .ok (.aload_n 0, 1) := by decide +kernel
theorem d16_1 : decode prog_39_method_2_code 1 = .ok (.getfield 9, 3) := by decide +kernel
theorem d16_4 : decode prog_39_method_2_code 4 = .ok (.aload_n 0, 1) := by decide +kernel
theorem d16_5 : decode prog_39_method_2_code 5 = .ok (.getfield 21, 3) := by decide +kernel
theorem d16_8 : decode prog_39_method_2_code 8 = .ok (.aload_n 1, 1) := by decide +kernel
theorem d16_9 : decode prog_39_method_2_code 9 = .ok (.aastore, 1) := by decide +kernel
theorem d16_10 : decode prog_39_method_2_code 10 = .ok (.aload_n 0, 1) := by decide +kernel
theorem d16_11 : decode prog_39_method_2_code 11 = .ok (.getfield 17, 3) := by decide +kernel
theorem d16_14 : decode prog_39_method_2_code 14 = .ok (.aload_n 0, 1) := by decide +kernel
theorem d16_15 : decode prog_39_method_2_code 15 = .ok (.getfield 21, 3) := by decide +kernel
theorem d16_18 : decode prog_39_method_2_code 18 = .ok (.aload_n 2, 1) := by decide +kernel
theorem d16_19 : decode prog_39_method_2_code 19 = .ok (.aastore, 1) := by decide +kernel
theorem d16_20 : decode prog_39_method_2_code 20 = .ok (.aload_n 0, 1) := by decide +kernel
theorem d16_21 : decode prog_39_method_2_code 21 = .ok (.dup, 1) := by decide +kernel
theorem d16_22 : decode prog_39_method_2_code 22 = .ok (.getfield 21, 3) := by decide +kernel
theorem d16_25 : decode prog_39_method_2_code 25 = .ok (.iconst 1, 1) := by decide +kernel
theorem d16_26 : decode prog_39_method_2_code 26 = .ok (.iadd, 1) := by decide +kernel
theorem d16_27 : decode prog_39_method_2_code 27 = .ok (.putfield 21, 3) := by decide +kernel
theorem d16_30 : decode prog_39_method_2_code 30 = .ok (.return_, 1) := by decide +kernel
theorem pn_16 : plainFor (⟨"com/example/olentangy/olentangy/engine/AttributeMap$Builder", "add", "(Ljava/lang/String;Ljava/util/List;)V"⟩ : MethodName) = true := by first | exact plainFor_of_name (by first | (simp [plainName, overriddenIn]; done) | decide +kernel) | decide +kernel
theorem ef_16 (m : MethodId) (x0 : Addr) (x1 : Addr) (x2 : Addr) : entryFrame m #[(.ref x0), (.ref x1), (.ref x2)] 3 = mkF m 0 #[.val (.ref x0), .val (.ref x1), .val (.ref x2)] [] := by first | (simp [entryFrame, mkF, argsToLocals, Value.category]; done) | rfl
set_option maxRecDepth 65536 in
set_option maxHeartbeats 40000000 in
theorem rm16 (l : Launch) (Z : State) (a0 : Array Value) (hw : ∀ d ∈ tables_1, d.before a0 Z = true) (ws : List Jvm.Cond) (a1 a2 a3 i w : Addr) (k : Int32) (K n : Nat) (f g : Nat → Value) (h0 : Heap) (n0 : Nat) (Z0 : n0 ≤ h0.size) (hkx : ¬ k < 0 ∧ k.toNatClampNeg = K) (hkn : K < n) (E0 : Exa Z h0 a1 "com/example/olentangy/olentangy/engine/AttributeMap$Builder") (F_ids : Fld Z h0 a1 "com/example/olentangy/olentangy/engine/AttributeMap$Builder" "ids" "[Ljava/lang/String;" (.ref i)) (F_values : Fld Z h0 a1 "com/example/olentangy/olentangy/engine/AttributeMap$Builder" "values" "[Ljava/util/List;" (.ref w)) (F_size : Fld Z h0 a1 "com/example/olentangy/olentangy/engine/AttributeMap$Builder" "size" "I" (.int k)) (R_i : RA Z h0 i "java/lang/String" n f) (R_w : RA Z h0 w "java/util/List" n g) (I2 : Ins Z h0 a2 "java/lang/String" true) (I3 : Ins Z h0 a3 "java/util/List" true) (h1i : a1 ≠ i) (h1w : a1 ≠ w) (hiw : i ≠ w) (g1 : n0 ≤ a1) (gi : n0 ≤ i) (gw : n0 ≤ w) :
    MetFree l (⟨"com/example/olentangy/olentangy/engine/AttributeMap$Builder", "add", "(Ljava/lang/String;Ljava/util/List;)V"⟩ : MethodName) (head1 (Jvm.Cond.code (⟨"com/example/olentangy/olentangy/engine/AttributeMap$Builder", "add", "(Ljava/lang/String;Ljava/util/List;)V"⟩ : MethodName) prog_39_method_2_code 3 none :: ws) ({ frames := 0, cells := 0, slots := 0, locals := 0 } : Room)) (fun a U => a = #[(.ref a1), (.ref a2), (.ref a3)] ∧ Z.Warmed39 U.vm ∧ U.heap = h0) (fun _ _ _ _ _ => True) (fun _ U o U' => ∃ v L, o = .returned v ∧ Q16 Z a1 i w a2 a3 k K n f g h0 n0 v U'.heap L ∧ FrameEnd U o U' L ({ frames := 0, cells := 0, slots := 0, locals := 0 } : Room).cells ({ frames := 0, cells := 0, slots := 0, locals := 0 } : Room).slots) := by
  refine MetFree.of_bodySF pn_16 hisR ?_
  intro p e s m args below meth c s₁ Bd hml0 hP hK
  obtain ⟨rfl, hZ, hh⟩ := hP
  have hx := Bd.exec
  have hby := Bd.bytes
  have hlk := Bd.notSynchronized
  have hret := Bd.returns
  have hml : c.maxLocals = 3 := hml0
  have hown : s.vm.findClass "com/example/olentangy/olentangy/engine/AttributeMap$Builder" = some m.cls := findClass_of_methodNamed Bd.named
  have hnm := (name_of_methodNamed Bd.named Bd.method).1
  have X0 : Stand p l e ({ frames := 0, cells := 0, slots := 0, locals := 0 } : Room) s m #[(.ref a1), (.ref a2), (.ref a3)] below meth c s₁ [] 0 0 := Stand.of_body Bd
  have e0 : s₁.heap = h0 := by rw [← hh, Bd.state]; rfl
  have N0 := Fr.nil n0
  show Go p e below (Pst s (Q16 Z a1 i w a2 a3 k K n f g h0 n0) ({ frames := 0, cells := 0, slots := 0, locals := 0 } : Room).cells ({ frames := 0, cells := 0, slots := 0, locals := 0 } : Room).slots) (s₁.setTop (entryFrame m #[(.ref a1), (.ref a2), (.ref a3)] 3))
  refine Go.on (fun t k => castTop (ef_16 m a1 a2 a3) k) ?_
  show Go p e below _ (s₁.setTop (mkF m 0 #[.val (.ref a1), .val (.ref a2), .val (.ref a3)] []))
  refine Go.on (fun t k => XS.aloadN X0.here hx rfl (hb hby d16_0) rfl rfl k) ?_
  show Go p e below _ (s₁.setTop (mkF m 1 #[.val (.ref a1), .val (.ref a2), .val (.ref a3)] [(.ref a1)]))
  obtain ⟨T1, X1, e1, st1⟩ := getF X0 hx hZ hown (host := "") (Or.inl (hw _ (List.mem_of_getElem? (i := 59) rfl))) Via.refl e0 F_ids (g := (mkF m 1 #[.val (.ref a1), .val (.ref a2), .val (.ref a3)] [(.ref a1)])) rfl rfl (hb hby d16_1)
  refine Go.on st1 ?_
  show Go p e below _ (T1.setTop (mkF m 4 #[.val (.ref a1), .val (.ref a2), .val (.ref a3)] [(.ref i)]))
  refine Go.on (fun t k => XS.aloadN X1.here hx rfl (hb hby d16_4) rfl rfl k) ?_
  show Go p e below _ (T1.setTop (mkF m 5 #[.val (.ref a1), .val (.ref a2), .val (.ref a3)] [(.ref a1), (.ref i)]))
  obtain ⟨T2, X2, e2, st2⟩ := getF X1 hx hZ hown (host := "") (Or.inl (hw _ (List.mem_of_getElem? (i := 73) rfl))) Via.refl e1 F_size (g := (mkF m 5 #[.val (.ref a1), .val (.ref a2), .val (.ref a3)] [(.ref a1), (.ref i)])) rfl rfl (hb hby d16_5)
  refine Go.on st2 ?_
  show Go p e below _ (T2.setTop (mkF m 8 #[.val (.ref a1), .val (.ref a2), .val (.ref a3)] [(.int k), (.ref i)]))
  refine Go.on (fun t k => XS.aloadN X2.here hx rfl (hb hby d16_8) rfl rfl k) ?_
  show Go p e below _ (T2.setTop (mkF m 9 #[.val (.ref a1), .val (.ref a2), .val (.ref a3)] [(.ref a2), (.int k), (.ref i)]))
  refine Go.stR X2 hx hZ e2 R_i I2 (i := K) hkx.1 hkx.2 hkn (hb hby d16_9) ?_
  intro T3 h3 X3 e3 W3 R3
  have N3 := Fr.snoc X3 N0 gi
  have F3_ids := F_ids.other W3 (Or.inl h1i)
  have F3_values := F_values.other W3 (Or.inl h1i)
  have F3_size := F_size.other W3 (Or.inl h1i)
  have E3 := E0.wr W3
  have K3 := (Keep.refl h0 [i, w, a1]).wr W3 (Or.inl (List.mem_of_getElem? (i := 0) rfl))
  have Rw3 := R_w.other W3 (Ne.symm hiw)
  have I3_3 := I3.wr W3
  show Go p e below _ (T3.setTop (mkF m 10 #[.val (.ref a1), .val (.ref a2), .val (.ref a3)] []))
  refine Go.on (fun t k => XS.aloadN X3.here hx rfl (hb hby d16_10) rfl rfl k) ?_
  show Go p e below _ (T3.setTop (mkF m 11 #[.val (.ref a1), .val (.ref a2), .val (.ref a3)] [(.ref a1)]))
  obtain ⟨T4, X4, e4, st4⟩ := getF X3 hx hZ hown (host := "") (Or.inl (hw _ (List.mem_of_getElem? (i := 63) rfl))) Via.refl e3 F3_values (g := (mkF m 11 #[.val (.ref a1), .val (.ref a2), .val (.ref a3)] [(.ref a1)])) rfl rfl (hb hby d16_11)
  refine Go.on st4 ?_
  show Go p e below _ (T4.setTop (mkF m 14 #[.val (.ref a1), .val (.ref a2), .val (.ref a3)] [(.ref w)]))
  refine Go.on (fun t k => XS.aloadN X4.here hx rfl (hb hby d16_14) rfl rfl k) ?_
  show Go p e below _ (T4.setTop (mkF m 15 #[.val (.ref a1), .val (.ref a2), .val (.ref a3)] [(.ref a1), (.ref w)]))
  obtain ⟨T5, X5, e5, st5⟩ := getF X4 hx hZ hown (host := "") (Or.inl (hw _ (List.mem_of_getElem? (i := 73) rfl))) Via.refl e4 F3_size (g := (mkF m 15 #[.val (.ref a1), .val (.ref a2), .val (.ref a3)] [(.ref a1), (.ref w)])) rfl rfl (hb hby d16_15)
  refine Go.on st5 ?_
  show Go p e below _ (T5.setTop (mkF m 18 #[.val (.ref a1), .val (.ref a2), .val (.ref a3)] [(.int k), (.ref w)]))
  refine Go.on (fun t k => XS.aloadN X5.here hx rfl (hb hby d16_18) rfl rfl k) ?_
  show Go p e below _ (T5.setTop (mkF m 19 #[.val (.ref a1), .val (.ref a2), .val (.ref a3)] [(.ref a3), (.int k), (.ref w)]))
  refine Go.stR X5 hx hZ e5 Rw3 I3_3 (i := K) hkx.1 hkx.2 hkn (hb hby d16_19) ?_
  intro T6 h6 X6 e6 W6 R6
  have N6 := Fr.snoc X6 N3 gw
  have F6_ids := F3_ids.other W6 (Or.inl h1w)
  have F6_values := F3_values.other W6 (Or.inl h1w)
  have F6_size := F3_size.other W6 (Or.inl h1w)
  have E6 := E3.wr W6
  have K6 := K3.wr W6 (Or.inl (List.mem_of_getElem? (i := 1) rfl))
  have Ri6 := R3.other W6 hiw
  show Go p e below _ (T6.setTop (mkF m 20 #[.val (.ref a1), .val (.ref a2), .val (.ref a3)] []))
  refine Go.on (fun t k => XS.aloadN X6.here hx rfl (hb hby d16_20) rfl rfl k) ?_
  show Go p e below _ (T6.setTop (mkF m 21 #[.val (.ref a1), .val (.ref a2), .val (.ref a3)] [(.ref a1)]))
  refine Go.on (fun t k => XS.dup X6.here hx rfl (hb hby d16_21) rfl rfl k) ?_
  show Go p e below _ (T6.setTop (mkF m 22 #[.val (.ref a1), .val (.ref a2), .val (.ref a3)] [(.ref a1), (.ref a1)]))
  obtain ⟨T7, X7, e7, st7⟩ := getF X6 hx hZ hown (host := "") (Or.inl (hw _ (List.mem_of_getElem? (i := 73) rfl))) Via.refl e6 F6_size (g := (mkF m 22 #[.val (.ref a1), .val (.ref a2), .val (.ref a3)] [(.ref a1), (.ref a1)])) rfl rfl (hb hby d16_22)
  refine Go.on st7 ?_
  show Go p e below _ (T7.setTop (mkF m 25 #[.val (.ref a1), .val (.ref a2), .val (.ref a3)] [(.int k), (.ref a1)]))
  refine Go.on (fun t k => XS.iconst X7.here hx rfl (hb hby d16_25) k) ?_
  show Go p e below _ (T7.setTop (mkF m 26 #[.val (.ref a1), .val (.ref a2), .val (.ref a3)] [(.int (1 : Int32)), (.int k), (.ref a1)]))
  refine Go.on (fun t k => XS.iadd X7.here hx rfl (hb hby d16_26) rfl k) ?_
  show Go p e below _ (T7.setTop (mkF m 27 #[.val (.ref a1), .val (.ref a2), .val (.ref a3)] [(.int (k + (1 : Int32))), (.ref a1)]))
  obtain ⟨T8, h8, X8, e8, W8, st8⟩ := putF X7 hx hZ hown (host := "") (Or.inl (hw _ (List.mem_of_getElem? (i := 73) rfl))) Via.refl e7 F6_size E6 (Or.inl (hw _ (List.mem_of_getElem? (i := 74) rfl))) (hw _ (List.mem_of_getElem? (i := 51) rfl)) (ty := .int) (by decide) rfl rfl (g := (mkF m 27 #[.val (.ref a1), .val (.ref a2), .val (.ref a3)] [(.int (k + (1 : Int32))), (.ref a1)])) rfl rfl (hb hby d16_27)
  have N8 := Fr.snoc X8 N6 g1
  have fI := F6_ids.other W8 (Or.inr (slot_ne (Or.inr (hw _ (List.mem_of_getElem? (i := 60) rfl))) (Or.inl (hw _ (List.mem_of_getElem? (i := 74) rfl))) (by decide) (t := (.array (.object "java/lang/String"))) (t' := .int) (by decide) (by decide)))
  have fV := F6_values.other W8 (Or.inr (slot_ne (Or.inr (hw _ (List.mem_of_getElem? (i := 64) rfl))) (Or.inl (hw _ (List.mem_of_getElem? (i := 74) rfl))) (by decide) (t := (.array (.object "java/util/List"))) (t' := .int) (by decide) (by decide)))
  have fS := F6_size.same W8
  have Ef := E6.wr W8
  have Kf := K6.wr W8 (Or.inl (List.mem_of_getElem? (i := 2) rfl))
  have rI := Ri6.other W8 (Ne.symm h1i)
  have rW := R6.other W8 (Ne.symm h1w)
  refine Go.on st8 ?_
  show Go p e below _ (T8.setTop (mkF m 30 #[.val (.ref a1), .val (.ref a2), .val (.ref a3)] []))
  exact Go.ret0 X8 hx hlk hret (hb hby d16_30) (Nat.le_refl _) (Nat.le_refl _) (show Q16 Z a1 i w a2 a3 k K n f g h0 n0 _ T8.heap _ from by rw [e8]; exact ⟨rfl, N8, Kf, Ef, fI, fV, fS, rI, rW⟩)
def Q12 (h0 : Heap) (n0 : Nat) (v : Option Value) (h : Heap) (L : List Loc) : Prop := v = none ∧ Fr n0 L ∧ h = h0
theorem d12_0 : decode jdk_71_method_1_code 0 = .ok (.aload_n 0, 1) := by decide +kernel
theorem d12_1 : decode jdk_71_method_1_code 1 = .ok (.invokespecial 1, 3) := by decide +kernel
theorem d12_4 : decode jdk_71_method_1_code 4 = .ok (.return_, 1) := by decide +kernel
theorem pn_12 : plainFor (⟨"java/util/AbstractMap", "<init>", "()V"⟩ : MethodName) = true := by first | exact plainFor_of_name (by first | (simp [plainName, overriddenIn]; done) | decide +kernel) | decide +kernel
theorem ef_12 (m : MethodId) (x0 : Addr) : entryFrame m #[(.ref x0)] 1 = mkF m 0 #[.val (.ref x0)] [] := by first | (simp [entryFrame, mkF, argsToLocals, Value.category]; done) | rfl
set_option maxRecDepth 65536 in
set_option maxHeartbeats 40000000 in
theorem rm12 (l : Launch) (Z : State) (a0 : Array Value) (hw : ∀ d ∈ tables_1, d.before a0 Z = true) (ws : List Jvm.Cond) (a1 : Addr) (h0 : Heap) (n0 : Nat) (Z0 : n0 ≤ h0.size)  :
    MetFree l (⟨"java/util/AbstractMap", "<init>", "()V"⟩ : MethodName) (head1 (Jvm.Cond.code (⟨"java/util/AbstractMap", "<init>", "()V"⟩ : MethodName) jdk_71_method_1_code 1 none :: ws) ({ frames := 1, cells := 0, slots := 0, locals := 12 } : Room)) (fun a U => a = #[(.ref a1)] ∧ Z.Warmed39 U.vm ∧ U.heap = h0) (fun _ _ _ _ _ => True) (fun _ U o U' => ∃ v L, o = .returned v ∧ Q12 h0 n0 v U'.heap L ∧ FrameEnd U o U' L ({ frames := 1, cells := 0, slots := 0, locals := 12 } : Room).cells ({ frames := 1, cells := 0, slots := 0, locals := 12 } : Room).slots) := by
  refine MetFree.of_bodySF pn_12 hisR ?_
  intro p e s m args below meth c s₁ Bd hml0 hP hK
  obtain ⟨rfl, hZ, hh⟩ := hP
  have hx := Bd.exec
  have hby := Bd.bytes
  have hlk := Bd.notSynchronized
  have hret := Bd.returns
  have hml : c.maxLocals = 1 := hml0
  have hown : s.vm.findClass "java/util/AbstractMap" = some m.cls := findClass_of_methodNamed Bd.named
  have hnm := (name_of_methodNamed Bd.named Bd.method).1
  have X0 : Stand p l e ({ frames := 1, cells := 0, slots := 0, locals := 12 } : Room) s m #[(.ref a1)] below meth c s₁ [] 0 0 := Stand.of_body Bd
  have e0 : s₁.heap = h0 := by rw [← hh, Bd.state]; rfl
  have N0 := Fr.nil n0
  show Go p e below (Pst s (Q12 h0 n0) ({ frames := 1, cells := 0, slots := 0, locals := 12 } : Room).cells ({ frames := 1, cells := 0, slots := 0, locals := 12 } : Room).slots) (s₁.setTop (entryFrame m #[(.ref a1)] 1))
  refine Go.on (fun t k => castTop (ef_12 m a1) k) ?_
  show Go p e below _ (s₁.setTop (mkF m 0 #[.val (.ref a1)] []))
  refine Go.on (fun t k => XS.aloadN X0.here hx rfl (hb hby d12_0) rfl rfl k) ?_
  show Go p e below _ (s₁.setTop (mkF m 1 #[.val (.ref a1)] [(.ref a1)]))
  obtain ⟨T1, X1, e1, st1⟩ := initO X0 hx hZ hown (hw _ (List.mem_of_getElem? (i := 83) rfl)) (hw _ (List.mem_of_getElem? (i := 20) rfl)) (hw _ (List.mem_of_getElem? (i := 21) rfl)) e0 (g := (mkF m 1 #[.val (.ref a1)] [(.ref a1)])) rfl (by rw [hml]; rfl) rfl (hb hby d12_1) (by decide) (W := 0) (by show 2 * 0 + _ ≤ _; exact Nat.le_of_eq rfl) (by decide)
  refine Go.on st1 ?_
  show Go p e below _ (T1.setTop (mkF m 4 #[.val (.ref a1)] []))
  exact Go.ret0 X1 hx hlk hret (hb hby d12_4) (Nat.le_refl _) (Nat.le_refl _) (show Q12 h0 n0 _ _ _ from ⟨rfl, N0, e1⟩)
def Q14 (h0 : Heap) (n0 : Nat) (v : Option Value) (h : Heap) (L : List Loc) : Prop := v = none ∧ Fr n0 L ∧ h = h0
theorem d14_0 : decode jdk_91_method_1_code 0 = .ok (.aload_n 0, 1) := by decide +kernel
theorem d14_1 : decode jdk_91_method_1_code 1 = .ok (.invokespecial 1, 3) := by decide +kernel
theorem d14_4 : decode jdk_91_method_1_code 4 = .ok (.return_, 1) := by decide +kernel
theorem pn_14 : plainFor (⟨"java/util/AbstractSet", "<init>", "()V"⟩ : MethodName) = true := by first | exact plainFor_of_name (by first | (simp [plainName, overriddenIn]; done) | decide +kernel) | decide +kernel
theorem ef_14 (m : MethodId) (x0 : Addr) : entryFrame m #[(.ref x0)] 1 = mkF m 0 #[.val (.ref x0)] [] := by first | (simp [entryFrame, mkF, argsToLocals, Value.category]; done) | rfl
set_option maxRecDepth 65536 in
set_option maxHeartbeats 40000000 in
theorem rm14 (l : Launch) (Z : State) (a0 : Array Value) (hw : ∀ d ∈ tables_1, d.before a0 Z = true) (ws : List Jvm.Cond) (a1 : Addr) (h0 : Heap) (n0 : Nat) (Z0 : n0 ≤ h0.size)  :
    MetFree l (⟨"java/util/AbstractSet", "<init>", "()V"⟩ : MethodName) (head1 (Jvm.Cond.code (⟨"java/util/AbstractSet", "<init>", "()V"⟩ : MethodName) jdk_91_method_1_code 1 none :: ws) ({ frames := 2, cells := 0, slots := 0, locals := 24 } : Room)) (fun a U => a = #[(.ref a1)] ∧ Z.Warmed39 U.vm ∧ U.heap = h0) (fun _ _ _ _ _ => True) (fun _ U o U' => ∃ v L, o = .returned v ∧ Q14 h0 n0 v U'.heap L ∧ FrameEnd U o U' L ({ frames := 2, cells := 0, slots := 0, locals := 24 } : Room).cells ({ frames := 2, cells := 0, slots := 0, locals := 24 } : Room).slots) := by
  refine MetFree.of_bodySF pn_14 hisR ?_
  intro p e s m args below meth c s₁ Bd hml0 hP hK
  obtain ⟨rfl, hZ, hh⟩ := hP
  have hx := Bd.exec
  have hby := Bd.bytes
  have hlk := Bd.notSynchronized
  have hret := Bd.returns
  have hml : c.maxLocals = 1 := hml0
  have hown : s.vm.findClass "java/util/AbstractSet" = some m.cls := findClass_of_methodNamed Bd.named
  have hnm := (name_of_methodNamed Bd.named Bd.method).1
  have X0 : Stand p l e ({ frames := 2, cells := 0, slots := 0, locals := 24 } : Room) s m #[(.ref a1)] below meth c s₁ [] 0 0 := Stand.of_body Bd
  have e0 : s₁.heap = h0 := by rw [← hh, Bd.state]; rfl
  have N0 := Fr.nil n0
  show Go p e below (Pst s (Q14 h0 n0) ({ frames := 2, cells := 0, slots := 0, locals := 24 } : Room).cells ({ frames := 2, cells := 0, slots := 0, locals := 24 } : Room).slots) (s₁.setTop (entryFrame m #[(.ref a1)] 1))
  refine Go.on (fun t k => castTop (ef_14 m a1) k) ?_
  show Go p e below _ (s₁.setTop (mkF m 0 #[.val (.ref a1)] []))
  refine Go.on (fun t k => XS.aloadN X0.here hx rfl (hb hby d14_0) rfl rfl k) ?_
  show Go p e below _ (s₁.setTop (mkF m 1 #[.val (.ref a1)] [(.ref a1)]))
  obtain ⟨_, _, ⟨T1, L1, k1, n1⟩, -, X1, ⟨Lc1, hQ1, l1, y1, z1⟩, st1⟩ := X0.specialBack hx (y := (⟨"java/util/AbstractCollection", "<init>", "()V"⟩ : MethodName)) rfl hown (mvT hZ (hw _ (List.mem_of_getElem? (i := 97) rfl))) (mvT hZ (hw _ (List.mem_of_getElem? (i := 39) rfl))) (mvT hZ (hw _ (List.mem_of_getElem? (i := 43) rfl))) (by decide) (backOf (W := 0) (rm8 l Z a0 hw [] a1 h0 n0 Z0) hZ (hw _ (List.mem_of_getElem? (i := 43) rfl)) (hw _ (List.mem_of_getElem? (i := 42) rfl)) (by decide) (by decide)) (g := (mkF m 1 #[.val (.ref a1)] [(.ref a1)])) rfl (by rw [hml]; rfl) (Steps.refl _) (a := a1) (argsL := []) (rest := []) (lenOf pd_4 rfl) rfl (by show 2 * 0 + _ ≤ _; exact Nat.le_of_eq rfl) (hb hby d14_1) (fun _ _ => ⟨rfl, e0, (by decide : 0 + 0 ≤ _), (by decide : 0 + 0 ≤ _)⟩)
  dsimp only [Pt.U, Pt.locs, Pt.cells, Pt.slots] at X1 l1 y1 z1 st1 hQ1
  subst l1 y1 z1
  obtain ⟨rfl, N1q, e1⟩ := hQ1
  have N1 := Fr.app N0 N1q
  refine Go.st st1 ?_
  show Go p e below _ (T1.setTop (mkF m 4 #[.val (.ref a1)] []))
  exact Go.ret0 X1 hx hlk hret (hb hby d14_4) (Nat.le_refl _) (Nat.le_refl _) (show Q14 h0 n0 _ _ _ from ⟨rfl, N1, e1⟩)
def Q13 (Z : State) (a1 : Addr) (h0 : Heap) (n0 : Nat) (v : Option Value) (h : Heap) (L : List Loc) : Prop := v = none ∧ Fr n0 L ∧ Keep h0 h [a1] ∧ Exa Z h a1 "com/example/olentangy/olentangy/engine/AttributeMap$Entries"
theorem d13_0 : decode prog_40_method_1_code 0 = .ok (.aload_n 0, 1) := by decide +kernel
theorem d13_1 : decode prog_40_method_1_code 1 = .ok (.aload_n 1, 1) := by decide +kernel
theorem d13_2 : decode prog_40_method_1_code 2 = .ok (.putfield 1, 3) := by decide +kernel
theorem d13_5 : decode prog_40_method_1_code 5 = .ok (.aload_n 0, 1) := by decide +kernel
theorem d13_6 : decode prog_40_method_1_code 6 = .ok (.invokespecial 7, 3) := by decide +kernel
theorem d13_9 : decode prog_40_method_1_code 9 = .ok (.return_, 1) := by decide +kernel
theorem pn_13 : plainFor (⟨"com/example/olentangy/olentangy/engine/AttributeMap$Entries", "<init>", "(Lcom/example/olentangy/olentangy/engine/AttributeMap;)V"⟩ : MethodName) = true := by first | exact plainFor_of_name (by first | (simp [plainName, overriddenIn]; done) | decide +kernel) | decide +kernel
theorem ef_13 (m : MethodId) (x0 : Addr) (x1 : Addr) : entryFrame m #[(.ref x0), (.ref x1)] 2 = mkF m 0 #[.val (.ref x0), .val (.ref x1)] [] := by first | (simp [entryFrame, mkF, argsToLocals, Value.category]; done) | rfl
set_option maxRecDepth 65536 in
set_option maxHeartbeats 40000000 in
theorem rm13 (l : Launch) (Z : State) (a0 : Array Value) (hw : ∀ d ∈ tables_1, d.before a0 Z = true) (ws : List Jvm.Cond) (a1 a2 : Addr) (u : Value) (h0 : Heap) (n0 : Nat) (Z0 : n0 ≤ h0.size) (E0 : Exa Z h0 a1 "com/example/olentangy/olentangy/engine/AttributeMap$Entries") (F_this : Fld Z h0 a1 "com/example/olentangy/olentangy/engine/AttributeMap$Entries" "this$0" "Lcom/example/olentangy/olentangy/engine/AttributeMap;" u) (g0 : n0 ≤ a1) :
    MetFree l (⟨"com/example/olentangy/olentangy/engine/AttributeMap$Entries", "<init>", "(Lcom/example/olentangy/olentangy/engine/AttributeMap;)V"⟩ : MethodName) (head1 (Jvm.Cond.code (⟨"com/example/olentangy/olentangy/engine/AttributeMap$Entries", "<init>", "(Lcom/example/olentangy/olentangy/engine/AttributeMap;)V"⟩ : MethodName) prog_40_method_1_code 2 none :: ws) ({ frames := 3, cells := 0, slots := 0, locals := 36 } : Room)) (fun a U => a = #[(.ref a1), (.ref a2)] ∧ Z.Warmed39 U.vm ∧ U.heap = h0) (fun _ _ _ _ _ => True) (fun _ U o U' => ∃ v L, o = .returned v ∧ Q13 Z a1 h0 n0 v U'.heap L ∧ FrameEnd U o U' L ({ frames := 3, cells := 0, slots := 0, locals := 36 } : Room).cells ({ frames := 3, cells := 0, slots := 0, locals := 36 } : Room).slots) := by
  refine MetFree.of_bodySF pn_13 hisR ?_
  intro p e s m args below meth c s₁ Bd hml0 hP hK
  obtain ⟨rfl, hZ, hh⟩ := hP
  have hx := Bd.exec
  have hby := Bd.bytes
  have hlk := Bd.notSynchronized
  have hret := Bd.returns
  have hml : c.maxLocals = 2 := hml0
  have hown : s.vm.findClass "com/example/olentangy/olentangy/engine/AttributeMap$Entries" = some m.cls := findClass_of_methodNamed Bd.named
  have hnm := (name_of_methodNamed Bd.named Bd.method).1
  have X0 : Stand p l e ({ frames := 3, cells := 0, slots := 0, locals := 36 } : Room) s m #[(.ref a1), (.ref a2)] below meth c s₁ [] 0 0 := Stand.of_body Bd
  have e0 : s₁.heap = h0 := by rw [← hh, Bd.state]; rfl
  have N0 := Fr.nil n0
  show Go p e below (Pst s (Q13 Z a1 h0 n0) ({ frames := 3, cells := 0, slots := 0, locals := 36 } : Room).cells ({ frames := 3, cells := 0, slots := 0, locals := 36 } : Room).slots) (s₁.setTop (entryFrame m #[(.ref a1), (.ref a2)] 2))
  refine Go.on (fun t k => castTop (ef_13 m a1 a2) k) ?_
  show Go p e below _ (s₁.setTop (mkF m 0 #[.val (.ref a1), .val (.ref a2)] []))
  refine Go.on (fun t k => XS.aloadN X0.here hx rfl (hb hby d13_0) rfl rfl k) ?_
  show Go p e below _ (s₁.setTop (mkF m 1 #[.val (.ref a1), .val (.ref a2)] [(.ref a1)]))
  refine Go.on (fun t k => XS.aloadN X0.here hx rfl (hb hby d13_1) rfl rfl k) ?_
  show Go p e below _ (s₁.setTop (mkF m 2 #[.val (.ref a1), .val (.ref a2)] [(.ref a2), (.ref a1)]))
  obtain ⟨T1, h1, X1, e1, W1, st1⟩ := putF X0 hx hZ hown (host := "") (Or.inl (hw _ (List.mem_of_getElem? (i := 90) rfl))) Via.refl e0 F_this E0 (Or.inr ⟨(hw _ (List.mem_of_getElem? (i := 91) rfl)), rfl, hnm⟩) (hw _ (List.mem_of_getElem? (i := 85) rfl)) (ty := (.object "com/example/olentangy/olentangy/engine/AttributeMap")) (by decide) rfl rfl (g := (mkF m 2 #[.val (.ref a1), .val (.ref a2)] [(.ref a2), (.ref a1)])) rfl rfl (hb hby d13_2)
  have E1 := E0.wr W1
  have K1 := (Keep.refl h0 [a1]).wr W1 (Or.inl (List.mem_of_getElem? (i := 0) rfl))
  have N1 := Fr.snoc X1 N0 g0
  have Z1 : n0 ≤ h1.size := by rw [W1.size]; exact Z0
  refine Go.on st1 ?_
  show Go p e below _ (T1.setTop (mkF m 5 #[.val (.ref a1), .val (.ref a2)] []))
  refine Go.on (fun t k => XS.aloadN X1.here hx rfl (hb hby d13_5) rfl rfl k) ?_
  show Go p e below _ (T1.setTop (mkF m 6 #[.val (.ref a1), .val (.ref a2)] [(.ref a1)]))
  obtain ⟨_, _, ⟨T2, L2, k2, n2⟩, -, X2, ⟨Lc2, hQ2, l2, y2, z2⟩, st2⟩ := X1.specialBack hx (y := (⟨"java/util/AbstractSet", "<init>", "()V"⟩ : MethodName)) rfl hown (mvT hZ (hw _ (List.mem_of_getElem? (i := 92) rfl))) (mvT hZ (hw _ (List.mem_of_getElem? (i := 93) rfl))) (mvT hZ (hw _ (List.mem_of_getElem? (i := 96) rfl))) (by decide) (backOf (W := 0) (rm14 l Z a0 hw [] a1 h1 n0 Z1) hZ (hw _ (List.mem_of_getElem? (i := 96) rfl)) (hw _ (List.mem_of_getElem? (i := 95) rfl)) (by decide) (by decide)) (g := (mkF m 6 #[.val (.ref a1), .val (.ref a2)] [(.ref a1)])) rfl (by rw [hml]; rfl) (Steps.refl _) (a := a1) (argsL := []) (rest := []) (lenOf pd_4 rfl) rfl (by show 2 * 0 + _ ≤ _; exact Nat.le_of_eq rfl) (hb hby d13_6) (fun _ _ => ⟨rfl, e1, (by decide : 0 + 0 ≤ _), (by decide : 0 + 0 ≤ _)⟩)
  dsimp only [Pt.U, Pt.locs, Pt.cells, Pt.slots] at X2 l2 y2 z2 st2 hQ2
  subst l2 y2 z2
  obtain ⟨rfl, N2q, e2⟩ := hQ2
  have N2 := Fr.app N1 N2q
  refine Go.st st2 ?_
  show Go p e below _ (T2.setTop (mkF m 9 #[.val (.ref a1), .val (.ref a2)] []))
  exact Go.ret0 X2 hx hlk hret (hb hby d13_9) (Nat.le_refl _) (Nat.le_refl _) (show Q13 Z a1 h0 n0 _ T2.heap _ from by rw [e2]; exact ⟨rfl, N2, K1, E1⟩)
def Q11 (Z : State) (a1 a2 a3 : Addr) (p4 : Int32) (h0 : Heap) (n0 : Nat) (v : Option Value) (h : Heap) (L : List Loc) : Prop := v = none ∧ Fr n0 L ∧ Keep h0 h [a1] ∧ Exa Z h a1 "com/example/olentangy/olentangy/engine/AttributeMap" ∧ Fld Z h a1 "com/example/olentangy/olentangy/engine/AttributeMap" "ids" "[Ljava/lang/String;" (.ref a2) ∧ Fld Z h a1 "com/example/olentangy/olentangy/engine/AttributeMap" "values" "[Ljava/util/List;" (.ref a3) ∧ Fld Z h a1 "com/example/olentangy/olentangy/engine/AttributeMap" "size" "I" (.int p4)
theorem d11_0 : decode prog_38_method_1_code 0 = .ok (.aload_n 0, 1) := by decide +kernel
theorem d11_1 : decode prog_38_method_1_code 1 = .ok (.invokespecial 1, 3) := by decide +kernel
theorem d11_4 : decode prog_38_method_1_code 4 = .ok (.aload_n 0, 1) := by decide +kernel
theorem d11_5 : decode prog_38_method_1_code 5 = .ok (.new 7, 3) := by decide +kernel
theorem d11_8 : decode prog_38_method_1_code 8 = .ok (.dup, 1) := by decide +kernel
theorem d11_9 : decode prog_38_method_1_code 9 = .ok (.aload_n 0, 1) := by decide +kernel
theorem d11_10 : decode prog_38_method_1_code 10 = .ok (.invokespecial 9, 3) := by decide +kernel
theorem d11_13 : decode prog_38_method_1_code 13 = .ok (.putfield 12, 3) := by decide +kernel
theorem d11_16 : decode prog_38_method_1_code 16 = .ok (.aload_n 0, 1) := by decide +kernel
theorem d11_17 : decode prog_38_method_1_code 17 = .ok (.aload_n 1, 1) := by decide +kernel
theorem d11_18 : decode prog_38_method_1_code 18 = .ok (.putfield 18, 3) := by decide +kernel
theorem d11_21 : decode prog_38_method_1_code 21 = .ok (.aload_n 0, 1) := by decide +kernel
theorem d11_22 : decode prog_38_method_1_code 22 = .ok (.aload_n 2, 1) := by decide +kernel
theorem d11_23 : decode prog_38_method_1_code 23 = .ok (.putfield 22, 3) := by decide +kernel
theorem d11_26 : decode prog_38_method_1_code 26 = .ok (.aload_n 0, 1) := by decide +kernel
theorem d11_27 : decode prog_38_method_1_code 27 = .ok (.iload_n 3, 1) := by decide +kernel
theorem d11_28 : decode prog_38_method_1_code 28 = .ok (.putfield 26, 3) := by decide +kernel
theorem d11_31 : decode prog_38_method_1_code 31 = .ok (.return_, 1) := by decide +kernel
theorem pn_11 : plainFor (⟨"com/example/olentangy/olentangy/engine/AttributeMap", "<init>", "([Ljava/lang/String;[Ljava/util/List;I)V"⟩ : MethodName) = true := by first | exact plainFor_of_name (by first | (simp [plainName, overriddenIn]; done) | decide +kernel) | decide +kernel
theorem ef_11 (m : MethodId) (x0 : Addr) (x1 : Addr) (x2 : Addr) (x3 : Int32) : entryFrame m #[(.ref x0), (.ref x1), (.ref x2), (.int x3)] 4 = mkF m 0 #[.val (.ref x0), .val (.ref x1), .val (.ref x2), .val (.int x3)] [] := by first | (simp [entryFrame, mkF, argsToLocals, Value.category]; done) | rfl
set_option maxRecDepth 65536 in
set_option maxHeartbeats 40000000 in
theorem rm11 (l : Launch) (Z : State) (a0 : Array Value) (hw : ∀ d ∈ tables_1, d.before a0 Z = true) (ws : List Jvm.Cond) (a1 a2 a3 : Addr) (p4 : Int32) (u1 u2 u3 u4 : Value) (h0 : Heap) (n0 : Nat) (Z0 : n0 ≤ h0.size) (E0 : Exa Z h0 a1 "com/example/olentangy/olentangy/engine/AttributeMap") (F_es : Fld Z h0 a1 "com/example/olentangy/olentangy/engine/AttributeMap" "entrySet" "Ljava/util/Set;" u1) (F_ids : Fld Z h0 a1 "com/example/olentangy/olentangy/engine/AttributeMap" "ids" "[Ljava/lang/String;" u2) (F_values : Fld Z h0 a1 "com/example/olentangy/olentangy/engine/AttributeMap" "values" "[Ljava/util/List;" u3) (F_size : Fld Z h0 a1 "com/example/olentangy/olentangy/engine/AttributeMap" "size" "I" u4) (g0 : n0 ≤ a1) :
    MetFree l (⟨"com/example/olentangy/olentangy/engine/AttributeMap", "<init>", "([Ljava/lang/String;[Ljava/util/List;I)V"⟩ : MethodName) (head1 (Jvm.Cond.code (⟨"com/example/olentangy/olentangy/engine/AttributeMap", "<init>", "([Ljava/lang/String;[Ljava/util/List;I)V"⟩ : MethodName) prog_38_method_1_code 4 none :: ws) ({ frames := 4, cells := 1, slots := 1, locals := 51 } : Room)) (fun a U => a = #[(.ref a1), (.ref a2), (.ref a3), (.int p4)] ∧ Z.Warmed39 U.vm ∧ U.heap = h0) (fun _ _ _ _ _ => True) (fun _ U o U' => ∃ v L, o = .returned v ∧ Q11 Z a1 a2 a3 p4 h0 n0 v U'.heap L ∧ FrameEnd U o U' L ({ frames := 4, cells := 1, slots := 1, locals := 51 } : Room).cells ({ frames := 4, cells := 1, slots := 1, locals := 51 } : Room).slots) := by
  refine MetFree.of_bodySF pn_11 hisR ?_
  intro p e s m args below meth c s₁ Bd hml0 hP hK
  obtain ⟨rfl, hZ, hh⟩ := hP
  have hx := Bd.exec
  have hby := Bd.bytes
  have hlk := Bd.notSynchronized
  have hret := Bd.returns
  have hml : c.maxLocals = 4 := hml0
  have hown : s.vm.findClass "com/example/olentangy/olentangy/engine/AttributeMap" = some m.cls := findClass_of_methodNamed Bd.named
  have hnm := (name_of_methodNamed Bd.named Bd.method).1
  have X0 : Stand p l e ({ frames := 4, cells := 1, slots := 1, locals := 51 } : Room) s m #[(.ref a1), (.ref a2), (.ref a3), (.int p4)] below meth c s₁ [] 0 0 := Stand.of_body Bd
  have e0 : s₁.heap = h0 := by rw [← hh, Bd.state]; rfl
  have N0 := Fr.nil n0
  show Go p e below (Pst s (Q11 Z a1 a2 a3 p4 h0 n0) ({ frames := 4, cells := 1, slots := 1, locals := 51 } : Room).cells ({ frames := 4, cells := 1, slots := 1, locals := 51 } : Room).slots) (s₁.setTop (entryFrame m #[(.ref a1), (.ref a2), (.ref a3), (.int p4)] 4))
  refine Go.on (fun t k => castTop (ef_11 m a1 a2 a3 p4) k) ?_
  show Go p e below _ (s₁.setTop (mkF m 0 #[.val (.ref a1), .val (.ref a2), .val (.ref a3), .val (.int p4)] []))
  refine Go.on (fun t k => XS.aloadN X0.here hx rfl (hb hby d11_0) rfl rfl k) ?_
  show Go p e below _ (s₁.setTop (mkF m 1 #[.val (.ref a1), .val (.ref a2), .val (.ref a3), .val (.int p4)] [(.ref a1)]))
  obtain ⟨_, _, ⟨T21, L21, k21, n21⟩, -, X21, ⟨Lc21, hQ21, l21, y21, z21⟩, st21⟩ := X0.specialBack hx (y := (⟨"java/util/AbstractMap", "<init>", "()V"⟩ : MethodName)) rfl hown (mvT hZ (hw _ (List.mem_of_getElem? (i := 78) rfl))) (mvT hZ (hw _ (List.mem_of_getElem? (i := 79) rfl))) (mvT hZ (hw _ (List.mem_of_getElem? (i := 82) rfl))) (by decide) (backOf (W := 0) (rm12 l Z a0 hw [] a1 h0 n0 Z0) hZ (hw _ (List.mem_of_getElem? (i := 82) rfl)) (hw _ (List.mem_of_getElem? (i := 81) rfl)) (by decide) (by decide)) (g := (mkF m 1 #[.val (.ref a1), .val (.ref a2), .val (.ref a3), .val (.int p4)] [(.ref a1)])) rfl (by rw [hml]; rfl) (Steps.refl _) (a := a1) (argsL := []) (rest := []) (lenOf pd_4 rfl) rfl (by show 2 * 0 + _ ≤ _; exact Nat.le_of_eq rfl) (hb hby d11_1) (fun _ _ => ⟨rfl, e0, (by decide : 0 + 0 ≤ _), (by decide : 0 + 0 ≤ _)⟩)
  dsimp only [Pt.U, Pt.locs, Pt.cells, Pt.slots] at X21 l21 y21 z21 st21 hQ21
  subst l21 y21 z21
  obtain ⟨rfl, N21q, e21⟩ := hQ21
  have N21 := Fr.app N0 N21q
  refine Go.st st21 ?_
  show Go p e below _ (T21.setTop (mkF m 4 #[.val (.ref a1), .val (.ref a2), .val (.ref a3), .val (.int p4)] []))
  refine Go.on (fun t k => XS.aloadN X21.here hx rfl (hb hby d11_4) rfl rfl k) ?_
  show Go p e below _ (T21.setTop (mkF m 5 #[.val (.ref a1), .val (.ref a2), .val (.ref a3), .val (.int p4)] [(.ref a1)]))
  obtain ⟨T22, h22, X22, e22, E22, A22, D22, -, st22⟩ := newO X21 hx hZ hown (hw _ (List.mem_of_getElem? (i := 84) rfl)) (hw _ (List.mem_of_getElem? (i := 85) rfl)) (hw _ (List.mem_of_getElem? (i := 86) rfl)) e21 (g := (mkF m 5 #[.val (.ref a1), .val (.ref a2), .val (.ref a3), .val (.int p4)] [(.ref a1)])) rfl (hb hby d11_5) (by decide) (by decide)
  obtain ⟨a22, g22⟩ : ∃ z, z = h0.size := ⟨_, rfl⟩
  rw [← g22] at A22 D22 st22
  have Z22 : n0 ≤ h22.size := Nat.le_trans Z0 E22.1
  have G22 : n0 ≤ a22 := Nat.le_trans Z0 (Nat.le_of_eq g22.symm)
  have hne22 : a1 ≠ a22 := Nat.ne_of_lt (Nat.lt_of_lt_of_eq E0.lt g22.symm)
  have F22_entrySet := F_es.ext E22
  have F22_ids := F_ids.ext E22
  have F22_values := F_values.ext E22
  have F22_size := F_size.ext E22
  have Ex22 := E0.ext E22
  have K22 := (Keep.refl h0 [a1]).ext E22
  refine Go.on st22 ?_
  show Go p e below _ (T22.setTop (mkF m 8 #[.val (.ref a1), .val (.ref a2), .val (.ref a3), .val (.int p4)] [(.ref a22), (.ref a1)]))
  refine Go.on (fun t k => XS.dup X22.here hx rfl (hb hby d11_8) rfl rfl k) ?_
  show Go p e below _ (T22.setTop (mkF m 9 #[.val (.ref a1), .val (.ref a2), .val (.ref a3), .val (.int p4)] [(.ref a22), (.ref a22), (.ref a1)]))
  refine Go.on (fun t k => XS.aloadN X22.here hx rfl (hb hby d11_9) rfl rfl k) ?_
  show Go p e below _ (T22.setTop (mkF m 10 #[.val (.ref a1), .val (.ref a2), .val (.ref a3), .val (.int p4)] [(.ref a1), (.ref a22), (.ref a22), (.ref a1)]))
  obtain ⟨_, _, ⟨T23, L23, k23, n23⟩, -, X23, ⟨Lc23, hQ23, l23, y23, z23⟩, st23⟩ := own_specialRef X22 hx (y := (⟨"com/example/olentangy/olentangy/engine/AttributeMap$Entries", "<init>", "(Lcom/example/olentangy/olentangy/engine/AttributeMap;)V"⟩ : MethodName)) rfl hown (own_mvRef X22 hZ (hw _ (List.mem_of_getElem? (i := 87) rfl)) (hw _ (List.mem_of_getElem? (i := 88) rfl)) (by decide)) (mvT hZ (hw _ (List.mem_of_getElem? (i := 88) rfl))) (mvT hZ (hw _ (List.mem_of_getElem? (i := 89) rfl))) (by decide) (backOf (W := 2) (rm13 l Z a0 hw [] a22 a1 _ h22 n0 Z22 A22 (D22 (Or.inr (hw _ (List.mem_of_getElem? (i := 91) rfl))) (ty := (.object "com/example/olentangy/olentangy/engine/AttributeMap")) (by decide)) G22) hZ (hw _ (List.mem_of_getElem? (i := 89) rfl)) (hw _ (List.mem_of_getElem? (i := 86) rfl)) (by decide) (by decide)) (g := (mkF m 10 #[.val (.ref a1), .val (.ref a2), .val (.ref a3), .val (.int p4)] [(.ref a1), (.ref a22), (.ref a22), (.ref a1)])) rfl (by rw [hml]; rfl) (Steps.refl _) (a := a22) (argsL := [(.ref a1)]) (rest := [(.ref a22), (.ref a1)]) (lenOf pd_5 rfl) rfl (by show 2 * 0 + _ ≤ _; exact Nat.le_of_eq rfl) (hb hby d11_10) (fun _ _ => ⟨rfl, e22, (by decide : 1 + 0 ≤ _), (by decide : 1 + 0 ≤ _)⟩)
  dsimp only [Pt.U, Pt.locs, Pt.cells, Pt.slots] at X23 l23 y23 z23 st23 hQ23
  subst l23 y23 z23
  obtain ⟨rfl, N23q, Kc23, Ec23⟩ := hQ23
  have N23 := Fr.app N21 N23q
  refine Go.st st23 ?_
  show Go p e below _ (T23.setTop (mkF m 13 #[.val (.ref a1), .val (.ref a2), .val (.ref a3), .val (.int p4)] [(.ref a22), (.ref a1)]))
  have F23_entrySet := F22_entrySet.keep Kc23 (by simpa using hne22)
  have F23_ids := F22_ids.keep Kc23 (by simpa using hne22)
  have F23_values := F22_values.keep Kc23 (by simpa using hne22)
  have F23_size := F22_size.keep Kc23 (by simpa using hne22)
  have Ex23 := Ex22.keep Kc23
  have K23 := K22.trans Kc23 (fun z hz => by cases List.mem_singleton.mp hz; exact Or.inr (Nat.le_of_eq g22.symm))
  obtain ⟨T24, h24, X24, e24, W24, st24⟩ := putF X23 hx hZ hown (host := "") (Or.inl (hw _ (List.mem_of_getElem? (i := 99) rfl))) Via.refl (rfl : T23.heap = T23.heap) F23_entrySet Ex23 (Or.inr ⟨(hw _ (List.mem_of_getElem? (i := 100) rfl)), rfl, hnm⟩) (hw _ (List.mem_of_getElem? (i := 71) rfl)) (ty := (.object "java/util/Set")) (by decide) rfl rfl (g := (mkF m 13 #[.val (.ref a1), .val (.ref a2), .val (.ref a3), .val (.int p4)] [(.ref a22), (.ref a1)])) rfl rfl (hb hby d11_13)
  have N24 := Fr.snoc X24 N23 g0
  have E_24 := Ex23.wr W24
  have K24 := K23.wr W24 (Or.inl (List.mem_of_getElem? (i := 0) rfl))
  have F24_entrySet := F23_entrySet.same W24
  have F24_ids := F23_ids.other W24 (Or.inr (slot_ne (Or.inr (hw _ (List.mem_of_getElem? (i := 102) rfl))) (Or.inr (hw _ (List.mem_of_getElem? (i := 100) rfl))) (by decide) (t := (.array (.object "java/lang/String"))) (t' := (.object "java/util/Set")) (by decide) (by decide)))
  have F24_values := F23_values.other W24 (Or.inr (slot_ne (Or.inr (hw _ (List.mem_of_getElem? (i := 104) rfl))) (Or.inr (hw _ (List.mem_of_getElem? (i := 100) rfl))) (by decide) (t := (.array (.object "java/util/List"))) (t' := (.object "java/util/Set")) (by decide) (by decide)))
  have F24_size := F23_size.other W24 (Or.inr (slot_ne (Or.inr (hw _ (List.mem_of_getElem? (i := 106) rfl))) (Or.inr (hw _ (List.mem_of_getElem? (i := 100) rfl))) (by decide) (t := .int) (t' := (.object "java/util/Set")) (by decide) (by decide)))
  refine Go.on st24 ?_
  show Go p e below _ (T24.setTop (mkF m 16 #[.val (.ref a1), .val (.ref a2), .val (.ref a3), .val (.int p4)] []))
  refine Go.on (fun t k => XS.aloadN X24.here hx rfl (hb hby d11_16) rfl rfl k) ?_
  show Go p e below _ (T24.setTop (mkF m 17 #[.val (.ref a1), .val (.ref a2), .val (.ref a3), .val (.int p4)] [(.ref a1)]))
  refine Go.on (fun t k => XS.aloadN X24.here hx rfl (hb hby d11_17) rfl rfl k) ?_
  show Go p e below _ (T24.setTop (mkF m 18 #[.val (.ref a1), .val (.ref a2), .val (.ref a3), .val (.int p4)] [(.ref a2), (.ref a1)]))
  obtain ⟨T25, h25, X25, e25, W25, st25⟩ := putF X24 hx hZ hown (host := "") (Or.inl (hw _ (List.mem_of_getElem? (i := 101) rfl))) Via.refl e24 F24_ids E_24 (Or.inr ⟨(hw _ (List.mem_of_getElem? (i := 102) rfl)), rfl, hnm⟩) (hw _ (List.mem_of_getElem? (i := 71) rfl)) (ty := (.array (.object "java/lang/String"))) (by decide) rfl rfl (g := (mkF m 18 #[.val (.ref a1), .val (.ref a2), .val (.ref a3), .val (.int p4)] [(.ref a2), (.ref a1)])) rfl rfl (hb hby d11_18)
  have N25 := Fr.snoc X25 N24 g0
  have E_25 := E_24.wr W25
  have K25 := K24.wr W25 (Or.inl (List.mem_of_getElem? (i := 0) rfl))
  have F25_entrySet := F24_entrySet.other W25 (Or.inr (slot_ne (Or.inr (hw _ (List.mem_of_getElem? (i := 100) rfl))) (Or.inr (hw _ (List.mem_of_getElem? (i := 102) rfl))) (by decide) (t := (.object "java/util/Set")) (t' := (.array (.object "java/lang/String"))) (by decide) (by decide)))
  have F25_ids := F24_ids.same W25
  have F25_values := F24_values.other W25 (Or.inr (slot_ne (Or.inr (hw _ (List.mem_of_getElem? (i := 104) rfl))) (Or.inr (hw _ (List.mem_of_getElem? (i := 102) rfl))) (by decide) (t := (.array (.object "java/util/List"))) (t' := (.array (.object "java/lang/String"))) (by decide) (by decide)))
  have F25_size := F24_size.other W25 (Or.inr (slot_ne (Or.inr (hw _ (List.mem_of_getElem? (i := 106) rfl))) (Or.inr (hw _ (List.mem_of_getElem? (i := 102) rfl))) (by decide) (t := .int) (t' := (.array (.object "java/lang/String"))) (by decide) (by decide)))
  refine Go.on st25 ?_
  show Go p e below _ (T25.setTop (mkF m 21 #[.val (.ref a1), .val (.ref a2), .val (.ref a3), .val (.int p4)] []))
  refine Go.on (fun t k => XS.aloadN X25.here hx rfl (hb hby d11_21) rfl rfl k) ?_
  show Go p e below _ (T25.setTop (mkF m 22 #[.val (.ref a1), .val (.ref a2), .val (.ref a3), .val (.int p4)] [(.ref a1)]))
  refine Go.on (fun t k => XS.aloadN X25.here hx rfl (hb hby d11_22) rfl rfl k) ?_
  show Go p e below _ (T25.setTop (mkF m 23 #[.val (.ref a1), .val (.ref a2), .val (.ref a3), .val (.int p4)] [(.ref a3), (.ref a1)]))
  obtain ⟨T26, h26, X26, e26, W26, st26⟩ := putF X25 hx hZ hown (host := "") (Or.inl (hw _ (List.mem_of_getElem? (i := 103) rfl))) Via.refl e25 F25_values E_25 (Or.inr ⟨(hw _ (List.mem_of_getElem? (i := 104) rfl)), rfl, hnm⟩) (hw _ (List.mem_of_getElem? (i := 71) rfl)) (ty := (.array (.object "java/util/List"))) (by decide) rfl rfl (g := (mkF m 23 #[.val (.ref a1), .val (.ref a2), .val (.ref a3), .val (.int p4)] [(.ref a3), (.ref a1)])) rfl rfl (hb hby d11_23)
  have N26 := Fr.snoc X26 N25 g0
  have E_26 := E_25.wr W26
  have K26 := K25.wr W26 (Or.inl (List.mem_of_getElem? (i := 0) rfl))
  have F26_entrySet := F25_entrySet.other W26 (Or.inr (slot_ne (Or.inr (hw _ (List.mem_of_getElem? (i := 100) rfl))) (Or.inr (hw _ (List.mem_of_getElem? (i := 104) rfl))) (by decide) (t := (.object "java/util/Set")) (t' := (.array (.object "java/util/List"))) (by decide) (by decide)))
  have F26_ids := F25_ids.other W26 (Or.inr (slot_ne (Or.inr (hw _ (List.mem_of_getElem? (i := 102) rfl))) (Or.inr (hw _ (List.mem_of_getElem? (i := 104) rfl))) (by decide) (t := (.array (.object "java/lang/String"))) (t' := (.array (.object "java/util/List"))) (by decide) (by decide)))
  have F26_values := F25_values.same W26
  have F26_size := F25_size.other W26 (Or.inr (slot_ne (Or.inr (hw _ (List.mem_of_getElem? (i := 106) rfl))) (Or.inr (hw _ (List.mem_of_getElem? (i := 104) rfl))) (by decide) (t := .int) (t' := (.array (.object "java/util/List"))) (by decide) (by decide)))
  refine Go.on st26 ?_
  show Go p e below _ (T26.setTop (mkF m 26 #[.val (.ref a1), .val (.ref a2), .val (.ref a3), .val (.int p4)] []))
  refine Go.on (fun t k => XS.aloadN X26.here hx rfl (hb hby d11_26) rfl rfl k) ?_
  show Go p e below _ (T26.setTop (mkF m 27 #[.val (.ref a1), .val (.ref a2), .val (.ref a3), .val (.int p4)] [(.ref a1)]))
  refine Go.on (fun t k => XS.iloadN X26.here hx rfl (hb hby d11_27) rfl k) ?_
  show Go p e below _ (T26.setTop (mkF m 28 #[.val (.ref a1), .val (.ref a2), .val (.ref a3), .val (.int p4)] [(.int p4), (.ref a1)]))
  obtain ⟨T27, h27, X27, e27, W27, st27⟩ := putF X26 hx hZ hown (host := "") (Or.inl (hw _ (List.mem_of_getElem? (i := 105) rfl))) Via.refl e26 F26_size E_26 (Or.inr ⟨(hw _ (List.mem_of_getElem? (i := 106) rfl)), rfl, hnm⟩) (hw _ (List.mem_of_getElem? (i := 71) rfl)) (ty := .int) (by decide) rfl rfl (g := (mkF m 28 #[.val (.ref a1), .val (.ref a2), .val (.ref a3), .val (.int p4)] [(.int p4), (.ref a1)])) rfl rfl (hb hby d11_28)
  have N27 := Fr.snoc X27 N26 g0
  have E_27 := E_26.wr W27
  have K27 := K26.wr W27 (Or.inl (List.mem_of_getElem? (i := 0) rfl))
  have F27_entrySet := F26_entrySet.other W27 (Or.inr (slot_ne (Or.inr (hw _ (List.mem_of_getElem? (i := 100) rfl))) (Or.inr (hw _ (List.mem_of_getElem? (i := 106) rfl))) (by decide) (t := (.object "java/util/Set")) (t' := .int) (by decide) (by decide)))
  have F27_ids := F26_ids.other W27 (Or.inr (slot_ne (Or.inr (hw _ (List.mem_of_getElem? (i := 102) rfl))) (Or.inr (hw _ (List.mem_of_getElem? (i := 106) rfl))) (by decide) (t := (.array (.object "java/lang/String"))) (t' := .int) (by decide) (by decide)))
  have F27_values := F26_values.other W27 (Or.inr (slot_ne (Or.inr (hw _ (List.mem_of_getElem? (i := 104) rfl))) (Or.inr (hw _ (List.mem_of_getElem? (i := 106) rfl))) (by decide) (t := (.array (.object "java/util/List"))) (t' := .int) (by decide) (by decide)))
  have F27_size := F26_size.same W27
  refine Go.on st27 ?_
  show Go p e below _ (T27.setTop (mkF m 31 #[.val (.ref a1), .val (.ref a2), .val (.ref a3), .val (.int p4)] []))
  exact Go.ret0 X27 hx hlk hret (hb hby d11_31) (by decide) (by decide) (show Q11 Z a1 a2 a3 p4 h0 n0 _ T27.heap _ from by rw [e27]; exact ⟨rfl, N27, K27, E_27, F27_ids, F27_values, F27_size⟩)
def Q10 (Z : State) (i w : Addr) (k : Int32) (h0 : Heap) (n0 : Nat) (v : Option Value) (h : Heap) (L : List Loc) : Prop := ∃ b : Addr, v = some (.ref b) ∧ Fr n0 L ∧ Keep h0 h [] ∧ Exa Z h b "com/example/olentangy/olentangy/engine/AttributeMap" ∧ Fld Z h b "com/example/olentangy/olentangy/engine/AttributeMap" "ids" "[Ljava/lang/String;" (.ref i) ∧ Fld Z h b "com/example/olentangy/olentangy/engine/AttributeMap" "values" "[Ljava/util/List;" (.ref w) ∧ Fld Z h b "com/example/olentangy/olentangy/engine/AttributeMap" "size" "I" (.int k)
theorem d10_0 : decode prog_39_method_3_code 0 = .ok (.new 25, 3) := by decide +kernel
theorem d10_3 : decode prog_39_method_3_code 3 = .ok (.dup, 1) := by decide +kernel
theorem d10_4 : decode prog_39_method_3_code 4 = .ok (.aload_n 0, 1) := by decide +kernel
theorem d10_5 : decode prog_39_method_3_code 5 = .ok (.getfield 9, 3) := by decide +kernel
theorem d10_8 : decode prog_39_method_3_code 8 = .ok (.aload_n 0, 1) := by decide +kernel
theorem d10_9 : decode prog_39_method_3_code 9 = .ok (.getfield 17, 3) := by decide +kernel
theorem d10_12 : decode prog_39_method_3_code 12 = .ok (.aload_n 0, 1) := by decide +kernel
theorem d10_13 : decode prog_39_method_3_code 13 = .ok (.getfield 21, 3) := by decide +kernel
theorem d10_16 : decode prog_39_method_3_code 16 = .ok (.invokespecial 27, 3) := by decide +kernel
theorem d10_19 : decode prog_39_method_3_code 19 = .ok (.areturn, 1) := by decide +kernel
theorem pn_10 : plainFor (⟨"com/example/olentangy/olentangy/engine/AttributeMap$Builder", "build", "()Lcom/example/olentangy/olentangy/engine/AttributeMap;"⟩ : MethodName) = true := by first | exact plainFor_of_name (by first | (simp [plainName, overriddenIn]; done) | decide +kernel) | decide +kernel
theorem ef_10 (m : MethodId) (x0 : Addr) : entryFrame m #[(.ref x0)] 1 = mkF m 0 #[.val (.ref x0)] [] := by first | (simp [entryFrame, mkF, argsToLocals, Value.category]; done) | rfl
set_option maxRecDepth 65536 in
set_option maxHeartbeats 40000000 in
theorem rm10 (l : Launch) (Z : State) (a0 : Array Value) (hw : ∀ d ∈ tables_1, d.before a0 Z = true) (ws : List Jvm.Cond) (a1 i w : Addr) (k : Int32) (h0 : Heap) (n0 : Nat) (Z0 : n0 ≤ h0.size) (F_ids : Fld Z h0 a1 "com/example/olentangy/olentangy/engine/AttributeMap$Builder" "ids" "[Ljava/lang/String;" (.ref i)) (F_values : Fld Z h0 a1 "com/example/olentangy/olentangy/engine/AttributeMap$Builder" "values" "[Ljava/util/List;" (.ref w)) (F_size : Fld Z h0 a1 "com/example/olentangy/olentangy/engine/AttributeMap$Builder" "size" "I" (.int k)) :
    MetFree l (⟨"com/example/olentangy/olentangy/engine/AttributeMap$Builder", "build", "()Lcom/example/olentangy/olentangy/engine/AttributeMap;"⟩ : MethodName) (head1 (Jvm.Cond.code (⟨"com/example/olentangy/olentangy/engine/AttributeMap$Builder", "build", "()Lcom/example/olentangy/olentangy/engine/AttributeMap;"⟩ : MethodName) prog_39_method_3_code 1 (some (.object "com/example/olentangy/olentangy/engine/AttributeMap")) :: ws) ({ frames := 5, cells := 2, slots := 8, locals := 67 } : Room)) (fun a U => a = #[(.ref a1)] ∧ Z.Warmed39 U.vm ∧ U.heap = h0) (fun _ _ _ _ _ => True) (fun _ U o U' => ∃ v L, o = .returned v ∧ Q10 Z i w k h0 n0 v U'.heap L ∧ FrameEnd U o U' L ({ frames := 5, cells := 2, slots := 8, locals := 67 } : Room).cells ({ frames := 5, cells := 2, slots := 8, locals := 67 } : Room).slots) := by
  refine MetFree.of_bodySF pn_10 hisR ?_
  intro p e s m args below meth c s₁ Bd hml0 hP hK
  obtain ⟨rfl, hZ, hh⟩ := hP
  have hx := Bd.exec
  have hby := Bd.bytes
  have hlk := Bd.notSynchronized
  have hret := Bd.returns
  have hml : c.maxLocals = 1 := hml0
  have hown : s.vm.findClass "com/example/olentangy/olentangy/engine/AttributeMap$Builder" = some m.cls := findClass_of_methodNamed Bd.named
  have hnm := (name_of_methodNamed Bd.named Bd.method).1
  have X0 : Stand p l e ({ frames := 5, cells := 2, slots := 8, locals := 67 } : Room) s m #[(.ref a1)] below meth c s₁ [] 0 0 := Stand.of_body Bd
  have e0 : s₁.heap = h0 := by rw [← hh, Bd.state]; rfl
  have N0 := Fr.nil n0
  show Go p e below (Pst s (Q10 Z i w k h0 n0) ({ frames := 5, cells := 2, slots := 8, locals := 67 } : Room).cells ({ frames := 5, cells := 2, slots := 8, locals := 67 } : Room).slots) (s₁.setTop (entryFrame m #[(.ref a1)] 1))
  refine Go.on (fun t k => castTop (ef_10 m a1) k) ?_
  show Go p e below _ (s₁.setTop (mkF m 0 #[.val (.ref a1)] []))
  obtain ⟨T21, h21, X21, e21, E21, A21, D21, -, st21⟩ := newO X0 hx hZ hown (hw _ (List.mem_of_getElem? (i := 70) rfl)) (hw _ (List.mem_of_getElem? (i := 71) rfl)) (hw _ (List.mem_of_getElem? (i := 72) rfl)) e0 (g := (mkF m 0 #[.val (.ref a1)] [])) rfl (hb hby d10_0) (by decide) (by decide)
  obtain ⟨a21, g21⟩ : ∃ z, z = h0.size := ⟨_, rfl⟩
  rw [← g21] at A21 D21 st21
  have Z21 : n0 ≤ h21.size := Nat.le_trans Z0 E21.1
  have G21 : n0 ≤ a21 := Nat.le_trans Z0 (Nat.le_of_eq g21.symm)
  refine Go.on st21 ?_
  show Go p e below _ (T21.setTop (mkF m 3 #[.val (.ref a1)] [(.ref a21)]))
  refine Go.on (fun t k => XS.dup X21.here hx rfl (hb hby d10_3) rfl rfl k) ?_
  show Go p e below _ (T21.setTop (mkF m 4 #[.val (.ref a1)] [(.ref a21), (.ref a21)]))
  refine Go.on (fun t k => XS.aloadN X21.here hx rfl (hb hby d10_4) rfl rfl k) ?_
  show Go p e below _ (T21.setTop (mkF m 5 #[.val (.ref a1)] [(.ref a1), (.ref a21), (.ref a21)]))
  obtain ⟨T22, X22, e22, st22⟩ := getF X21 hx hZ hown (host := "") (Or.inl (hw _ (List.mem_of_getElem? (i := 59) rfl))) Via.refl e21 (F_ids.ext E21) (g := (mkF m 5 #[.val (.ref a1)] [(.ref a1), (.ref a21), (.ref a21)])) rfl rfl (hb hby d10_5)
  refine Go.on st22 ?_
  show Go p e below _ (T22.setTop (mkF m 8 #[.val (.ref a1)] [(.ref i), (.ref a21), (.ref a21)]))
  refine Go.on (fun t k => XS.aloadN X22.here hx rfl (hb hby d10_8) rfl rfl k) ?_
  show Go p e below _ (T22.setTop (mkF m 9 #[.val (.ref a1)] [(.ref a1), (.ref i), (.ref a21), (.ref a21)]))
  obtain ⟨T23, X23, e23, st23⟩ := getF X22 hx hZ hown (host := "") (Or.inl (hw _ (List.mem_of_getElem? (i := 63) rfl))) Via.refl e22 (F_values.ext E21) (g := (mkF m 9 #[.val (.ref a1)] [(.ref a1), (.ref i), (.ref a21), (.ref a21)])) rfl rfl (hb hby d10_9)
  refine Go.on st23 ?_
  show Go p e below _ (T23.setTop (mkF m 12 #[.val (.ref a1)] [(.ref w), (.ref i), (.ref a21), (.ref a21)]))
  refine Go.on (fun t k => XS.aloadN X23.here hx rfl (hb hby d10_12) rfl rfl k) ?_
  show Go p e below _ (T23.setTop (mkF m 13 #[.val (.ref a1)] [(.ref a1), (.ref w), (.ref i), (.ref a21), (.ref a21)]))
  obtain ⟨T24, X24, e24, st24⟩ := getF X23 hx hZ hown (host := "") (Or.inl (hw _ (List.mem_of_getElem? (i := 73) rfl))) Via.refl e23 (F_size.ext E21) (g := (mkF m 13 #[.val (.ref a1)] [(.ref a1), (.ref w), (.ref i), (.ref a21), (.ref a21)])) rfl rfl (hb hby d10_13)
  refine Go.on st24 ?_
  show Go p e below _ (T24.setTop (mkF m 16 #[.val (.ref a1)] [(.int k), (.ref w), (.ref i), (.ref a21), (.ref a21)]))
  obtain ⟨_, _, ⟨T25, L25, k25, n25⟩, -, X25, ⟨Lc25, hQ25, l25, y25, z25⟩, st25⟩ := X24.specialBackNest hx (y := (⟨"com/example/olentangy/olentangy/engine/AttributeMap", "<init>", "([Ljava/lang/String;[Ljava/util/List;I)V"⟩ : MethodName)) rfl hown (own_mvNest hZ (hw _ (List.mem_of_getElem? (i := 75) rfl))) (mvT hZ (hw _ (List.mem_of_getElem? (i := 76) rfl))) (mvT hZ (hw _ (List.mem_of_getElem? (i := 77) rfl))) (by decide) (backOf (W := 1) (rm11 l Z a0 hw [] a21 i w k _ _ _ _ h21 n0 Z21 A21 (D21 (Or.inr (hw _ (List.mem_of_getElem? (i := 100) rfl))) (ty := (.object "java/util/Set")) (by decide)) (D21 (Or.inr (hw _ (List.mem_of_getElem? (i := 102) rfl))) (ty := (.array (.object "java/lang/String"))) (by decide)) (D21 (Or.inr (hw _ (List.mem_of_getElem? (i := 104) rfl))) (ty := (.array (.object "java/util/List"))) (by decide)) (D21 (Or.inr (hw _ (List.mem_of_getElem? (i := 106) rfl))) (ty := .int) (by decide)) G21) hZ (hw _ (List.mem_of_getElem? (i := 77) rfl)) (hw _ (List.mem_of_getElem? (i := 72) rfl)) (by decide) (by decide)) (g := (mkF m 16 #[.val (.ref a1)] [(.int k), (.ref w), (.ref i), (.ref a21), (.ref a21)])) rfl (by rw [hml]; rfl) (Steps.refl _) (a := a21) (argsL := [(.ref i), (.ref w), (.int k)]) (rest := [(.ref a21)]) (lenOf pd_6 rfl) rfl (by show 2 * 0 + _ ≤ _; exact Nat.le_of_eq rfl) (hb hby d10_16) (fun _ _ => ⟨rfl, e24, (by decide : 1 + 1 ≤ _), (by decide : 7 + 1 ≤ _)⟩)
  dsimp only [Pt.U, Pt.locs, Pt.cells, Pt.slots] at X25 l25 y25 z25 st25 hQ25
  subst l25 y25 z25
  obtain ⟨rfl, N25q, K25, A25, FI25, FV25, FS25⟩ := hQ25
  have N25 := Fr.app N0 N25q
  refine Go.st st25 ?_
  show Go p e below _ (T25.setTop (mkF m 19 #[.val (.ref a1)] [(.ref a21)]))
  have Kf : Keep h0 T25.heap [] := ((Keep.refl h0 []).ext E21).trans K25 (fun x hx => by cases List.mem_singleton.mp hx; exact Or.inr (Nat.le_of_eq g21.symm))
  exact Go.retA X25 hx hlk hret rfl rfl (hb hby d10_19) (by decide) (by decide) (show Q10 Z i w k h0 n0 _ T25.heap _ from ⟨_, rfl, N25, Kf, A25, FI25, FV25, FS25⟩)
def Q15 (k : Int32) (h0 : Heap) (n0 : Nat) (v : Option Value) (h : Heap) (L : List Loc) : Prop := v = some (.int k) ∧ Fr n0 L ∧ h = h0
def Q17 (y : Addr) (h0 : Heap) (n0 : Nat) (v : Option Value) (h : Heap) (L : List Loc) : Prop := v = some (.ref y) ∧ Fr n0 L ∧ h = h0
theorem d15_0 : decode prog_38_method_6_code 0 = .ok (.aload_n 0, 1) := by decide +kernel
theorem d15_1 : decode prog_38_method_6_code 1 = .ok (.getfield 26, 3) := by decide +kernel
theorem d15_4 : decode prog_38_method_6_code 4 = .ok (.ireturn, 1) := by decide +kernel
theorem pn_15 : plainFor (⟨"com/example/olentangy/olentangy/engine/AttributeMap", "size", "()I"⟩ : MethodName) = true := by first | exact plainFor_of_name (by first | (simp [plainName, overriddenIn]; done) | decide +kernel) | decide +kernel
theorem ef_15 (m : MethodId) (x0 : Addr) : entryFrame m #[(.ref x0)] 1 = mkF m 0 #[.val (.ref x0)] [] := by first | (simp [entryFrame, mkF, argsToLocals, Value.category]; done) | rfl
set_option maxRecDepth 65536 in
set_option maxHeartbeats 40000000 in
theorem rm15 (l : Launch) (Z : State) (a0 : Array Value) (hw : ∀ d ∈ tables_1, d.before a0 Z = true) (ws : List Jvm.Cond) (a1 : Addr) (k : Int32) (h0 : Heap) (n0 : Nat) (Z0 : n0 ≤ h0.size) (F_size : Fld Z h0 a1 "com/example/olentangy/olentangy/engine/AttributeMap" "size" "I" (.int k)) :
    MetFree l (⟨"com/example/olentangy/olentangy/engine/AttributeMap", "size", "()I"⟩ : MethodName) (head1 (Jvm.Cond.code (⟨"com/example/olentangy/olentangy/engine/AttributeMap", "size", "()I"⟩ : MethodName) prog_38_method_6_code 1 (some .int) :: ws) ({ frames := 0, cells := 0, slots := 0, locals := 0 } : Room)) (fun a U => a = #[(.ref a1)] ∧ Z.Warmed39 U.vm ∧ U.heap = h0) (fun _ _ _ _ _ => True) (fun _ U o U' => ∃ v L, o = .returned v ∧ Q15 k h0 n0 v U'.heap L ∧ FrameEnd U o U' L ({ frames := 0, cells := 0, slots := 0, locals := 0 } : Room).cells ({ frames := 0, cells := 0, slots := 0, locals := 0 } : Room).slots) := by
  refine MetFree.of_bodySF pn_15 hisR ?_
  intro p e s m args below meth c s₁ Bd hml0 hP hK
  obtain ⟨rfl, hZ, hh⟩ := hP
  have hx := Bd.exec
  have hby := Bd.bytes
  have hlk := Bd.notSynchronized
  have hret := Bd.returns
  have hml : c.maxLocals = 1 := hml0
  have hown : s.vm.findClass "com/example/olentangy/olentangy/engine/AttributeMap" = some m.cls := findClass_of_methodNamed Bd.named
  have hnm := (name_of_methodNamed Bd.named Bd.method).1
  have X0 : Stand p l e ({ frames := 0, cells := 0, slots := 0, locals := 0 } : Room) s m #[(.ref a1)] below meth c s₁ [] 0 0 := Stand.of_body Bd
  have e0 : s₁.heap = h0 := by rw [← hh, Bd.state]; rfl
  have N0 := Fr.nil n0
  show Go p e below (Pst s (Q15 k h0 n0) ({ frames := 0, cells := 0, slots := 0, locals := 0 } : Room).cells ({ frames := 0, cells := 0, slots := 0, locals := 0 } : Room).slots) (s₁.setTop (entryFrame m #[(.ref a1)] 1))
  refine Go.on (fun t k => castTop (ef_15 m a1) k) ?_
  show Go p e below _ (s₁.setTop (mkF m 0 #[.val (.ref a1)] []))
  refine Go.on (fun t k => XS.aloadN X0.here hx rfl (hb hby d15_0) rfl rfl k) ?_
  show Go p e below _ (s₁.setTop (mkF m 1 #[.val (.ref a1)] [(.ref a1)]))
  obtain ⟨T1, X1, e1, st1⟩ := getF X0 hx hZ hown (host := "") (Or.inl (hw _ (List.mem_of_getElem? (i := 105) rfl))) Via.refl e0 F_size (g := (mkF m 1 #[.val (.ref a1)] [(.ref a1)])) rfl rfl (hb hby d15_1)
  refine Go.on st1 ?_
  show Go p e below _ (T1.setTop (mkF m 4 #[.val (.ref a1)] [(.int k)]))
  exact Go.retI X1 hx hlk hret (hb hby d15_4) (Nat.le_refl _) (Nat.le_refl _) (show Q15 k h0 n0 _ _ _ from ⟨rfl, N0, e1⟩)
theorem d17_0 : decode prog_38_method_3_code 0 = .ok (.aload_n 0, 1) := by decide +kernel
theorem d17_1 : decode prog_38_method_3_code 1 = .ok (.getfield 18, 3) := by decide +kernel
theorem d17_4 : decode prog_38_method_3_code 4 = .ok (.iload_n 1, 1) := by decide +kernel
theorem d17_5 : decode prog_38_method_3_code 5 = .ok (.aaload, 1) := by decide +kernel
theorem d17_6 : decode prog_38_method_3_code 6 = .ok (.areturn, 1) := by decide +kernel
theorem pn_17 : plainFor (⟨"com/example/olentangy/olentangy/engine/AttributeMap", "id", "(I)Ljava/lang/String;"⟩ : MethodName) = true := by first | exact plainFor_of_name (by first | (simp [plainName, overriddenIn]; done) | decide +kernel) | decide +kernel
theorem ef_17 (m : MethodId) (x0 : Addr) (x1 : Int32) : entryFrame m #[(.ref x0), (.int x1)] 2 = mkF m 0 #[.val (.ref x0), .val (.int x1)] [] := by first | (simp [entryFrame, mkF, argsToLocals, Value.category]; done) | rfl
set_option maxRecDepth 65536 in
set_option maxHeartbeats 40000000 in
theorem rm17 (l : Launch) (Z : State) (a0 : Array Value) (hw : ∀ d ∈ tables_1, d.before a0 Z = true) (ws : List Jvm.Cond) (a1 : Addr) (p2 : Int32) (i y : Addr) (K n : Nat) (f : Nat → Value) (h0 : Heap) (n0 : Nat) (Z0 : n0 ≤ h0.size) (F0 : Fld Z h0 a1 "com/example/olentangy/olentangy/engine/AttributeMap" "ids" "[Ljava/lang/String;" (.ref i)) (R0_ : RA Z h0 i "java/lang/String" n f) (hkx : ¬ p2 < 0 ∧ p2.toNatClampNeg = K) (hkn : K < n) (hy : f K = .ref y) :
    MetFree l (⟨"com/example/olentangy/olentangy/engine/AttributeMap", "id", "(I)Ljava/lang/String;"⟩ : MethodName) (head1 (Jvm.Cond.code (⟨"com/example/olentangy/olentangy/engine/AttributeMap", "id", "(I)Ljava/lang/String;"⟩ : MethodName) prog_38_method_3_code 2 (some (.object "java/lang/String")) :: ws) ({ frames := 0, cells := 0, slots := 0, locals := 0 } : Room)) (fun a U => a = #[(.ref a1), (.int p2)] ∧ Z.Warmed39 U.vm ∧ U.heap = h0) (fun _ _ _ _ _ => True) (fun _ U o U' => ∃ v L, o = .returned v ∧ Q17 y h0 n0 v U'.heap L ∧ FrameEnd U o U' L ({ frames := 0, cells := 0, slots := 0, locals := 0 } : Room).cells ({ frames := 0, cells := 0, slots := 0, locals := 0 } : Room).slots) := by
  refine MetFree.of_bodySF pn_17 hisR ?_
  intro p e s m args below meth c s₁ Bd hml0 hP hK
  obtain ⟨rfl, hZ, hh⟩ := hP
  have hx := Bd.exec
  have hby := Bd.bytes
  have hlk := Bd.notSynchronized
  have hret := Bd.returns
  have hml : c.maxLocals = 2 := hml0
  have hown : s.vm.findClass "com/example/olentangy/olentangy/engine/AttributeMap" = some m.cls := findClass_of_methodNamed Bd.named
  have hnm := (name_of_methodNamed Bd.named Bd.method).1
  have X0 : Stand p l e ({ frames := 0, cells := 0, slots := 0, locals := 0 } : Room) s m #[(.ref a1), (.int p2)] below meth c s₁ [] 0 0 := Stand.of_body Bd
  have e0 : s₁.heap = h0 := by rw [← hh, Bd.state]; rfl
  have N0 := Fr.nil n0
  show Go p e below (Pst s (Q17 y h0 n0) ({ frames := 0, cells := 0, slots := 0, locals := 0 } : Room).cells ({ frames := 0, cells := 0, slots := 0, locals := 0 } : Room).slots) (s₁.setTop (entryFrame m #[(.ref a1), (.int p2)] 2))
  refine Go.on (fun t k => castTop (ef_17 m a1 p2) k) ?_
  show Go p e below _ (s₁.setTop (mkF m 0 #[.val (.ref a1), .val (.int p2)] []))
  refine Go.on (fun t k => XS.aloadN X0.here hx rfl (hb hby d17_0) rfl rfl k) ?_
  show Go p e below _ (s₁.setTop (mkF m 1 #[.val (.ref a1), .val (.int p2)] [(.ref a1)]))
  obtain ⟨T1, X1, e1, st1⟩ := getF X0 hx hZ hown (host := "") (Or.inl (hw _ (List.mem_of_getElem? (i := 101) rfl))) Via.refl e0 F0 (g := (mkF m 1 #[.val (.ref a1), .val (.int p2)] [(.ref a1)])) rfl rfl (hb hby d17_1)
  refine Go.on st1 ?_
  show Go p e below _ (T1.setTop (mkF m 4 #[.val (.ref a1), .val (.int p2)] [(.ref i)]))
  refine Go.on (fun t k => XS.iloadN X1.here hx rfl (hb hby d17_4) rfl k) ?_
  show Go p e below _ (T1.setTop (mkF m 5 #[.val (.ref a1), .val (.int p2)] [(.int p2), (.ref i)]))
  refine Go.ldR X1 hx hZ e1 R0_ (i := K) hkx.1 hkx.2 hkn (hb hby d17_5) ?_
  rw [hy]
  show Go p e below _ (T1.setTop (mkF m 6 #[.val (.ref a1), .val (.int p2)] [(.ref y)]))
  exact Go.retA X1 hx hlk hret rfl rfl (hb hby d17_6) (Nat.le_refl _) (Nat.le_refl _) (show Q17 y h0 n0 _ _ _ from ⟨rfl, N0, e1⟩)
theorem d18_0 : decode prog_38_method_4_code 0 = .ok (.aload_n 0, 1) := by decide +kernel
theorem d18_1 : decode prog_38_method_4_code 1 = .ok (.getfield 22, 3) := by decide +kernel
theorem d18_4 : decode prog_38_method_4_code 4 = .ok (.iload_n 1, 1) := by decide +kernel
theorem d18_5 : decode prog_38_method_4_code 5 = .ok (.aaload, 1) := by decide +kernel
theorem d18_6 : decode prog_38_method_4_code 6 = .ok (.areturn, 1) := by decide +kernel
theorem pn_18 : plainFor (⟨"com/example/olentangy/olentangy/engine/AttributeMap", "values", "(I)Ljava/util/List;"⟩ : MethodName) = true := by first | exact plainFor_of_name (by first | (simp [plainName, overriddenIn]; done) | decide +kernel) | decide +kernel
theorem ef_18 (m : MethodId) (x0 : Addr) (x1 : Int32) : entryFrame m #[(.ref x0), (.int x1)] 2 = mkF m 0 #[.val (.ref x0), .val (.int x1)] [] := by first | (simp [entryFrame, mkF, argsToLocals, Value.category]; done) | rfl
set_option maxRecDepth 65536 in
set_option maxHeartbeats 40000000 in
theorem rm18 (l : Launch) (Z : State) (a0 : Array Value) (hw : ∀ d ∈ tables_1, d.before a0 Z = true) (ws : List Jvm.Cond) (a1 : Addr) (p2 : Int32) (i y : Addr) (K n : Nat) (f : Nat → Value) (h0 : Heap) (n0 : Nat) (Z0 : n0 ≤ h0.size) (F0 : Fld Z h0 a1 "com/example/olentangy/olentangy/engine/AttributeMap" "values" "[Ljava/util/List;" (.ref i)) (R0_ : RA Z h0 i "java/util/List" n f) (hkx : ¬ p2 < 0 ∧ p2.toNatClampNeg = K) (hkn : K < n) (hy : f K = .ref y) :
    MetFree l (⟨"com/example/olentangy/olentangy/engine/AttributeMap", "values", "(I)Ljava/util/List;"⟩ : MethodName) (head1 (Jvm.Cond.code (⟨"com/example/olentangy/olentangy/engine/AttributeMap", "values", "(I)Ljava/util/List;"⟩ : MethodName) prog_38_method_4_code 2 (some (.object "java/util/List")) :: ws) ({ frames := 0, cells := 0, slots := 0, locals := 0 } : Room)) (fun a U => a = #[(.ref a1), (.int p2)] ∧ Z.Warmed39 U.vm ∧ U.heap = h0) (fun _ _ _ _ _ => True) (fun _ U o U' => ∃ v L, o = .returned v ∧ Q17 y h0 n0 v U'.heap L ∧ FrameEnd U o U' L ({ frames := 0, cells := 0, slots := 0, locals := 0 } : Room).cells ({ frames := 0, cells := 0, slots := 0, locals := 0 } : Room).slots) := by
  refine MetFree.of_bodySF pn_18 hisR ?_
  intro p e s m args below meth c s₁ Bd hml0 hP hK
  obtain ⟨rfl, hZ, hh⟩ := hP
  have hx := Bd.exec
  have hby := Bd.bytes
  have hlk := Bd.notSynchronized
  have hret := Bd.returns
  have hml : c.maxLocals = 2 := hml0
  have hown : s.vm.findClass "com/example/olentangy/olentangy/engine/AttributeMap" = some m.cls := findClass_of_methodNamed Bd.named
  have hnm := (name_of_methodNamed Bd.named Bd.method).1
  have X0 : Stand p l e ({ frames := 0, cells := 0, slots := 0, locals := 0 } : Room) s m #[(.ref a1), (.int p2)] below meth c s₁ [] 0 0 := Stand.of_body Bd
  have e0 : s₁.heap = h0 := by rw [← hh, Bd.state]; rfl
  have N0 := Fr.nil n0
  show Go p e below (Pst s (Q17 y h0 n0) ({ frames := 0, cells := 0, slots := 0, locals := 0 } : Room).cells ({ frames := 0, cells := 0, slots := 0, locals := 0 } : Room).slots) (s₁.setTop (entryFrame m #[(.ref a1), (.int p2)] 2))
  refine Go.on (fun t k => castTop (ef_18 m a1 p2) k) ?_
  show Go p e below _ (s₁.setTop (mkF m 0 #[.val (.ref a1), .val (.int p2)] []))
  refine Go.on (fun t k => XS.aloadN X0.here hx rfl (hb hby d18_0) rfl rfl k) ?_
  show Go p e below _ (s₁.setTop (mkF m 1 #[.val (.ref a1), .val (.int p2)] [(.ref a1)]))
  obtain ⟨T1, X1, e1, st1⟩ := getF X0 hx hZ hown (host := "") (Or.inl (hw _ (List.mem_of_getElem? (i := 103) rfl))) Via.refl e0 F0 (g := (mkF m 1 #[.val (.ref a1), .val (.int p2)] [(.ref a1)])) rfl rfl (hb hby d18_1)
  refine Go.on st1 ?_
  show Go p e below _ (T1.setTop (mkF m 4 #[.val (.ref a1), .val (.int p2)] [(.ref i)]))
  refine Go.on (fun t k => XS.iloadN X1.here hx rfl (hb hby d18_4) rfl k) ?_
  show Go p e below _ (T1.setTop (mkF m 5 #[.val (.ref a1), .val (.int p2)] [(.int p2), (.ref i)]))
  refine Go.ldR X1 hx hZ e1 R0_ (i := K) hkx.1 hkx.2 hkn (hb hby d18_5) ?_
  rw [hy]
  show Go p e below _ (T1.setTop (mkF m 6 #[.val (.ref a1), .val (.int p2)] [(.ref y)]))
  exact Go.retA X1 hx hlk hret rfl rfl (hb hby d18_6) (Nat.le_refl _) (Nat.le_refl _) (show Q17 y h0 n0 _ _ _ from ⟨rfl, N0, e1⟩)
def own_n (x : Int32) : Int32 := x &&& (3 : Int32)
def own_cap (x y : Int32) : Int32 := own_n x + (y &&& (1 : Int32))
theorem own_n_rng (x : Int32) : 0 ≤ (own_n x).toInt ∧ (own_n x).toInt ≤ 3 := by
  have z : (3 : Int32).toInt = 3 := by decide
  have := c_and x 3 (by decide)
  unfold own_n
  omega
theorem own_cap_rng (x y : Int32) : (own_n x).toInt ≤ (own_cap x y).toInt ∧ (own_cap x y).toInt ≤ 4 := by
  have h1 := own_n_rng x
  have z : (1 : Int32).toInt = 1 := by decide
  have h2 := c_and y 1 (by decide)
  have c := c_iadd (own_n x) (y &&& (1 : Int32))
  have b := rng32 (own_n x + (y &&& (1 : Int32)))
  unfold own_cap
  omega
theorem own_chr (x : Int32) : ¬ (255 : Int32) < ((x &&& (255 : Int32)).toUInt32.toUInt16.toUInt32.toInt32) := by
  rw [i2c_mask]
  intro h
  have h2 := Int32.lt_iff_toInt_lt.mp h
  have h3 := c_and x 255 (by decide)
  have z : (255 : Int32).toInt = 255 := by decide
  omega
def Q0 (n0 : Nat) (v : Option Value) (h : Heap) (L : List Loc) : Prop := v = some (.int 1) ∧ Fr n0 L
theorem pn_0 : plainFor x = true := by first | exact plainFor_of_name (by first | (simp [plainName, overriddenIn]; done) | decide +kernel) | decide +kernel
theorem ef_0 (m : MethodId) (x0 : Int32) (x1 : Int32) (x2 : Int32) (x3 : Int32) (x4 : Int32) : entryFrame m #[(.int x0), (.int x1), (.int x2), (.int x3), (.int x4)] maxLocals = mkF m 0 #[.val (.int x0), .val (.int x1), .val (.int x2), .val (.int x3), .val (.int x4), .unset, .unset, .unset, .unset, .unset, .unset, .unset, .unset, .unset, .unset, .unset] [] := by first | (simp [entryFrame, mkF, argsToLocals, Value.category, maxLocals]; done) | rfl
set_option maxRecDepth 65536 in
set_option maxHeartbeats 40000000 in
theorem rm0 (l : Launch) (Z : State) (a0 : Array Value) (hw : ∀ d ∈ tables_1, d.before a0 Z = true) (ws : List Jvm.Cond) (p1 p2 p3 p4 p5 u : Int32) (wd : Addr) (h0 : Heap) (n0 : Nat) (Z0 : n0 ≤ h0.size) (hu : ¬ u = (0 : Int32)) (SC : Sta Z h0 "java/lang/String" "COMPACT_STRINGS" "Z" (.int u)) (SD : Sta Z h0 "java/util/ArrayList" "DEFAULTCAPACITY_EMPTY_ELEMENTDATA" "[Ljava/lang/Object;" (.ref wd)) :
    MetFree l x (head1 (Jvm.Cond.code x code maxLocals ret :: ws) room_1) (fun a U => a = #[(.int p1), (.int p2), (.int p3), (.int p4), (.int p5)] ∧ Z.Warmed39 U.vm ∧ U.heap = h0) (fun _ _ _ _ _ => True) (fun _ U o U' => ∃ v L, o = .returned v ∧ Q0 n0 v U'.heap L ∧ FrameEnd U o U' L 40 192) := by
  refine MetFree.of_bodySF pn_0 hisR ?_
  intro p e s m args below meth c s₁ Bd hml0 hP hK
  obtain ⟨rfl, hZ, hh⟩ := hP
  have hx := Bd.exec
  have hby := Bd.bytes
  have hlk := Bd.notSynchronized
  have hret := Bd.returns
  have hml : c.maxLocals = 16 := hml0
  have hown : s.vm.findClass "com/example/olentangy/olentangy/engine/BuilderAddPinLaw" = some m.cls := findClass_of_methodNamed Bd.named
  have hnm := (name_of_methodNamed Bd.named Bd.method).1
  have X0 : Stand p l e room_1 s m #[(.int p1), (.int p2), (.int p3), (.int p4), (.int p5)] below meth c s₁ [] 0 0 := Stand.of_body Bd
  have e0 : s₁.heap = h0 := by rw [← hh, Bd.state]; rfl
  have N0 := Fr.nil n0
  show Go p e below (Pst s (Q0 n0) 40 192) (s₁.setTop (entryFrame m #[(.int p1), (.int p2), (.int p3), (.int p4), (.int p5)] maxLocals))
  refine Go.on (fun t k => castTop (ef_0 m p1 p2 p3 p4 p5) k) ?_
  show Go p e below _ (s₁.setTop (mkF m 0 #[.val (.int p1), .val (.int p2), .val (.int p3), .val (.int p4), .val (.int p5), .unset, .unset, .unset, .unset, .unset, .unset, .unset, .unset, .unset, .unset, .unset] []))
  refine Go.on (fun t k => XS.iloadN X0.here hx rfl (hb hby at_0) rfl k) ?_
  show Go p e below _ (s₁.setTop (mkF m 1 #[.val (.int p1), .val (.int p2), .val (.int p3), .val (.int p4), .val (.int p5), .unset, .unset, .unset, .unset, .unset, .unset, .unset, .unset, .unset, .unset, .unset] [(.int p1)]))
  refine Go.on (fun t k => XS.iconst X0.here hx rfl (hb hby at_1) k) ?_
  show Go p e below _ (s₁.setTop (mkF m 2 #[.val (.int p1), .val (.int p2), .val (.int p3), .val (.int p4), .val (.int p5), .unset, .unset, .unset, .unset, .unset, .unset, .unset, .unset, .unset, .unset, .unset] [(.int (3 : Int32)), (.int p1)]))
  refine Go.on (fun t k => XS.iand X0.here hx rfl (hb hby at_2) rfl k) ?_
  show Go p e below _ (s₁.setTop (mkF m 3 #[.val (.int p1), .val (.int p2), .val (.int p3), .val (.int p4), .val (.int p5), .unset, .unset, .unset, .unset, .unset, .unset, .unset, .unset, .unset, .unset, .unset] [(.int (own_n p1))]))
  refine Go.on (fun t k => XS.istore X0.here hx rfl (hb hby at_3) rfl (l' := #[.val (.int p1), .val (.int p2), .val (.int p3), .val (.int p4), .val (.int p5), .val (.int (own_n p1)), .unset, .unset, .unset, .unset, .unset, .unset, .unset, .unset, .unset, .unset]) rfl k) ?_
  show Go p e below _ (s₁.setTop (mkF m 5 #[.val (.int p1), .val (.int p2), .val (.int p3), .val (.int p4), .val (.int p5), .val (.int (own_n p1)), .unset, .unset, .unset, .unset, .unset, .unset, .unset, .unset, .unset, .unset] []))
  refine Go.on (fun t k => XS.iload X0.here hx rfl (hb hby at_5) rfl k) ?_
  show Go p e below _ (s₁.setTop (mkF m 7 #[.val (.int p1), .val (.int p2), .val (.int p3), .val (.int p4), .val (.int p5), .val (.int (own_n p1)), .unset, .unset, .unset, .unset, .unset, .unset, .unset, .unset, .unset, .unset] [(.int (own_n p1))]))
  refine Go.on (fun t k => XS.iloadN X0.here hx rfl (hb hby at_7) rfl k) ?_
  show Go p e below _ (s₁.setTop (mkF m 8 #[.val (.int p1), .val (.int p2), .val (.int p3), .val (.int p4), .val (.int p5), .val (.int (own_n p1)), .unset, .unset, .unset, .unset, .unset, .unset, .unset, .unset, .unset, .unset] [(.int p2), (.int (own_n p1))]))
  refine Go.on (fun t k => XS.iconst X0.here hx rfl (hb hby at_8) k) ?_
  show Go p e below _ (s₁.setTop (mkF m 9 #[.val (.int p1), .val (.int p2), .val (.int p3), .val (.int p4), .val (.int p5), .val (.int (own_n p1)), .unset, .unset, .unset, .unset, .unset, .unset, .unset, .unset, .unset, .unset] [(.int (1 : Int32)), (.int p2), (.int (own_n p1))]))
  refine Go.on (fun t k => XS.iand X0.here hx rfl (hb hby at_9) rfl k) ?_
  show Go p e below _ (s₁.setTop (mkF m 10 #[.val (.int p1), .val (.int p2), .val (.int p3), .val (.int p4), .val (.int p5), .val (.int (own_n p1)), .unset, .unset, .unset, .unset, .unset, .unset, .unset, .unset, .unset, .unset] [(.int (p2 &&& (1 : Int32))), (.int (own_n p1))]))
  refine Go.on (fun t k => XS.iadd X0.here hx rfl (hb hby at_10) rfl k) ?_
  show Go p e below _ (s₁.setTop (mkF m 11 #[.val (.int p1), .val (.int p2), .val (.int p3), .val (.int p4), .val (.int p5), .val (.int (own_n p1)), .unset, .unset, .unset, .unset, .unset, .unset, .unset, .unset, .unset, .unset] [(.int (own_cap p1 p2))]))
  refine Go.on (fun t k => XS.istore X0.here hx rfl (hb hby at_11) rfl (l' := #[.val (.int p1), .val (.int p2), .val (.int p3), .val (.int p4), .val (.int p5), .val (.int (own_n p1)), .val (.int (own_cap p1 p2)), .unset, .unset, .unset, .unset, .unset, .unset, .unset, .unset, .unset]) rfl k) ?_
  show Go p e below _ (s₁.setTop (mkF m 13 #[.val (.int p1), .val (.int p2), .val (.int p3), .val (.int p4), .val (.int p5), .val (.int (own_n p1)), .val (.int (own_cap p1 p2)), .unset, .unset, .unset, .unset, .unset, .unset, .unset, .unset, .unset] []))
  refine Go.on (fun t k => XS.iloadN X0.here hx rfl (hb hby at_13) rfl k) ?_
  show Go p e below _ (s₁.setTop (mkF m 14 #[.val (.int p1), .val (.int p2), .val (.int p3), .val (.int p4), .val (.int p5), .val (.int (own_n p1)), .val (.int (own_cap p1 p2)), .unset, .unset, .unset, .unset, .unset, .unset, .unset, .unset, .unset] [(.int p3)]))
  refine Go.on (fun t k => XS.sipush X0.here hx rfl (hb hby at_14) k) ?_
  show Go p e below _ (s₁.setTop (mkF m 17 #[.val (.int p1), .val (.int p2), .val (.int p3), .val (.int p4), .val (.int p5), .val (.int (own_n p1)), .val (.int (own_cap p1 p2)), .unset, .unset, .unset, .unset, .unset, .unset, .unset, .unset, .unset] [(.int (255 : Int32)), (.int p3)]))
  refine Go.on (fun t k => XS.iand X0.here hx rfl (hb hby at_17) rfl k) ?_
  show Go p e below _ (s₁.setTop (mkF m 18 #[.val (.int p1), .val (.int p2), .val (.int p3), .val (.int p4), .val (.int p5), .val (.int (own_n p1)), .val (.int (own_cap p1 p2)), .unset, .unset, .unset, .unset, .unset, .unset, .unset, .unset, .unset] [(.int (p3 &&& (255 : Int32)))]))
  refine Go.on (fun t k => XS.i2c X0.here hx rfl (hb hby at_18) rfl k) ?_
  show Go p e below _ (s₁.setTop (mkF m 19 #[.val (.int p1), .val (.int p2), .val (.int p3), .val (.int p4), .val (.int p5), .val (.int (own_n p1)), .val (.int (own_cap p1 p2)), .unset, .unset, .unset, .unset, .unset, .unset, .unset, .unset, .unset] [(.int ((p3 &&& (255 : Int32)).toUInt32.toUInt16.toUInt32.toInt32))]))
  obtain ⟨_, _, ⟨T1, L1, k1, n1⟩, -, X1, ⟨Lc1, hQ1, l1, y1, z1⟩, st1⟩ := Jvm.LawKit.callS X0 hx (y := (⟨"java/lang/String", "valueOf", "(C)Ljava/lang/String;"⟩ : MethodName)) hown (mvT hZ (hw _ (List.mem_of_getElem? (i := 0) rfl))) (mvT hZ (hw _ (List.mem_of_getElem? (i := 1) rfl))) (mvT hZ (hw _ (List.mem_of_getElem? (i := 2) rfl))) (mvT hZ (hw _ (List.mem_of_getElem? (i := 3) rfl))) (by decide) (backOf (W := 0) (rm1 l Z a0 hw [] ((p3 &&& (255 : Int32)).toUInt32.toUInt16.toUInt32.toInt32) u h0 n0 Z0 (own_chr p3) hu SC) hZ (hw _ (List.mem_of_getElem? (i := 3) rfl)) (hw _ (List.mem_of_getElem? (i := 2) rfl)) (by decide) (by decide)) (g := (mkF m 19 #[.val (.int p1), .val (.int p2), .val (.int p3), .val (.int p4), .val (.int p5), .val (.int (own_n p1)), .val (.int (own_cap p1 p2)), .unset, .unset, .unset, .unset, .unset, .unset, .unset, .unset, .unset] [(.int ((p3 &&& (255 : Int32)).toUInt32.toUInt16.toUInt32.toInt32))])) rfl (by rw [hml]; rfl) (argsL := [(.int ((p3 &&& (255 : Int32)).toUInt32.toUInt16.toUInt32.toInt32))]) (rest := []) (lenOf pd_7 rfl) rfl (by show 2 * 0 + _ ≤ _; exact Nat.le_of_eq rfl) (hb hby at_19) (fun _ _ => ⟨rfl, e0, (by decide : 0 + 2 ≤ _), (by decide : 0 + 5 ≤ _)⟩)
  dsimp only [Pt.U, Pt.locs, Pt.cells, Pt.slots] at X1 l1 y1 z1 st1 hQ1
  subst l1 y1 z1
  obtain ⟨b1, rfl, N1q, K1, ES0_1⟩ := hQ1
  have N1 := Fr.app N0 N1q
  refine Go.on st1 ?_
  show Go p e below _ (T1.setTop (mkF m 22 #[.val (.int p1), .val (.int p2), .val (.int p3), .val (.int p4), .val (.int p5), .val (.int (own_n p1)), .val (.int (own_cap p1 p2)), .unset, .unset, .unset, .unset, .unset, .unset, .unset, .unset, .unset] [(.ref b1)]))
  have SC_1 := own_sta SC K1 (fun z hz => by cases hz)
  have SD_1 := own_sta SD K1 (fun z hz => by cases hz)
  have Zc1 : n0 ≤ T1.heap.size := Nat.le_trans Z0 K1.1
  refine Go.on (fun t k => XS.astore X1.here hx rfl (hb hby at_22) rfl rfl (l' := #[.val (.int p1), .val (.int p2), .val (.int p3), .val (.int p4), .val (.int p5), .val (.int (own_n p1)), .val (.int (own_cap p1 p2)), .val (.ref b1), .unset, .unset, .unset, .unset, .unset, .unset, .unset, .unset]) rfl k) ?_
  show Go p e below _ (T1.setTop (mkF m 24 #[.val (.int p1), .val (.int p2), .val (.int p3), .val (.int p4), .val (.int p5), .val (.int (own_n p1)), .val (.int (own_cap p1 p2)), .val (.ref b1), .unset, .unset, .unset, .unset, .unset, .unset, .unset, .unset] []))
  refine Go.on (fun t k => XS.iloadN X1.here hx rfl (hb hby at_24) rfl k) ?_
  show Go p e below _ (T1.setTop (mkF m 25 #[.val (.int p1), .val (.int p2), .val (.int p3), .val (.int p4), .val (.int p5), .val (.int (own_n p1)), .val (.int (own_cap p1 p2)), .val (.ref b1), .unset, .unset, .unset, .unset, .unset, .unset, .unset, .unset] [(.int p4)]))
  refine Go.on (fun t k => XS.sipush X1.here hx rfl (hb hby at_25) k) ?_
  show Go p e below _ (T1.setTop (mkF m 28 #[.val (.int p1), .val (.int p2), .val (.int p3), .val (.int p4), .val (.int p5), .val (.int (own_n p1)), .val (.int (own_cap p1 p2)), .val (.ref b1), .unset, .unset, .unset, .unset, .unset, .unset, .unset, .unset] [(.int (255 : Int32)), (.int p4)]))
  refine Go.on (fun t k => XS.iand X1.here hx rfl (hb hby at_28) rfl k) ?_
  show Go p e below _ (T1.setTop (mkF m 29 #[.val (.int p1), .val (.int p2), .val (.int p3), .val (.int p4), .val (.int p5), .val (.int (own_n p1)), .val (.int (own_cap p1 p2)), .val (.ref b1), .unset, .unset, .unset, .unset, .unset, .unset, .unset, .unset] [(.int (p4 &&& (255 : Int32)))]))
  refine Go.on (fun t k => XS.i2c X1.here hx rfl (hb hby at_29) rfl k) ?_
  show Go p e below _ (T1.setTop (mkF m 30 #[.val (.int p1), .val (.int p2), .val (.int p3), .val (.int p4), .val (.int p5), .val (.int (own_n p1)), .val (.int (own_cap p1 p2)), .val (.ref b1), .unset, .unset, .unset, .unset, .unset, .unset, .unset, .unset] [(.int ((p4 &&& (255 : Int32)).toUInt32.toUInt16.toUInt32.toInt32))]))
  obtain ⟨_, _, ⟨T2, L2, k2, n2⟩, -, X2, ⟨Lc2, hQ2, l2, y2, z2⟩, st2⟩ := Jvm.LawKit.callS X1 hx (y := (⟨"java/lang/String", "valueOf", "(C)Ljava/lang/String;"⟩ : MethodName)) hown (mvT hZ (hw _ (List.mem_of_getElem? (i := 0) rfl))) (mvT hZ (hw _ (List.mem_of_getElem? (i := 1) rfl))) (mvT hZ (hw _ (List.mem_of_getElem? (i := 2) rfl))) (mvT hZ (hw _ (List.mem_of_getElem? (i := 3) rfl))) (by decide) (backOf (W := 0) (rm1 l Z a0 hw [] ((p4 &&& (255 : Int32)).toUInt32.toUInt16.toUInt32.toInt32) u T1.heap n0 Zc1 (own_chr p4) hu SC_1) hZ (hw _ (List.mem_of_getElem? (i := 3) rfl)) (hw _ (List.mem_of_getElem? (i := 2) rfl)) (by decide) (by decide)) (g := (mkF m 30 #[.val (.int p1), .val (.int p2), .val (.int p3), .val (.int p4), .val (.int p5), .val (.int (own_n p1)), .val (.int (own_cap p1 p2)), .val (.ref b1), .unset, .unset, .unset, .unset, .unset, .unset, .unset, .unset] [(.int ((p4 &&& (255 : Int32)).toUInt32.toUInt16.toUInt32.toInt32))])) rfl (by rw [hml]; rfl) (argsL := [(.int ((p4 &&& (255 : Int32)).toUInt32.toUInt16.toUInt32.toInt32))]) (rest := []) (lenOf pd_7 rfl) rfl (by show 2 * 0 + _ ≤ _; exact Nat.le_of_eq rfl) (hb hby at_30) (fun _ _ => ⟨rfl, (rfl : T1.heap = T1.heap), (by decide : 2 + 2 ≤ _), (by decide : 5 + 5 ≤ _)⟩)
  dsimp only [Pt.U, Pt.locs, Pt.cells, Pt.slots] at X2 l2 y2 z2 st2 hQ2
  subst l2 y2 z2
  obtain ⟨b2, rfl, N2q, K2, ES1_2⟩ := hQ2
  have N2 := Fr.app N1 N2q
  refine Go.on st2 ?_
  show Go p e below _ (T2.setTop (mkF m 33 #[.val (.int p1), .val (.int p2), .val (.int p3), .val (.int p4), .val (.int p5), .val (.int (own_n p1)), .val (.int (own_cap p1 p2)), .val (.ref b1), .unset, .unset, .unset, .unset, .unset, .unset, .unset, .unset] [(.ref b2)]))
  have SC_2 := own_sta SC_1 K2 (fun z hz => by cases hz)
  have SD_2 := own_sta SD_1 K2 (fun z hz => by cases hz)
  have ES0_2 := ES0_1.keep K2
  have Zc2 : n0 ≤ T2.heap.size := Nat.le_trans Zc1 K2.1
  refine Go.on (fun t k => XS.astore X2.here hx rfl (hb hby at_33) rfl rfl (l' := #[.val (.int p1), .val (.int p2), .val (.int p3), .val (.int p4), .val (.int p5), .val (.int (own_n p1)), .val (.int (own_cap p1 p2)), .val (.ref b1), .val (.ref b2), .unset, .unset, .unset, .unset, .unset, .unset, .unset]) rfl k) ?_
  show Go p e below _ (T2.setTop (mkF m 35 #[.val (.int p1), .val (.int p2), .val (.int p3), .val (.int p4), .val (.int p5), .val (.int (own_n p1)), .val (.int (own_cap p1 p2)), .val (.ref b1), .val (.ref b2), .unset, .unset, .unset, .unset, .unset, .unset, .unset] []))
  refine Go.on (fun t k => XS.iload X2.here hx rfl (hb hby at_35) rfl k) ?_
  show Go p e below _ (T2.setTop (mkF m 37 #[.val (.int p1), .val (.int p2), .val (.int p3), .val (.int p4), .val (.int p5), .val (.int (own_n p1)), .val (.int (own_cap p1 p2)), .val (.ref b1), .val (.ref b2), .unset, .unset, .unset, .unset, .unset, .unset, .unset] [(.int p5)]))
  refine Go.on (fun t k => XS.sipush X2.here hx rfl (hb hby at_37) k) ?_
  show Go p e below _ (T2.setTop (mkF m 40 #[.val (.int p1), .val (.int p2), .val (.int p3), .val (.int p4), .val (.int p5), .val (.int (own_n p1)), .val (.int (own_cap p1 p2)), .val (.ref b1), .val (.ref b2), .unset, .unset, .unset, .unset, .unset, .unset, .unset] [(.int (255 : Int32)), (.int p5)]))
  refine Go.on (fun t k => XS.iand X2.here hx rfl (hb hby at_40) rfl k) ?_
  show Go p e below _ (T2.setTop (mkF m 41 #[.val (.int p1), .val (.int p2), .val (.int p3), .val (.int p4), .val (.int p5), .val (.int (own_n p1)), .val (.int (own_cap p1 p2)), .val (.ref b1), .val (.ref b2), .unset, .unset, .unset, .unset, .unset, .unset, .unset] [(.int (p5 &&& (255 : Int32)))]))
  refine Go.on (fun t k => XS.i2c X2.here hx rfl (hb hby at_41) rfl k) ?_
  show Go p e below _ (T2.setTop (mkF m 42 #[.val (.int p1), .val (.int p2), .val (.int p3), .val (.int p4), .val (.int p5), .val (.int (own_n p1)), .val (.int (own_cap p1 p2)), .val (.ref b1), .val (.ref b2), .unset, .unset, .unset, .unset, .unset, .unset, .unset] [(.int ((p5 &&& (255 : Int32)).toUInt32.toUInt16.toUInt32.toInt32))]))
  obtain ⟨_, _, ⟨T3, L3, k3, n3⟩, -, X3, ⟨Lc3, hQ3, l3, y3, z3⟩, st3⟩ := Jvm.LawKit.callS X2 hx (y := (⟨"java/lang/String", "valueOf", "(C)Ljava/lang/String;"⟩ : MethodName)) hown (mvT hZ (hw _ (List.mem_of_getElem? (i := 0) rfl))) (mvT hZ (hw _ (List.mem_of_getElem? (i := 1) rfl))) (mvT hZ (hw _ (List.mem_of_getElem? (i := 2) rfl))) (mvT hZ (hw _ (List.mem_of_getElem? (i := 3) rfl))) (by decide) (backOf (W := 0) (rm1 l Z a0 hw [] ((p5 &&& (255 : Int32)).toUInt32.toUInt16.toUInt32.toInt32) u T2.heap n0 Zc2 (own_chr p5) hu SC_2) hZ (hw _ (List.mem_of_getElem? (i := 3) rfl)) (hw _ (List.mem_of_getElem? (i := 2) rfl)) (by decide) (by decide)) (g := (mkF m 42 #[.val (.int p1), .val (.int p2), .val (.int p3), .val (.int p4), .val (.int p5), .val (.int (own_n p1)), .val (.int (own_cap p1 p2)), .val (.ref b1), .val (.ref b2), .unset, .unset, .unset, .unset, .unset, .unset, .unset] [(.int ((p5 &&& (255 : Int32)).toUInt32.toUInt16.toUInt32.toInt32))])) rfl (by rw [hml]; rfl) (argsL := [(.int ((p5 &&& (255 : Int32)).toUInt32.toUInt16.toUInt32.toInt32))]) (rest := []) (lenOf pd_7 rfl) rfl (by show 2 * 0 + _ ≤ _; exact Nat.le_of_eq rfl) (hb hby at_42) (fun _ _ => ⟨rfl, (rfl : T2.heap = T2.heap), (by decide : 4 + 2 ≤ _), (by decide : 10 + 5 ≤ _)⟩)
  dsimp only [Pt.U, Pt.locs, Pt.cells, Pt.slots] at X3 l3 y3 z3 st3 hQ3
  subst l3 y3 z3
  obtain ⟨b3, rfl, N3q, K3, ES2_3⟩ := hQ3
  have N3 := Fr.app N2 N3q
  refine Go.on st3 ?_
  show Go p e below _ (T3.setTop (mkF m 45 #[.val (.int p1), .val (.int p2), .val (.int p3), .val (.int p4), .val (.int p5), .val (.int (own_n p1)), .val (.int (own_cap p1 p2)), .val (.ref b1), .val (.ref b2), .unset, .unset, .unset, .unset, .unset, .unset, .unset] [(.ref b3)]))
  have SC_3 := own_sta SC_2 K3 (fun z hz => by cases hz)
  have SD_3 := own_sta SD_2 K3 (fun z hz => by cases hz)
  have ES0_3 := ES0_2.keep K3
  have ES1_3 := ES1_2.keep K3
  have Zc3 : n0 ≤ T3.heap.size := Nat.le_trans Zc2 K3.1
  refine Go.on (fun t k => XS.astore X3.here hx rfl (hb hby at_45) rfl rfl (l' := #[.val (.int p1), .val (.int p2), .val (.int p3), .val (.int p4), .val (.int p5), .val (.int (own_n p1)), .val (.int (own_cap p1 p2)), .val (.ref b1), .val (.ref b2), .val (.ref b3), .unset, .unset, .unset, .unset, .unset, .unset]) rfl k) ?_
  show Go p e below _ (T3.setTop (mkF m 47 #[.val (.int p1), .val (.int p2), .val (.int p3), .val (.int p4), .val (.int p5), .val (.int (own_n p1)), .val (.int (own_cap p1 p2)), .val (.ref b1), .val (.ref b2), .val (.ref b3), .unset, .unset, .unset, .unset, .unset, .unset] []))
  obtain ⟨T4, h4, X4, e4, E4, A4, D4, -, st4⟩ := newO X3 hx hZ hown (hw _ (List.mem_of_getElem? (i := 26) rfl)) (hw _ (List.mem_of_getElem? (i := 27) rfl)) (hw _ (List.mem_of_getElem? (i := 28) rfl)) (rfl : T3.heap = T3.heap) (g := (mkF m 47 #[.val (.int p1), .val (.int p2), .val (.int p3), .val (.int p4), .val (.int p5), .val (.int (own_n p1)), .val (.int (own_cap p1 p2)), .val (.ref b1), .val (.ref b2), .val (.ref b3), .unset, .unset, .unset, .unset, .unset, .unset] [])) rfl (hb hby at_47) (by decide) (by decide)
  obtain ⟨a4, g4⟩ : ∃ z, z = T3.heap.size := ⟨_, rfl⟩
  rw [← g4] at A4 D4 st4
  have Z4 : n0 ≤ h4.size := Nat.le_trans Zc3 E4.1
  have G4 : n0 ≤ a4 := Nat.le_trans Zc3 (Nat.le_of_eq g4.symm)
  have SC_4 := SC_3.ext E4
  have SD_4 := SD_3.ext E4
  have ES0_4 := ES0_3.ext E4
  have ES1_4 := ES1_3.ext E4
  have ES2_4 := ES2_3.ext E4
  refine Go.on st4 ?_
  show Go p e below _ (T4.setTop (mkF m 50 #[.val (.int p1), .val (.int p2), .val (.int p3), .val (.int p4), .val (.int p5), .val (.int (own_n p1)), .val (.int (own_cap p1 p2)), .val (.ref b1), .val (.ref b2), .val (.ref b3), .unset, .unset, .unset, .unset, .unset, .unset] [(.ref a4)]))
  refine Go.on (fun t k => XS.dup X4.here hx rfl (hb hby at_50) rfl rfl k) ?_
  show Go p e below _ (T4.setTop (mkF m 51 #[.val (.int p1), .val (.int p2), .val (.int p3), .val (.int p4), .val (.int p5), .val (.int (own_n p1)), .val (.int (own_cap p1 p2)), .val (.ref b1), .val (.ref b2), .val (.ref b3), .unset, .unset, .unset, .unset, .unset, .unset] [(.ref a4), (.ref a4)]))
  obtain ⟨_, _, ⟨T5, L5, k5, n5⟩, -, X5, ⟨Lc5, hQ5, l5, y5, z5⟩, st5⟩ := X4.specialBack hx (y := (⟨"java/util/ArrayList", "<init>", "()V"⟩ : MethodName)) rfl hown (mvT hZ (hw _ (List.mem_of_getElem? (i := 29) rfl))) (mvT hZ (hw _ (List.mem_of_getElem? (i := 30) rfl))) (mvT hZ (hw _ (List.mem_of_getElem? (i := 31) rfl))) (by decide) (backOf (W := 1) (rm6 l Z a0 hw [] a4 _ _ wd h4 n0 Z4 A4 (D4 (Or.inl (hw _ (List.mem_of_getElem? (i := 46) rfl))) (ty := .int) (by decide)) (D4 (Or.inl (hw _ (List.mem_of_getElem? (i := 49) rfl))) (ty := (.array (.object "java/lang/Object"))) (by decide)) SD_4 G4) hZ (hw _ (List.mem_of_getElem? (i := 31) rfl)) (hw _ (List.mem_of_getElem? (i := 28) rfl)) (by decide) (by decide)) (g := (mkF m 51 #[.val (.int p1), .val (.int p2), .val (.int p3), .val (.int p4), .val (.int p5), .val (.int (own_n p1)), .val (.int (own_cap p1 p2)), .val (.ref b1), .val (.ref b2), .val (.ref b3), .unset, .unset, .unset, .unset, .unset, .unset] [(.ref a4), (.ref a4)])) rfl (by rw [hml]; rfl) (Steps.refl _) (a := a4) (argsL := []) (rest := [(.ref a4)]) (lenOf pd_4 rfl) rfl (by show 2 * 0 + _ ≤ _; exact Nat.le_of_eq rfl) (hb hby at_51) (fun _ _ => ⟨rfl, e4, (by decide : 7 + 0 ≤ _), (by decide : 18 + 0 ≤ _)⟩)
  dsimp only [Pt.U, Pt.locs, Pt.cells, Pt.slots] at X5 l5 y5 z5 st5 hQ5
  subst l5 y5 z5
  obtain ⟨rfl, N5q, K5, EL0_5⟩ := hQ5
  have N5 := Fr.app N3 N5q
  refine Go.st st5 ?_
  show Go p e below _ (T5.setTop (mkF m 54 #[.val (.int p1), .val (.int p2), .val (.int p3), .val (.int p4), .val (.int p5), .val (.int (own_n p1)), .val (.int (own_cap p1 p2)), .val (.ref b1), .val (.ref b2), .val (.ref b3), .unset, .unset, .unset, .unset, .unset, .unset] [(.ref a4)]))
  have SC_5 := own_sta SC_4 K5 (fun z hz => by cases List.mem_singleton.mp hz; exact Or.inl ⟨_, A4⟩)
  have SD_5 := own_sta SD_4 K5 (fun z hz => by cases List.mem_singleton.mp hz; exact Or.inl ⟨_, A4⟩)
  have ES0_5 := ES0_4.keep K5
  have ES1_5 := ES1_4.keep K5
  have ES2_5 := ES2_4.keep K5
  have Zc5 : n0 ≤ T5.heap.size := Nat.le_trans Z4 K5.1
  refine Go.on (fun t k => XS.astore X5.here hx rfl (hb hby at_54) rfl rfl (l' := #[.val (.int p1), .val (.int p2), .val (.int p3), .val (.int p4), .val (.int p5), .val (.int (own_n p1)), .val (.int (own_cap p1 p2)), .val (.ref b1), .val (.ref b2), .val (.ref b3), .val (.ref a4), .unset, .unset, .unset, .unset, .unset]) rfl k) ?_
  show Go p e below _ (T5.setTop (mkF m 56 #[.val (.int p1), .val (.int p2), .val (.int p3), .val (.int p4), .val (.int p5), .val (.int (own_n p1)), .val (.int (own_cap p1 p2)), .val (.ref b1), .val (.ref b2), .val (.ref b3), .val (.ref a4), .unset, .unset, .unset, .unset, .unset] []))
  obtain ⟨T6, h6, X6, e6, E6, A6, D6, -, st6⟩ := newO X5 hx hZ hown (hw _ (List.mem_of_getElem? (i := 26) rfl)) (hw _ (List.mem_of_getElem? (i := 27) rfl)) (hw _ (List.mem_of_getElem? (i := 28) rfl)) (rfl : T5.heap = T5.heap) (g := (mkF m 56 #[.val (.int p1), .val (.int p2), .val (.int p3), .val (.int p4), .val (.int p5), .val (.int (own_n p1)), .val (.int (own_cap p1 p2)), .val (.ref b1), .val (.ref b2), .val (.ref b3), .val (.ref a4), .unset, .unset, .unset, .unset, .unset] [])) rfl (hb hby at_56) (by decide) (by decide)
  obtain ⟨a6, g6⟩ : ∃ z, z = T5.heap.size := ⟨_, rfl⟩
  rw [← g6] at A6 D6 st6
  have Z6 : n0 ≤ h6.size := Nat.le_trans Zc5 E6.1
  have G6 : n0 ≤ a6 := Nat.le_trans Zc5 (Nat.le_of_eq g6.symm)
  have SC_6 := SC_5.ext E6
  have SD_6 := SD_5.ext E6
  have ES0_6 := ES0_5.ext E6
  have ES1_6 := ES1_5.ext E6
  have ES2_6 := ES2_5.ext E6
  have EL0_6 := EL0_5.ext E6
  refine Go.on st6 ?_
  show Go p e below _ (T6.setTop (mkF m 59 #[.val (.int p1), .val (.int p2), .val (.int p3), .val (.int p4), .val (.int p5), .val (.int (own_n p1)), .val (.int (own_cap p1 p2)), .val (.ref b1), .val (.ref b2), .val (.ref b3), .val (.ref a4), .unset, .unset, .unset, .unset, .unset] [(.ref a6)]))
  refine Go.on (fun t k => XS.dup X6.here hx rfl (hb hby at_59) rfl rfl k) ?_
  show Go p e below _ (T6.setTop (mkF m 60 #[.val (.int p1), .val (.int p2), .val (.int p3), .val (.int p4), .val (.int p5), .val (.int (own_n p1)), .val (.int (own_cap p1 p2)), .val (.ref b1), .val (.ref b2), .val (.ref b3), .val (.ref a4), .unset, .unset, .unset, .unset, .unset] [(.ref a6), (.ref a6)]))
  obtain ⟨_, _, ⟨T7, L7, k7, n7⟩, -, X7, ⟨Lc7, hQ7, l7, y7, z7⟩, st7⟩ := X6.specialBack hx (y := (⟨"java/util/ArrayList", "<init>", "()V"⟩ : MethodName)) rfl hown (mvT hZ (hw _ (List.mem_of_getElem? (i := 29) rfl))) (mvT hZ (hw _ (List.mem_of_getElem? (i := 30) rfl))) (mvT hZ (hw _ (List.mem_of_getElem? (i := 31) rfl))) (by decide) (backOf (W := 1) (rm6 l Z a0 hw [] a6 _ _ wd h6 n0 Z6 A6 (D6 (Or.inl (hw _ (List.mem_of_getElem? (i := 46) rfl))) (ty := .int) (by decide)) (D6 (Or.inl (hw _ (List.mem_of_getElem? (i := 49) rfl))) (ty := (.array (.object "java/lang/Object"))) (by decide)) SD_6 G6) hZ (hw _ (List.mem_of_getElem? (i := 31) rfl)) (hw _ (List.mem_of_getElem? (i := 28) rfl)) (by decide) (by decide)) (g := (mkF m 60 #[.val (.int p1), .val (.int p2), .val (.int p3), .val (.int p4), .val (.int p5), .val (.int (own_n p1)), .val (.int (own_cap p1 p2)), .val (.ref b1), .val (.ref b2), .val (.ref b3), .val (.ref a4), .unset, .unset, .unset, .unset, .unset] [(.ref a6), (.ref a6)])) rfl (by rw [hml]; rfl) (Steps.refl _) (a := a6) (argsL := []) (rest := [(.ref a6)]) (lenOf pd_4 rfl) rfl (by show 2 * 0 + _ ≤ _; exact Nat.le_of_eq rfl) (hb hby at_60) (fun _ _ => ⟨rfl, e6, (by decide : 8 + 0 ≤ _), (by decide : 21 + 0 ≤ _)⟩)
  dsimp only [Pt.U, Pt.locs, Pt.cells, Pt.slots] at X7 l7 y7 z7 st7 hQ7
  subst l7 y7 z7
  obtain ⟨rfl, N7q, K7, EL1_7⟩ := hQ7
  have N7 := Fr.app N5 N7q
  refine Go.st st7 ?_
  show Go p e below _ (T7.setTop (mkF m 63 #[.val (.int p1), .val (.int p2), .val (.int p3), .val (.int p4), .val (.int p5), .val (.int (own_n p1)), .val (.int (own_cap p1 p2)), .val (.ref b1), .val (.ref b2), .val (.ref b3), .val (.ref a4), .unset, .unset, .unset, .unset, .unset] [(.ref a6)]))
  have SC_7 := own_sta SC_6 K7 (fun z hz => by cases List.mem_singleton.mp hz; exact Or.inl ⟨_, A6⟩)
  have SD_7 := own_sta SD_6 K7 (fun z hz => by cases List.mem_singleton.mp hz; exact Or.inl ⟨_, A6⟩)
  have ES0_7 := ES0_6.keep K7
  have ES1_7 := ES1_6.keep K7
  have ES2_7 := ES2_6.keep K7
  have EL0_7 := EL0_6.keep K7
  have Zc7 : n0 ≤ T7.heap.size := Nat.le_trans Z6 K7.1
  refine Go.on (fun t k => XS.astore X7.here hx rfl (hb hby at_63) rfl rfl (l' := #[.val (.int p1), .val (.int p2), .val (.int p3), .val (.int p4), .val (.int p5), .val (.int (own_n p1)), .val (.int (own_cap p1 p2)), .val (.ref b1), .val (.ref b2), .val (.ref b3), .val (.ref a4), .val (.ref a6), .unset, .unset, .unset, .unset]) rfl k) ?_
  show Go p e below _ (T7.setTop (mkF m 65 #[.val (.int p1), .val (.int p2), .val (.int p3), .val (.int p4), .val (.int p5), .val (.int (own_n p1)), .val (.int (own_cap p1 p2)), .val (.ref b1), .val (.ref b2), .val (.ref b3), .val (.ref a4), .val (.ref a6), .unset, .unset, .unset, .unset] []))
  obtain ⟨T8, h8, X8, e8, E8, A8, D8, -, st8⟩ := newO X7 hx hZ hown (hw _ (List.mem_of_getElem? (i := 26) rfl)) (hw _ (List.mem_of_getElem? (i := 27) rfl)) (hw _ (List.mem_of_getElem? (i := 28) rfl)) (rfl : T7.heap = T7.heap) (g := (mkF m 65 #[.val (.int p1), .val (.int p2), .val (.int p3), .val (.int p4), .val (.int p5), .val (.int (own_n p1)), .val (.int (own_cap p1 p2)), .val (.ref b1), .val (.ref b2), .val (.ref b3), .val (.ref a4), .val (.ref a6), .unset, .unset, .unset, .unset] [])) rfl (hb hby at_65) (by decide) (by decide)
  obtain ⟨a8, g8⟩ : ∃ z, z = T7.heap.size := ⟨_, rfl⟩
  rw [← g8] at A8 D8 st8
  have Z8 : n0 ≤ h8.size := Nat.le_trans Zc7 E8.1
  have G8 : n0 ≤ a8 := Nat.le_trans Zc7 (Nat.le_of_eq g8.symm)
  have SC_8 := SC_7.ext E8
  have SD_8 := SD_7.ext E8
  have ES0_8 := ES0_7.ext E8
  have ES1_8 := ES1_7.ext E8
  have ES2_8 := ES2_7.ext E8
  have EL0_8 := EL0_7.ext E8
  have EL1_8 := EL1_7.ext E8
  refine Go.on st8 ?_
  show Go p e below _ (T8.setTop (mkF m 68 #[.val (.int p1), .val (.int p2), .val (.int p3), .val (.int p4), .val (.int p5), .val (.int (own_n p1)), .val (.int (own_cap p1 p2)), .val (.ref b1), .val (.ref b2), .val (.ref b3), .val (.ref a4), .val (.ref a6), .unset, .unset, .unset, .unset] [(.ref a8)]))
  refine Go.on (fun t k => XS.dup X8.here hx rfl (hb hby at_68) rfl rfl k) ?_
  show Go p e below _ (T8.setTop (mkF m 69 #[.val (.int p1), .val (.int p2), .val (.int p3), .val (.int p4), .val (.int p5), .val (.int (own_n p1)), .val (.int (own_cap p1 p2)), .val (.ref b1), .val (.ref b2), .val (.ref b3), .val (.ref a4), .val (.ref a6), .unset, .unset, .unset, .unset] [(.ref a8), (.ref a8)]))
  obtain ⟨_, _, ⟨T9, L9, k9, n9⟩, -, X9, ⟨Lc9, hQ9, l9, y9, z9⟩, st9⟩ := X8.specialBack hx (y := (⟨"java/util/ArrayList", "<init>", "()V"⟩ : MethodName)) rfl hown (mvT hZ (hw _ (List.mem_of_getElem? (i := 29) rfl))) (mvT hZ (hw _ (List.mem_of_getElem? (i := 30) rfl))) (mvT hZ (hw _ (List.mem_of_getElem? (i := 31) rfl))) (by decide) (backOf (W := 1) (rm6 l Z a0 hw [] a8 _ _ wd h8 n0 Z8 A8 (D8 (Or.inl (hw _ (List.mem_of_getElem? (i := 46) rfl))) (ty := .int) (by decide)) (D8 (Or.inl (hw _ (List.mem_of_getElem? (i := 49) rfl))) (ty := (.array (.object "java/lang/Object"))) (by decide)) SD_8 G8) hZ (hw _ (List.mem_of_getElem? (i := 31) rfl)) (hw _ (List.mem_of_getElem? (i := 28) rfl)) (by decide) (by decide)) (g := (mkF m 69 #[.val (.int p1), .val (.int p2), .val (.int p3), .val (.int p4), .val (.int p5), .val (.int (own_n p1)), .val (.int (own_cap p1 p2)), .val (.ref b1), .val (.ref b2), .val (.ref b3), .val (.ref a4), .val (.ref a6), .unset, .unset, .unset, .unset] [(.ref a8), (.ref a8)])) rfl (by rw [hml]; rfl) (Steps.refl _) (a := a8) (argsL := []) (rest := [(.ref a8)]) (lenOf pd_4 rfl) rfl (by show 2 * 0 + _ ≤ _; exact Nat.le_of_eq rfl) (hb hby at_69) (fun _ _ => ⟨rfl, e8, (by decide : 9 + 0 ≤ _), (by decide : 24 + 0 ≤ _)⟩)
  dsimp only [Pt.U, Pt.locs, Pt.cells, Pt.slots] at X9 l9 y9 z9 st9 hQ9
  subst l9 y9 z9
  obtain ⟨rfl, N9q, K9, EL2_9⟩ := hQ9
  have N9 := Fr.app N7 N9q
  refine Go.st st9 ?_
  show Go p e below _ (T9.setTop (mkF m 72 #[.val (.int p1), .val (.int p2), .val (.int p3), .val (.int p4), .val (.int p5), .val (.int (own_n p1)), .val (.int (own_cap p1 p2)), .val (.ref b1), .val (.ref b2), .val (.ref b3), .val (.ref a4), .val (.ref a6), .unset, .unset, .unset, .unset] [(.ref a8)]))
  have SC_9 := own_sta SC_8 K9 (fun z hz => by cases List.mem_singleton.mp hz; exact Or.inl ⟨_, A8⟩)
  have SD_9 := own_sta SD_8 K9 (fun z hz => by cases List.mem_singleton.mp hz; exact Or.inl ⟨_, A8⟩)
  have ES0_9 := ES0_8.keep K9
  have ES1_9 := ES1_8.keep K9
  have ES2_9 := ES2_8.keep K9
  have EL0_9 := EL0_8.keep K9
  have EL1_9 := EL1_8.keep K9
  have Zc9 : n0 ≤ T9.heap.size := Nat.le_trans Z8 K9.1
  refine Go.on (fun t k => XS.astore X9.here hx rfl (hb hby at_72) rfl rfl (l' := #[.val (.int p1), .val (.int p2), .val (.int p3), .val (.int p4), .val (.int p5), .val (.int (own_n p1)), .val (.int (own_cap p1 p2)), .val (.ref b1), .val (.ref b2), .val (.ref b3), .val (.ref a4), .val (.ref a6), .val (.ref a8), .unset, .unset, .unset]) rfl k) ?_
  show Go p e below _ (T9.setTop (mkF m 74 #[.val (.int p1), .val (.int p2), .val (.int p3), .val (.int p4), .val (.int p5), .val (.int (own_n p1)), .val (.int (own_cap p1 p2)), .val (.ref b1), .val (.ref b2), .val (.ref b3), .val (.ref a4), .val (.ref a6), .val (.ref a8), .unset, .unset, .unset] []))
  obtain ⟨T10, h10, X10, e10, E10, A10, D10, -, st10⟩ := newO X9 hx hZ hown (hw _ (List.mem_of_getElem? (i := 50) rfl)) (hw _ (List.mem_of_getElem? (i := 51) rfl)) (hw _ (List.mem_of_getElem? (i := 52) rfl)) (rfl : T9.heap = T9.heap) (g := (mkF m 74 #[.val (.int p1), .val (.int p2), .val (.int p3), .val (.int p4), .val (.int p5), .val (.int (own_n p1)), .val (.int (own_cap p1 p2)), .val (.ref b1), .val (.ref b2), .val (.ref b3), .val (.ref a4), .val (.ref a6), .val (.ref a8), .unset, .unset, .unset] [])) rfl (hb hby at_74) (by decide) (by decide)
  obtain ⟨a10, g10⟩ : ∃ z, z = T9.heap.size := ⟨_, rfl⟩
  rw [← g10] at A10 D10 st10
  have Z10 : n0 ≤ h10.size := Nat.le_trans Zc9 E10.1
  have G10 : n0 ≤ a10 := Nat.le_trans Zc9 (Nat.le_of_eq g10.symm)
  have SC_10 := SC_9.ext E10
  have SD_10 := SD_9.ext E10
  have ES0_10 := ES0_9.ext E10
  have ES1_10 := ES1_9.ext E10
  have ES2_10 := ES2_9.ext E10
  have EL0_10 := EL0_9.ext E10
  have EL1_10 := EL1_9.ext E10
  have EL2_10 := EL2_9.ext E10
  refine Go.on st10 ?_
  show Go p e below _ (T10.setTop (mkF m 77 #[.val (.int p1), .val (.int p2), .val (.int p3), .val (.int p4), .val (.int p5), .val (.int (own_n p1)), .val (.int (own_cap p1 p2)), .val (.ref b1), .val (.ref b2), .val (.ref b3), .val (.ref a4), .val (.ref a6), .val (.ref a8), .unset, .unset, .unset] [(.ref a10)]))
  refine Go.on (fun t k => XS.dup X10.here hx rfl (hb hby at_77) rfl rfl k) ?_
  show Go p e below _ (T10.setTop (mkF m 78 #[.val (.int p1), .val (.int p2), .val (.int p3), .val (.int p4), .val (.int p5), .val (.int (own_n p1)), .val (.int (own_cap p1 p2)), .val (.ref b1), .val (.ref b2), .val (.ref b3), .val (.ref a4), .val (.ref a6), .val (.ref a8), .unset, .unset, .unset] [(.ref a10), (.ref a10)]))
  refine Go.on (fun t k => XS.iload X10.here hx rfl (hb hby at_78) rfl k) ?_
  show Go p e below _ (T10.setTop (mkF m 80 #[.val (.int p1), .val (.int p2), .val (.int p3), .val (.int p4), .val (.int p5), .val (.int (own_n p1)), .val (.int (own_cap p1 p2)), .val (.ref b1), .val (.ref b2), .val (.ref b3), .val (.ref a4), .val (.ref a6), .val (.ref a8), .unset, .unset, .unset] [(.int (own_cap p1 p2)), (.ref a10), (.ref a10)]))
  have hnr := own_n_rng p1
  have hcr := own_cap_rng p1 p2
  have hcx := ix (j := (own_cap p1 p2)) (i := (own_cap p1 p2).toInt.toNat) (by omega)
  obtain ⟨_, _, ⟨T11, L11, k11, n11⟩, -, X11, ⟨Lc11, hQ11, l11, y11, z11⟩, st11⟩ := X10.specialBack hx (y := (⟨"com/example/olentangy/olentangy/engine/AttributeMap$Builder", "<init>", "(I)V"⟩ : MethodName)) rfl hown (mvT hZ (hw _ (List.mem_of_getElem? (i := 53) rfl))) (mvT hZ (hw _ (List.mem_of_getElem? (i := 54) rfl))) (mvT hZ (hw _ (List.mem_of_getElem? (i := 55) rfl))) (by decide) (backOf (W := 1) (rm9 l Z a0 hw [] a10 (own_cap p1 p2) (own_cap p1 p2).toInt.toNat _ _ h10 n0 Z10 hcx (by omega) A10 (D10 (Or.inr (hw _ (List.mem_of_getElem? (i := 60) rfl))) (ty := (.array (.object "java/lang/String"))) (by decide)) (D10 (Or.inr (hw _ (List.mem_of_getElem? (i := 64) rfl))) (ty := (.array (.object "java/util/List"))) (by decide)) (D10 (Or.inl (hw _ (List.mem_of_getElem? (i := 74) rfl))) (ty := .int) (by decide)) G10) hZ (hw _ (List.mem_of_getElem? (i := 55) rfl)) (hw _ (List.mem_of_getElem? (i := 52) rfl)) (by decide) (by decide)) (g := (mkF m 80 #[.val (.int p1), .val (.int p2), .val (.int p3), .val (.int p4), .val (.int p5), .val (.int (own_n p1)), .val (.int (own_cap p1 p2)), .val (.ref b1), .val (.ref b2), .val (.ref b3), .val (.ref a4), .val (.ref a6), .val (.ref a8), .unset, .unset, .unset] [(.int (own_cap p1 p2)), (.ref a10), (.ref a10)])) rfl (by rw [hml]; rfl) (Steps.refl _) (a := a10) (argsL := [(.int (own_cap p1 p2))]) (rest := [(.ref a10)]) (lenOf pd_8 rfl) rfl (by show 2 * 0 + _ ≤ _; exact Nat.le_of_eq rfl) (hb hby at_80) (fun _ _ => ⟨rfl, e10, (by decide : 10 + 2 ≤ _), (by decide : 27 + 8 ≤ _)⟩)
  dsimp only [Pt.U, Pt.locs, Pt.cells, Pt.slots] at X11 l11 y11 z11 st11 hQ11
  subst l11 y11 z11
  obtain ⟨ai11, aw11, rfl, N11q, K11, EB11, FI11, FV11, FS11, RI11, RW11, hi11, hw11⟩ := hQ11
  have N11 := Fr.app N9 N11q
  refine Go.st st11 ?_
  show Go p e below _ (T11.setTop (mkF m 83 #[.val (.int p1), .val (.int p2), .val (.int p3), .val (.int p4), .val (.int p5), .val (.int (own_n p1)), .val (.int (own_cap p1 p2)), .val (.ref b1), .val (.ref b2), .val (.ref b3), .val (.ref a4), .val (.ref a6), .val (.ref a8), .unset, .unset, .unset] [(.ref a10)]))
  have ES0_11 := ES0_10.keep K11
  have ES1_11 := ES1_10.keep K11
  have ES2_11 := ES2_10.keep K11
  have EL0_11 := EL0_10.keep K11
  have EL1_11 := EL1_10.keep K11
  have EL2_11 := EL2_10.keep K11
  have Zc11 : n0 ≤ T11.heap.size := Nat.le_trans Z10 K11.1
  have hbi : a10 < ai11 := Nat.lt_of_lt_of_le A10.lt hi11
  have gai : n0 ≤ ai11 := Nat.le_trans Z10 hi11
  have gaw : n0 ≤ aw11 := Nat.le_trans gai (Nat.le_of_lt hw11)
  refine Go.on (fun t k => XS.astore X11.here hx rfl (hb hby at_83) rfl rfl (l' := #[.val (.int p1), .val (.int p2), .val (.int p3), .val (.int p4), .val (.int p5), .val (.int (own_n p1)), .val (.int (own_cap p1 p2)), .val (.ref b1), .val (.ref b2), .val (.ref b3), .val (.ref a4), .val (.ref a6), .val (.ref a8), .val (.ref a10), .unset, .unset]) rfl k) ?_
  show Go p e below _ (T11.setTop (mkF m 85 #[.val (.int p1), .val (.int p2), .val (.int p3), .val (.int p4), .val (.int p5), .val (.int (own_n p1)), .val (.int (own_cap p1 p2)), .val (.ref b1), .val (.ref b2), .val (.ref b3), .val (.ref a4), .val (.ref a6), .val (.ref a8), .val (.ref a10), .unset, .unset] []))
  refine Go.on (fun t k => XS.iload X11.here hx rfl (hb hby at_85) rfl k) ?_
  show Go p e below _ (T11.setTop (mkF m 87 #[.val (.int p1), .val (.int p2), .val (.int p3), .val (.int p4), .val (.int p5), .val (.int (own_n p1)), .val (.int (own_cap p1 p2)), .val (.ref b1), .val (.ref b2), .val (.ref b3), .val (.ref a4), .val (.ref a6), .val (.ref a8), .val (.ref a10), .unset, .unset] [(.int (own_n p1))]))
  by_cases hc87 : (0 : Int32) < (own_n p1)
  · refine Go.on (fun t k => XS.ifNo X11.here hx rfl (hb hby at_87) rfl ((if0 _ _).trans (tlt hc87).2.2.2) k) ?_
    show Go p e below _ (T11.setTop (mkF m 90 #[.val (.int p1), .val (.int p2), .val (.int p3), .val (.int p4), .val (.int p5), .val (.int (own_n p1)), .val (.int (own_cap p1 p2)), .val (.ref b1), .val (.ref b2), .val (.ref b3), .val (.ref a4), .val (.ref a6), .val (.ref a8), .val (.ref a10), .unset, .unset] []))
    refine Go.on (fun t k => XS.aload X11.here hx rfl (hb hby at_90) rfl rfl k) ?_
    show Go p e below _ (T11.setTop (mkF m 92 #[.val (.int p1), .val (.int p2), .val (.int p3), .val (.int p4), .val (.int p5), .val (.int (own_n p1)), .val (.int (own_cap p1 p2)), .val (.ref b1), .val (.ref b2), .val (.ref b3), .val (.ref a4), .val (.ref a6), .val (.ref a8), .val (.ref a10), .unset, .unset] [(.ref a10)]))
    refine Go.on (fun t k => XS.aload X11.here hx rfl (hb hby at_92) rfl rfl k) ?_
    show Go p e below _ (T11.setTop (mkF m 94 #[.val (.int p1), .val (.int p2), .val (.int p3), .val (.int p4), .val (.int p5), .val (.int (own_n p1)), .val (.int (own_cap p1 p2)), .val (.ref b1), .val (.ref b2), .val (.ref b3), .val (.ref a4), .val (.ref a6), .val (.ref a8), .val (.ref a10), .unset, .unset] [(.ref b1), (.ref a10)]))
    refine Go.on (fun t k => XS.aload X11.here hx rfl (hb hby at_94) rfl rfl k) ?_
    show Go p e below _ (T11.setTop (mkF m 96 #[.val (.int p1), .val (.int p2), .val (.int p3), .val (.int p4), .val (.int p5), .val (.int (own_n p1)), .val (.int (own_cap p1 p2)), .val (.ref b1), .val (.ref b2), .val (.ref b3), .val (.ref a4), .val (.ref a6), .val (.ref a8), .val (.ref a10), .unset, .unset] [(.ref a4), (.ref b1), (.ref a10)]))
    have hl0 := Int32.lt_iff_toInt_lt.mp hc87
    have zk0 : (0 : Int32).toInt = 0 := by decide
    obtain ⟨cq12, kq12, q12a, q12b, q12c⟩ := isOf hZ (rfl : T11.heap = T11.heap) EB11
    obtain ⟨_, _, ⟨T12, L12, k12, n12⟩, -, X12, ⟨Lc12, hQ12, l12, y12, z12⟩, st12⟩ := X11.virtualBack hx (y := (⟨"com/example/olentangy/olentangy/engine/AttributeMap$Builder", "add", "(Ljava/lang/String;Ljava/util/List;)V"⟩ : MethodName)) (z := (⟨"com/example/olentangy/olentangy/engine/AttributeMap$Builder", "add", "(Ljava/lang/String;Ljava/util/List;)V"⟩ : MethodName)) hown (mvT hZ (hw _ (List.mem_of_getElem? (i := 112) rfl))) (mvT hZ (hw _ (List.mem_of_getElem? (i := 113) rfl))) (notFace_of_selects (args := #[]) (mvT hZ (hw _ (List.mem_of_getElem? (i := 115) rfl)))) (mvT hZ (hw _ (List.mem_of_getElem? (i := 115) rfl))) (mvT hZ (hw _ (List.mem_of_getElem? (i := 114) rfl))) (by decide) (backOf (W := 0) (rm16 l Z a0 hw [] a10 b1 a4 ai11 aw11 (0 : Int32) 0 (own_cap p1 p2).toInt.toNat (fun _ => .null) (fun _ => .null) T11.heap n0 Zc11 (by decide) (by omega) EB11 FI11 FV11 FS11 RI11 RW11 (Ins.self ES0_11) (Ins.of_exa EL0_11 (hw _ (List.mem_of_getElem? (i := 117) rfl))) (Nat.ne_of_lt hbi) (Nat.ne_of_lt (Nat.lt_trans hbi hw11)) (Nat.ne_of_lt hw11) G10 gai gaw) hZ (hw _ (List.mem_of_getElem? (i := 116) rfl)) (hw _ (List.mem_of_getElem? (i := 52) rfl)) (by decide) (by decide)) q12a q12c (g := (mkF m 96 #[.val (.int p1), .val (.int p2), .val (.int p3), .val (.int p4), .val (.int p5), .val (.int (own_n p1)), .val (.int (own_cap p1 p2)), .val (.ref b1), .val (.ref b2), .val (.ref b3), .val (.ref a4), .val (.ref a6), .val (.ref a8), .val (.ref a10), .unset, .unset] [(.ref a4), (.ref b1), (.ref a10)])) rfl (by rw [hml]; rfl) (Steps.refl _) (argsL := [(.ref b1), (.ref a4)]) (rest := []) (lenOf pd_9 rfl) rfl (by show 2 * 0 + _ ≤ _; exact Nat.le_of_eq rfl) (hb hby at_96) (fun _ _ => ⟨rfl, (rfl : T11.heap = T11.heap), (by decide : 12 + 0 ≤ _), (by decide : 35 + 0 ≤ _)⟩)
    dsimp only [Pt.U, Pt.locs, Pt.cells, Pt.slots] at X12 l12 y12 z12 st12 hQ12
    subst l12 y12 z12
    obtain ⟨rfl, N12q, K12, EB12, FI12, FV12, FS12, RI12, RW12⟩ := hQ12
    have N12 := Fr.app N11 N12q
    refine Go.st st12 ?_
    show Go p e below _ (T12.setTop (mkF m 99 #[.val (.int p1), .val (.int p2), .val (.int p3), .val (.int p4), .val (.int p5), .val (.int (own_n p1)), .val (.int (own_cap p1 p2)), .val (.ref b1), .val (.ref b2), .val (.ref b3), .val (.ref a4), .val (.ref a6), .val (.ref a8), .val (.ref a10), .unset, .unset] []))
    have ES0_12 := ES0_11.keep K12
    have ES1_12 := ES1_11.keep K12
    have ES2_12 := ES2_11.keep K12
    have EL0_12 := EL0_11.keep K12
    have EL1_12 := EL1_11.keep K12
    have EL2_12 := EL2_11.keep K12
    have Zc12 : n0 ≤ T12.heap.size := Nat.le_trans Zc11 K12.1
    refine Go.on (fun t k => XS.iload X12.here hx rfl (hb hby at_99) rfl k) ?_
    show Go p e below _ (T12.setTop (mkF m 101 #[.val (.int p1), .val (.int p2), .val (.int p3), .val (.int p4), .val (.int p5), .val (.int (own_n p1)), .val (.int (own_cap p1 p2)), .val (.ref b1), .val (.ref b2), .val (.ref b3), .val (.ref a4), .val (.ref a6), .val (.ref a8), .val (.ref a10), .unset, .unset] [(.int (own_n p1))]))
    refine Go.on (fun t k => XS.iconst X12.here hx rfl (hb hby at_101) k) ?_
    show Go p e below _ (T12.setTop (mkF m 102 #[.val (.int p1), .val (.int p2), .val (.int p3), .val (.int p4), .val (.int p5), .val (.int (own_n p1)), .val (.int (own_cap p1 p2)), .val (.ref b1), .val (.ref b2), .val (.ref b3), .val (.ref a4), .val (.ref a6), .val (.ref a8), .val (.ref a10), .unset, .unset] [(.int (1 : Int32)), (.int (own_n p1))]))
    by_cases hc102 : (1 : Int32) < (own_n p1)
    · refine Go.on (fun t k => XS.icmpNo X12.here hx rfl (hb hby at_102) rfl (tlt hc102).2.2.2 k) ?_
      show Go p e below _ (T12.setTop (mkF m 105 #[.val (.int p1), .val (.int p2), .val (.int p3), .val (.int p4), .val (.int p5), .val (.int (own_n p1)), .val (.int (own_cap p1 p2)), .val (.ref b1), .val (.ref b2), .val (.ref b3), .val (.ref a4), .val (.ref a6), .val (.ref a8), .val (.ref a10), .unset, .unset] []))
      refine Go.on (fun t k => XS.aload X12.here hx rfl (hb hby at_105) rfl rfl k) ?_
      show Go p e below _ (T12.setTop (mkF m 107 #[.val (.int p1), .val (.int p2), .val (.int p3), .val (.int p4), .val (.int p5), .val (.int (own_n p1)), .val (.int (own_cap p1 p2)), .val (.ref b1), .val (.ref b2), .val (.ref b3), .val (.ref a4), .val (.ref a6), .val (.ref a8), .val (.ref a10), .unset, .unset] [(.ref a10)]))
      refine Go.on (fun t k => XS.aload X12.here hx rfl (hb hby at_107) rfl rfl k) ?_
      show Go p e below _ (T12.setTop (mkF m 109 #[.val (.int p1), .val (.int p2), .val (.int p3), .val (.int p4), .val (.int p5), .val (.int (own_n p1)), .val (.int (own_cap p1 p2)), .val (.ref b1), .val (.ref b2), .val (.ref b3), .val (.ref a4), .val (.ref a6), .val (.ref a8), .val (.ref a10), .unset, .unset] [(.ref b2), (.ref a10)]))
      refine Go.on (fun t k => XS.aload X12.here hx rfl (hb hby at_109) rfl rfl k) ?_
      show Go p e below _ (T12.setTop (mkF m 111 #[.val (.int p1), .val (.int p2), .val (.int p3), .val (.int p4), .val (.int p5), .val (.int (own_n p1)), .val (.int (own_cap p1 p2)), .val (.ref b1), .val (.ref b2), .val (.ref b3), .val (.ref a4), .val (.ref a6), .val (.ref a8), .val (.ref a10), .unset, .unset] [(.ref a6), (.ref b2), (.ref a10)]))
      have hl1 := Int32.lt_iff_toInt_lt.mp hc102
      have zk1 : (1 : Int32).toInt = 1 := by decide
      obtain ⟨cq13, kq13, q13a, q13b, q13c⟩ := isOf hZ (rfl : T12.heap = T12.heap) EB12
      obtain ⟨_, _, ⟨T13, L13, k13, n13⟩, -, X13, ⟨Lc13, hQ13, l13, y13, z13⟩, st13⟩ := X12.virtualBack hx (y := (⟨"com/example/olentangy/olentangy/engine/AttributeMap$Builder", "add", "(Ljava/lang/String;Ljava/util/List;)V"⟩ : MethodName)) (z := (⟨"com/example/olentangy/olentangy/engine/AttributeMap$Builder", "add", "(Ljava/lang/String;Ljava/util/List;)V"⟩ : MethodName)) hown (mvT hZ (hw _ (List.mem_of_getElem? (i := 112) rfl))) (mvT hZ (hw _ (List.mem_of_getElem? (i := 113) rfl))) (notFace_of_selects (args := #[]) (mvT hZ (hw _ (List.mem_of_getElem? (i := 115) rfl)))) (mvT hZ (hw _ (List.mem_of_getElem? (i := 115) rfl))) (mvT hZ (hw _ (List.mem_of_getElem? (i := 114) rfl))) (by decide) (backOf (W := 0) (rm16 l Z a0 hw [] a10 b2 a6 ai11 aw11 ((0 : Int32) + (1 : Int32)) 1 (own_cap p1 p2).toInt.toNat (upd (fun _ => .null) 0 (.ref b1)) (upd (fun _ => .null) 0 (.ref a4)) T12.heap n0 Zc12 (by decide) (by omega) EB12 FI12 FV12 FS12 RI12 RW12 (Ins.self ES1_12) (Ins.of_exa EL1_12 (hw _ (List.mem_of_getElem? (i := 117) rfl))) (Nat.ne_of_lt hbi) (Nat.ne_of_lt (Nat.lt_trans hbi hw11)) (Nat.ne_of_lt hw11) G10 gai gaw) hZ (hw _ (List.mem_of_getElem? (i := 116) rfl)) (hw _ (List.mem_of_getElem? (i := 52) rfl)) (by decide) (by decide)) q13a q13c (g := (mkF m 111 #[.val (.int p1), .val (.int p2), .val (.int p3), .val (.int p4), .val (.int p5), .val (.int (own_n p1)), .val (.int (own_cap p1 p2)), .val (.ref b1), .val (.ref b2), .val (.ref b3), .val (.ref a4), .val (.ref a6), .val (.ref a8), .val (.ref a10), .unset, .unset] [(.ref a6), (.ref b2), (.ref a10)])) rfl (by rw [hml]; rfl) (Steps.refl _) (argsL := [(.ref b2), (.ref a6)]) (rest := []) (lenOf pd_9 rfl) rfl (by show 2 * 0 + _ ≤ _; exact Nat.le_of_eq rfl) (hb hby at_111) (fun _ _ => ⟨rfl, (rfl : T12.heap = T12.heap), (by decide : 12 + 0 ≤ _), (by decide : 35 + 0 ≤ _)⟩)
      dsimp only [Pt.U, Pt.locs, Pt.cells, Pt.slots] at X13 l13 y13 z13 st13 hQ13
      subst l13 y13 z13
      obtain ⟨rfl, N13q, K13, EB13, FI13, FV13, FS13, RI13, RW13⟩ := hQ13
      have N13 := Fr.app N12 N13q
      refine Go.st st13 ?_
      show Go p e below _ (T13.setTop (mkF m 114 #[.val (.int p1), .val (.int p2), .val (.int p3), .val (.int p4), .val (.int p5), .val (.int (own_n p1)), .val (.int (own_cap p1 p2)), .val (.ref b1), .val (.ref b2), .val (.ref b3), .val (.ref a4), .val (.ref a6), .val (.ref a8), .val (.ref a10), .unset, .unset] []))
      have ES0_13 := ES0_12.keep K13
      have ES1_13 := ES1_12.keep K13
      have ES2_13 := ES2_12.keep K13
      have EL0_13 := EL0_12.keep K13
      have EL1_13 := EL1_12.keep K13
      have EL2_13 := EL2_12.keep K13
      have Zc13 : n0 ≤ T13.heap.size := Nat.le_trans Zc12 K13.1
      refine Go.on (fun t k => XS.iload X13.here hx rfl (hb hby at_114) rfl k) ?_
      show Go p e below _ (T13.setTop (mkF m 116 #[.val (.int p1), .val (.int p2), .val (.int p3), .val (.int p4), .val (.int p5), .val (.int (own_n p1)), .val (.int (own_cap p1 p2)), .val (.ref b1), .val (.ref b2), .val (.ref b3), .val (.ref a4), .val (.ref a6), .val (.ref a8), .val (.ref a10), .unset, .unset] [(.int (own_n p1))]))
      refine Go.on (fun t k => XS.iconst X13.here hx rfl (hb hby at_116) k) ?_
      show Go p e below _ (T13.setTop (mkF m 117 #[.val (.int p1), .val (.int p2), .val (.int p3), .val (.int p4), .val (.int p5), .val (.int (own_n p1)), .val (.int (own_cap p1 p2)), .val (.ref b1), .val (.ref b2), .val (.ref b3), .val (.ref a4), .val (.ref a6), .val (.ref a8), .val (.ref a10), .unset, .unset] [(.int (2 : Int32)), (.int (own_n p1))]))
      by_cases hc117 : (2 : Int32) < (own_n p1)
      · refine Go.on (fun t k => XS.icmpNo X13.here hx rfl (hb hby at_117) rfl (tlt hc117).2.2.2 k) ?_
        show Go p e below _ (T13.setTop (mkF m 120 #[.val (.int p1), .val (.int p2), .val (.int p3), .val (.int p4), .val (.int p5), .val (.int (own_n p1)), .val (.int (own_cap p1 p2)), .val (.ref b1), .val (.ref b2), .val (.ref b3), .val (.ref a4), .val (.ref a6), .val (.ref a8), .val (.ref a10), .unset, .unset] []))
        refine Go.on (fun t k => XS.aload X13.here hx rfl (hb hby at_120) rfl rfl k) ?_
        show Go p e below _ (T13.setTop (mkF m 122 #[.val (.int p1), .val (.int p2), .val (.int p3), .val (.int p4), .val (.int p5), .val (.int (own_n p1)), .val (.int (own_cap p1 p2)), .val (.ref b1), .val (.ref b2), .val (.ref b3), .val (.ref a4), .val (.ref a6), .val (.ref a8), .val (.ref a10), .unset, .unset] [(.ref a10)]))
        refine Go.on (fun t k => XS.aload X13.here hx rfl (hb hby at_122) rfl rfl k) ?_
        show Go p e below _ (T13.setTop (mkF m 124 #[.val (.int p1), .val (.int p2), .val (.int p3), .val (.int p4), .val (.int p5), .val (.int (own_n p1)), .val (.int (own_cap p1 p2)), .val (.ref b1), .val (.ref b2), .val (.ref b3), .val (.ref a4), .val (.ref a6), .val (.ref a8), .val (.ref a10), .unset, .unset] [(.ref b3), (.ref a10)]))
        refine Go.on (fun t k => XS.aload X13.here hx rfl (hb hby at_124) rfl rfl k) ?_
        show Go p e below _ (T13.setTop (mkF m 126 #[.val (.int p1), .val (.int p2), .val (.int p3), .val (.int p4), .val (.int p5), .val (.int (own_n p1)), .val (.int (own_cap p1 p2)), .val (.ref b1), .val (.ref b2), .val (.ref b3), .val (.ref a4), .val (.ref a6), .val (.ref a8), .val (.ref a10), .unset, .unset] [(.ref a8), (.ref b3), (.ref a10)]))
        have hl2 := Int32.lt_iff_toInt_lt.mp hc117
        have zk2 : (2 : Int32).toInt = 2 := by decide
        obtain ⟨cq14, kq14, q14a, q14b, q14c⟩ := isOf hZ (rfl : T13.heap = T13.heap) EB13
        obtain ⟨_, _, ⟨T14, L14, k14, n14⟩, -, X14, ⟨Lc14, hQ14, l14, y14, z14⟩, st14⟩ := X13.virtualBack hx (y := (⟨"com/example/olentangy/olentangy/engine/AttributeMap$Builder", "add", "(Ljava/lang/String;Ljava/util/List;)V"⟩ : MethodName)) (z := (⟨"com/example/olentangy/olentangy/engine/AttributeMap$Builder", "add", "(Ljava/lang/String;Ljava/util/List;)V"⟩ : MethodName)) hown (mvT hZ (hw _ (List.mem_of_getElem? (i := 112) rfl))) (mvT hZ (hw _ (List.mem_of_getElem? (i := 113) rfl))) (notFace_of_selects (args := #[]) (mvT hZ (hw _ (List.mem_of_getElem? (i := 115) rfl)))) (mvT hZ (hw _ (List.mem_of_getElem? (i := 115) rfl))) (mvT hZ (hw _ (List.mem_of_getElem? (i := 114) rfl))) (by decide) (backOf (W := 0) (rm16 l Z a0 hw [] a10 b3 a8 ai11 aw11 (((0 : Int32) + (1 : Int32)) + (1 : Int32)) 2 (own_cap p1 p2).toInt.toNat (upd (upd (fun _ => .null) 0 (.ref b1)) 1 (.ref b2)) (upd (upd (fun _ => .null) 0 (.ref a4)) 1 (.ref a6)) T13.heap n0 Zc13 (by decide) (by omega) EB13 FI13 FV13 FS13 RI13 RW13 (Ins.self ES2_13) (Ins.of_exa EL2_13 (hw _ (List.mem_of_getElem? (i := 117) rfl))) (Nat.ne_of_lt hbi) (Nat.ne_of_lt (Nat.lt_trans hbi hw11)) (Nat.ne_of_lt hw11) G10 gai gaw) hZ (hw _ (List.mem_of_getElem? (i := 116) rfl)) (hw _ (List.mem_of_getElem? (i := 52) rfl)) (by decide) (by decide)) q14a q14c (g := (mkF m 126 #[.val (.int p1), .val (.int p2), .val (.int p3), .val (.int p4), .val (.int p5), .val (.int (own_n p1)), .val (.int (own_cap p1 p2)), .val (.ref b1), .val (.ref b2), .val (.ref b3), .val (.ref a4), .val (.ref a6), .val (.ref a8), .val (.ref a10), .unset, .unset] [(.ref a8), (.ref b3), (.ref a10)])) rfl (by rw [hml]; rfl) (Steps.refl _) (argsL := [(.ref b3), (.ref a8)]) (rest := []) (lenOf pd_9 rfl) rfl (by show 2 * 0 + _ ≤ _; exact Nat.le_of_eq rfl) (hb hby at_126) (fun _ _ => ⟨rfl, (rfl : T13.heap = T13.heap), (by decide : 12 + 0 ≤ _), (by decide : 35 + 0 ≤ _)⟩)
        dsimp only [Pt.U, Pt.locs, Pt.cells, Pt.slots] at X14 l14 y14 z14 st14 hQ14
        subst l14 y14 z14
        obtain ⟨rfl, N14q, K14, EB14, FI14, FV14, FS14, RI14, RW14⟩ := hQ14
        have N14 := Fr.app N13 N14q
        refine Go.st st14 ?_
        show Go p e below _ (T14.setTop (mkF m 129 #[.val (.int p1), .val (.int p2), .val (.int p3), .val (.int p4), .val (.int p5), .val (.int (own_n p1)), .val (.int (own_cap p1 p2)), .val (.ref b1), .val (.ref b2), .val (.ref b3), .val (.ref a4), .val (.ref a6), .val (.ref a8), .val (.ref a10), .unset, .unset] []))
        have ES0_14 := ES0_13.keep K14
        have ES1_14 := ES1_13.keep K14
        have ES2_14 := ES2_13.keep K14
        have EL0_14 := EL0_13.keep K14
        have EL1_14 := EL1_13.keep K14
        have EL2_14 := EL2_13.keep K14
        have Zc14 : n0 ≤ T14.heap.size := Nat.le_trans Zc13 K14.1
        refine Go.on (fun t k => XS.aload X14.here hx rfl (hb hby at_129) rfl rfl k) ?_
        show Go p e below _ (T14.setTop (mkF m 131 #[.val (.int p1), .val (.int p2), .val (.int p3), .val (.int p4), .val (.int p5), .val (.int (own_n p1)), .val (.int (own_cap p1 p2)), .val (.ref b1), .val (.ref b2), .val (.ref b3), .val (.ref a4), .val (.ref a6), .val (.ref a8), .val (.ref a10), .unset, .unset] [(.ref a10)]))
        obtain ⟨cq15, kq15, q15a, q15b, q15c⟩ := isOf hZ (rfl : T14.heap = T14.heap) EB14
        obtain ⟨_, _, ⟨T15, L15, k15, n15⟩, -, X15, ⟨Lc15, hQ15, l15, y15, z15⟩, st15⟩ := X14.virtualBack hx (y := (⟨"com/example/olentangy/olentangy/engine/AttributeMap$Builder", "build", "()Lcom/example/olentangy/olentangy/engine/AttributeMap;"⟩ : MethodName)) (z := (⟨"com/example/olentangy/olentangy/engine/AttributeMap$Builder", "build", "()Lcom/example/olentangy/olentangy/engine/AttributeMap;"⟩ : MethodName)) hown (mvT hZ (hw _ (List.mem_of_getElem? (i := 65) rfl))) (mvT hZ (hw _ (List.mem_of_getElem? (i := 66) rfl))) (notFace_of_selects (args := #[]) (mvT hZ (hw _ (List.mem_of_getElem? (i := 68) rfl)))) (mvT hZ (hw _ (List.mem_of_getElem? (i := 68) rfl))) (mvT hZ (hw _ (List.mem_of_getElem? (i := 67) rfl))) (by decide) (backOf (W := 0) (rm10 l Z a0 hw [] a10 ai11 aw11 ((((0 : Int32) + (1 : Int32)) + (1 : Int32)) + (1 : Int32)) T14.heap n0 Zc14 FI14 FV14 FS14) hZ (hw _ (List.mem_of_getElem? (i := 69) rfl)) (hw _ (List.mem_of_getElem? (i := 52) rfl)) (by decide) (by decide)) q15a q15c (g := (mkF m 131 #[.val (.int p1), .val (.int p2), .val (.int p3), .val (.int p4), .val (.int p5), .val (.int (own_n p1)), .val (.int (own_cap p1 p2)), .val (.ref b1), .val (.ref b2), .val (.ref b3), .val (.ref a4), .val (.ref a6), .val (.ref a8), .val (.ref a10), .unset, .unset] [(.ref a10)])) rfl (by rw [hml]; rfl) (Steps.refl _) (argsL := []) (rest := []) (lenOf pd_10 rfl) rfl (by show 2 * 0 + _ ≤ _; exact Nat.le_of_eq rfl) (hb hby at_131) (fun _ _ => ⟨rfl, (rfl : T14.heap = T14.heap), (by decide : 12 + 2 ≤ _), (by decide : 35 + 8 ≤ _)⟩)
        dsimp only [Pt.U, Pt.locs, Pt.cells, Pt.slots] at X15 l15 y15 z15 st15 hQ15
        subst l15 y15 z15
        obtain ⟨b15, rfl, N15q, K15, EM15, MI15, MV15, MS15⟩ := hQ15
        have N15 := Fr.app N14 N15q
        refine Go.st st15 ?_
        show Go p e below _ (T15.setTop (mkF m 134 #[.val (.int p1), .val (.int p2), .val (.int p3), .val (.int p4), .val (.int p5), .val (.int (own_n p1)), .val (.int (own_cap p1 p2)), .val (.ref b1), .val (.ref b2), .val (.ref b3), .val (.ref a4), .val (.ref a6), .val (.ref a8), .val (.ref a10), .unset, .unset] [(.ref b15)]))
        have Zc15 : n0 ≤ T15.heap.size := Nat.le_trans Zc14 K15.1
        have RI15 := RI14.keep K15 (by simp)
        have RW15 := RW14.keep K15 (by simp)
        refine Go.on (fun t k => XS.astore X15.here hx rfl (hb hby at_134) rfl rfl (l' := #[.val (.int p1), .val (.int p2), .val (.int p3), .val (.int p4), .val (.int p5), .val (.int (own_n p1)), .val (.int (own_cap p1 p2)), .val (.ref b1), .val (.ref b2), .val (.ref b3), .val (.ref a4), .val (.ref a6), .val (.ref a8), .val (.ref a10), .val (.ref b15), .unset]) rfl k) ?_
        show Go p e below _ (T15.setTop (mkF m 136 #[.val (.int p1), .val (.int p2), .val (.int p3), .val (.int p4), .val (.int p5), .val (.int (own_n p1)), .val (.int (own_cap p1 p2)), .val (.ref b1), .val (.ref b2), .val (.ref b3), .val (.ref a4), .val (.ref a6), .val (.ref a8), .val (.ref a10), .val (.ref b15), .unset] []))
        refine Go.on (fun t k => XS.aload X15.here hx rfl (hb hby at_136) rfl rfl k) ?_
        show Go p e below _ (T15.setTop (mkF m 138 #[.val (.int p1), .val (.int p2), .val (.int p3), .val (.int p4), .val (.int p5), .val (.int (own_n p1)), .val (.int (own_cap p1 p2)), .val (.ref b1), .val (.ref b2), .val (.ref b3), .val (.ref a4), .val (.ref a6), .val (.ref a8), .val (.ref a10), .val (.ref b15), .unset] [(.ref b15)]))
        obtain ⟨cq16, kq16, q16a, q16b, q16c⟩ := isOf hZ (rfl : T15.heap = T15.heap) EM15
        obtain ⟨_, _, ⟨T16, L16, k16, n16⟩, -, X16, ⟨Lc16, hQ16, l16, y16, z16⟩, st16⟩ := X15.virtualBack hx (y := (⟨"com/example/olentangy/olentangy/engine/AttributeMap", "size", "()I"⟩ : MethodName)) (z := (⟨"com/example/olentangy/olentangy/engine/AttributeMap", "size", "()I"⟩ : MethodName)) hown (mvT hZ (hw _ (List.mem_of_getElem? (i := 107) rfl))) (mvT hZ (hw _ (List.mem_of_getElem? (i := 108) rfl))) (notFace_of_selects (args := #[]) (mvT hZ (hw _ (List.mem_of_getElem? (i := 110) rfl)))) (mvT hZ (hw _ (List.mem_of_getElem? (i := 110) rfl))) (mvT hZ (hw _ (List.mem_of_getElem? (i := 109) rfl))) (by decide) (backOf (W := 0) (rm15 l Z a0 hw [] b15 ((((0 : Int32) + (1 : Int32)) + (1 : Int32)) + (1 : Int32)) T15.heap n0 Zc15 MS15) hZ (hw _ (List.mem_of_getElem? (i := 111) rfl)) (hw _ (List.mem_of_getElem? (i := 72) rfl)) (by decide) (by decide)) q16a q16c (g := (mkF m 138 #[.val (.int p1), .val (.int p2), .val (.int p3), .val (.int p4), .val (.int p5), .val (.int (own_n p1)), .val (.int (own_cap p1 p2)), .val (.ref b1), .val (.ref b2), .val (.ref b3), .val (.ref a4), .val (.ref a6), .val (.ref a8), .val (.ref a10), .val (.ref b15), .unset] [(.ref b15)])) rfl (by rw [hml]; rfl) (Steps.refl _) (argsL := []) (rest := []) (lenOf pd_11 rfl) rfl (by show 2 * 0 + _ ≤ _; exact Nat.le_of_eq rfl) (hb hby at_138) (fun _ _ => ⟨rfl, (rfl : T15.heap = T15.heap), (by decide : 14 + 0 ≤ _), (by decide : 43 + 0 ≤ _)⟩)
        dsimp only [Pt.U, Pt.locs, Pt.cells, Pt.slots] at X16 l16 y16 z16 st16 hQ16
        subst l16 y16 z16
        obtain ⟨rfl, N16q, e16⟩ := hQ16
        have N16 := Fr.app N15 N16q
        refine Go.st st16 ?_
        show Go p e below _ (T16.setTop (mkF m 141 #[.val (.int p1), .val (.int p2), .val (.int p3), .val (.int p4), .val (.int p5), .val (.int (own_n p1)), .val (.int (own_cap p1 p2)), .val (.ref b1), .val (.ref b2), .val (.ref b3), .val (.ref a4), .val (.ref a6), .val (.ref a8), .val (.ref a10), .val (.ref b15), .unset] [(.int ((((0 : Int32) + (1 : Int32)) + (1 : Int32)) + (1 : Int32)))]))
        have Zc16 : n0 ≤ T16.heap.size := by rw [e16]; exact Zc15
        have EM16 : Exa Z T16.heap b15 "com/example/olentangy/olentangy/engine/AttributeMap" := by rw [e16]; exact EM15
        have MI16 : Fld Z T16.heap b15 "com/example/olentangy/olentangy/engine/AttributeMap" "ids" "[Ljava/lang/String;" (.ref ai11) := by rw [e16]; exact MI15
        have MV16 : Fld Z T16.heap b15 "com/example/olentangy/olentangy/engine/AttributeMap" "values" "[Ljava/util/List;" (.ref aw11) := by rw [e16]; exact MV15
        have RI16 : RA Z T16.heap ai11 "java/lang/String" (own_cap p1 p2).toInt.toNat (upd (upd (upd (fun _ => .null) 0 (.ref b1)) 1 (.ref b2)) 2 (.ref b3)) := by rw [e16]; exact RI15
        have RW16 : RA Z T16.heap aw11 "java/util/List" (own_cap p1 p2).toInt.toNat (upd (upd (upd (fun _ => .null) 0 (.ref a4)) 1 (.ref a6)) 2 (.ref a8)) := by rw [e16]; exact RW15
        refine Go.on (fun t k => XS.iload X16.here hx rfl (hb hby at_141) rfl k) ?_
        show Go p e below _ (T16.setTop (mkF m 143 #[.val (.int p1), .val (.int p2), .val (.int p3), .val (.int p4), .val (.int p5), .val (.int (own_n p1)), .val (.int (own_cap p1 p2)), .val (.ref b1), .val (.ref b2), .val (.ref b3), .val (.ref a4), .val (.ref a6), .val (.ref a8), .val (.ref a10), .val (.ref b15), .unset] [(.int (own_n p1)), (.int ((((0 : Int32) + (1 : Int32)) + (1 : Int32)) + (1 : Int32)))]))
        refine Go.on (fun t k => XS.icmpNo X16.here hx rfl (hb hby at_143) rfl (teq (by apply Int32.toInt_inj.mp; have e1 : ((((0 : Int32) + (1 : Int32)) + (1 : Int32)) + (1 : Int32)).toInt = 3 := (by decide); have y0 : (0 : Int32).toInt < (own_n p1).toInt := Int32.lt_iff_toInt_lt.mp hc87; have z0 : (0 : Int32).toInt = 0 := (by decide); have y1 : (1 : Int32).toInt < (own_n p1).toInt := Int32.lt_iff_toInt_lt.mp hc102; have z1 : (1 : Int32).toInt = 1 := (by decide); have y2 : (2 : Int32).toInt < (own_n p1).toInt := Int32.lt_iff_toInt_lt.mp hc117; have z2 : (2 : Int32).toInt = 2 := (by decide); omega : ((((0 : Int32) + (1 : Int32)) + (1 : Int32)) + (1 : Int32)) = (own_n p1))).2 k) ?_
        show Go p e below _ (T16.setTop (mkF m 146 #[.val (.int p1), .val (.int p2), .val (.int p3), .val (.int p4), .val (.int p5), .val (.int (own_n p1)), .val (.int (own_cap p1 p2)), .val (.ref b1), .val (.ref b2), .val (.ref b3), .val (.ref a4), .val (.ref a6), .val (.ref a8), .val (.ref a10), .val (.ref b15), .unset] []))
        refine Go.on (fun t k => XS.iconst X16.here hx rfl (hb hby at_146) k) ?_
        show Go p e below _ (T16.setTop (mkF m 147 #[.val (.int p1), .val (.int p2), .val (.int p3), .val (.int p4), .val (.int p5), .val (.int (own_n p1)), .val (.int (own_cap p1 p2)), .val (.ref b1), .val (.ref b2), .val (.ref b3), .val (.ref a4), .val (.ref a6), .val (.ref a8), .val (.ref a10), .val (.ref b15), .unset] [(.int (1 : Int32))]))
        refine Go.on (fun t k => XS.goto X16.here hx rfl (pc0 := 147) (pc' := 151) rfl (hb hby at_147) (by decide) (by decide) k) ?_
        show Go p e below _ (T16.setTop (mkF m 151 #[.val (.int p1), .val (.int p2), .val (.int p3), .val (.int p4), .val (.int p5), .val (.int (own_n p1)), .val (.int (own_cap p1 p2)), .val (.ref b1), .val (.ref b2), .val (.ref b3), .val (.ref a4), .val (.ref a6), .val (.ref a8), .val (.ref a10), .val (.ref b15), .unset] [(.int (1 : Int32))]))
        refine Go.on (fun t k => XS.istore X16.here hx rfl (hb hby at_151) rfl (l' := #[.val (.int p1), .val (.int p2), .val (.int p3), .val (.int p4), .val (.int p5), .val (.int (own_n p1)), .val (.int (own_cap p1 p2)), .val (.ref b1), .val (.ref b2), .val (.ref b3), .val (.ref a4), .val (.ref a6), .val (.ref a8), .val (.ref a10), .val (.ref b15), .val (.int (1 : Int32))]) rfl k) ?_
        show Go p e below _ (T16.setTop (mkF m 153 #[.val (.int p1), .val (.int p2), .val (.int p3), .val (.int p4), .val (.int p5), .val (.int (own_n p1)), .val (.int (own_cap p1 p2)), .val (.ref b1), .val (.ref b2), .val (.ref b3), .val (.ref a4), .val (.ref a6), .val (.ref a8), .val (.ref a10), .val (.ref b15), .val (.int (1 : Int32))] []))
        refine Go.on (fun t k => XS.iload X16.here hx rfl (hb hby at_153) rfl k) ?_
        show Go p e below _ (T16.setTop (mkF m 155 #[.val (.int p1), .val (.int p2), .val (.int p3), .val (.int p4), .val (.int p5), .val (.int (own_n p1)), .val (.int (own_cap p1 p2)), .val (.ref b1), .val (.ref b2), .val (.ref b3), .val (.ref a4), .val (.ref a6), .val (.ref a8), .val (.ref a10), .val (.ref b15), .val (.int (1 : Int32))] [(.int (own_n p1))]))
        refine Go.on (fun t k => XS.ifNo X16.here hx rfl (hb hby at_155) rfl ((if0 _ _).trans (tlt hc87).2.2.2) k) ?_
        show Go p e below _ (T16.setTop (mkF m 158 #[.val (.int p1), .val (.int p2), .val (.int p3), .val (.int p4), .val (.int p5), .val (.int (own_n p1)), .val (.int (own_cap p1 p2)), .val (.ref b1), .val (.ref b2), .val (.ref b3), .val (.ref a4), .val (.ref a6), .val (.ref a8), .val (.ref a10), .val (.ref b15), .val (.int (1 : Int32))] []))
        refine Go.on (fun t k => XS.iload X16.here hx rfl (hb hby at_158) rfl k) ?_
        show Go p e below _ (T16.setTop (mkF m 160 #[.val (.int p1), .val (.int p2), .val (.int p3), .val (.int p4), .val (.int p5), .val (.int (own_n p1)), .val (.int (own_cap p1 p2)), .val (.ref b1), .val (.ref b2), .val (.ref b3), .val (.ref a4), .val (.ref a6), .val (.ref a8), .val (.ref a10), .val (.ref b15), .val (.int (1 : Int32))] [(.int (1 : Int32))]))
        refine Go.on (fun t k => XS.ifNo X16.here hx rfl (hb hby at_160) rfl ((if0 _ _).trans (feq (by decide : ¬ ((1 : Int32) = (0 : Int32)))).1) k) ?_
        show Go p e below _ (T16.setTop (mkF m 163 #[.val (.int p1), .val (.int p2), .val (.int p3), .val (.int p4), .val (.int p5), .val (.int (own_n p1)), .val (.int (own_cap p1 p2)), .val (.ref b1), .val (.ref b2), .val (.ref b3), .val (.ref a4), .val (.ref a6), .val (.ref a8), .val (.ref a10), .val (.ref b15), .val (.int (1 : Int32))] []))
        refine Go.on (fun t k => XS.aload X16.here hx rfl (hb hby at_163) rfl rfl k) ?_
        show Go p e below _ (T16.setTop (mkF m 165 #[.val (.int p1), .val (.int p2), .val (.int p3), .val (.int p4), .val (.int p5), .val (.int (own_n p1)), .val (.int (own_cap p1 p2)), .val (.ref b1), .val (.ref b2), .val (.ref b3), .val (.ref a4), .val (.ref a6), .val (.ref a8), .val (.ref a10), .val (.ref b15), .val (.int (1 : Int32))] [(.ref b15)]))
        refine Go.on (fun t k => XS.iconst X16.here hx rfl (hb hby at_165) k) ?_
        show Go p e below _ (T16.setTop (mkF m 166 #[.val (.int p1), .val (.int p2), .val (.int p3), .val (.int p4), .val (.int p5), .val (.int (own_n p1)), .val (.int (own_cap p1 p2)), .val (.ref b1), .val (.ref b2), .val (.ref b3), .val (.ref a4), .val (.ref a6), .val (.ref a8), .val (.ref a10), .val (.ref b15), .val (.int (1 : Int32))] [(.int (0 : Int32)), (.ref b15)]))
        obtain ⟨cq17, kq17, q17a, q17b, q17c⟩ := isOf hZ (rfl : T16.heap = T16.heap) EM16
        obtain ⟨_, _, ⟨T17, L17, k17, n17⟩, -, X17, ⟨Lc17, hQ17, l17, y17, z17⟩, st17⟩ := X16.virtualBack hx (y := (⟨"com/example/olentangy/olentangy/engine/AttributeMap", "id", "(I)Ljava/lang/String;"⟩ : MethodName)) (z := (⟨"com/example/olentangy/olentangy/engine/AttributeMap", "id", "(I)Ljava/lang/String;"⟩ : MethodName)) hown (mvT hZ (hw _ (List.mem_of_getElem? (i := 118) rfl))) (mvT hZ (hw _ (List.mem_of_getElem? (i := 119) rfl))) (notFace_of_selects (args := #[]) (mvT hZ (hw _ (List.mem_of_getElem? (i := 121) rfl)))) (mvT hZ (hw _ (List.mem_of_getElem? (i := 121) rfl))) (mvT hZ (hw _ (List.mem_of_getElem? (i := 120) rfl))) (by decide) (backOf (W := 0) (rm17 l Z a0 hw [] b15 (0 : Int32) ai11 b1 0 (own_cap p1 p2).toInt.toNat (upd (upd (upd (fun _ => .null) 0 (.ref b1)) 1 (.ref b2)) 2 (.ref b3)) T16.heap n0 Zc16 MI16 RI16 (by decide) (by omega) rfl) hZ (hw _ (List.mem_of_getElem? (i := 122) rfl)) (hw _ (List.mem_of_getElem? (i := 72) rfl)) (by decide) (by decide)) q17a q17c (g := (mkF m 166 #[.val (.int p1), .val (.int p2), .val (.int p3), .val (.int p4), .val (.int p5), .val (.int (own_n p1)), .val (.int (own_cap p1 p2)), .val (.ref b1), .val (.ref b2), .val (.ref b3), .val (.ref a4), .val (.ref a6), .val (.ref a8), .val (.ref a10), .val (.ref b15), .val (.int (1 : Int32))] [(.int (0 : Int32)), (.ref b15)])) rfl (by rw [hml]; rfl) (Steps.refl _) (argsL := [(.int (0 : Int32))]) (rest := []) (lenOf pd_12 rfl) rfl (by show 2 * 0 + _ ≤ _; exact Nat.le_of_eq rfl) (hb hby at_166) (fun _ _ => ⟨rfl, (rfl : T16.heap = T16.heap), (by decide : 14 + 0 ≤ _), (by decide : 43 + 0 ≤ _)⟩)
        dsimp only [Pt.U, Pt.locs, Pt.cells, Pt.slots] at X17 l17 y17 z17 st17 hQ17
        subst l17 y17 z17
        obtain ⟨rfl, N17q, e17⟩ := hQ17
        have N17 := Fr.app N16 N17q
        refine Go.st st17 ?_
        show Go p e below _ (T17.setTop (mkF m 169 #[.val (.int p1), .val (.int p2), .val (.int p3), .val (.int p4), .val (.int p5), .val (.int (own_n p1)), .val (.int (own_cap p1 p2)), .val (.ref b1), .val (.ref b2), .val (.ref b3), .val (.ref a4), .val (.ref a6), .val (.ref a8), .val (.ref a10), .val (.ref b15), .val (.int (1 : Int32))] [(.ref b1)]))
        have Zc17 : n0 ≤ T17.heap.size := by rw [e17]; exact Zc16
        have EM17 : Exa Z T17.heap b15 "com/example/olentangy/olentangy/engine/AttributeMap" := by rw [e17]; exact EM16
        have MI17 : Fld Z T17.heap b15 "com/example/olentangy/olentangy/engine/AttributeMap" "ids" "[Ljava/lang/String;" (.ref ai11) := by rw [e17]; exact MI16
        have MV17 : Fld Z T17.heap b15 "com/example/olentangy/olentangy/engine/AttributeMap" "values" "[Ljava/util/List;" (.ref aw11) := by rw [e17]; exact MV16
        have RI17 : RA Z T17.heap ai11 "java/lang/String" (own_cap p1 p2).toInt.toNat (upd (upd (upd (fun _ => .null) 0 (.ref b1)) 1 (.ref b2)) 2 (.ref b3)) := by rw [e17]; exact RI16
        have RW17 : RA Z T17.heap aw11 "java/util/List" (own_cap p1 p2).toInt.toNat (upd (upd (upd (fun _ => .null) 0 (.ref a4)) 1 (.ref a6)) 2 (.ref a8)) := by rw [e17]; exact RW16
        refine Go.on (fun t k => XS.aload X17.here hx rfl (hb hby at_169) rfl rfl k) ?_
        show Go p e below _ (T17.setTop (mkF m 171 #[.val (.int p1), .val (.int p2), .val (.int p3), .val (.int p4), .val (.int p5), .val (.int (own_n p1)), .val (.int (own_cap p1 p2)), .val (.ref b1), .val (.ref b2), .val (.ref b3), .val (.ref a4), .val (.ref a6), .val (.ref a8), .val (.ref a10), .val (.ref b15), .val (.int (1 : Int32))] [(.ref b1), (.ref b1)]))
        refine Go.on (fun t k => XS.acmpNo X17.here hx rfl (hb hby at_171) rfl (by simp [if_acmp.holds]) k) ?_
        show Go p e below _ (T17.setTop (mkF m 174 #[.val (.int p1), .val (.int p2), .val (.int p3), .val (.int p4), .val (.int p5), .val (.int (own_n p1)), .val (.int (own_cap p1 p2)), .val (.ref b1), .val (.ref b2), .val (.ref b3), .val (.ref a4), .val (.ref a6), .val (.ref a8), .val (.ref a10), .val (.ref b15), .val (.int (1 : Int32))] []))
        refine Go.on (fun t k => XS.aload X17.here hx rfl (hb hby at_174) rfl rfl k) ?_
        show Go p e below _ (T17.setTop (mkF m 176 #[.val (.int p1), .val (.int p2), .val (.int p3), .val (.int p4), .val (.int p5), .val (.int (own_n p1)), .val (.int (own_cap p1 p2)), .val (.ref b1), .val (.ref b2), .val (.ref b3), .val (.ref a4), .val (.ref a6), .val (.ref a8), .val (.ref a10), .val (.ref b15), .val (.int (1 : Int32))] [(.ref b15)]))
        refine Go.on (fun t k => XS.iconst X17.here hx rfl (hb hby at_176) k) ?_
        show Go p e below _ (T17.setTop (mkF m 177 #[.val (.int p1), .val (.int p2), .val (.int p3), .val (.int p4), .val (.int p5), .val (.int (own_n p1)), .val (.int (own_cap p1 p2)), .val (.ref b1), .val (.ref b2), .val (.ref b3), .val (.ref a4), .val (.ref a6), .val (.ref a8), .val (.ref a10), .val (.ref b15), .val (.int (1 : Int32))] [(.int (0 : Int32)), (.ref b15)]))
        obtain ⟨cq18, kq18, q18a, q18b, q18c⟩ := isOf hZ (rfl : T17.heap = T17.heap) EM17
        obtain ⟨_, _, ⟨T18, L18, k18, n18⟩, -, X18, ⟨Lc18, hQ18, l18, y18, z18⟩, st18⟩ := X17.virtualBack hx (y := (⟨"com/example/olentangy/olentangy/engine/AttributeMap", "values", "(I)Ljava/util/List;"⟩ : MethodName)) (z := (⟨"com/example/olentangy/olentangy/engine/AttributeMap", "values", "(I)Ljava/util/List;"⟩ : MethodName)) hown (mvT hZ (hw _ (List.mem_of_getElem? (i := 123) rfl))) (mvT hZ (hw _ (List.mem_of_getElem? (i := 124) rfl))) (notFace_of_selects (args := #[]) (mvT hZ (hw _ (List.mem_of_getElem? (i := 126) rfl)))) (mvT hZ (hw _ (List.mem_of_getElem? (i := 126) rfl))) (mvT hZ (hw _ (List.mem_of_getElem? (i := 125) rfl))) (by decide) (backOf (W := 0) (rm18 l Z a0 hw [] b15 (0 : Int32) aw11 a4 0 (own_cap p1 p2).toInt.toNat (upd (upd (upd (fun _ => .null) 0 (.ref a4)) 1 (.ref a6)) 2 (.ref a8)) T17.heap n0 Zc17 MV17 RW17 (by decide) (by omega) rfl) hZ (hw _ (List.mem_of_getElem? (i := 127) rfl)) (hw _ (List.mem_of_getElem? (i := 72) rfl)) (by decide) (by decide)) q18a q18c (g := (mkF m 177 #[.val (.int p1), .val (.int p2), .val (.int p3), .val (.int p4), .val (.int p5), .val (.int (own_n p1)), .val (.int (own_cap p1 p2)), .val (.ref b1), .val (.ref b2), .val (.ref b3), .val (.ref a4), .val (.ref a6), .val (.ref a8), .val (.ref a10), .val (.ref b15), .val (.int (1 : Int32))] [(.int (0 : Int32)), (.ref b15)])) rfl (by rw [hml]; rfl) (Steps.refl _) (argsL := [(.int (0 : Int32))]) (rest := []) (lenOf pd_13 rfl) rfl (by show 2 * 0 + _ ≤ _; exact Nat.le_of_eq rfl) (hb hby at_177) (fun _ _ => ⟨rfl, (rfl : T17.heap = T17.heap), (by decide : 14 + 0 ≤ _), (by decide : 43 + 0 ≤ _)⟩)
        dsimp only [Pt.U, Pt.locs, Pt.cells, Pt.slots] at X18 l18 y18 z18 st18 hQ18
        subst l18 y18 z18
        obtain ⟨rfl, N18q, e18⟩ := hQ18
        have N18 := Fr.app N17 N18q
        refine Go.st st18 ?_
        show Go p e below _ (T18.setTop (mkF m 180 #[.val (.int p1), .val (.int p2), .val (.int p3), .val (.int p4), .val (.int p5), .val (.int (own_n p1)), .val (.int (own_cap p1 p2)), .val (.ref b1), .val (.ref b2), .val (.ref b3), .val (.ref a4), .val (.ref a6), .val (.ref a8), .val (.ref a10), .val (.ref b15), .val (.int (1 : Int32))] [(.ref a4)]))
        have Zc18 : n0 ≤ T18.heap.size := by rw [e18]; exact Zc17
        have EM18 : Exa Z T18.heap b15 "com/example/olentangy/olentangy/engine/AttributeMap" := by rw [e18]; exact EM17
        have MI18 : Fld Z T18.heap b15 "com/example/olentangy/olentangy/engine/AttributeMap" "ids" "[Ljava/lang/String;" (.ref ai11) := by rw [e18]; exact MI17
        have MV18 : Fld Z T18.heap b15 "com/example/olentangy/olentangy/engine/AttributeMap" "values" "[Ljava/util/List;" (.ref aw11) := by rw [e18]; exact MV17
        have RI18 : RA Z T18.heap ai11 "java/lang/String" (own_cap p1 p2).toInt.toNat (upd (upd (upd (fun _ => .null) 0 (.ref b1)) 1 (.ref b2)) 2 (.ref b3)) := by rw [e18]; exact RI17
        have RW18 : RA Z T18.heap aw11 "java/util/List" (own_cap p1 p2).toInt.toNat (upd (upd (upd (fun _ => .null) 0 (.ref a4)) 1 (.ref a6)) 2 (.ref a8)) := by rw [e18]; exact RW17
        refine Go.on (fun t k => XS.aload X18.here hx rfl (hb hby at_180) rfl rfl k) ?_
        show Go p e below _ (T18.setTop (mkF m 182 #[.val (.int p1), .val (.int p2), .val (.int p3), .val (.int p4), .val (.int p5), .val (.int (own_n p1)), .val (.int (own_cap p1 p2)), .val (.ref b1), .val (.ref b2), .val (.ref b3), .val (.ref a4), .val (.ref a6), .val (.ref a8), .val (.ref a10), .val (.ref b15), .val (.int (1 : Int32))] [(.ref a4), (.ref a4)]))
        refine Go.on (fun t k => XS.acmpNo X18.here hx rfl (hb hby at_182) rfl (by simp [if_acmp.holds]) k) ?_
        show Go p e below _ (T18.setTop (mkF m 185 #[.val (.int p1), .val (.int p2), .val (.int p3), .val (.int p4), .val (.int p5), .val (.int (own_n p1)), .val (.int (own_cap p1 p2)), .val (.ref b1), .val (.ref b2), .val (.ref b3), .val (.ref a4), .val (.ref a6), .val (.ref a8), .val (.ref a10), .val (.ref b15), .val (.int (1 : Int32))] []))
        refine Go.on (fun t k => XS.iconst X18.here hx rfl (hb hby at_185) k) ?_
        show Go p e below _ (T18.setTop (mkF m 186 #[.val (.int p1), .val (.int p2), .val (.int p3), .val (.int p4), .val (.int p5), .val (.int (own_n p1)), .val (.int (own_cap p1 p2)), .val (.ref b1), .val (.ref b2), .val (.ref b3), .val (.ref a4), .val (.ref a6), .val (.ref a8), .val (.ref a10), .val (.ref b15), .val (.int (1 : Int32))] [(.int (1 : Int32))]))
        refine Go.on (fun t k => XS.goto X18.here hx rfl (pc0 := 186) (pc' := 190) rfl (hb hby at_186) (by decide) (by decide) k) ?_
        show Go p e below _ (T18.setTop (mkF m 190 #[.val (.int p1), .val (.int p2), .val (.int p3), .val (.int p4), .val (.int p5), .val (.int (own_n p1)), .val (.int (own_cap p1 p2)), .val (.ref b1), .val (.ref b2), .val (.ref b3), .val (.ref a4), .val (.ref a6), .val (.ref a8), .val (.ref a10), .val (.ref b15), .val (.int (1 : Int32))] [(.int (1 : Int32))]))
        refine Go.on (fun t k => XS.istore X18.here hx rfl (hb hby at_190) rfl (l' := #[.val (.int p1), .val (.int p2), .val (.int p3), .val (.int p4), .val (.int p5), .val (.int (own_n p1)), .val (.int (own_cap p1 p2)), .val (.ref b1), .val (.ref b2), .val (.ref b3), .val (.ref a4), .val (.ref a6), .val (.ref a8), .val (.ref a10), .val (.ref b15), .val (.int (1 : Int32))]) rfl k) ?_
        show Go p e below _ (T18.setTop (mkF m 192 #[.val (.int p1), .val (.int p2), .val (.int p3), .val (.int p4), .val (.int p5), .val (.int (own_n p1)), .val (.int (own_cap p1 p2)), .val (.ref b1), .val (.ref b2), .val (.ref b3), .val (.ref a4), .val (.ref a6), .val (.ref a8), .val (.ref a10), .val (.ref b15), .val (.int (1 : Int32))] []))
        refine Go.on (fun t k => XS.iload X18.here hx rfl (hb hby at_192) rfl k) ?_
        show Go p e below _ (T18.setTop (mkF m 194 #[.val (.int p1), .val (.int p2), .val (.int p3), .val (.int p4), .val (.int p5), .val (.int (own_n p1)), .val (.int (own_cap p1 p2)), .val (.ref b1), .val (.ref b2), .val (.ref b3), .val (.ref a4), .val (.ref a6), .val (.ref a8), .val (.ref a10), .val (.ref b15), .val (.int (1 : Int32))] [(.int (own_n p1))]))
        refine Go.on (fun t k => XS.iconst X18.here hx rfl (hb hby at_194) k) ?_
        show Go p e below _ (T18.setTop (mkF m 195 #[.val (.int p1), .val (.int p2), .val (.int p3), .val (.int p4), .val (.int p5), .val (.int (own_n p1)), .val (.int (own_cap p1 p2)), .val (.ref b1), .val (.ref b2), .val (.ref b3), .val (.ref a4), .val (.ref a6), .val (.ref a8), .val (.ref a10), .val (.ref b15), .val (.int (1 : Int32))] [(.int (1 : Int32)), (.int (own_n p1))]))
        refine Go.on (fun t k => XS.icmpNo X18.here hx rfl (hb hby at_195) rfl (tlt hc102).2.2.2 k) ?_
        show Go p e below _ (T18.setTop (mkF m 198 #[.val (.int p1), .val (.int p2), .val (.int p3), .val (.int p4), .val (.int p5), .val (.int (own_n p1)), .val (.int (own_cap p1 p2)), .val (.ref b1), .val (.ref b2), .val (.ref b3), .val (.ref a4), .val (.ref a6), .val (.ref a8), .val (.ref a10), .val (.ref b15), .val (.int (1 : Int32))] []))
        refine Go.on (fun t k => XS.iload X18.here hx rfl (hb hby at_198) rfl k) ?_
        show Go p e below _ (T18.setTop (mkF m 200 #[.val (.int p1), .val (.int p2), .val (.int p3), .val (.int p4), .val (.int p5), .val (.int (own_n p1)), .val (.int (own_cap p1 p2)), .val (.ref b1), .val (.ref b2), .val (.ref b3), .val (.ref a4), .val (.ref a6), .val (.ref a8), .val (.ref a10), .val (.ref b15), .val (.int (1 : Int32))] [(.int (1 : Int32))]))
        refine Go.on (fun t k => XS.ifNo X18.here hx rfl (hb hby at_200) rfl ((if0 _ _).trans (feq (by decide : ¬ ((1 : Int32) = (0 : Int32)))).1) k) ?_
        show Go p e below _ (T18.setTop (mkF m 203 #[.val (.int p1), .val (.int p2), .val (.int p3), .val (.int p4), .val (.int p5), .val (.int (own_n p1)), .val (.int (own_cap p1 p2)), .val (.ref b1), .val (.ref b2), .val (.ref b3), .val (.ref a4), .val (.ref a6), .val (.ref a8), .val (.ref a10), .val (.ref b15), .val (.int (1 : Int32))] []))
        refine Go.on (fun t k => XS.aload X18.here hx rfl (hb hby at_203) rfl rfl k) ?_
        show Go p e below _ (T18.setTop (mkF m 205 #[.val (.int p1), .val (.int p2), .val (.int p3), .val (.int p4), .val (.int p5), .val (.int (own_n p1)), .val (.int (own_cap p1 p2)), .val (.ref b1), .val (.ref b2), .val (.ref b3), .val (.ref a4), .val (.ref a6), .val (.ref a8), .val (.ref a10), .val (.ref b15), .val (.int (1 : Int32))] [(.ref b15)]))
        refine Go.on (fun t k => XS.iconst X18.here hx rfl (hb hby at_205) k) ?_
        show Go p e below _ (T18.setTop (mkF m 206 #[.val (.int p1), .val (.int p2), .val (.int p3), .val (.int p4), .val (.int p5), .val (.int (own_n p1)), .val (.int (own_cap p1 p2)), .val (.ref b1), .val (.ref b2), .val (.ref b3), .val (.ref a4), .val (.ref a6), .val (.ref a8), .val (.ref a10), .val (.ref b15), .val (.int (1 : Int32))] [(.int (1 : Int32)), (.ref b15)]))
        obtain ⟨cq19, kq19, q19a, q19b, q19c⟩ := isOf hZ (rfl : T18.heap = T18.heap) EM18
        obtain ⟨_, _, ⟨T19, L19, k19, n19⟩, -, X19, ⟨Lc19, hQ19, l19, y19, z19⟩, st19⟩ := X18.virtualBack hx (y := (⟨"com/example/olentangy/olentangy/engine/AttributeMap", "id", "(I)Ljava/lang/String;"⟩ : MethodName)) (z := (⟨"com/example/olentangy/olentangy/engine/AttributeMap", "id", "(I)Ljava/lang/String;"⟩ : MethodName)) hown (mvT hZ (hw _ (List.mem_of_getElem? (i := 118) rfl))) (mvT hZ (hw _ (List.mem_of_getElem? (i := 119) rfl))) (notFace_of_selects (args := #[]) (mvT hZ (hw _ (List.mem_of_getElem? (i := 121) rfl)))) (mvT hZ (hw _ (List.mem_of_getElem? (i := 121) rfl))) (mvT hZ (hw _ (List.mem_of_getElem? (i := 120) rfl))) (by decide) (backOf (W := 0) (rm17 l Z a0 hw [] b15 (1 : Int32) ai11 b2 1 (own_cap p1 p2).toInt.toNat (upd (upd (upd (fun _ => .null) 0 (.ref b1)) 1 (.ref b2)) 2 (.ref b3)) T18.heap n0 Zc18 MI18 RI18 (by decide) (by omega) rfl) hZ (hw _ (List.mem_of_getElem? (i := 122) rfl)) (hw _ (List.mem_of_getElem? (i := 72) rfl)) (by decide) (by decide)) q19a q19c (g := (mkF m 206 #[.val (.int p1), .val (.int p2), .val (.int p3), .val (.int p4), .val (.int p5), .val (.int (own_n p1)), .val (.int (own_cap p1 p2)), .val (.ref b1), .val (.ref b2), .val (.ref b3), .val (.ref a4), .val (.ref a6), .val (.ref a8), .val (.ref a10), .val (.ref b15), .val (.int (1 : Int32))] [(.int (1 : Int32)), (.ref b15)])) rfl (by rw [hml]; rfl) (Steps.refl _) (argsL := [(.int (1 : Int32))]) (rest := []) (lenOf pd_12 rfl) rfl (by show 2 * 0 + _ ≤ _; exact Nat.le_of_eq rfl) (hb hby at_206) (fun _ _ => ⟨rfl, (rfl : T18.heap = T18.heap), (by decide : 14 + 0 ≤ _), (by decide : 43 + 0 ≤ _)⟩)
        dsimp only [Pt.U, Pt.locs, Pt.cells, Pt.slots] at X19 l19 y19 z19 st19 hQ19
        subst l19 y19 z19
        obtain ⟨rfl, N19q, e19⟩ := hQ19
        have N19 := Fr.app N18 N19q
        refine Go.st st19 ?_
        show Go p e below _ (T19.setTop (mkF m 209 #[.val (.int p1), .val (.int p2), .val (.int p3), .val (.int p4), .val (.int p5), .val (.int (own_n p1)), .val (.int (own_cap p1 p2)), .val (.ref b1), .val (.ref b2), .val (.ref b3), .val (.ref a4), .val (.ref a6), .val (.ref a8), .val (.ref a10), .val (.ref b15), .val (.int (1 : Int32))] [(.ref b2)]))
        have Zc19 : n0 ≤ T19.heap.size := by rw [e19]; exact Zc18
        have EM19 : Exa Z T19.heap b15 "com/example/olentangy/olentangy/engine/AttributeMap" := by rw [e19]; exact EM18
        have MI19 : Fld Z T19.heap b15 "com/example/olentangy/olentangy/engine/AttributeMap" "ids" "[Ljava/lang/String;" (.ref ai11) := by rw [e19]; exact MI18
        have MV19 : Fld Z T19.heap b15 "com/example/olentangy/olentangy/engine/AttributeMap" "values" "[Ljava/util/List;" (.ref aw11) := by rw [e19]; exact MV18
        have RI19 : RA Z T19.heap ai11 "java/lang/String" (own_cap p1 p2).toInt.toNat (upd (upd (upd (fun _ => .null) 0 (.ref b1)) 1 (.ref b2)) 2 (.ref b3)) := by rw [e19]; exact RI18
        have RW19 : RA Z T19.heap aw11 "java/util/List" (own_cap p1 p2).toInt.toNat (upd (upd (upd (fun _ => .null) 0 (.ref a4)) 1 (.ref a6)) 2 (.ref a8)) := by rw [e19]; exact RW18
        refine Go.on (fun t k => XS.aload X19.here hx rfl (hb hby at_209) rfl rfl k) ?_
        show Go p e below _ (T19.setTop (mkF m 211 #[.val (.int p1), .val (.int p2), .val (.int p3), .val (.int p4), .val (.int p5), .val (.int (own_n p1)), .val (.int (own_cap p1 p2)), .val (.ref b1), .val (.ref b2), .val (.ref b3), .val (.ref a4), .val (.ref a6), .val (.ref a8), .val (.ref a10), .val (.ref b15), .val (.int (1 : Int32))] [(.ref b2), (.ref b2)]))
        refine Go.on (fun t k => XS.acmpNo X19.here hx rfl (hb hby at_211) rfl (by simp [if_acmp.holds]) k) ?_
        show Go p e below _ (T19.setTop (mkF m 214 #[.val (.int p1), .val (.int p2), .val (.int p3), .val (.int p4), .val (.int p5), .val (.int (own_n p1)), .val (.int (own_cap p1 p2)), .val (.ref b1), .val (.ref b2), .val (.ref b3), .val (.ref a4), .val (.ref a6), .val (.ref a8), .val (.ref a10), .val (.ref b15), .val (.int (1 : Int32))] []))
        refine Go.on (fun t k => XS.aload X19.here hx rfl (hb hby at_214) rfl rfl k) ?_
        show Go p e below _ (T19.setTop (mkF m 216 #[.val (.int p1), .val (.int p2), .val (.int p3), .val (.int p4), .val (.int p5), .val (.int (own_n p1)), .val (.int (own_cap p1 p2)), .val (.ref b1), .val (.ref b2), .val (.ref b3), .val (.ref a4), .val (.ref a6), .val (.ref a8), .val (.ref a10), .val (.ref b15), .val (.int (1 : Int32))] [(.ref b15)]))
        refine Go.on (fun t k => XS.iconst X19.here hx rfl (hb hby at_216) k) ?_
        show Go p e below _ (T19.setTop (mkF m 217 #[.val (.int p1), .val (.int p2), .val (.int p3), .val (.int p4), .val (.int p5), .val (.int (own_n p1)), .val (.int (own_cap p1 p2)), .val (.ref b1), .val (.ref b2), .val (.ref b3), .val (.ref a4), .val (.ref a6), .val (.ref a8), .val (.ref a10), .val (.ref b15), .val (.int (1 : Int32))] [(.int (1 : Int32)), (.ref b15)]))
        obtain ⟨cq20, kq20, q20a, q20b, q20c⟩ := isOf hZ (rfl : T19.heap = T19.heap) EM19
        obtain ⟨_, _, ⟨T20, L20, k20, n20⟩, -, X20, ⟨Lc20, hQ20, l20, y20, z20⟩, st20⟩ := X19.virtualBack hx (y := (⟨"com/example/olentangy/olentangy/engine/AttributeMap", "values", "(I)Ljava/util/List;"⟩ : MethodName)) (z := (⟨"com/example/olentangy/olentangy/engine/AttributeMap", "values", "(I)Ljava/util/List;"⟩ : MethodName)) hown (mvT hZ (hw _ (List.mem_of_getElem? (i := 123) rfl))) (mvT hZ (hw _ (List.mem_of_getElem? (i := 124) rfl))) (notFace_of_selects (args := #[]) (mvT hZ (hw _ (List.mem_of_getElem? (i := 126) rfl)))) (mvT hZ (hw _ (List.mem_of_getElem? (i := 126) rfl))) (mvT hZ (hw _ (List.mem_of_getElem? (i := 125) rfl))) (by decide) (backOf (W := 0) (rm18 l Z a0 hw [] b15 (1 : Int32) aw11 a6 1 (own_cap p1 p2).toInt.toNat (upd (upd (upd (fun _ => .null) 0 (.ref a4)) 1 (.ref a6)) 2 (.ref a8)) T19.heap n0 Zc19 MV19 RW19 (by decide) (by omega) rfl) hZ (hw _ (List.mem_of_getElem? (i := 127) rfl)) (hw _ (List.mem_of_getElem? (i := 72) rfl)) (by decide) (by decide)) q20a q20c (g := (mkF m 217 #[.val (.int p1), .val (.int p2), .val (.int p3), .val (.int p4), .val (.int p5), .val (.int (own_n p1)), .val (.int (own_cap p1 p2)), .val (.ref b1), .val (.ref b2), .val (.ref b3), .val (.ref a4), .val (.ref a6), .val (.ref a8), .val (.ref a10), .val (.ref b15), .val (.int (1 : Int32))] [(.int (1 : Int32)), (.ref b15)])) rfl (by rw [hml]; rfl) (Steps.refl _) (argsL := [(.int (1 : Int32))]) (rest := []) (lenOf pd_13 rfl) rfl (by show 2 * 0 + _ ≤ _; exact Nat.le_of_eq rfl) (hb hby at_217) (fun _ _ => ⟨rfl, (rfl : T19.heap = T19.heap), (by decide : 14 + 0 ≤ _), (by decide : 43 + 0 ≤ _)⟩)
        dsimp only [Pt.U, Pt.locs, Pt.cells, Pt.slots] at X20 l20 y20 z20 st20 hQ20
        subst l20 y20 z20
        obtain ⟨rfl, N20q, e20⟩ := hQ20
        have N20 := Fr.app N19 N20q
        refine Go.st st20 ?_
        show Go p e below _ (T20.setTop (mkF m 220 #[.val (.int p1), .val (.int p2), .val (.int p3), .val (.int p4), .val (.int p5), .val (.int (own_n p1)), .val (.int (own_cap p1 p2)), .val (.ref b1), .val (.ref b2), .val (.ref b3), .val (.ref a4), .val (.ref a6), .val (.ref a8), .val (.ref a10), .val (.ref b15), .val (.int (1 : Int32))] [(.ref a6)]))
        have Zc20 : n0 ≤ T20.heap.size := by rw [e20]; exact Zc19
        have EM20 : Exa Z T20.heap b15 "com/example/olentangy/olentangy/engine/AttributeMap" := by rw [e20]; exact EM19
        have MI20 : Fld Z T20.heap b15 "com/example/olentangy/olentangy/engine/AttributeMap" "ids" "[Ljava/lang/String;" (.ref ai11) := by rw [e20]; exact MI19
        have MV20 : Fld Z T20.heap b15 "com/example/olentangy/olentangy/engine/AttributeMap" "values" "[Ljava/util/List;" (.ref aw11) := by rw [e20]; exact MV19
        have RI20 : RA Z T20.heap ai11 "java/lang/String" (own_cap p1 p2).toInt.toNat (upd (upd (upd (fun _ => .null) 0 (.ref b1)) 1 (.ref b2)) 2 (.ref b3)) := by rw [e20]; exact RI19
        have RW20 : RA Z T20.heap aw11 "java/util/List" (own_cap p1 p2).toInt.toNat (upd (upd (upd (fun _ => .null) 0 (.ref a4)) 1 (.ref a6)) 2 (.ref a8)) := by rw [e20]; exact RW19
        refine Go.on (fun t k => XS.aload X20.here hx rfl (hb hby at_220) rfl rfl k) ?_
        show Go p e below _ (T20.setTop (mkF m 222 #[.val (.int p1), .val (.int p2), .val (.int p3), .val (.int p4), .val (.int p5), .val (.int (own_n p1)), .val (.int (own_cap p1 p2)), .val (.ref b1), .val (.ref b2), .val (.ref b3), .val (.ref a4), .val (.ref a6), .val (.ref a8), .val (.ref a10), .val (.ref b15), .val (.int (1 : Int32))] [(.ref a6), (.ref a6)]))
        refine Go.on (fun t k => XS.acmpNo X20.here hx rfl (hb hby at_222) rfl (by simp [if_acmp.holds]) k) ?_
        show Go p e below _ (T20.setTop (mkF m 225 #[.val (.int p1), .val (.int p2), .val (.int p3), .val (.int p4), .val (.int p5), .val (.int (own_n p1)), .val (.int (own_cap p1 p2)), .val (.ref b1), .val (.ref b2), .val (.ref b3), .val (.ref a4), .val (.ref a6), .val (.ref a8), .val (.ref a10), .val (.ref b15), .val (.int (1 : Int32))] []))
        refine Go.on (fun t k => XS.iconst X20.here hx rfl (hb hby at_225) k) ?_
        show Go p e below _ (T20.setTop (mkF m 226 #[.val (.int p1), .val (.int p2), .val (.int p3), .val (.int p4), .val (.int p5), .val (.int (own_n p1)), .val (.int (own_cap p1 p2)), .val (.ref b1), .val (.ref b2), .val (.ref b3), .val (.ref a4), .val (.ref a6), .val (.ref a8), .val (.ref a10), .val (.ref b15), .val (.int (1 : Int32))] [(.int (1 : Int32))]))
        refine Go.on (fun t k => XS.goto X20.here hx rfl (pc0 := 226) (pc' := 230) rfl (hb hby at_226) (by decide) (by decide) k) ?_
        show Go p e below _ (T20.setTop (mkF m 230 #[.val (.int p1), .val (.int p2), .val (.int p3), .val (.int p4), .val (.int p5), .val (.int (own_n p1)), .val (.int (own_cap p1 p2)), .val (.ref b1), .val (.ref b2), .val (.ref b3), .val (.ref a4), .val (.ref a6), .val (.ref a8), .val (.ref a10), .val (.ref b15), .val (.int (1 : Int32))] [(.int (1 : Int32))]))
        refine Go.on (fun t k => XS.istore X20.here hx rfl (hb hby at_230) rfl (l' := #[.val (.int p1), .val (.int p2), .val (.int p3), .val (.int p4), .val (.int p5), .val (.int (own_n p1)), .val (.int (own_cap p1 p2)), .val (.ref b1), .val (.ref b2), .val (.ref b3), .val (.ref a4), .val (.ref a6), .val (.ref a8), .val (.ref a10), .val (.ref b15), .val (.int (1 : Int32))]) rfl k) ?_
        show Go p e below _ (T20.setTop (mkF m 232 #[.val (.int p1), .val (.int p2), .val (.int p3), .val (.int p4), .val (.int p5), .val (.int (own_n p1)), .val (.int (own_cap p1 p2)), .val (.ref b1), .val (.ref b2), .val (.ref b3), .val (.ref a4), .val (.ref a6), .val (.ref a8), .val (.ref a10), .val (.ref b15), .val (.int (1 : Int32))] []))
        refine Go.on (fun t k => XS.iload X20.here hx rfl (hb hby at_232) rfl k) ?_
        show Go p e below _ (T20.setTop (mkF m 234 #[.val (.int p1), .val (.int p2), .val (.int p3), .val (.int p4), .val (.int p5), .val (.int (own_n p1)), .val (.int (own_cap p1 p2)), .val (.ref b1), .val (.ref b2), .val (.ref b3), .val (.ref a4), .val (.ref a6), .val (.ref a8), .val (.ref a10), .val (.ref b15), .val (.int (1 : Int32))] [(.int (own_n p1))]))
        refine Go.on (fun t k => XS.iconst X20.here hx rfl (hb hby at_234) k) ?_
        show Go p e below _ (T20.setTop (mkF m 235 #[.val (.int p1), .val (.int p2), .val (.int p3), .val (.int p4), .val (.int p5), .val (.int (own_n p1)), .val (.int (own_cap p1 p2)), .val (.ref b1), .val (.ref b2), .val (.ref b3), .val (.ref a4), .val (.ref a6), .val (.ref a8), .val (.ref a10), .val (.ref b15), .val (.int (1 : Int32))] [(.int (2 : Int32)), (.int (own_n p1))]))
        refine Go.on (fun t k => XS.icmpNo X20.here hx rfl (hb hby at_235) rfl (tlt hc117).2.2.2 k) ?_
        show Go p e below _ (T20.setTop (mkF m 238 #[.val (.int p1), .val (.int p2), .val (.int p3), .val (.int p4), .val (.int p5), .val (.int (own_n p1)), .val (.int (own_cap p1 p2)), .val (.ref b1), .val (.ref b2), .val (.ref b3), .val (.ref a4), .val (.ref a6), .val (.ref a8), .val (.ref a10), .val (.ref b15), .val (.int (1 : Int32))] []))
        refine Go.on (fun t k => XS.iload X20.here hx rfl (hb hby at_238) rfl k) ?_
        show Go p e below _ (T20.setTop (mkF m 240 #[.val (.int p1), .val (.int p2), .val (.int p3), .val (.int p4), .val (.int p5), .val (.int (own_n p1)), .val (.int (own_cap p1 p2)), .val (.ref b1), .val (.ref b2), .val (.ref b3), .val (.ref a4), .val (.ref a6), .val (.ref a8), .val (.ref a10), .val (.ref b15), .val (.int (1 : Int32))] [(.int (1 : Int32))]))
        refine Go.on (fun t k => XS.ifNo X20.here hx rfl (hb hby at_240) rfl ((if0 _ _).trans (feq (by decide : ¬ ((1 : Int32) = (0 : Int32)))).1) k) ?_
        show Go p e below _ (T20.setTop (mkF m 243 #[.val (.int p1), .val (.int p2), .val (.int p3), .val (.int p4), .val (.int p5), .val (.int (own_n p1)), .val (.int (own_cap p1 p2)), .val (.ref b1), .val (.ref b2), .val (.ref b3), .val (.ref a4), .val (.ref a6), .val (.ref a8), .val (.ref a10), .val (.ref b15), .val (.int (1 : Int32))] []))
        refine Go.on (fun t k => XS.aload X20.here hx rfl (hb hby at_243) rfl rfl k) ?_
        show Go p e below _ (T20.setTop (mkF m 245 #[.val (.int p1), .val (.int p2), .val (.int p3), .val (.int p4), .val (.int p5), .val (.int (own_n p1)), .val (.int (own_cap p1 p2)), .val (.ref b1), .val (.ref b2), .val (.ref b3), .val (.ref a4), .val (.ref a6), .val (.ref a8), .val (.ref a10), .val (.ref b15), .val (.int (1 : Int32))] [(.ref b15)]))
        refine Go.on (fun t k => XS.iconst X20.here hx rfl (hb hby at_245) k) ?_
        show Go p e below _ (T20.setTop (mkF m 246 #[.val (.int p1), .val (.int p2), .val (.int p3), .val (.int p4), .val (.int p5), .val (.int (own_n p1)), .val (.int (own_cap p1 p2)), .val (.ref b1), .val (.ref b2), .val (.ref b3), .val (.ref a4), .val (.ref a6), .val (.ref a8), .val (.ref a10), .val (.ref b15), .val (.int (1 : Int32))] [(.int (2 : Int32)), (.ref b15)]))
        obtain ⟨cq21, kq21, q21a, q21b, q21c⟩ := isOf hZ (rfl : T20.heap = T20.heap) EM20
        obtain ⟨_, _, ⟨T21, L21, k21, n21⟩, -, X21, ⟨Lc21, hQ21, l21, y21, z21⟩, st21⟩ := X20.virtualBack hx (y := (⟨"com/example/olentangy/olentangy/engine/AttributeMap", "id", "(I)Ljava/lang/String;"⟩ : MethodName)) (z := (⟨"com/example/olentangy/olentangy/engine/AttributeMap", "id", "(I)Ljava/lang/String;"⟩ : MethodName)) hown (mvT hZ (hw _ (List.mem_of_getElem? (i := 118) rfl))) (mvT hZ (hw _ (List.mem_of_getElem? (i := 119) rfl))) (notFace_of_selects (args := #[]) (mvT hZ (hw _ (List.mem_of_getElem? (i := 121) rfl)))) (mvT hZ (hw _ (List.mem_of_getElem? (i := 121) rfl))) (mvT hZ (hw _ (List.mem_of_getElem? (i := 120) rfl))) (by decide) (backOf (W := 0) (rm17 l Z a0 hw [] b15 (2 : Int32) ai11 b3 2 (own_cap p1 p2).toInt.toNat (upd (upd (upd (fun _ => .null) 0 (.ref b1)) 1 (.ref b2)) 2 (.ref b3)) T20.heap n0 Zc20 MI20 RI20 (by decide) (by omega) rfl) hZ (hw _ (List.mem_of_getElem? (i := 122) rfl)) (hw _ (List.mem_of_getElem? (i := 72) rfl)) (by decide) (by decide)) q21a q21c (g := (mkF m 246 #[.val (.int p1), .val (.int p2), .val (.int p3), .val (.int p4), .val (.int p5), .val (.int (own_n p1)), .val (.int (own_cap p1 p2)), .val (.ref b1), .val (.ref b2), .val (.ref b3), .val (.ref a4), .val (.ref a6), .val (.ref a8), .val (.ref a10), .val (.ref b15), .val (.int (1 : Int32))] [(.int (2 : Int32)), (.ref b15)])) rfl (by rw [hml]; rfl) (Steps.refl _) (argsL := [(.int (2 : Int32))]) (rest := []) (lenOf pd_12 rfl) rfl (by show 2 * 0 + _ ≤ _; exact Nat.le_of_eq rfl) (hb hby at_246) (fun _ _ => ⟨rfl, (rfl : T20.heap = T20.heap), (by decide : 14 + 0 ≤ _), (by decide : 43 + 0 ≤ _)⟩)
        dsimp only [Pt.U, Pt.locs, Pt.cells, Pt.slots] at X21 l21 y21 z21 st21 hQ21
        subst l21 y21 z21
        obtain ⟨rfl, N21q, e21⟩ := hQ21
        have N21 := Fr.app N20 N21q
        refine Go.st st21 ?_
        show Go p e below _ (T21.setTop (mkF m 249 #[.val (.int p1), .val (.int p2), .val (.int p3), .val (.int p4), .val (.int p5), .val (.int (own_n p1)), .val (.int (own_cap p1 p2)), .val (.ref b1), .val (.ref b2), .val (.ref b3), .val (.ref a4), .val (.ref a6), .val (.ref a8), .val (.ref a10), .val (.ref b15), .val (.int (1 : Int32))] [(.ref b3)]))
        have Zc21 : n0 ≤ T21.heap.size := by rw [e21]; exact Zc20
        have EM21 : Exa Z T21.heap b15 "com/example/olentangy/olentangy/engine/AttributeMap" := by rw [e21]; exact EM20
        have MI21 : Fld Z T21.heap b15 "com/example/olentangy/olentangy/engine/AttributeMap" "ids" "[Ljava/lang/String;" (.ref ai11) := by rw [e21]; exact MI20
        have MV21 : Fld Z T21.heap b15 "com/example/olentangy/olentangy/engine/AttributeMap" "values" "[Ljava/util/List;" (.ref aw11) := by rw [e21]; exact MV20
        have RI21 : RA Z T21.heap ai11 "java/lang/String" (own_cap p1 p2).toInt.toNat (upd (upd (upd (fun _ => .null) 0 (.ref b1)) 1 (.ref b2)) 2 (.ref b3)) := by rw [e21]; exact RI20
        have RW21 : RA Z T21.heap aw11 "java/util/List" (own_cap p1 p2).toInt.toNat (upd (upd (upd (fun _ => .null) 0 (.ref a4)) 1 (.ref a6)) 2 (.ref a8)) := by rw [e21]; exact RW20
        refine Go.on (fun t k => XS.aload X21.here hx rfl (hb hby at_249) rfl rfl k) ?_
        show Go p e below _ (T21.setTop (mkF m 251 #[.val (.int p1), .val (.int p2), .val (.int p3), .val (.int p4), .val (.int p5), .val (.int (own_n p1)), .val (.int (own_cap p1 p2)), .val (.ref b1), .val (.ref b2), .val (.ref b3), .val (.ref a4), .val (.ref a6), .val (.ref a8), .val (.ref a10), .val (.ref b15), .val (.int (1 : Int32))] [(.ref b3), (.ref b3)]))
        refine Go.on (fun t k => XS.acmpNo X21.here hx rfl (hb hby at_251) rfl (by simp [if_acmp.holds]) k) ?_
        show Go p e below _ (T21.setTop (mkF m 254 #[.val (.int p1), .val (.int p2), .val (.int p3), .val (.int p4), .val (.int p5), .val (.int (own_n p1)), .val (.int (own_cap p1 p2)), .val (.ref b1), .val (.ref b2), .val (.ref b3), .val (.ref a4), .val (.ref a6), .val (.ref a8), .val (.ref a10), .val (.ref b15), .val (.int (1 : Int32))] []))
        refine Go.on (fun t k => XS.aload X21.here hx rfl (hb hby at_254) rfl rfl k) ?_
        show Go p e below _ (T21.setTop (mkF m 256 #[.val (.int p1), .val (.int p2), .val (.int p3), .val (.int p4), .val (.int p5), .val (.int (own_n p1)), .val (.int (own_cap p1 p2)), .val (.ref b1), .val (.ref b2), .val (.ref b3), .val (.ref a4), .val (.ref a6), .val (.ref a8), .val (.ref a10), .val (.ref b15), .val (.int (1 : Int32))] [(.ref b15)]))
        refine Go.on (fun t k => XS.iconst X21.here hx rfl (hb hby at_256) k) ?_
        show Go p e below _ (T21.setTop (mkF m 257 #[.val (.int p1), .val (.int p2), .val (.int p3), .val (.int p4), .val (.int p5), .val (.int (own_n p1)), .val (.int (own_cap p1 p2)), .val (.ref b1), .val (.ref b2), .val (.ref b3), .val (.ref a4), .val (.ref a6), .val (.ref a8), .val (.ref a10), .val (.ref b15), .val (.int (1 : Int32))] [(.int (2 : Int32)), (.ref b15)]))
        obtain ⟨cq22, kq22, q22a, q22b, q22c⟩ := isOf hZ (rfl : T21.heap = T21.heap) EM21
        obtain ⟨_, _, ⟨T22, L22, k22, n22⟩, -, X22, ⟨Lc22, hQ22, l22, y22, z22⟩, st22⟩ := X21.virtualBack hx (y := (⟨"com/example/olentangy/olentangy/engine/AttributeMap", "values", "(I)Ljava/util/List;"⟩ : MethodName)) (z := (⟨"com/example/olentangy/olentangy/engine/AttributeMap", "values", "(I)Ljava/util/List;"⟩ : MethodName)) hown (mvT hZ (hw _ (List.mem_of_getElem? (i := 123) rfl))) (mvT hZ (hw _ (List.mem_of_getElem? (i := 124) rfl))) (notFace_of_selects (args := #[]) (mvT hZ (hw _ (List.mem_of_getElem? (i := 126) rfl)))) (mvT hZ (hw _ (List.mem_of_getElem? (i := 126) rfl))) (mvT hZ (hw _ (List.mem_of_getElem? (i := 125) rfl))) (by decide) (backOf (W := 0) (rm18 l Z a0 hw [] b15 (2 : Int32) aw11 a8 2 (own_cap p1 p2).toInt.toNat (upd (upd (upd (fun _ => .null) 0 (.ref a4)) 1 (.ref a6)) 2 (.ref a8)) T21.heap n0 Zc21 MV21 RW21 (by decide) (by omega) rfl) hZ (hw _ (List.mem_of_getElem? (i := 127) rfl)) (hw _ (List.mem_of_getElem? (i := 72) rfl)) (by decide) (by decide)) q22a q22c (g := (mkF m 257 #[.val (.int p1), .val (.int p2), .val (.int p3), .val (.int p4), .val (.int p5), .val (.int (own_n p1)), .val (.int (own_cap p1 p2)), .val (.ref b1), .val (.ref b2), .val (.ref b3), .val (.ref a4), .val (.ref a6), .val (.ref a8), .val (.ref a10), .val (.ref b15), .val (.int (1 : Int32))] [(.int (2 : Int32)), (.ref b15)])) rfl (by rw [hml]; rfl) (Steps.refl _) (argsL := [(.int (2 : Int32))]) (rest := []) (lenOf pd_13 rfl) rfl (by show 2 * 0 + _ ≤ _; exact Nat.le_of_eq rfl) (hb hby at_257) (fun _ _ => ⟨rfl, (rfl : T21.heap = T21.heap), (by decide : 14 + 0 ≤ _), (by decide : 43 + 0 ≤ _)⟩)
        dsimp only [Pt.U, Pt.locs, Pt.cells, Pt.slots] at X22 l22 y22 z22 st22 hQ22
        subst l22 y22 z22
        obtain ⟨rfl, N22q, e22⟩ := hQ22
        have N22 := Fr.app N21 N22q
        refine Go.st st22 ?_
        show Go p e below _ (T22.setTop (mkF m 260 #[.val (.int p1), .val (.int p2), .val (.int p3), .val (.int p4), .val (.int p5), .val (.int (own_n p1)), .val (.int (own_cap p1 p2)), .val (.ref b1), .val (.ref b2), .val (.ref b3), .val (.ref a4), .val (.ref a6), .val (.ref a8), .val (.ref a10), .val (.ref b15), .val (.int (1 : Int32))] [(.ref a8)]))
        have Zc22 : n0 ≤ T22.heap.size := by rw [e22]; exact Zc21
        have EM22 : Exa Z T22.heap b15 "com/example/olentangy/olentangy/engine/AttributeMap" := by rw [e22]; exact EM21
        have MI22 : Fld Z T22.heap b15 "com/example/olentangy/olentangy/engine/AttributeMap" "ids" "[Ljava/lang/String;" (.ref ai11) := by rw [e22]; exact MI21
        have MV22 : Fld Z T22.heap b15 "com/example/olentangy/olentangy/engine/AttributeMap" "values" "[Ljava/util/List;" (.ref aw11) := by rw [e22]; exact MV21
        have RI22 : RA Z T22.heap ai11 "java/lang/String" (own_cap p1 p2).toInt.toNat (upd (upd (upd (fun _ => .null) 0 (.ref b1)) 1 (.ref b2)) 2 (.ref b3)) := by rw [e22]; exact RI21
        have RW22 : RA Z T22.heap aw11 "java/util/List" (own_cap p1 p2).toInt.toNat (upd (upd (upd (fun _ => .null) 0 (.ref a4)) 1 (.ref a6)) 2 (.ref a8)) := by rw [e22]; exact RW21
        refine Go.on (fun t k => XS.aload X22.here hx rfl (hb hby at_260) rfl rfl k) ?_
        show Go p e below _ (T22.setTop (mkF m 262 #[.val (.int p1), .val (.int p2), .val (.int p3), .val (.int p4), .val (.int p5), .val (.int (own_n p1)), .val (.int (own_cap p1 p2)), .val (.ref b1), .val (.ref b2), .val (.ref b3), .val (.ref a4), .val (.ref a6), .val (.ref a8), .val (.ref a10), .val (.ref b15), .val (.int (1 : Int32))] [(.ref a8), (.ref a8)]))
        refine Go.on (fun t k => XS.acmpNo X22.here hx rfl (hb hby at_262) rfl (by simp [if_acmp.holds]) k) ?_
        show Go p e below _ (T22.setTop (mkF m 265 #[.val (.int p1), .val (.int p2), .val (.int p3), .val (.int p4), .val (.int p5), .val (.int (own_n p1)), .val (.int (own_cap p1 p2)), .val (.ref b1), .val (.ref b2), .val (.ref b3), .val (.ref a4), .val (.ref a6), .val (.ref a8), .val (.ref a10), .val (.ref b15), .val (.int (1 : Int32))] []))
        refine Go.on (fun t k => XS.iconst X22.here hx rfl (hb hby at_265) k) ?_
        show Go p e below _ (T22.setTop (mkF m 266 #[.val (.int p1), .val (.int p2), .val (.int p3), .val (.int p4), .val (.int p5), .val (.int (own_n p1)), .val (.int (own_cap p1 p2)), .val (.ref b1), .val (.ref b2), .val (.ref b3), .val (.ref a4), .val (.ref a6), .val (.ref a8), .val (.ref a10), .val (.ref b15), .val (.int (1 : Int32))] [(.int (1 : Int32))]))
        refine Go.on (fun t k => XS.goto X22.here hx rfl (pc0 := 266) (pc' := 270) rfl (hb hby at_266) (by decide) (by decide) k) ?_
        show Go p e below _ (T22.setTop (mkF m 270 #[.val (.int p1), .val (.int p2), .val (.int p3), .val (.int p4), .val (.int p5), .val (.int (own_n p1)), .val (.int (own_cap p1 p2)), .val (.ref b1), .val (.ref b2), .val (.ref b3), .val (.ref a4), .val (.ref a6), .val (.ref a8), .val (.ref a10), .val (.ref b15), .val (.int (1 : Int32))] [(.int (1 : Int32))]))
        refine Go.on (fun t k => XS.istore X22.here hx rfl (hb hby at_270) rfl (l' := #[.val (.int p1), .val (.int p2), .val (.int p3), .val (.int p4), .val (.int p5), .val (.int (own_n p1)), .val (.int (own_cap p1 p2)), .val (.ref b1), .val (.ref b2), .val (.ref b3), .val (.ref a4), .val (.ref a6), .val (.ref a8), .val (.ref a10), .val (.ref b15), .val (.int (1 : Int32))]) rfl k) ?_
        show Go p e below _ (T22.setTop (mkF m 272 #[.val (.int p1), .val (.int p2), .val (.int p3), .val (.int p4), .val (.int p5), .val (.int (own_n p1)), .val (.int (own_cap p1 p2)), .val (.ref b1), .val (.ref b2), .val (.ref b3), .val (.ref a4), .val (.ref a6), .val (.ref a8), .val (.ref a10), .val (.ref b15), .val (.int (1 : Int32))] []))
        refine Go.on (fun t k => XS.iload X22.here hx rfl (hb hby at_272) rfl k) ?_
        show Go p e below _ (T22.setTop (mkF m 274 #[.val (.int p1), .val (.int p2), .val (.int p3), .val (.int p4), .val (.int p5), .val (.int (own_n p1)), .val (.int (own_cap p1 p2)), .val (.ref b1), .val (.ref b2), .val (.ref b3), .val (.ref a4), .val (.ref a6), .val (.ref a8), .val (.ref a10), .val (.ref b15), .val (.int (1 : Int32))] [(.int (1 : Int32))]))
        exact Go.retN X22 hx hlk hret (by simp) (hb hby at_274) (by decide) (by decide) ⟨by rfl, N22⟩
      · refine Go.on (fun t k => XS.icmpYes X13.here hx rfl (pc0 := 117) (pc' := 129) rfl (hb hby at_117) rfl (flt hc117).2.2.2 (by decide) (by decide) k) ?_
        show Go p e below _ (T13.setTop (mkF m 129 #[.val (.int p1), .val (.int p2), .val (.int p3), .val (.int p4), .val (.int p5), .val (.int (own_n p1)), .val (.int (own_cap p1 p2)), .val (.ref b1), .val (.ref b2), .val (.ref b3), .val (.ref a4), .val (.ref a6), .val (.ref a8), .val (.ref a10), .unset, .unset] []))
        refine Go.on (fun t k => XS.aload X13.here hx rfl (hb hby at_129) rfl rfl k) ?_
        show Go p e below _ (T13.setTop (mkF m 131 #[.val (.int p1), .val (.int p2), .val (.int p3), .val (.int p4), .val (.int p5), .val (.int (own_n p1)), .val (.int (own_cap p1 p2)), .val (.ref b1), .val (.ref b2), .val (.ref b3), .val (.ref a4), .val (.ref a6), .val (.ref a8), .val (.ref a10), .unset, .unset] [(.ref a10)]))
        obtain ⟨cq23, kq23, q23a, q23b, q23c⟩ := isOf hZ (rfl : T13.heap = T13.heap) EB13
        obtain ⟨_, _, ⟨T23, L23, k23, n23⟩, -, X23, ⟨Lc23, hQ23, l23, y23, z23⟩, st23⟩ := X13.virtualBack hx (y := (⟨"com/example/olentangy/olentangy/engine/AttributeMap$Builder", "build", "()Lcom/example/olentangy/olentangy/engine/AttributeMap;"⟩ : MethodName)) (z := (⟨"com/example/olentangy/olentangy/engine/AttributeMap$Builder", "build", "()Lcom/example/olentangy/olentangy/engine/AttributeMap;"⟩ : MethodName)) hown (mvT hZ (hw _ (List.mem_of_getElem? (i := 65) rfl))) (mvT hZ (hw _ (List.mem_of_getElem? (i := 66) rfl))) (notFace_of_selects (args := #[]) (mvT hZ (hw _ (List.mem_of_getElem? (i := 68) rfl)))) (mvT hZ (hw _ (List.mem_of_getElem? (i := 68) rfl))) (mvT hZ (hw _ (List.mem_of_getElem? (i := 67) rfl))) (by decide) (backOf (W := 0) (rm10 l Z a0 hw [] a10 ai11 aw11 (((0 : Int32) + (1 : Int32)) + (1 : Int32)) T13.heap n0 Zc13 FI13 FV13 FS13) hZ (hw _ (List.mem_of_getElem? (i := 69) rfl)) (hw _ (List.mem_of_getElem? (i := 52) rfl)) (by decide) (by decide)) q23a q23c (g := (mkF m 131 #[.val (.int p1), .val (.int p2), .val (.int p3), .val (.int p4), .val (.int p5), .val (.int (own_n p1)), .val (.int (own_cap p1 p2)), .val (.ref b1), .val (.ref b2), .val (.ref b3), .val (.ref a4), .val (.ref a6), .val (.ref a8), .val (.ref a10), .unset, .unset] [(.ref a10)])) rfl (by rw [hml]; rfl) (Steps.refl _) (argsL := []) (rest := []) (lenOf pd_10 rfl) rfl (by show 2 * 0 + _ ≤ _; exact Nat.le_of_eq rfl) (hb hby at_131) (fun _ _ => ⟨rfl, (rfl : T13.heap = T13.heap), (by decide : 12 + 2 ≤ _), (by decide : 35 + 8 ≤ _)⟩)
        dsimp only [Pt.U, Pt.locs, Pt.cells, Pt.slots] at X23 l23 y23 z23 st23 hQ23
        subst l23 y23 z23
        obtain ⟨b23, rfl, N23q, K23, EM23, MI23, MV23, MS23⟩ := hQ23
        have N23 := Fr.app N13 N23q
        refine Go.st st23 ?_
        show Go p e below _ (T23.setTop (mkF m 134 #[.val (.int p1), .val (.int p2), .val (.int p3), .val (.int p4), .val (.int p5), .val (.int (own_n p1)), .val (.int (own_cap p1 p2)), .val (.ref b1), .val (.ref b2), .val (.ref b3), .val (.ref a4), .val (.ref a6), .val (.ref a8), .val (.ref a10), .unset, .unset] [(.ref b23)]))
        have Zc23 : n0 ≤ T23.heap.size := Nat.le_trans Zc13 K23.1
        have RI23 := RI13.keep K23 (by simp)
        have RW23 := RW13.keep K23 (by simp)
        refine Go.on (fun t k => XS.astore X23.here hx rfl (hb hby at_134) rfl rfl (l' := #[.val (.int p1), .val (.int p2), .val (.int p3), .val (.int p4), .val (.int p5), .val (.int (own_n p1)), .val (.int (own_cap p1 p2)), .val (.ref b1), .val (.ref b2), .val (.ref b3), .val (.ref a4), .val (.ref a6), .val (.ref a8), .val (.ref a10), .val (.ref b23), .unset]) rfl k) ?_
        show Go p e below _ (T23.setTop (mkF m 136 #[.val (.int p1), .val (.int p2), .val (.int p3), .val (.int p4), .val (.int p5), .val (.int (own_n p1)), .val (.int (own_cap p1 p2)), .val (.ref b1), .val (.ref b2), .val (.ref b3), .val (.ref a4), .val (.ref a6), .val (.ref a8), .val (.ref a10), .val (.ref b23), .unset] []))
        refine Go.on (fun t k => XS.aload X23.here hx rfl (hb hby at_136) rfl rfl k) ?_
        show Go p e below _ (T23.setTop (mkF m 138 #[.val (.int p1), .val (.int p2), .val (.int p3), .val (.int p4), .val (.int p5), .val (.int (own_n p1)), .val (.int (own_cap p1 p2)), .val (.ref b1), .val (.ref b2), .val (.ref b3), .val (.ref a4), .val (.ref a6), .val (.ref a8), .val (.ref a10), .val (.ref b23), .unset] [(.ref b23)]))
        obtain ⟨cq24, kq24, q24a, q24b, q24c⟩ := isOf hZ (rfl : T23.heap = T23.heap) EM23
        obtain ⟨_, _, ⟨T24, L24, k24, n24⟩, -, X24, ⟨Lc24, hQ24, l24, y24, z24⟩, st24⟩ := X23.virtualBack hx (y := (⟨"com/example/olentangy/olentangy/engine/AttributeMap", "size", "()I"⟩ : MethodName)) (z := (⟨"com/example/olentangy/olentangy/engine/AttributeMap", "size", "()I"⟩ : MethodName)) hown (mvT hZ (hw _ (List.mem_of_getElem? (i := 107) rfl))) (mvT hZ (hw _ (List.mem_of_getElem? (i := 108) rfl))) (notFace_of_selects (args := #[]) (mvT hZ (hw _ (List.mem_of_getElem? (i := 110) rfl)))) (mvT hZ (hw _ (List.mem_of_getElem? (i := 110) rfl))) (mvT hZ (hw _ (List.mem_of_getElem? (i := 109) rfl))) (by decide) (backOf (W := 0) (rm15 l Z a0 hw [] b23 (((0 : Int32) + (1 : Int32)) + (1 : Int32)) T23.heap n0 Zc23 MS23) hZ (hw _ (List.mem_of_getElem? (i := 111) rfl)) (hw _ (List.mem_of_getElem? (i := 72) rfl)) (by decide) (by decide)) q24a q24c (g := (mkF m 138 #[.val (.int p1), .val (.int p2), .val (.int p3), .val (.int p4), .val (.int p5), .val (.int (own_n p1)), .val (.int (own_cap p1 p2)), .val (.ref b1), .val (.ref b2), .val (.ref b3), .val (.ref a4), .val (.ref a6), .val (.ref a8), .val (.ref a10), .val (.ref b23), .unset] [(.ref b23)])) rfl (by rw [hml]; rfl) (Steps.refl _) (argsL := []) (rest := []) (lenOf pd_11 rfl) rfl (by show 2 * 0 + _ ≤ _; exact Nat.le_of_eq rfl) (hb hby at_138) (fun _ _ => ⟨rfl, (rfl : T23.heap = T23.heap), (by decide : 14 + 0 ≤ _), (by decide : 43 + 0 ≤ _)⟩)
        dsimp only [Pt.U, Pt.locs, Pt.cells, Pt.slots] at X24 l24 y24 z24 st24 hQ24
        subst l24 y24 z24
        obtain ⟨rfl, N24q, e24⟩ := hQ24
        have N24 := Fr.app N23 N24q
        refine Go.st st24 ?_
        show Go p e below _ (T24.setTop (mkF m 141 #[.val (.int p1), .val (.int p2), .val (.int p3), .val (.int p4), .val (.int p5), .val (.int (own_n p1)), .val (.int (own_cap p1 p2)), .val (.ref b1), .val (.ref b2), .val (.ref b3), .val (.ref a4), .val (.ref a6), .val (.ref a8), .val (.ref a10), .val (.ref b23), .unset] [(.int (((0 : Int32) + (1 : Int32)) + (1 : Int32)))]))
        have Zc24 : n0 ≤ T24.heap.size := by rw [e24]; exact Zc23
        have EM24 : Exa Z T24.heap b23 "com/example/olentangy/olentangy/engine/AttributeMap" := by rw [e24]; exact EM23
        have MI24 : Fld Z T24.heap b23 "com/example/olentangy/olentangy/engine/AttributeMap" "ids" "[Ljava/lang/String;" (.ref ai11) := by rw [e24]; exact MI23
        have MV24 : Fld Z T24.heap b23 "com/example/olentangy/olentangy/engine/AttributeMap" "values" "[Ljava/util/List;" (.ref aw11) := by rw [e24]; exact MV23
        have RI24 : RA Z T24.heap ai11 "java/lang/String" (own_cap p1 p2).toInt.toNat (upd (upd (fun _ => .null) 0 (.ref b1)) 1 (.ref b2)) := by rw [e24]; exact RI23
        have RW24 : RA Z T24.heap aw11 "java/util/List" (own_cap p1 p2).toInt.toNat (upd (upd (fun _ => .null) 0 (.ref a4)) 1 (.ref a6)) := by rw [e24]; exact RW23
        refine Go.on (fun t k => XS.iload X24.here hx rfl (hb hby at_141) rfl k) ?_
        show Go p e below _ (T24.setTop (mkF m 143 #[.val (.int p1), .val (.int p2), .val (.int p3), .val (.int p4), .val (.int p5), .val (.int (own_n p1)), .val (.int (own_cap p1 p2)), .val (.ref b1), .val (.ref b2), .val (.ref b3), .val (.ref a4), .val (.ref a6), .val (.ref a8), .val (.ref a10), .val (.ref b23), .unset] [(.int (own_n p1)), (.int (((0 : Int32) + (1 : Int32)) + (1 : Int32)))]))
        refine Go.on (fun t k => XS.icmpNo X24.here hx rfl (hb hby at_143) rfl (teq (by apply Int32.toInt_inj.mp; have e1 : (((0 : Int32) + (1 : Int32)) + (1 : Int32)).toInt = 2 := (by decide); have y0 : (0 : Int32).toInt < (own_n p1).toInt := Int32.lt_iff_toInt_lt.mp hc87; have z0 : (0 : Int32).toInt = 0 := (by decide); have y1 : (1 : Int32).toInt < (own_n p1).toInt := Int32.lt_iff_toInt_lt.mp hc102; have z1 : (1 : Int32).toInt = 1 := (by decide); have y2 : ¬ (2 : Int32).toInt < (own_n p1).toInt := fun q => hc117 (Int32.lt_iff_toInt_lt.mpr q); have z2 : (2 : Int32).toInt = 2 := (by decide); omega : (((0 : Int32) + (1 : Int32)) + (1 : Int32)) = (own_n p1))).2 k) ?_
        show Go p e below _ (T24.setTop (mkF m 146 #[.val (.int p1), .val (.int p2), .val (.int p3), .val (.int p4), .val (.int p5), .val (.int (own_n p1)), .val (.int (own_cap p1 p2)), .val (.ref b1), .val (.ref b2), .val (.ref b3), .val (.ref a4), .val (.ref a6), .val (.ref a8), .val (.ref a10), .val (.ref b23), .unset] []))
        refine Go.on (fun t k => XS.iconst X24.here hx rfl (hb hby at_146) k) ?_
        show Go p e below _ (T24.setTop (mkF m 147 #[.val (.int p1), .val (.int p2), .val (.int p3), .val (.int p4), .val (.int p5), .val (.int (own_n p1)), .val (.int (own_cap p1 p2)), .val (.ref b1), .val (.ref b2), .val (.ref b3), .val (.ref a4), .val (.ref a6), .val (.ref a8), .val (.ref a10), .val (.ref b23), .unset] [(.int (1 : Int32))]))
        refine Go.on (fun t k => XS.goto X24.here hx rfl (pc0 := 147) (pc' := 151) rfl (hb hby at_147) (by decide) (by decide) k) ?_
        show Go p e below _ (T24.setTop (mkF m 151 #[.val (.int p1), .val (.int p2), .val (.int p3), .val (.int p4), .val (.int p5), .val (.int (own_n p1)), .val (.int (own_cap p1 p2)), .val (.ref b1), .val (.ref b2), .val (.ref b3), .val (.ref a4), .val (.ref a6), .val (.ref a8), .val (.ref a10), .val (.ref b23), .unset] [(.int (1 : Int32))]))
        refine Go.on (fun t k => XS.istore X24.here hx rfl (hb hby at_151) rfl (l' := #[.val (.int p1), .val (.int p2), .val (.int p3), .val (.int p4), .val (.int p5), .val (.int (own_n p1)), .val (.int (own_cap p1 p2)), .val (.ref b1), .val (.ref b2), .val (.ref b3), .val (.ref a4), .val (.ref a6), .val (.ref a8), .val (.ref a10), .val (.ref b23), .val (.int (1 : Int32))]) rfl k) ?_
        show Go p e below _ (T24.setTop (mkF m 153 #[.val (.int p1), .val (.int p2), .val (.int p3), .val (.int p4), .val (.int p5), .val (.int (own_n p1)), .val (.int (own_cap p1 p2)), .val (.ref b1), .val (.ref b2), .val (.ref b3), .val (.ref a4), .val (.ref a6), .val (.ref a8), .val (.ref a10), .val (.ref b23), .val (.int (1 : Int32))] []))
        refine Go.on (fun t k => XS.iload X24.here hx rfl (hb hby at_153) rfl k) ?_
        show Go p e below _ (T24.setTop (mkF m 155 #[.val (.int p1), .val (.int p2), .val (.int p3), .val (.int p4), .val (.int p5), .val (.int (own_n p1)), .val (.int (own_cap p1 p2)), .val (.ref b1), .val (.ref b2), .val (.ref b3), .val (.ref a4), .val (.ref a6), .val (.ref a8), .val (.ref a10), .val (.ref b23), .val (.int (1 : Int32))] [(.int (own_n p1))]))
        refine Go.on (fun t k => XS.ifNo X24.here hx rfl (hb hby at_155) rfl ((if0 _ _).trans (tlt hc87).2.2.2) k) ?_
        show Go p e below _ (T24.setTop (mkF m 158 #[.val (.int p1), .val (.int p2), .val (.int p3), .val (.int p4), .val (.int p5), .val (.int (own_n p1)), .val (.int (own_cap p1 p2)), .val (.ref b1), .val (.ref b2), .val (.ref b3), .val (.ref a4), .val (.ref a6), .val (.ref a8), .val (.ref a10), .val (.ref b23), .val (.int (1 : Int32))] []))
        refine Go.on (fun t k => XS.iload X24.here hx rfl (hb hby at_158) rfl k) ?_
        show Go p e below _ (T24.setTop (mkF m 160 #[.val (.int p1), .val (.int p2), .val (.int p3), .val (.int p4), .val (.int p5), .val (.int (own_n p1)), .val (.int (own_cap p1 p2)), .val (.ref b1), .val (.ref b2), .val (.ref b3), .val (.ref a4), .val (.ref a6), .val (.ref a8), .val (.ref a10), .val (.ref b23), .val (.int (1 : Int32))] [(.int (1 : Int32))]))
        refine Go.on (fun t k => XS.ifNo X24.here hx rfl (hb hby at_160) rfl ((if0 _ _).trans (feq (by decide : ¬ ((1 : Int32) = (0 : Int32)))).1) k) ?_
        show Go p e below _ (T24.setTop (mkF m 163 #[.val (.int p1), .val (.int p2), .val (.int p3), .val (.int p4), .val (.int p5), .val (.int (own_n p1)), .val (.int (own_cap p1 p2)), .val (.ref b1), .val (.ref b2), .val (.ref b3), .val (.ref a4), .val (.ref a6), .val (.ref a8), .val (.ref a10), .val (.ref b23), .val (.int (1 : Int32))] []))
        refine Go.on (fun t k => XS.aload X24.here hx rfl (hb hby at_163) rfl rfl k) ?_
        show Go p e below _ (T24.setTop (mkF m 165 #[.val (.int p1), .val (.int p2), .val (.int p3), .val (.int p4), .val (.int p5), .val (.int (own_n p1)), .val (.int (own_cap p1 p2)), .val (.ref b1), .val (.ref b2), .val (.ref b3), .val (.ref a4), .val (.ref a6), .val (.ref a8), .val (.ref a10), .val (.ref b23), .val (.int (1 : Int32))] [(.ref b23)]))
        refine Go.on (fun t k => XS.iconst X24.here hx rfl (hb hby at_165) k) ?_
        show Go p e below _ (T24.setTop (mkF m 166 #[.val (.int p1), .val (.int p2), .val (.int p3), .val (.int p4), .val (.int p5), .val (.int (own_n p1)), .val (.int (own_cap p1 p2)), .val (.ref b1), .val (.ref b2), .val (.ref b3), .val (.ref a4), .val (.ref a6), .val (.ref a8), .val (.ref a10), .val (.ref b23), .val (.int (1 : Int32))] [(.int (0 : Int32)), (.ref b23)]))
        obtain ⟨cq25, kq25, q25a, q25b, q25c⟩ := isOf hZ (rfl : T24.heap = T24.heap) EM24
        obtain ⟨_, _, ⟨T25, L25, k25, n25⟩, -, X25, ⟨Lc25, hQ25, l25, y25, z25⟩, st25⟩ := X24.virtualBack hx (y := (⟨"com/example/olentangy/olentangy/engine/AttributeMap", "id", "(I)Ljava/lang/String;"⟩ : MethodName)) (z := (⟨"com/example/olentangy/olentangy/engine/AttributeMap", "id", "(I)Ljava/lang/String;"⟩ : MethodName)) hown (mvT hZ (hw _ (List.mem_of_getElem? (i := 118) rfl))) (mvT hZ (hw _ (List.mem_of_getElem? (i := 119) rfl))) (notFace_of_selects (args := #[]) (mvT hZ (hw _ (List.mem_of_getElem? (i := 121) rfl)))) (mvT hZ (hw _ (List.mem_of_getElem? (i := 121) rfl))) (mvT hZ (hw _ (List.mem_of_getElem? (i := 120) rfl))) (by decide) (backOf (W := 0) (rm17 l Z a0 hw [] b23 (0 : Int32) ai11 b1 0 (own_cap p1 p2).toInt.toNat (upd (upd (fun _ => .null) 0 (.ref b1)) 1 (.ref b2)) T24.heap n0 Zc24 MI24 RI24 (by decide) (by omega) rfl) hZ (hw _ (List.mem_of_getElem? (i := 122) rfl)) (hw _ (List.mem_of_getElem? (i := 72) rfl)) (by decide) (by decide)) q25a q25c (g := (mkF m 166 #[.val (.int p1), .val (.int p2), .val (.int p3), .val (.int p4), .val (.int p5), .val (.int (own_n p1)), .val (.int (own_cap p1 p2)), .val (.ref b1), .val (.ref b2), .val (.ref b3), .val (.ref a4), .val (.ref a6), .val (.ref a8), .val (.ref a10), .val (.ref b23), .val (.int (1 : Int32))] [(.int (0 : Int32)), (.ref b23)])) rfl (by rw [hml]; rfl) (Steps.refl _) (argsL := [(.int (0 : Int32))]) (rest := []) (lenOf pd_12 rfl) rfl (by show 2 * 0 + _ ≤ _; exact Nat.le_of_eq rfl) (hb hby at_166) (fun _ _ => ⟨rfl, (rfl : T24.heap = T24.heap), (by decide : 14 + 0 ≤ _), (by decide : 43 + 0 ≤ _)⟩)
        dsimp only [Pt.U, Pt.locs, Pt.cells, Pt.slots] at X25 l25 y25 z25 st25 hQ25
        subst l25 y25 z25
        obtain ⟨rfl, N25q, e25⟩ := hQ25
        have N25 := Fr.app N24 N25q
        refine Go.st st25 ?_
        show Go p e below _ (T25.setTop (mkF m 169 #[.val (.int p1), .val (.int p2), .val (.int p3), .val (.int p4), .val (.int p5), .val (.int (own_n p1)), .val (.int (own_cap p1 p2)), .val (.ref b1), .val (.ref b2), .val (.ref b3), .val (.ref a4), .val (.ref a6), .val (.ref a8), .val (.ref a10), .val (.ref b23), .val (.int (1 : Int32))] [(.ref b1)]))
        have Zc25 : n0 ≤ T25.heap.size := by rw [e25]; exact Zc24
        have EM25 : Exa Z T25.heap b23 "com/example/olentangy/olentangy/engine/AttributeMap" := by rw [e25]; exact EM24
        have MI25 : Fld Z T25.heap b23 "com/example/olentangy/olentangy/engine/AttributeMap" "ids" "[Ljava/lang/String;" (.ref ai11) := by rw [e25]; exact MI24
        have MV25 : Fld Z T25.heap b23 "com/example/olentangy/olentangy/engine/AttributeMap" "values" "[Ljava/util/List;" (.ref aw11) := by rw [e25]; exact MV24
        have RI25 : RA Z T25.heap ai11 "java/lang/String" (own_cap p1 p2).toInt.toNat (upd (upd (fun _ => .null) 0 (.ref b1)) 1 (.ref b2)) := by rw [e25]; exact RI24
        have RW25 : RA Z T25.heap aw11 "java/util/List" (own_cap p1 p2).toInt.toNat (upd (upd (fun _ => .null) 0 (.ref a4)) 1 (.ref a6)) := by rw [e25]; exact RW24
        refine Go.on (fun t k => XS.aload X25.here hx rfl (hb hby at_169) rfl rfl k) ?_
        show Go p e below _ (T25.setTop (mkF m 171 #[.val (.int p1), .val (.int p2), .val (.int p3), .val (.int p4), .val (.int p5), .val (.int (own_n p1)), .val (.int (own_cap p1 p2)), .val (.ref b1), .val (.ref b2), .val (.ref b3), .val (.ref a4), .val (.ref a6), .val (.ref a8), .val (.ref a10), .val (.ref b23), .val (.int (1 : Int32))] [(.ref b1), (.ref b1)]))
        refine Go.on (fun t k => XS.acmpNo X25.here hx rfl (hb hby at_171) rfl (by simp [if_acmp.holds]) k) ?_
        show Go p e below _ (T25.setTop (mkF m 174 #[.val (.int p1), .val (.int p2), .val (.int p3), .val (.int p4), .val (.int p5), .val (.int (own_n p1)), .val (.int (own_cap p1 p2)), .val (.ref b1), .val (.ref b2), .val (.ref b3), .val (.ref a4), .val (.ref a6), .val (.ref a8), .val (.ref a10), .val (.ref b23), .val (.int (1 : Int32))] []))
        refine Go.on (fun t k => XS.aload X25.here hx rfl (hb hby at_174) rfl rfl k) ?_
        show Go p e below _ (T25.setTop (mkF m 176 #[.val (.int p1), .val (.int p2), .val (.int p3), .val (.int p4), .val (.int p5), .val (.int (own_n p1)), .val (.int (own_cap p1 p2)), .val (.ref b1), .val (.ref b2), .val (.ref b3), .val (.ref a4), .val (.ref a6), .val (.ref a8), .val (.ref a10), .val (.ref b23), .val (.int (1 : Int32))] [(.ref b23)]))
        refine Go.on (fun t k => XS.iconst X25.here hx rfl (hb hby at_176) k) ?_
        show Go p e below _ (T25.setTop (mkF m 177 #[.val (.int p1), .val (.int p2), .val (.int p3), .val (.int p4), .val (.int p5), .val (.int (own_n p1)), .val (.int (own_cap p1 p2)), .val (.ref b1), .val (.ref b2), .val (.ref b3), .val (.ref a4), .val (.ref a6), .val (.ref a8), .val (.ref a10), .val (.ref b23), .val (.int (1 : Int32))] [(.int (0 : Int32)), (.ref b23)]))
        obtain ⟨cq26, kq26, q26a, q26b, q26c⟩ := isOf hZ (rfl : T25.heap = T25.heap) EM25
        obtain ⟨_, _, ⟨T26, L26, k26, n26⟩, -, X26, ⟨Lc26, hQ26, l26, y26, z26⟩, st26⟩ := X25.virtualBack hx (y := (⟨"com/example/olentangy/olentangy/engine/AttributeMap", "values", "(I)Ljava/util/List;"⟩ : MethodName)) (z := (⟨"com/example/olentangy/olentangy/engine/AttributeMap", "values", "(I)Ljava/util/List;"⟩ : MethodName)) hown (mvT hZ (hw _ (List.mem_of_getElem? (i := 123) rfl))) (mvT hZ (hw _ (List.mem_of_getElem? (i := 124) rfl))) (notFace_of_selects (args := #[]) (mvT hZ (hw _ (List.mem_of_getElem? (i := 126) rfl)))) (mvT hZ (hw _ (List.mem_of_getElem? (i := 126) rfl))) (mvT hZ (hw _ (List.mem_of_getElem? (i := 125) rfl))) (by decide) (backOf (W := 0) (rm18 l Z a0 hw [] b23 (0 : Int32) aw11 a4 0 (own_cap p1 p2).toInt.toNat (upd (upd (fun _ => .null) 0 (.ref a4)) 1 (.ref a6)) T25.heap n0 Zc25 MV25 RW25 (by decide) (by omega) rfl) hZ (hw _ (List.mem_of_getElem? (i := 127) rfl)) (hw _ (List.mem_of_getElem? (i := 72) rfl)) (by decide) (by decide)) q26a q26c (g := (mkF m 177 #[.val (.int p1), .val (.int p2), .val (.int p3), .val (.int p4), .val (.int p5), .val (.int (own_n p1)), .val (.int (own_cap p1 p2)), .val (.ref b1), .val (.ref b2), .val (.ref b3), .val (.ref a4), .val (.ref a6), .val (.ref a8), .val (.ref a10), .val (.ref b23), .val (.int (1 : Int32))] [(.int (0 : Int32)), (.ref b23)])) rfl (by rw [hml]; rfl) (Steps.refl _) (argsL := [(.int (0 : Int32))]) (rest := []) (lenOf pd_13 rfl) rfl (by show 2 * 0 + _ ≤ _; exact Nat.le_of_eq rfl) (hb hby at_177) (fun _ _ => ⟨rfl, (rfl : T25.heap = T25.heap), (by decide : 14 + 0 ≤ _), (by decide : 43 + 0 ≤ _)⟩)
        dsimp only [Pt.U, Pt.locs, Pt.cells, Pt.slots] at X26 l26 y26 z26 st26 hQ26
        subst l26 y26 z26
        obtain ⟨rfl, N26q, e26⟩ := hQ26
        have N26 := Fr.app N25 N26q
        refine Go.st st26 ?_
        show Go p e below _ (T26.setTop (mkF m 180 #[.val (.int p1), .val (.int p2), .val (.int p3), .val (.int p4), .val (.int p5), .val (.int (own_n p1)), .val (.int (own_cap p1 p2)), .val (.ref b1), .val (.ref b2), .val (.ref b3), .val (.ref a4), .val (.ref a6), .val (.ref a8), .val (.ref a10), .val (.ref b23), .val (.int (1 : Int32))] [(.ref a4)]))
        have Zc26 : n0 ≤ T26.heap.size := by rw [e26]; exact Zc25
        have EM26 : Exa Z T26.heap b23 "com/example/olentangy/olentangy/engine/AttributeMap" := by rw [e26]; exact EM25
        have MI26 : Fld Z T26.heap b23 "com/example/olentangy/olentangy/engine/AttributeMap" "ids" "[Ljava/lang/String;" (.ref ai11) := by rw [e26]; exact MI25
        have MV26 : Fld Z T26.heap b23 "com/example/olentangy/olentangy/engine/AttributeMap" "values" "[Ljava/util/List;" (.ref aw11) := by rw [e26]; exact MV25
        have RI26 : RA Z T26.heap ai11 "java/lang/String" (own_cap p1 p2).toInt.toNat (upd (upd (fun _ => .null) 0 (.ref b1)) 1 (.ref b2)) := by rw [e26]; exact RI25
        have RW26 : RA Z T26.heap aw11 "java/util/List" (own_cap p1 p2).toInt.toNat (upd (upd (fun _ => .null) 0 (.ref a4)) 1 (.ref a6)) := by rw [e26]; exact RW25
        refine Go.on (fun t k => XS.aload X26.here hx rfl (hb hby at_180) rfl rfl k) ?_
        show Go p e below _ (T26.setTop (mkF m 182 #[.val (.int p1), .val (.int p2), .val (.int p3), .val (.int p4), .val (.int p5), .val (.int (own_n p1)), .val (.int (own_cap p1 p2)), .val (.ref b1), .val (.ref b2), .val (.ref b3), .val (.ref a4), .val (.ref a6), .val (.ref a8), .val (.ref a10), .val (.ref b23), .val (.int (1 : Int32))] [(.ref a4), (.ref a4)]))
        refine Go.on (fun t k => XS.acmpNo X26.here hx rfl (hb hby at_182) rfl (by simp [if_acmp.holds]) k) ?_
        show Go p e below _ (T26.setTop (mkF m 185 #[.val (.int p1), .val (.int p2), .val (.int p3), .val (.int p4), .val (.int p5), .val (.int (own_n p1)), .val (.int (own_cap p1 p2)), .val (.ref b1), .val (.ref b2), .val (.ref b3), .val (.ref a4), .val (.ref a6), .val (.ref a8), .val (.ref a10), .val (.ref b23), .val (.int (1 : Int32))] []))
        refine Go.on (fun t k => XS.iconst X26.here hx rfl (hb hby at_185) k) ?_
        show Go p e below _ (T26.setTop (mkF m 186 #[.val (.int p1), .val (.int p2), .val (.int p3), .val (.int p4), .val (.int p5), .val (.int (own_n p1)), .val (.int (own_cap p1 p2)), .val (.ref b1), .val (.ref b2), .val (.ref b3), .val (.ref a4), .val (.ref a6), .val (.ref a8), .val (.ref a10), .val (.ref b23), .val (.int (1 : Int32))] [(.int (1 : Int32))]))
        refine Go.on (fun t k => XS.goto X26.here hx rfl (pc0 := 186) (pc' := 190) rfl (hb hby at_186) (by decide) (by decide) k) ?_
        show Go p e below _ (T26.setTop (mkF m 190 #[.val (.int p1), .val (.int p2), .val (.int p3), .val (.int p4), .val (.int p5), .val (.int (own_n p1)), .val (.int (own_cap p1 p2)), .val (.ref b1), .val (.ref b2), .val (.ref b3), .val (.ref a4), .val (.ref a6), .val (.ref a8), .val (.ref a10), .val (.ref b23), .val (.int (1 : Int32))] [(.int (1 : Int32))]))
        refine Go.on (fun t k => XS.istore X26.here hx rfl (hb hby at_190) rfl (l' := #[.val (.int p1), .val (.int p2), .val (.int p3), .val (.int p4), .val (.int p5), .val (.int (own_n p1)), .val (.int (own_cap p1 p2)), .val (.ref b1), .val (.ref b2), .val (.ref b3), .val (.ref a4), .val (.ref a6), .val (.ref a8), .val (.ref a10), .val (.ref b23), .val (.int (1 : Int32))]) rfl k) ?_
        show Go p e below _ (T26.setTop (mkF m 192 #[.val (.int p1), .val (.int p2), .val (.int p3), .val (.int p4), .val (.int p5), .val (.int (own_n p1)), .val (.int (own_cap p1 p2)), .val (.ref b1), .val (.ref b2), .val (.ref b3), .val (.ref a4), .val (.ref a6), .val (.ref a8), .val (.ref a10), .val (.ref b23), .val (.int (1 : Int32))] []))
        refine Go.on (fun t k => XS.iload X26.here hx rfl (hb hby at_192) rfl k) ?_
        show Go p e below _ (T26.setTop (mkF m 194 #[.val (.int p1), .val (.int p2), .val (.int p3), .val (.int p4), .val (.int p5), .val (.int (own_n p1)), .val (.int (own_cap p1 p2)), .val (.ref b1), .val (.ref b2), .val (.ref b3), .val (.ref a4), .val (.ref a6), .val (.ref a8), .val (.ref a10), .val (.ref b23), .val (.int (1 : Int32))] [(.int (own_n p1))]))
        refine Go.on (fun t k => XS.iconst X26.here hx rfl (hb hby at_194) k) ?_
        show Go p e below _ (T26.setTop (mkF m 195 #[.val (.int p1), .val (.int p2), .val (.int p3), .val (.int p4), .val (.int p5), .val (.int (own_n p1)), .val (.int (own_cap p1 p2)), .val (.ref b1), .val (.ref b2), .val (.ref b3), .val (.ref a4), .val (.ref a6), .val (.ref a8), .val (.ref a10), .val (.ref b23), .val (.int (1 : Int32))] [(.int (1 : Int32)), (.int (own_n p1))]))
        refine Go.on (fun t k => XS.icmpNo X26.here hx rfl (hb hby at_195) rfl (tlt hc102).2.2.2 k) ?_
        show Go p e below _ (T26.setTop (mkF m 198 #[.val (.int p1), .val (.int p2), .val (.int p3), .val (.int p4), .val (.int p5), .val (.int (own_n p1)), .val (.int (own_cap p1 p2)), .val (.ref b1), .val (.ref b2), .val (.ref b3), .val (.ref a4), .val (.ref a6), .val (.ref a8), .val (.ref a10), .val (.ref b23), .val (.int (1 : Int32))] []))
        refine Go.on (fun t k => XS.iload X26.here hx rfl (hb hby at_198) rfl k) ?_
        show Go p e below _ (T26.setTop (mkF m 200 #[.val (.int p1), .val (.int p2), .val (.int p3), .val (.int p4), .val (.int p5), .val (.int (own_n p1)), .val (.int (own_cap p1 p2)), .val (.ref b1), .val (.ref b2), .val (.ref b3), .val (.ref a4), .val (.ref a6), .val (.ref a8), .val (.ref a10), .val (.ref b23), .val (.int (1 : Int32))] [(.int (1 : Int32))]))
        refine Go.on (fun t k => XS.ifNo X26.here hx rfl (hb hby at_200) rfl ((if0 _ _).trans (feq (by decide : ¬ ((1 : Int32) = (0 : Int32)))).1) k) ?_
        show Go p e below _ (T26.setTop (mkF m 203 #[.val (.int p1), .val (.int p2), .val (.int p3), .val (.int p4), .val (.int p5), .val (.int (own_n p1)), .val (.int (own_cap p1 p2)), .val (.ref b1), .val (.ref b2), .val (.ref b3), .val (.ref a4), .val (.ref a6), .val (.ref a8), .val (.ref a10), .val (.ref b23), .val (.int (1 : Int32))] []))
        refine Go.on (fun t k => XS.aload X26.here hx rfl (hb hby at_203) rfl rfl k) ?_
        show Go p e below _ (T26.setTop (mkF m 205 #[.val (.int p1), .val (.int p2), .val (.int p3), .val (.int p4), .val (.int p5), .val (.int (own_n p1)), .val (.int (own_cap p1 p2)), .val (.ref b1), .val (.ref b2), .val (.ref b3), .val (.ref a4), .val (.ref a6), .val (.ref a8), .val (.ref a10), .val (.ref b23), .val (.int (1 : Int32))] [(.ref b23)]))
        refine Go.on (fun t k => XS.iconst X26.here hx rfl (hb hby at_205) k) ?_
        show Go p e below _ (T26.setTop (mkF m 206 #[.val (.int p1), .val (.int p2), .val (.int p3), .val (.int p4), .val (.int p5), .val (.int (own_n p1)), .val (.int (own_cap p1 p2)), .val (.ref b1), .val (.ref b2), .val (.ref b3), .val (.ref a4), .val (.ref a6), .val (.ref a8), .val (.ref a10), .val (.ref b23), .val (.int (1 : Int32))] [(.int (1 : Int32)), (.ref b23)]))
        obtain ⟨cq27, kq27, q27a, q27b, q27c⟩ := isOf hZ (rfl : T26.heap = T26.heap) EM26
        obtain ⟨_, _, ⟨T27, L27, k27, n27⟩, -, X27, ⟨Lc27, hQ27, l27, y27, z27⟩, st27⟩ := X26.virtualBack hx (y := (⟨"com/example/olentangy/olentangy/engine/AttributeMap", "id", "(I)Ljava/lang/String;"⟩ : MethodName)) (z := (⟨"com/example/olentangy/olentangy/engine/AttributeMap", "id", "(I)Ljava/lang/String;"⟩ : MethodName)) hown (mvT hZ (hw _ (List.mem_of_getElem? (i := 118) rfl))) (mvT hZ (hw _ (List.mem_of_getElem? (i := 119) rfl))) (notFace_of_selects (args := #[]) (mvT hZ (hw _ (List.mem_of_getElem? (i := 121) rfl)))) (mvT hZ (hw _ (List.mem_of_getElem? (i := 121) rfl))) (mvT hZ (hw _ (List.mem_of_getElem? (i := 120) rfl))) (by decide) (backOf (W := 0) (rm17 l Z a0 hw [] b23 (1 : Int32) ai11 b2 1 (own_cap p1 p2).toInt.toNat (upd (upd (fun _ => .null) 0 (.ref b1)) 1 (.ref b2)) T26.heap n0 Zc26 MI26 RI26 (by decide) (by omega) rfl) hZ (hw _ (List.mem_of_getElem? (i := 122) rfl)) (hw _ (List.mem_of_getElem? (i := 72) rfl)) (by decide) (by decide)) q27a q27c (g := (mkF m 206 #[.val (.int p1), .val (.int p2), .val (.int p3), .val (.int p4), .val (.int p5), .val (.int (own_n p1)), .val (.int (own_cap p1 p2)), .val (.ref b1), .val (.ref b2), .val (.ref b3), .val (.ref a4), .val (.ref a6), .val (.ref a8), .val (.ref a10), .val (.ref b23), .val (.int (1 : Int32))] [(.int (1 : Int32)), (.ref b23)])) rfl (by rw [hml]; rfl) (Steps.refl _) (argsL := [(.int (1 : Int32))]) (rest := []) (lenOf pd_12 rfl) rfl (by show 2 * 0 + _ ≤ _; exact Nat.le_of_eq rfl) (hb hby at_206) (fun _ _ => ⟨rfl, (rfl : T26.heap = T26.heap), (by decide : 14 + 0 ≤ _), (by decide : 43 + 0 ≤ _)⟩)
        dsimp only [Pt.U, Pt.locs, Pt.cells, Pt.slots] at X27 l27 y27 z27 st27 hQ27
        subst l27 y27 z27
        obtain ⟨rfl, N27q, e27⟩ := hQ27
        have N27 := Fr.app N26 N27q
        refine Go.st st27 ?_
        show Go p e below _ (T27.setTop (mkF m 209 #[.val (.int p1), .val (.int p2), .val (.int p3), .val (.int p4), .val (.int p5), .val (.int (own_n p1)), .val (.int (own_cap p1 p2)), .val (.ref b1), .val (.ref b2), .val (.ref b3), .val (.ref a4), .val (.ref a6), .val (.ref a8), .val (.ref a10), .val (.ref b23), .val (.int (1 : Int32))] [(.ref b2)]))
        have Zc27 : n0 ≤ T27.heap.size := by rw [e27]; exact Zc26
        have EM27 : Exa Z T27.heap b23 "com/example/olentangy/olentangy/engine/AttributeMap" := by rw [e27]; exact EM26
        have MI27 : Fld Z T27.heap b23 "com/example/olentangy/olentangy/engine/AttributeMap" "ids" "[Ljava/lang/String;" (.ref ai11) := by rw [e27]; exact MI26
        have MV27 : Fld Z T27.heap b23 "com/example/olentangy/olentangy/engine/AttributeMap" "values" "[Ljava/util/List;" (.ref aw11) := by rw [e27]; exact MV26
        have RI27 : RA Z T27.heap ai11 "java/lang/String" (own_cap p1 p2).toInt.toNat (upd (upd (fun _ => .null) 0 (.ref b1)) 1 (.ref b2)) := by rw [e27]; exact RI26
        have RW27 : RA Z T27.heap aw11 "java/util/List" (own_cap p1 p2).toInt.toNat (upd (upd (fun _ => .null) 0 (.ref a4)) 1 (.ref a6)) := by rw [e27]; exact RW26
        refine Go.on (fun t k => XS.aload X27.here hx rfl (hb hby at_209) rfl rfl k) ?_
        show Go p e below _ (T27.setTop (mkF m 211 #[.val (.int p1), .val (.int p2), .val (.int p3), .val (.int p4), .val (.int p5), .val (.int (own_n p1)), .val (.int (own_cap p1 p2)), .val (.ref b1), .val (.ref b2), .val (.ref b3), .val (.ref a4), .val (.ref a6), .val (.ref a8), .val (.ref a10), .val (.ref b23), .val (.int (1 : Int32))] [(.ref b2), (.ref b2)]))
        refine Go.on (fun t k => XS.acmpNo X27.here hx rfl (hb hby at_211) rfl (by simp [if_acmp.holds]) k) ?_
        show Go p e below _ (T27.setTop (mkF m 214 #[.val (.int p1), .val (.int p2), .val (.int p3), .val (.int p4), .val (.int p5), .val (.int (own_n p1)), .val (.int (own_cap p1 p2)), .val (.ref b1), .val (.ref b2), .val (.ref b3), .val (.ref a4), .val (.ref a6), .val (.ref a8), .val (.ref a10), .val (.ref b23), .val (.int (1 : Int32))] []))
        refine Go.on (fun t k => XS.aload X27.here hx rfl (hb hby at_214) rfl rfl k) ?_
        show Go p e below _ (T27.setTop (mkF m 216 #[.val (.int p1), .val (.int p2), .val (.int p3), .val (.int p4), .val (.int p5), .val (.int (own_n p1)), .val (.int (own_cap p1 p2)), .val (.ref b1), .val (.ref b2), .val (.ref b3), .val (.ref a4), .val (.ref a6), .val (.ref a8), .val (.ref a10), .val (.ref b23), .val (.int (1 : Int32))] [(.ref b23)]))
        refine Go.on (fun t k => XS.iconst X27.here hx rfl (hb hby at_216) k) ?_
        show Go p e below _ (T27.setTop (mkF m 217 #[.val (.int p1), .val (.int p2), .val (.int p3), .val (.int p4), .val (.int p5), .val (.int (own_n p1)), .val (.int (own_cap p1 p2)), .val (.ref b1), .val (.ref b2), .val (.ref b3), .val (.ref a4), .val (.ref a6), .val (.ref a8), .val (.ref a10), .val (.ref b23), .val (.int (1 : Int32))] [(.int (1 : Int32)), (.ref b23)]))
        obtain ⟨cq28, kq28, q28a, q28b, q28c⟩ := isOf hZ (rfl : T27.heap = T27.heap) EM27
        obtain ⟨_, _, ⟨T28, L28, k28, n28⟩, -, X28, ⟨Lc28, hQ28, l28, y28, z28⟩, st28⟩ := X27.virtualBack hx (y := (⟨"com/example/olentangy/olentangy/engine/AttributeMap", "values", "(I)Ljava/util/List;"⟩ : MethodName)) (z := (⟨"com/example/olentangy/olentangy/engine/AttributeMap", "values", "(I)Ljava/util/List;"⟩ : MethodName)) hown (mvT hZ (hw _ (List.mem_of_getElem? (i := 123) rfl))) (mvT hZ (hw _ (List.mem_of_getElem? (i := 124) rfl))) (notFace_of_selects (args := #[]) (mvT hZ (hw _ (List.mem_of_getElem? (i := 126) rfl)))) (mvT hZ (hw _ (List.mem_of_getElem? (i := 126) rfl))) (mvT hZ (hw _ (List.mem_of_getElem? (i := 125) rfl))) (by decide) (backOf (W := 0) (rm18 l Z a0 hw [] b23 (1 : Int32) aw11 a6 1 (own_cap p1 p2).toInt.toNat (upd (upd (fun _ => .null) 0 (.ref a4)) 1 (.ref a6)) T27.heap n0 Zc27 MV27 RW27 (by decide) (by omega) rfl) hZ (hw _ (List.mem_of_getElem? (i := 127) rfl)) (hw _ (List.mem_of_getElem? (i := 72) rfl)) (by decide) (by decide)) q28a q28c (g := (mkF m 217 #[.val (.int p1), .val (.int p2), .val (.int p3), .val (.int p4), .val (.int p5), .val (.int (own_n p1)), .val (.int (own_cap p1 p2)), .val (.ref b1), .val (.ref b2), .val (.ref b3), .val (.ref a4), .val (.ref a6), .val (.ref a8), .val (.ref a10), .val (.ref b23), .val (.int (1 : Int32))] [(.int (1 : Int32)), (.ref b23)])) rfl (by rw [hml]; rfl) (Steps.refl _) (argsL := [(.int (1 : Int32))]) (rest := []) (lenOf pd_13 rfl) rfl (by show 2 * 0 + _ ≤ _; exact Nat.le_of_eq rfl) (hb hby at_217) (fun _ _ => ⟨rfl, (rfl : T27.heap = T27.heap), (by decide : 14 + 0 ≤ _), (by decide : 43 + 0 ≤ _)⟩)
        dsimp only [Pt.U, Pt.locs, Pt.cells, Pt.slots] at X28 l28 y28 z28 st28 hQ28
        subst l28 y28 z28
        obtain ⟨rfl, N28q, e28⟩ := hQ28
        have N28 := Fr.app N27 N28q
        refine Go.st st28 ?_
        show Go p e below _ (T28.setTop (mkF m 220 #[.val (.int p1), .val (.int p2), .val (.int p3), .val (.int p4), .val (.int p5), .val (.int (own_n p1)), .val (.int (own_cap p1 p2)), .val (.ref b1), .val (.ref b2), .val (.ref b3), .val (.ref a4), .val (.ref a6), .val (.ref a8), .val (.ref a10), .val (.ref b23), .val (.int (1 : Int32))] [(.ref a6)]))
        have Zc28 : n0 ≤ T28.heap.size := by rw [e28]; exact Zc27
        have EM28 : Exa Z T28.heap b23 "com/example/olentangy/olentangy/engine/AttributeMap" := by rw [e28]; exact EM27
        have MI28 : Fld Z T28.heap b23 "com/example/olentangy/olentangy/engine/AttributeMap" "ids" "[Ljava/lang/String;" (.ref ai11) := by rw [e28]; exact MI27
        have MV28 : Fld Z T28.heap b23 "com/example/olentangy/olentangy/engine/AttributeMap" "values" "[Ljava/util/List;" (.ref aw11) := by rw [e28]; exact MV27
        have RI28 : RA Z T28.heap ai11 "java/lang/String" (own_cap p1 p2).toInt.toNat (upd (upd (fun _ => .null) 0 (.ref b1)) 1 (.ref b2)) := by rw [e28]; exact RI27
        have RW28 : RA Z T28.heap aw11 "java/util/List" (own_cap p1 p2).toInt.toNat (upd (upd (fun _ => .null) 0 (.ref a4)) 1 (.ref a6)) := by rw [e28]; exact RW27
        refine Go.on (fun t k => XS.aload X28.here hx rfl (hb hby at_220) rfl rfl k) ?_
        show Go p e below _ (T28.setTop (mkF m 222 #[.val (.int p1), .val (.int p2), .val (.int p3), .val (.int p4), .val (.int p5), .val (.int (own_n p1)), .val (.int (own_cap p1 p2)), .val (.ref b1), .val (.ref b2), .val (.ref b3), .val (.ref a4), .val (.ref a6), .val (.ref a8), .val (.ref a10), .val (.ref b23), .val (.int (1 : Int32))] [(.ref a6), (.ref a6)]))
        refine Go.on (fun t k => XS.acmpNo X28.here hx rfl (hb hby at_222) rfl (by simp [if_acmp.holds]) k) ?_
        show Go p e below _ (T28.setTop (mkF m 225 #[.val (.int p1), .val (.int p2), .val (.int p3), .val (.int p4), .val (.int p5), .val (.int (own_n p1)), .val (.int (own_cap p1 p2)), .val (.ref b1), .val (.ref b2), .val (.ref b3), .val (.ref a4), .val (.ref a6), .val (.ref a8), .val (.ref a10), .val (.ref b23), .val (.int (1 : Int32))] []))
        refine Go.on (fun t k => XS.iconst X28.here hx rfl (hb hby at_225) k) ?_
        show Go p e below _ (T28.setTop (mkF m 226 #[.val (.int p1), .val (.int p2), .val (.int p3), .val (.int p4), .val (.int p5), .val (.int (own_n p1)), .val (.int (own_cap p1 p2)), .val (.ref b1), .val (.ref b2), .val (.ref b3), .val (.ref a4), .val (.ref a6), .val (.ref a8), .val (.ref a10), .val (.ref b23), .val (.int (1 : Int32))] [(.int (1 : Int32))]))
        refine Go.on (fun t k => XS.goto X28.here hx rfl (pc0 := 226) (pc' := 230) rfl (hb hby at_226) (by decide) (by decide) k) ?_
        show Go p e below _ (T28.setTop (mkF m 230 #[.val (.int p1), .val (.int p2), .val (.int p3), .val (.int p4), .val (.int p5), .val (.int (own_n p1)), .val (.int (own_cap p1 p2)), .val (.ref b1), .val (.ref b2), .val (.ref b3), .val (.ref a4), .val (.ref a6), .val (.ref a8), .val (.ref a10), .val (.ref b23), .val (.int (1 : Int32))] [(.int (1 : Int32))]))
        refine Go.on (fun t k => XS.istore X28.here hx rfl (hb hby at_230) rfl (l' := #[.val (.int p1), .val (.int p2), .val (.int p3), .val (.int p4), .val (.int p5), .val (.int (own_n p1)), .val (.int (own_cap p1 p2)), .val (.ref b1), .val (.ref b2), .val (.ref b3), .val (.ref a4), .val (.ref a6), .val (.ref a8), .val (.ref a10), .val (.ref b23), .val (.int (1 : Int32))]) rfl k) ?_
        show Go p e below _ (T28.setTop (mkF m 232 #[.val (.int p1), .val (.int p2), .val (.int p3), .val (.int p4), .val (.int p5), .val (.int (own_n p1)), .val (.int (own_cap p1 p2)), .val (.ref b1), .val (.ref b2), .val (.ref b3), .val (.ref a4), .val (.ref a6), .val (.ref a8), .val (.ref a10), .val (.ref b23), .val (.int (1 : Int32))] []))
        refine Go.on (fun t k => XS.iload X28.here hx rfl (hb hby at_232) rfl k) ?_
        show Go p e below _ (T28.setTop (mkF m 234 #[.val (.int p1), .val (.int p2), .val (.int p3), .val (.int p4), .val (.int p5), .val (.int (own_n p1)), .val (.int (own_cap p1 p2)), .val (.ref b1), .val (.ref b2), .val (.ref b3), .val (.ref a4), .val (.ref a6), .val (.ref a8), .val (.ref a10), .val (.ref b23), .val (.int (1 : Int32))] [(.int (own_n p1))]))
        refine Go.on (fun t k => XS.iconst X28.here hx rfl (hb hby at_234) k) ?_
        show Go p e below _ (T28.setTop (mkF m 235 #[.val (.int p1), .val (.int p2), .val (.int p3), .val (.int p4), .val (.int p5), .val (.int (own_n p1)), .val (.int (own_cap p1 p2)), .val (.ref b1), .val (.ref b2), .val (.ref b3), .val (.ref a4), .val (.ref a6), .val (.ref a8), .val (.ref a10), .val (.ref b23), .val (.int (1 : Int32))] [(.int (2 : Int32)), (.int (own_n p1))]))
        refine Go.on (fun t k => XS.icmpYes X28.here hx rfl (pc0 := 235) (pc' := 272) rfl (hb hby at_235) rfl (flt hc117).2.2.2 (by decide) (by decide) k) ?_
        show Go p e below _ (T28.setTop (mkF m 272 #[.val (.int p1), .val (.int p2), .val (.int p3), .val (.int p4), .val (.int p5), .val (.int (own_n p1)), .val (.int (own_cap p1 p2)), .val (.ref b1), .val (.ref b2), .val (.ref b3), .val (.ref a4), .val (.ref a6), .val (.ref a8), .val (.ref a10), .val (.ref b23), .val (.int (1 : Int32))] []))
        refine Go.on (fun t k => XS.iload X28.here hx rfl (hb hby at_272) rfl k) ?_
        show Go p e below _ (T28.setTop (mkF m 274 #[.val (.int p1), .val (.int p2), .val (.int p3), .val (.int p4), .val (.int p5), .val (.int (own_n p1)), .val (.int (own_cap p1 p2)), .val (.ref b1), .val (.ref b2), .val (.ref b3), .val (.ref a4), .val (.ref a6), .val (.ref a8), .val (.ref a10), .val (.ref b23), .val (.int (1 : Int32))] [(.int (1 : Int32))]))
        exact Go.retN X28 hx hlk hret (by simp) (hb hby at_274) (by decide) (by decide) ⟨by rfl, N28⟩
    · refine Go.on (fun t k => XS.icmpYes X12.here hx rfl (pc0 := 102) (pc' := 114) rfl (hb hby at_102) rfl (flt hc102).2.2.2 (by decide) (by decide) k) ?_
      show Go p e below _ (T12.setTop (mkF m 114 #[.val (.int p1), .val (.int p2), .val (.int p3), .val (.int p4), .val (.int p5), .val (.int (own_n p1)), .val (.int (own_cap p1 p2)), .val (.ref b1), .val (.ref b2), .val (.ref b3), .val (.ref a4), .val (.ref a6), .val (.ref a8), .val (.ref a10), .unset, .unset] []))
      refine Go.on (fun t k => XS.iload X12.here hx rfl (hb hby at_114) rfl k) ?_
      show Go p e below _ (T12.setTop (mkF m 116 #[.val (.int p1), .val (.int p2), .val (.int p3), .val (.int p4), .val (.int p5), .val (.int (own_n p1)), .val (.int (own_cap p1 p2)), .val (.ref b1), .val (.ref b2), .val (.ref b3), .val (.ref a4), .val (.ref a6), .val (.ref a8), .val (.ref a10), .unset, .unset] [(.int (own_n p1))]))
      refine Go.on (fun t k => XS.iconst X12.here hx rfl (hb hby at_116) k) ?_
      show Go p e below _ (T12.setTop (mkF m 117 #[.val (.int p1), .val (.int p2), .val (.int p3), .val (.int p4), .val (.int p5), .val (.int (own_n p1)), .val (.int (own_cap p1 p2)), .val (.ref b1), .val (.ref b2), .val (.ref b3), .val (.ref a4), .val (.ref a6), .val (.ref a8), .val (.ref a10), .unset, .unset] [(.int (2 : Int32)), (.int (own_n p1))]))
      refine Go.on (fun t k => XS.icmpYes X12.here hx rfl (pc0 := 117) (pc' := 129) rfl (hb hby at_117) rfl (flt (fun q => hc102 (Int32.lt_iff_toInt_lt.mpr (by have := Int32.lt_iff_toInt_lt.mp q; have z1 : (2 : Int32).toInt = 2 := (by decide); have z2 : (1 : Int32).toInt = 1 := (by decide); omega)))).2.2.2 (by decide) (by decide) k) ?_
      show Go p e below _ (T12.setTop (mkF m 129 #[.val (.int p1), .val (.int p2), .val (.int p3), .val (.int p4), .val (.int p5), .val (.int (own_n p1)), .val (.int (own_cap p1 p2)), .val (.ref b1), .val (.ref b2), .val (.ref b3), .val (.ref a4), .val (.ref a6), .val (.ref a8), .val (.ref a10), .unset, .unset] []))
      refine Go.on (fun t k => XS.aload X12.here hx rfl (hb hby at_129) rfl rfl k) ?_
      show Go p e below _ (T12.setTop (mkF m 131 #[.val (.int p1), .val (.int p2), .val (.int p3), .val (.int p4), .val (.int p5), .val (.int (own_n p1)), .val (.int (own_cap p1 p2)), .val (.ref b1), .val (.ref b2), .val (.ref b3), .val (.ref a4), .val (.ref a6), .val (.ref a8), .val (.ref a10), .unset, .unset] [(.ref a10)]))
      obtain ⟨cq29, kq29, q29a, q29b, q29c⟩ := isOf hZ (rfl : T12.heap = T12.heap) EB12
      obtain ⟨_, _, ⟨T29, L29, k29, n29⟩, -, X29, ⟨Lc29, hQ29, l29, y29, z29⟩, st29⟩ := X12.virtualBack hx (y := (⟨"com/example/olentangy/olentangy/engine/AttributeMap$Builder", "build", "()Lcom/example/olentangy/olentangy/engine/AttributeMap;"⟩ : MethodName)) (z := (⟨"com/example/olentangy/olentangy/engine/AttributeMap$Builder", "build", "()Lcom/example/olentangy/olentangy/engine/AttributeMap;"⟩ : MethodName)) hown (mvT hZ (hw _ (List.mem_of_getElem? (i := 65) rfl))) (mvT hZ (hw _ (List.mem_of_getElem? (i := 66) rfl))) (notFace_of_selects (args := #[]) (mvT hZ (hw _ (List.mem_of_getElem? (i := 68) rfl)))) (mvT hZ (hw _ (List.mem_of_getElem? (i := 68) rfl))) (mvT hZ (hw _ (List.mem_of_getElem? (i := 67) rfl))) (by decide) (backOf (W := 0) (rm10 l Z a0 hw [] a10 ai11 aw11 ((0 : Int32) + (1 : Int32)) T12.heap n0 Zc12 FI12 FV12 FS12) hZ (hw _ (List.mem_of_getElem? (i := 69) rfl)) (hw _ (List.mem_of_getElem? (i := 52) rfl)) (by decide) (by decide)) q29a q29c (g := (mkF m 131 #[.val (.int p1), .val (.int p2), .val (.int p3), .val (.int p4), .val (.int p5), .val (.int (own_n p1)), .val (.int (own_cap p1 p2)), .val (.ref b1), .val (.ref b2), .val (.ref b3), .val (.ref a4), .val (.ref a6), .val (.ref a8), .val (.ref a10), .unset, .unset] [(.ref a10)])) rfl (by rw [hml]; rfl) (Steps.refl _) (argsL := []) (rest := []) (lenOf pd_10 rfl) rfl (by show 2 * 0 + _ ≤ _; exact Nat.le_of_eq rfl) (hb hby at_131) (fun _ _ => ⟨rfl, (rfl : T12.heap = T12.heap), (by decide : 12 + 2 ≤ _), (by decide : 35 + 8 ≤ _)⟩)
      dsimp only [Pt.U, Pt.locs, Pt.cells, Pt.slots] at X29 l29 y29 z29 st29 hQ29
      subst l29 y29 z29
      obtain ⟨b29, rfl, N29q, K29, EM29, MI29, MV29, MS29⟩ := hQ29
      have N29 := Fr.app N12 N29q
      refine Go.st st29 ?_
      show Go p e below _ (T29.setTop (mkF m 134 #[.val (.int p1), .val (.int p2), .val (.int p3), .val (.int p4), .val (.int p5), .val (.int (own_n p1)), .val (.int (own_cap p1 p2)), .val (.ref b1), .val (.ref b2), .val (.ref b3), .val (.ref a4), .val (.ref a6), .val (.ref a8), .val (.ref a10), .unset, .unset] [(.ref b29)]))
      have Zc29 : n0 ≤ T29.heap.size := Nat.le_trans Zc12 K29.1
      have RI29 := RI12.keep K29 (by simp)
      have RW29 := RW12.keep K29 (by simp)
      refine Go.on (fun t k => XS.astore X29.here hx rfl (hb hby at_134) rfl rfl (l' := #[.val (.int p1), .val (.int p2), .val (.int p3), .val (.int p4), .val (.int p5), .val (.int (own_n p1)), .val (.int (own_cap p1 p2)), .val (.ref b1), .val (.ref b2), .val (.ref b3), .val (.ref a4), .val (.ref a6), .val (.ref a8), .val (.ref a10), .val (.ref b29), .unset]) rfl k) ?_
      show Go p e below _ (T29.setTop (mkF m 136 #[.val (.int p1), .val (.int p2), .val (.int p3), .val (.int p4), .val (.int p5), .val (.int (own_n p1)), .val (.int (own_cap p1 p2)), .val (.ref b1), .val (.ref b2), .val (.ref b3), .val (.ref a4), .val (.ref a6), .val (.ref a8), .val (.ref a10), .val (.ref b29), .unset] []))
      refine Go.on (fun t k => XS.aload X29.here hx rfl (hb hby at_136) rfl rfl k) ?_
      show Go p e below _ (T29.setTop (mkF m 138 #[.val (.int p1), .val (.int p2), .val (.int p3), .val (.int p4), .val (.int p5), .val (.int (own_n p1)), .val (.int (own_cap p1 p2)), .val (.ref b1), .val (.ref b2), .val (.ref b3), .val (.ref a4), .val (.ref a6), .val (.ref a8), .val (.ref a10), .val (.ref b29), .unset] [(.ref b29)]))
      obtain ⟨cq30, kq30, q30a, q30b, q30c⟩ := isOf hZ (rfl : T29.heap = T29.heap) EM29
      obtain ⟨_, _, ⟨T30, L30, k30, n30⟩, -, X30, ⟨Lc30, hQ30, l30, y30, z30⟩, st30⟩ := X29.virtualBack hx (y := (⟨"com/example/olentangy/olentangy/engine/AttributeMap", "size", "()I"⟩ : MethodName)) (z := (⟨"com/example/olentangy/olentangy/engine/AttributeMap", "size", "()I"⟩ : MethodName)) hown (mvT hZ (hw _ (List.mem_of_getElem? (i := 107) rfl))) (mvT hZ (hw _ (List.mem_of_getElem? (i := 108) rfl))) (notFace_of_selects (args := #[]) (mvT hZ (hw _ (List.mem_of_getElem? (i := 110) rfl)))) (mvT hZ (hw _ (List.mem_of_getElem? (i := 110) rfl))) (mvT hZ (hw _ (List.mem_of_getElem? (i := 109) rfl))) (by decide) (backOf (W := 0) (rm15 l Z a0 hw [] b29 ((0 : Int32) + (1 : Int32)) T29.heap n0 Zc29 MS29) hZ (hw _ (List.mem_of_getElem? (i := 111) rfl)) (hw _ (List.mem_of_getElem? (i := 72) rfl)) (by decide) (by decide)) q30a q30c (g := (mkF m 138 #[.val (.int p1), .val (.int p2), .val (.int p3), .val (.int p4), .val (.int p5), .val (.int (own_n p1)), .val (.int (own_cap p1 p2)), .val (.ref b1), .val (.ref b2), .val (.ref b3), .val (.ref a4), .val (.ref a6), .val (.ref a8), .val (.ref a10), .val (.ref b29), .unset] [(.ref b29)])) rfl (by rw [hml]; rfl) (Steps.refl _) (argsL := []) (rest := []) (lenOf pd_11 rfl) rfl (by show 2 * 0 + _ ≤ _; exact Nat.le_of_eq rfl) (hb hby at_138) (fun _ _ => ⟨rfl, (rfl : T29.heap = T29.heap), (by decide : 14 + 0 ≤ _), (by decide : 43 + 0 ≤ _)⟩)
      dsimp only [Pt.U, Pt.locs, Pt.cells, Pt.slots] at X30 l30 y30 z30 st30 hQ30
      subst l30 y30 z30
      obtain ⟨rfl, N30q, e30⟩ := hQ30
      have N30 := Fr.app N29 N30q
      refine Go.st st30 ?_
      show Go p e below _ (T30.setTop (mkF m 141 #[.val (.int p1), .val (.int p2), .val (.int p3), .val (.int p4), .val (.int p5), .val (.int (own_n p1)), .val (.int (own_cap p1 p2)), .val (.ref b1), .val (.ref b2), .val (.ref b3), .val (.ref a4), .val (.ref a6), .val (.ref a8), .val (.ref a10), .val (.ref b29), .unset] [(.int ((0 : Int32) + (1 : Int32)))]))
      have Zc30 : n0 ≤ T30.heap.size := by rw [e30]; exact Zc29
      have EM30 : Exa Z T30.heap b29 "com/example/olentangy/olentangy/engine/AttributeMap" := by rw [e30]; exact EM29
      have MI30 : Fld Z T30.heap b29 "com/example/olentangy/olentangy/engine/AttributeMap" "ids" "[Ljava/lang/String;" (.ref ai11) := by rw [e30]; exact MI29
      have MV30 : Fld Z T30.heap b29 "com/example/olentangy/olentangy/engine/AttributeMap" "values" "[Ljava/util/List;" (.ref aw11) := by rw [e30]; exact MV29
      have RI30 : RA Z T30.heap ai11 "java/lang/String" (own_cap p1 p2).toInt.toNat (upd (fun _ => .null) 0 (.ref b1)) := by rw [e30]; exact RI29
      have RW30 : RA Z T30.heap aw11 "java/util/List" (own_cap p1 p2).toInt.toNat (upd (fun _ => .null) 0 (.ref a4)) := by rw [e30]; exact RW29
      refine Go.on (fun t k => XS.iload X30.here hx rfl (hb hby at_141) rfl k) ?_
      show Go p e below _ (T30.setTop (mkF m 143 #[.val (.int p1), .val (.int p2), .val (.int p3), .val (.int p4), .val (.int p5), .val (.int (own_n p1)), .val (.int (own_cap p1 p2)), .val (.ref b1), .val (.ref b2), .val (.ref b3), .val (.ref a4), .val (.ref a6), .val (.ref a8), .val (.ref a10), .val (.ref b29), .unset] [(.int (own_n p1)), (.int ((0 : Int32) + (1 : Int32)))]))
      refine Go.on (fun t k => XS.icmpNo X30.here hx rfl (hb hby at_143) rfl (teq (by apply Int32.toInt_inj.mp; have e1 : ((0 : Int32) + (1 : Int32)).toInt = 1 := (by decide); have y0 : (0 : Int32).toInt < (own_n p1).toInt := Int32.lt_iff_toInt_lt.mp hc87; have z0 : (0 : Int32).toInt = 0 := (by decide); have y1 : ¬ (1 : Int32).toInt < (own_n p1).toInt := fun q => hc102 (Int32.lt_iff_toInt_lt.mpr q); have z1 : (1 : Int32).toInt = 1 := (by decide); have y2 : ¬ (2 : Int32).toInt < (own_n p1).toInt := fun q => (fun q => hc102 (Int32.lt_iff_toInt_lt.mpr (by have := Int32.lt_iff_toInt_lt.mp q; have z1 : (2 : Int32).toInt = 2 := (by decide); have z2 : (1 : Int32).toInt = 1 := (by decide); omega))) (Int32.lt_iff_toInt_lt.mpr q); have z2 : (2 : Int32).toInt = 2 := (by decide); omega : ((0 : Int32) + (1 : Int32)) = (own_n p1))).2 k) ?_
      show Go p e below _ (T30.setTop (mkF m 146 #[.val (.int p1), .val (.int p2), .val (.int p3), .val (.int p4), .val (.int p5), .val (.int (own_n p1)), .val (.int (own_cap p1 p2)), .val (.ref b1), .val (.ref b2), .val (.ref b3), .val (.ref a4), .val (.ref a6), .val (.ref a8), .val (.ref a10), .val (.ref b29), .unset] []))
      refine Go.on (fun t k => XS.iconst X30.here hx rfl (hb hby at_146) k) ?_
      show Go p e below _ (T30.setTop (mkF m 147 #[.val (.int p1), .val (.int p2), .val (.int p3), .val (.int p4), .val (.int p5), .val (.int (own_n p1)), .val (.int (own_cap p1 p2)), .val (.ref b1), .val (.ref b2), .val (.ref b3), .val (.ref a4), .val (.ref a6), .val (.ref a8), .val (.ref a10), .val (.ref b29), .unset] [(.int (1 : Int32))]))
      refine Go.on (fun t k => XS.goto X30.here hx rfl (pc0 := 147) (pc' := 151) rfl (hb hby at_147) (by decide) (by decide) k) ?_
      show Go p e below _ (T30.setTop (mkF m 151 #[.val (.int p1), .val (.int p2), .val (.int p3), .val (.int p4), .val (.int p5), .val (.int (own_n p1)), .val (.int (own_cap p1 p2)), .val (.ref b1), .val (.ref b2), .val (.ref b3), .val (.ref a4), .val (.ref a6), .val (.ref a8), .val (.ref a10), .val (.ref b29), .unset] [(.int (1 : Int32))]))
      refine Go.on (fun t k => XS.istore X30.here hx rfl (hb hby at_151) rfl (l' := #[.val (.int p1), .val (.int p2), .val (.int p3), .val (.int p4), .val (.int p5), .val (.int (own_n p1)), .val (.int (own_cap p1 p2)), .val (.ref b1), .val (.ref b2), .val (.ref b3), .val (.ref a4), .val (.ref a6), .val (.ref a8), .val (.ref a10), .val (.ref b29), .val (.int (1 : Int32))]) rfl k) ?_
      show Go p e below _ (T30.setTop (mkF m 153 #[.val (.int p1), .val (.int p2), .val (.int p3), .val (.int p4), .val (.int p5), .val (.int (own_n p1)), .val (.int (own_cap p1 p2)), .val (.ref b1), .val (.ref b2), .val (.ref b3), .val (.ref a4), .val (.ref a6), .val (.ref a8), .val (.ref a10), .val (.ref b29), .val (.int (1 : Int32))] []))
      refine Go.on (fun t k => XS.iload X30.here hx rfl (hb hby at_153) rfl k) ?_
      show Go p e below _ (T30.setTop (mkF m 155 #[.val (.int p1), .val (.int p2), .val (.int p3), .val (.int p4), .val (.int p5), .val (.int (own_n p1)), .val (.int (own_cap p1 p2)), .val (.ref b1), .val (.ref b2), .val (.ref b3), .val (.ref a4), .val (.ref a6), .val (.ref a8), .val (.ref a10), .val (.ref b29), .val (.int (1 : Int32))] [(.int (own_n p1))]))
      refine Go.on (fun t k => XS.ifNo X30.here hx rfl (hb hby at_155) rfl ((if0 _ _).trans (tlt hc87).2.2.2) k) ?_
      show Go p e below _ (T30.setTop (mkF m 158 #[.val (.int p1), .val (.int p2), .val (.int p3), .val (.int p4), .val (.int p5), .val (.int (own_n p1)), .val (.int (own_cap p1 p2)), .val (.ref b1), .val (.ref b2), .val (.ref b3), .val (.ref a4), .val (.ref a6), .val (.ref a8), .val (.ref a10), .val (.ref b29), .val (.int (1 : Int32))] []))
      refine Go.on (fun t k => XS.iload X30.here hx rfl (hb hby at_158) rfl k) ?_
      show Go p e below _ (T30.setTop (mkF m 160 #[.val (.int p1), .val (.int p2), .val (.int p3), .val (.int p4), .val (.int p5), .val (.int (own_n p1)), .val (.int (own_cap p1 p2)), .val (.ref b1), .val (.ref b2), .val (.ref b3), .val (.ref a4), .val (.ref a6), .val (.ref a8), .val (.ref a10), .val (.ref b29), .val (.int (1 : Int32))] [(.int (1 : Int32))]))
      refine Go.on (fun t k => XS.ifNo X30.here hx rfl (hb hby at_160) rfl ((if0 _ _).trans (feq (by decide : ¬ ((1 : Int32) = (0 : Int32)))).1) k) ?_
      show Go p e below _ (T30.setTop (mkF m 163 #[.val (.int p1), .val (.int p2), .val (.int p3), .val (.int p4), .val (.int p5), .val (.int (own_n p1)), .val (.int (own_cap p1 p2)), .val (.ref b1), .val (.ref b2), .val (.ref b3), .val (.ref a4), .val (.ref a6), .val (.ref a8), .val (.ref a10), .val (.ref b29), .val (.int (1 : Int32))] []))
      refine Go.on (fun t k => XS.aload X30.here hx rfl (hb hby at_163) rfl rfl k) ?_
      show Go p e below _ (T30.setTop (mkF m 165 #[.val (.int p1), .val (.int p2), .val (.int p3), .val (.int p4), .val (.int p5), .val (.int (own_n p1)), .val (.int (own_cap p1 p2)), .val (.ref b1), .val (.ref b2), .val (.ref b3), .val (.ref a4), .val (.ref a6), .val (.ref a8), .val (.ref a10), .val (.ref b29), .val (.int (1 : Int32))] [(.ref b29)]))
      refine Go.on (fun t k => XS.iconst X30.here hx rfl (hb hby at_165) k) ?_
      show Go p e below _ (T30.setTop (mkF m 166 #[.val (.int p1), .val (.int p2), .val (.int p3), .val (.int p4), .val (.int p5), .val (.int (own_n p1)), .val (.int (own_cap p1 p2)), .val (.ref b1), .val (.ref b2), .val (.ref b3), .val (.ref a4), .val (.ref a6), .val (.ref a8), .val (.ref a10), .val (.ref b29), .val (.int (1 : Int32))] [(.int (0 : Int32)), (.ref b29)]))
      obtain ⟨cq31, kq31, q31a, q31b, q31c⟩ := isOf hZ (rfl : T30.heap = T30.heap) EM30
      obtain ⟨_, _, ⟨T31, L31, k31, n31⟩, -, X31, ⟨Lc31, hQ31, l31, y31, z31⟩, st31⟩ := X30.virtualBack hx (y := (⟨"com/example/olentangy/olentangy/engine/AttributeMap", "id", "(I)Ljava/lang/String;"⟩ : MethodName)) (z := (⟨"com/example/olentangy/olentangy/engine/AttributeMap", "id", "(I)Ljava/lang/String;"⟩ : MethodName)) hown (mvT hZ (hw _ (List.mem_of_getElem? (i := 118) rfl))) (mvT hZ (hw _ (List.mem_of_getElem? (i := 119) rfl))) (notFace_of_selects (args := #[]) (mvT hZ (hw _ (List.mem_of_getElem? (i := 121) rfl)))) (mvT hZ (hw _ (List.mem_of_getElem? (i := 121) rfl))) (mvT hZ (hw _ (List.mem_of_getElem? (i := 120) rfl))) (by decide) (backOf (W := 0) (rm17 l Z a0 hw [] b29 (0 : Int32) ai11 b1 0 (own_cap p1 p2).toInt.toNat (upd (fun _ => .null) 0 (.ref b1)) T30.heap n0 Zc30 MI30 RI30 (by decide) (by omega) rfl) hZ (hw _ (List.mem_of_getElem? (i := 122) rfl)) (hw _ (List.mem_of_getElem? (i := 72) rfl)) (by decide) (by decide)) q31a q31c (g := (mkF m 166 #[.val (.int p1), .val (.int p2), .val (.int p3), .val (.int p4), .val (.int p5), .val (.int (own_n p1)), .val (.int (own_cap p1 p2)), .val (.ref b1), .val (.ref b2), .val (.ref b3), .val (.ref a4), .val (.ref a6), .val (.ref a8), .val (.ref a10), .val (.ref b29), .val (.int (1 : Int32))] [(.int (0 : Int32)), (.ref b29)])) rfl (by rw [hml]; rfl) (Steps.refl _) (argsL := [(.int (0 : Int32))]) (rest := []) (lenOf pd_12 rfl) rfl (by show 2 * 0 + _ ≤ _; exact Nat.le_of_eq rfl) (hb hby at_166) (fun _ _ => ⟨rfl, (rfl : T30.heap = T30.heap), (by decide : 14 + 0 ≤ _), (by decide : 43 + 0 ≤ _)⟩)
      dsimp only [Pt.U, Pt.locs, Pt.cells, Pt.slots] at X31 l31 y31 z31 st31 hQ31
      subst l31 y31 z31
      obtain ⟨rfl, N31q, e31⟩ := hQ31
      have N31 := Fr.app N30 N31q
      refine Go.st st31 ?_
      show Go p e below _ (T31.setTop (mkF m 169 #[.val (.int p1), .val (.int p2), .val (.int p3), .val (.int p4), .val (.int p5), .val (.int (own_n p1)), .val (.int (own_cap p1 p2)), .val (.ref b1), .val (.ref b2), .val (.ref b3), .val (.ref a4), .val (.ref a6), .val (.ref a8), .val (.ref a10), .val (.ref b29), .val (.int (1 : Int32))] [(.ref b1)]))
      have Zc31 : n0 ≤ T31.heap.size := by rw [e31]; exact Zc30
      have EM31 : Exa Z T31.heap b29 "com/example/olentangy/olentangy/engine/AttributeMap" := by rw [e31]; exact EM30
      have MI31 : Fld Z T31.heap b29 "com/example/olentangy/olentangy/engine/AttributeMap" "ids" "[Ljava/lang/String;" (.ref ai11) := by rw [e31]; exact MI30
      have MV31 : Fld Z T31.heap b29 "com/example/olentangy/olentangy/engine/AttributeMap" "values" "[Ljava/util/List;" (.ref aw11) := by rw [e31]; exact MV30
      have RI31 : RA Z T31.heap ai11 "java/lang/String" (own_cap p1 p2).toInt.toNat (upd (fun _ => .null) 0 (.ref b1)) := by rw [e31]; exact RI30
      have RW31 : RA Z T31.heap aw11 "java/util/List" (own_cap p1 p2).toInt.toNat (upd (fun _ => .null) 0 (.ref a4)) := by rw [e31]; exact RW30
      refine Go.on (fun t k => XS.aload X31.here hx rfl (hb hby at_169) rfl rfl k) ?_
      show Go p e below _ (T31.setTop (mkF m 171 #[.val (.int p1), .val (.int p2), .val (.int p3), .val (.int p4), .val (.int p5), .val (.int (own_n p1)), .val (.int (own_cap p1 p2)), .val (.ref b1), .val (.ref b2), .val (.ref b3), .val (.ref a4), .val (.ref a6), .val (.ref a8), .val (.ref a10), .val (.ref b29), .val (.int (1 : Int32))] [(.ref b1), (.ref b1)]))
      refine Go.on (fun t k => XS.acmpNo X31.here hx rfl (hb hby at_171) rfl (by simp [if_acmp.holds]) k) ?_
      show Go p e below _ (T31.setTop (mkF m 174 #[.val (.int p1), .val (.int p2), .val (.int p3), .val (.int p4), .val (.int p5), .val (.int (own_n p1)), .val (.int (own_cap p1 p2)), .val (.ref b1), .val (.ref b2), .val (.ref b3), .val (.ref a4), .val (.ref a6), .val (.ref a8), .val (.ref a10), .val (.ref b29), .val (.int (1 : Int32))] []))
      refine Go.on (fun t k => XS.aload X31.here hx rfl (hb hby at_174) rfl rfl k) ?_
      show Go p e below _ (T31.setTop (mkF m 176 #[.val (.int p1), .val (.int p2), .val (.int p3), .val (.int p4), .val (.int p5), .val (.int (own_n p1)), .val (.int (own_cap p1 p2)), .val (.ref b1), .val (.ref b2), .val (.ref b3), .val (.ref a4), .val (.ref a6), .val (.ref a8), .val (.ref a10), .val (.ref b29), .val (.int (1 : Int32))] [(.ref b29)]))
      refine Go.on (fun t k => XS.iconst X31.here hx rfl (hb hby at_176) k) ?_
      show Go p e below _ (T31.setTop (mkF m 177 #[.val (.int p1), .val (.int p2), .val (.int p3), .val (.int p4), .val (.int p5), .val (.int (own_n p1)), .val (.int (own_cap p1 p2)), .val (.ref b1), .val (.ref b2), .val (.ref b3), .val (.ref a4), .val (.ref a6), .val (.ref a8), .val (.ref a10), .val (.ref b29), .val (.int (1 : Int32))] [(.int (0 : Int32)), (.ref b29)]))
      obtain ⟨cq32, kq32, q32a, q32b, q32c⟩ := isOf hZ (rfl : T31.heap = T31.heap) EM31
      obtain ⟨_, _, ⟨T32, L32, k32, n32⟩, -, X32, ⟨Lc32, hQ32, l32, y32, z32⟩, st32⟩ := X31.virtualBack hx (y := (⟨"com/example/olentangy/olentangy/engine/AttributeMap", "values", "(I)Ljava/util/List;"⟩ : MethodName)) (z := (⟨"com/example/olentangy/olentangy/engine/AttributeMap", "values", "(I)Ljava/util/List;"⟩ : MethodName)) hown (mvT hZ (hw _ (List.mem_of_getElem? (i := 123) rfl))) (mvT hZ (hw _ (List.mem_of_getElem? (i := 124) rfl))) (notFace_of_selects (args := #[]) (mvT hZ (hw _ (List.mem_of_getElem? (i := 126) rfl)))) (mvT hZ (hw _ (List.mem_of_getElem? (i := 126) rfl))) (mvT hZ (hw _ (List.mem_of_getElem? (i := 125) rfl))) (by decide) (backOf (W := 0) (rm18 l Z a0 hw [] b29 (0 : Int32) aw11 a4 0 (own_cap p1 p2).toInt.toNat (upd (fun _ => .null) 0 (.ref a4)) T31.heap n0 Zc31 MV31 RW31 (by decide) (by omega) rfl) hZ (hw _ (List.mem_of_getElem? (i := 127) rfl)) (hw _ (List.mem_of_getElem? (i := 72) rfl)) (by decide) (by decide)) q32a q32c (g := (mkF m 177 #[.val (.int p1), .val (.int p2), .val (.int p3), .val (.int p4), .val (.int p5), .val (.int (own_n p1)), .val (.int (own_cap p1 p2)), .val (.ref b1), .val (.ref b2), .val (.ref b3), .val (.ref a4), .val (.ref a6), .val (.ref a8), .val (.ref a10), .val (.ref b29), .val (.int (1 : Int32))] [(.int (0 : Int32)), (.ref b29)])) rfl (by rw [hml]; rfl) (Steps.refl _) (argsL := [(.int (0 : Int32))]) (rest := []) (lenOf pd_13 rfl) rfl (by show 2 * 0 + _ ≤ _; exact Nat.le_of_eq rfl) (hb hby at_177) (fun _ _ => ⟨rfl, (rfl : T31.heap = T31.heap), (by decide : 14 + 0 ≤ _), (by decide : 43 + 0 ≤ _)⟩)
      dsimp only [Pt.U, Pt.locs, Pt.cells, Pt.slots] at X32 l32 y32 z32 st32 hQ32
      subst l32 y32 z32
      obtain ⟨rfl, N32q, e32⟩ := hQ32
      have N32 := Fr.app N31 N32q
      refine Go.st st32 ?_
      show Go p e below _ (T32.setTop (mkF m 180 #[.val (.int p1), .val (.int p2), .val (.int p3), .val (.int p4), .val (.int p5), .val (.int (own_n p1)), .val (.int (own_cap p1 p2)), .val (.ref b1), .val (.ref b2), .val (.ref b3), .val (.ref a4), .val (.ref a6), .val (.ref a8), .val (.ref a10), .val (.ref b29), .val (.int (1 : Int32))] [(.ref a4)]))
      have Zc32 : n0 ≤ T32.heap.size := by rw [e32]; exact Zc31
      have EM32 : Exa Z T32.heap b29 "com/example/olentangy/olentangy/engine/AttributeMap" := by rw [e32]; exact EM31
      have MI32 : Fld Z T32.heap b29 "com/example/olentangy/olentangy/engine/AttributeMap" "ids" "[Ljava/lang/String;" (.ref ai11) := by rw [e32]; exact MI31
      have MV32 : Fld Z T32.heap b29 "com/example/olentangy/olentangy/engine/AttributeMap" "values" "[Ljava/util/List;" (.ref aw11) := by rw [e32]; exact MV31
      have RI32 : RA Z T32.heap ai11 "java/lang/String" (own_cap p1 p2).toInt.toNat (upd (fun _ => .null) 0 (.ref b1)) := by rw [e32]; exact RI31
      have RW32 : RA Z T32.heap aw11 "java/util/List" (own_cap p1 p2).toInt.toNat (upd (fun _ => .null) 0 (.ref a4)) := by rw [e32]; exact RW31
      refine Go.on (fun t k => XS.aload X32.here hx rfl (hb hby at_180) rfl rfl k) ?_
      show Go p e below _ (T32.setTop (mkF m 182 #[.val (.int p1), .val (.int p2), .val (.int p3), .val (.int p4), .val (.int p5), .val (.int (own_n p1)), .val (.int (own_cap p1 p2)), .val (.ref b1), .val (.ref b2), .val (.ref b3), .val (.ref a4), .val (.ref a6), .val (.ref a8), .val (.ref a10), .val (.ref b29), .val (.int (1 : Int32))] [(.ref a4), (.ref a4)]))
      refine Go.on (fun t k => XS.acmpNo X32.here hx rfl (hb hby at_182) rfl (by simp [if_acmp.holds]) k) ?_
      show Go p e below _ (T32.setTop (mkF m 185 #[.val (.int p1), .val (.int p2), .val (.int p3), .val (.int p4), .val (.int p5), .val (.int (own_n p1)), .val (.int (own_cap p1 p2)), .val (.ref b1), .val (.ref b2), .val (.ref b3), .val (.ref a4), .val (.ref a6), .val (.ref a8), .val (.ref a10), .val (.ref b29), .val (.int (1 : Int32))] []))
      refine Go.on (fun t k => XS.iconst X32.here hx rfl (hb hby at_185) k) ?_
      show Go p e below _ (T32.setTop (mkF m 186 #[.val (.int p1), .val (.int p2), .val (.int p3), .val (.int p4), .val (.int p5), .val (.int (own_n p1)), .val (.int (own_cap p1 p2)), .val (.ref b1), .val (.ref b2), .val (.ref b3), .val (.ref a4), .val (.ref a6), .val (.ref a8), .val (.ref a10), .val (.ref b29), .val (.int (1 : Int32))] [(.int (1 : Int32))]))
      refine Go.on (fun t k => XS.goto X32.here hx rfl (pc0 := 186) (pc' := 190) rfl (hb hby at_186) (by decide) (by decide) k) ?_
      show Go p e below _ (T32.setTop (mkF m 190 #[.val (.int p1), .val (.int p2), .val (.int p3), .val (.int p4), .val (.int p5), .val (.int (own_n p1)), .val (.int (own_cap p1 p2)), .val (.ref b1), .val (.ref b2), .val (.ref b3), .val (.ref a4), .val (.ref a6), .val (.ref a8), .val (.ref a10), .val (.ref b29), .val (.int (1 : Int32))] [(.int (1 : Int32))]))
      refine Go.on (fun t k => XS.istore X32.here hx rfl (hb hby at_190) rfl (l' := #[.val (.int p1), .val (.int p2), .val (.int p3), .val (.int p4), .val (.int p5), .val (.int (own_n p1)), .val (.int (own_cap p1 p2)), .val (.ref b1), .val (.ref b2), .val (.ref b3), .val (.ref a4), .val (.ref a6), .val (.ref a8), .val (.ref a10), .val (.ref b29), .val (.int (1 : Int32))]) rfl k) ?_
      show Go p e below _ (T32.setTop (mkF m 192 #[.val (.int p1), .val (.int p2), .val (.int p3), .val (.int p4), .val (.int p5), .val (.int (own_n p1)), .val (.int (own_cap p1 p2)), .val (.ref b1), .val (.ref b2), .val (.ref b3), .val (.ref a4), .val (.ref a6), .val (.ref a8), .val (.ref a10), .val (.ref b29), .val (.int (1 : Int32))] []))
      refine Go.on (fun t k => XS.iload X32.here hx rfl (hb hby at_192) rfl k) ?_
      show Go p e below _ (T32.setTop (mkF m 194 #[.val (.int p1), .val (.int p2), .val (.int p3), .val (.int p4), .val (.int p5), .val (.int (own_n p1)), .val (.int (own_cap p1 p2)), .val (.ref b1), .val (.ref b2), .val (.ref b3), .val (.ref a4), .val (.ref a6), .val (.ref a8), .val (.ref a10), .val (.ref b29), .val (.int (1 : Int32))] [(.int (own_n p1))]))
      refine Go.on (fun t k => XS.iconst X32.here hx rfl (hb hby at_194) k) ?_
      show Go p e below _ (T32.setTop (mkF m 195 #[.val (.int p1), .val (.int p2), .val (.int p3), .val (.int p4), .val (.int p5), .val (.int (own_n p1)), .val (.int (own_cap p1 p2)), .val (.ref b1), .val (.ref b2), .val (.ref b3), .val (.ref a4), .val (.ref a6), .val (.ref a8), .val (.ref a10), .val (.ref b29), .val (.int (1 : Int32))] [(.int (1 : Int32)), (.int (own_n p1))]))
      refine Go.on (fun t k => XS.icmpYes X32.here hx rfl (pc0 := 195) (pc' := 232) rfl (hb hby at_195) rfl (flt hc102).2.2.2 (by decide) (by decide) k) ?_
      show Go p e below _ (T32.setTop (mkF m 232 #[.val (.int p1), .val (.int p2), .val (.int p3), .val (.int p4), .val (.int p5), .val (.int (own_n p1)), .val (.int (own_cap p1 p2)), .val (.ref b1), .val (.ref b2), .val (.ref b3), .val (.ref a4), .val (.ref a6), .val (.ref a8), .val (.ref a10), .val (.ref b29), .val (.int (1 : Int32))] []))
      refine Go.on (fun t k => XS.iload X32.here hx rfl (hb hby at_232) rfl k) ?_
      show Go p e below _ (T32.setTop (mkF m 234 #[.val (.int p1), .val (.int p2), .val (.int p3), .val (.int p4), .val (.int p5), .val (.int (own_n p1)), .val (.int (own_cap p1 p2)), .val (.ref b1), .val (.ref b2), .val (.ref b3), .val (.ref a4), .val (.ref a6), .val (.ref a8), .val (.ref a10), .val (.ref b29), .val (.int (1 : Int32))] [(.int (own_n p1))]))
      refine Go.on (fun t k => XS.iconst X32.here hx rfl (hb hby at_234) k) ?_
      show Go p e below _ (T32.setTop (mkF m 235 #[.val (.int p1), .val (.int p2), .val (.int p3), .val (.int p4), .val (.int p5), .val (.int (own_n p1)), .val (.int (own_cap p1 p2)), .val (.ref b1), .val (.ref b2), .val (.ref b3), .val (.ref a4), .val (.ref a6), .val (.ref a8), .val (.ref a10), .val (.ref b29), .val (.int (1 : Int32))] [(.int (2 : Int32)), (.int (own_n p1))]))
      refine Go.on (fun t k => XS.icmpYes X32.here hx rfl (pc0 := 235) (pc' := 272) rfl (hb hby at_235) rfl (flt (fun q => hc102 (Int32.lt_iff_toInt_lt.mpr (by have := Int32.lt_iff_toInt_lt.mp q; have z1 : (2 : Int32).toInt = 2 := (by decide); have z2 : (1 : Int32).toInt = 1 := (by decide); omega)))).2.2.2 (by decide) (by decide) k) ?_
      show Go p e below _ (T32.setTop (mkF m 272 #[.val (.int p1), .val (.int p2), .val (.int p3), .val (.int p4), .val (.int p5), .val (.int (own_n p1)), .val (.int (own_cap p1 p2)), .val (.ref b1), .val (.ref b2), .val (.ref b3), .val (.ref a4), .val (.ref a6), .val (.ref a8), .val (.ref a10), .val (.ref b29), .val (.int (1 : Int32))] []))
      refine Go.on (fun t k => XS.iload X32.here hx rfl (hb hby at_272) rfl k) ?_
      show Go p e below _ (T32.setTop (mkF m 274 #[.val (.int p1), .val (.int p2), .val (.int p3), .val (.int p4), .val (.int p5), .val (.int (own_n p1)), .val (.int (own_cap p1 p2)), .val (.ref b1), .val (.ref b2), .val (.ref b3), .val (.ref a4), .val (.ref a6), .val (.ref a8), .val (.ref a10), .val (.ref b29), .val (.int (1 : Int32))] [(.int (1 : Int32))]))
      exact Go.retN X32 hx hlk hret (by simp) (hb hby at_274) (by decide) (by decide) ⟨by rfl, N32⟩
  · refine Go.on (fun t k => XS.ifYes X11.here hx rfl (pc0 := 87) (pc' := 99) rfl (hb hby at_87) rfl ((if0 _ _).trans (flt hc87).2.2.2) (by decide) (by decide) k) ?_
    show Go p e below _ (T11.setTop (mkF m 99 #[.val (.int p1), .val (.int p2), .val (.int p3), .val (.int p4), .val (.int p5), .val (.int (own_n p1)), .val (.int (own_cap p1 p2)), .val (.ref b1), .val (.ref b2), .val (.ref b3), .val (.ref a4), .val (.ref a6), .val (.ref a8), .val (.ref a10), .unset, .unset] []))
    refine Go.on (fun t k => XS.iload X11.here hx rfl (hb hby at_99) rfl k) ?_
    show Go p e below _ (T11.setTop (mkF m 101 #[.val (.int p1), .val (.int p2), .val (.int p3), .val (.int p4), .val (.int p5), .val (.int (own_n p1)), .val (.int (own_cap p1 p2)), .val (.ref b1), .val (.ref b2), .val (.ref b3), .val (.ref a4), .val (.ref a6), .val (.ref a8), .val (.ref a10), .unset, .unset] [(.int (own_n p1))]))
    refine Go.on (fun t k => XS.iconst X11.here hx rfl (hb hby at_101) k) ?_
    show Go p e below _ (T11.setTop (mkF m 102 #[.val (.int p1), .val (.int p2), .val (.int p3), .val (.int p4), .val (.int p5), .val (.int (own_n p1)), .val (.int (own_cap p1 p2)), .val (.ref b1), .val (.ref b2), .val (.ref b3), .val (.ref a4), .val (.ref a6), .val (.ref a8), .val (.ref a10), .unset, .unset] [(.int (1 : Int32)), (.int (own_n p1))]))
    refine Go.on (fun t k => XS.icmpYes X11.here hx rfl (pc0 := 102) (pc' := 114) rfl (hb hby at_102) rfl (flt (fun q => hc87 (Int32.lt_iff_toInt_lt.mpr (by have := Int32.lt_iff_toInt_lt.mp q; have z1 : (1 : Int32).toInt = 1 := (by decide); have z2 : (0 : Int32).toInt = 0 := (by decide); omega)))).2.2.2 (by decide) (by decide) k) ?_
    show Go p e below _ (T11.setTop (mkF m 114 #[.val (.int p1), .val (.int p2), .val (.int p3), .val (.int p4), .val (.int p5), .val (.int (own_n p1)), .val (.int (own_cap p1 p2)), .val (.ref b1), .val (.ref b2), .val (.ref b3), .val (.ref a4), .val (.ref a6), .val (.ref a8), .val (.ref a10), .unset, .unset] []))
    refine Go.on (fun t k => XS.iload X11.here hx rfl (hb hby at_114) rfl k) ?_
    show Go p e below _ (T11.setTop (mkF m 116 #[.val (.int p1), .val (.int p2), .val (.int p3), .val (.int p4), .val (.int p5), .val (.int (own_n p1)), .val (.int (own_cap p1 p2)), .val (.ref b1), .val (.ref b2), .val (.ref b3), .val (.ref a4), .val (.ref a6), .val (.ref a8), .val (.ref a10), .unset, .unset] [(.int (own_n p1))]))
    refine Go.on (fun t k => XS.iconst X11.here hx rfl (hb hby at_116) k) ?_
    show Go p e below _ (T11.setTop (mkF m 117 #[.val (.int p1), .val (.int p2), .val (.int p3), .val (.int p4), .val (.int p5), .val (.int (own_n p1)), .val (.int (own_cap p1 p2)), .val (.ref b1), .val (.ref b2), .val (.ref b3), .val (.ref a4), .val (.ref a6), .val (.ref a8), .val (.ref a10), .unset, .unset] [(.int (2 : Int32)), (.int (own_n p1))]))
    refine Go.on (fun t k => XS.icmpYes X11.here hx rfl (pc0 := 117) (pc' := 129) rfl (hb hby at_117) rfl (flt (fun q => hc87 (Int32.lt_iff_toInt_lt.mpr (by have := Int32.lt_iff_toInt_lt.mp q; have z1 : (2 : Int32).toInt = 2 := (by decide); have z2 : (0 : Int32).toInt = 0 := (by decide); omega)))).2.2.2 (by decide) (by decide) k) ?_
    show Go p e below _ (T11.setTop (mkF m 129 #[.val (.int p1), .val (.int p2), .val (.int p3), .val (.int p4), .val (.int p5), .val (.int (own_n p1)), .val (.int (own_cap p1 p2)), .val (.ref b1), .val (.ref b2), .val (.ref b3), .val (.ref a4), .val (.ref a6), .val (.ref a8), .val (.ref a10), .unset, .unset] []))
    refine Go.on (fun t k => XS.aload X11.here hx rfl (hb hby at_129) rfl rfl k) ?_
    show Go p e below _ (T11.setTop (mkF m 131 #[.val (.int p1), .val (.int p2), .val (.int p3), .val (.int p4), .val (.int p5), .val (.int (own_n p1)), .val (.int (own_cap p1 p2)), .val (.ref b1), .val (.ref b2), .val (.ref b3), .val (.ref a4), .val (.ref a6), .val (.ref a8), .val (.ref a10), .unset, .unset] [(.ref a10)]))
    obtain ⟨cq33, kq33, q33a, q33b, q33c⟩ := isOf hZ (rfl : T11.heap = T11.heap) EB11
    obtain ⟨_, _, ⟨T33, L33, k33, n33⟩, -, X33, ⟨Lc33, hQ33, l33, y33, z33⟩, st33⟩ := X11.virtualBack hx (y := (⟨"com/example/olentangy/olentangy/engine/AttributeMap$Builder", "build", "()Lcom/example/olentangy/olentangy/engine/AttributeMap;"⟩ : MethodName)) (z := (⟨"com/example/olentangy/olentangy/engine/AttributeMap$Builder", "build", "()Lcom/example/olentangy/olentangy/engine/AttributeMap;"⟩ : MethodName)) hown (mvT hZ (hw _ (List.mem_of_getElem? (i := 65) rfl))) (mvT hZ (hw _ (List.mem_of_getElem? (i := 66) rfl))) (notFace_of_selects (args := #[]) (mvT hZ (hw _ (List.mem_of_getElem? (i := 68) rfl)))) (mvT hZ (hw _ (List.mem_of_getElem? (i := 68) rfl))) (mvT hZ (hw _ (List.mem_of_getElem? (i := 67) rfl))) (by decide) (backOf (W := 0) (rm10 l Z a0 hw [] a10 ai11 aw11 (0 : Int32) T11.heap n0 Zc11 FI11 FV11 FS11) hZ (hw _ (List.mem_of_getElem? (i := 69) rfl)) (hw _ (List.mem_of_getElem? (i := 52) rfl)) (by decide) (by decide)) q33a q33c (g := (mkF m 131 #[.val (.int p1), .val (.int p2), .val (.int p3), .val (.int p4), .val (.int p5), .val (.int (own_n p1)), .val (.int (own_cap p1 p2)), .val (.ref b1), .val (.ref b2), .val (.ref b3), .val (.ref a4), .val (.ref a6), .val (.ref a8), .val (.ref a10), .unset, .unset] [(.ref a10)])) rfl (by rw [hml]; rfl) (Steps.refl _) (argsL := []) (rest := []) (lenOf pd_10 rfl) rfl (by show 2 * 0 + _ ≤ _; exact Nat.le_of_eq rfl) (hb hby at_131) (fun _ _ => ⟨rfl, (rfl : T11.heap = T11.heap), (by decide : 12 + 2 ≤ _), (by decide : 35 + 8 ≤ _)⟩)
    dsimp only [Pt.U, Pt.locs, Pt.cells, Pt.slots] at X33 l33 y33 z33 st33 hQ33
    subst l33 y33 z33
    obtain ⟨b33, rfl, N33q, K33, EM33, MI33, MV33, MS33⟩ := hQ33
    have N33 := Fr.app N11 N33q
    refine Go.st st33 ?_
    show Go p e below _ (T33.setTop (mkF m 134 #[.val (.int p1), .val (.int p2), .val (.int p3), .val (.int p4), .val (.int p5), .val (.int (own_n p1)), .val (.int (own_cap p1 p2)), .val (.ref b1), .val (.ref b2), .val (.ref b3), .val (.ref a4), .val (.ref a6), .val (.ref a8), .val (.ref a10), .unset, .unset] [(.ref b33)]))
    have Zc33 : n0 ≤ T33.heap.size := Nat.le_trans Zc11 K33.1
    have RI33 := RI11.keep K33 (by simp)
    have RW33 := RW11.keep K33 (by simp)
    refine Go.on (fun t k => XS.astore X33.here hx rfl (hb hby at_134) rfl rfl (l' := #[.val (.int p1), .val (.int p2), .val (.int p3), .val (.int p4), .val (.int p5), .val (.int (own_n p1)), .val (.int (own_cap p1 p2)), .val (.ref b1), .val (.ref b2), .val (.ref b3), .val (.ref a4), .val (.ref a6), .val (.ref a8), .val (.ref a10), .val (.ref b33), .unset]) rfl k) ?_
    show Go p e below _ (T33.setTop (mkF m 136 #[.val (.int p1), .val (.int p2), .val (.int p3), .val (.int p4), .val (.int p5), .val (.int (own_n p1)), .val (.int (own_cap p1 p2)), .val (.ref b1), .val (.ref b2), .val (.ref b3), .val (.ref a4), .val (.ref a6), .val (.ref a8), .val (.ref a10), .val (.ref b33), .unset] []))
    refine Go.on (fun t k => XS.aload X33.here hx rfl (hb hby at_136) rfl rfl k) ?_
    show Go p e below _ (T33.setTop (mkF m 138 #[.val (.int p1), .val (.int p2), .val (.int p3), .val (.int p4), .val (.int p5), .val (.int (own_n p1)), .val (.int (own_cap p1 p2)), .val (.ref b1), .val (.ref b2), .val (.ref b3), .val (.ref a4), .val (.ref a6), .val (.ref a8), .val (.ref a10), .val (.ref b33), .unset] [(.ref b33)]))
    obtain ⟨cq34, kq34, q34a, q34b, q34c⟩ := isOf hZ (rfl : T33.heap = T33.heap) EM33
    obtain ⟨_, _, ⟨T34, L34, k34, n34⟩, -, X34, ⟨Lc34, hQ34, l34, y34, z34⟩, st34⟩ := X33.virtualBack hx (y := (⟨"com/example/olentangy/olentangy/engine/AttributeMap", "size", "()I"⟩ : MethodName)) (z := (⟨"com/example/olentangy/olentangy/engine/AttributeMap", "size", "()I"⟩ : MethodName)) hown (mvT hZ (hw _ (List.mem_of_getElem? (i := 107) rfl))) (mvT hZ (hw _ (List.mem_of_getElem? (i := 108) rfl))) (notFace_of_selects (args := #[]) (mvT hZ (hw _ (List.mem_of_getElem? (i := 110) rfl)))) (mvT hZ (hw _ (List.mem_of_getElem? (i := 110) rfl))) (mvT hZ (hw _ (List.mem_of_getElem? (i := 109) rfl))) (by decide) (backOf (W := 0) (rm15 l Z a0 hw [] b33 (0 : Int32) T33.heap n0 Zc33 MS33) hZ (hw _ (List.mem_of_getElem? (i := 111) rfl)) (hw _ (List.mem_of_getElem? (i := 72) rfl)) (by decide) (by decide)) q34a q34c (g := (mkF m 138 #[.val (.int p1), .val (.int p2), .val (.int p3), .val (.int p4), .val (.int p5), .val (.int (own_n p1)), .val (.int (own_cap p1 p2)), .val (.ref b1), .val (.ref b2), .val (.ref b3), .val (.ref a4), .val (.ref a6), .val (.ref a8), .val (.ref a10), .val (.ref b33), .unset] [(.ref b33)])) rfl (by rw [hml]; rfl) (Steps.refl _) (argsL := []) (rest := []) (lenOf pd_11 rfl) rfl (by show 2 * 0 + _ ≤ _; exact Nat.le_of_eq rfl) (hb hby at_138) (fun _ _ => ⟨rfl, (rfl : T33.heap = T33.heap), (by decide : 14 + 0 ≤ _), (by decide : 43 + 0 ≤ _)⟩)
    dsimp only [Pt.U, Pt.locs, Pt.cells, Pt.slots] at X34 l34 y34 z34 st34 hQ34
    subst l34 y34 z34
    obtain ⟨rfl, N34q, e34⟩ := hQ34
    have N34 := Fr.app N33 N34q
    refine Go.st st34 ?_
    show Go p e below _ (T34.setTop (mkF m 141 #[.val (.int p1), .val (.int p2), .val (.int p3), .val (.int p4), .val (.int p5), .val (.int (own_n p1)), .val (.int (own_cap p1 p2)), .val (.ref b1), .val (.ref b2), .val (.ref b3), .val (.ref a4), .val (.ref a6), .val (.ref a8), .val (.ref a10), .val (.ref b33), .unset] [(.int (0 : Int32))]))
    have Zc34 : n0 ≤ T34.heap.size := by rw [e34]; exact Zc33
    have EM34 : Exa Z T34.heap b33 "com/example/olentangy/olentangy/engine/AttributeMap" := by rw [e34]; exact EM33
    have MI34 : Fld Z T34.heap b33 "com/example/olentangy/olentangy/engine/AttributeMap" "ids" "[Ljava/lang/String;" (.ref ai11) := by rw [e34]; exact MI33
    have MV34 : Fld Z T34.heap b33 "com/example/olentangy/olentangy/engine/AttributeMap" "values" "[Ljava/util/List;" (.ref aw11) := by rw [e34]; exact MV33
    have RI34 : RA Z T34.heap ai11 "java/lang/String" (own_cap p1 p2).toInt.toNat (fun _ => .null) := by rw [e34]; exact RI33
    have RW34 : RA Z T34.heap aw11 "java/util/List" (own_cap p1 p2).toInt.toNat (fun _ => .null) := by rw [e34]; exact RW33
    refine Go.on (fun t k => XS.iload X34.here hx rfl (hb hby at_141) rfl k) ?_
    show Go p e below _ (T34.setTop (mkF m 143 #[.val (.int p1), .val (.int p2), .val (.int p3), .val (.int p4), .val (.int p5), .val (.int (own_n p1)), .val (.int (own_cap p1 p2)), .val (.ref b1), .val (.ref b2), .val (.ref b3), .val (.ref a4), .val (.ref a6), .val (.ref a8), .val (.ref a10), .val (.ref b33), .unset] [(.int (own_n p1)), (.int (0 : Int32))]))
    refine Go.on (fun t k => XS.icmpNo X34.here hx rfl (hb hby at_143) rfl (teq (by apply Int32.toInt_inj.mp; have e1 : (0 : Int32).toInt = 0 := (by decide); have y0 : ¬ (0 : Int32).toInt < (own_n p1).toInt := fun q => hc87 (Int32.lt_iff_toInt_lt.mpr q); have z0 : (0 : Int32).toInt = 0 := (by decide); have y1 : ¬ (1 : Int32).toInt < (own_n p1).toInt := fun q => (fun q => hc87 (Int32.lt_iff_toInt_lt.mpr (by have := Int32.lt_iff_toInt_lt.mp q; have z1 : (1 : Int32).toInt = 1 := (by decide); have z2 : (0 : Int32).toInt = 0 := (by decide); omega))) (Int32.lt_iff_toInt_lt.mpr q); have z1 : (1 : Int32).toInt = 1 := (by decide); have y2 : ¬ (2 : Int32).toInt < (own_n p1).toInt := fun q => (fun q => hc87 (Int32.lt_iff_toInt_lt.mpr (by have := Int32.lt_iff_toInt_lt.mp q; have z1 : (2 : Int32).toInt = 2 := (by decide); have z2 : (0 : Int32).toInt = 0 := (by decide); omega))) (Int32.lt_iff_toInt_lt.mpr q); have z2 : (2 : Int32).toInt = 2 := (by decide); omega : (0 : Int32) = (own_n p1))).2 k) ?_
    show Go p e below _ (T34.setTop (mkF m 146 #[.val (.int p1), .val (.int p2), .val (.int p3), .val (.int p4), .val (.int p5), .val (.int (own_n p1)), .val (.int (own_cap p1 p2)), .val (.ref b1), .val (.ref b2), .val (.ref b3), .val (.ref a4), .val (.ref a6), .val (.ref a8), .val (.ref a10), .val (.ref b33), .unset] []))
    refine Go.on (fun t k => XS.iconst X34.here hx rfl (hb hby at_146) k) ?_
    show Go p e below _ (T34.setTop (mkF m 147 #[.val (.int p1), .val (.int p2), .val (.int p3), .val (.int p4), .val (.int p5), .val (.int (own_n p1)), .val (.int (own_cap p1 p2)), .val (.ref b1), .val (.ref b2), .val (.ref b3), .val (.ref a4), .val (.ref a6), .val (.ref a8), .val (.ref a10), .val (.ref b33), .unset] [(.int (1 : Int32))]))
    refine Go.on (fun t k => XS.goto X34.here hx rfl (pc0 := 147) (pc' := 151) rfl (hb hby at_147) (by decide) (by decide) k) ?_
    show Go p e below _ (T34.setTop (mkF m 151 #[.val (.int p1), .val (.int p2), .val (.int p3), .val (.int p4), .val (.int p5), .val (.int (own_n p1)), .val (.int (own_cap p1 p2)), .val (.ref b1), .val (.ref b2), .val (.ref b3), .val (.ref a4), .val (.ref a6), .val (.ref a8), .val (.ref a10), .val (.ref b33), .unset] [(.int (1 : Int32))]))
    refine Go.on (fun t k => XS.istore X34.here hx rfl (hb hby at_151) rfl (l' := #[.val (.int p1), .val (.int p2), .val (.int p3), .val (.int p4), .val (.int p5), .val (.int (own_n p1)), .val (.int (own_cap p1 p2)), .val (.ref b1), .val (.ref b2), .val (.ref b3), .val (.ref a4), .val (.ref a6), .val (.ref a8), .val (.ref a10), .val (.ref b33), .val (.int (1 : Int32))]) rfl k) ?_
    show Go p e below _ (T34.setTop (mkF m 153 #[.val (.int p1), .val (.int p2), .val (.int p3), .val (.int p4), .val (.int p5), .val (.int (own_n p1)), .val (.int (own_cap p1 p2)), .val (.ref b1), .val (.ref b2), .val (.ref b3), .val (.ref a4), .val (.ref a6), .val (.ref a8), .val (.ref a10), .val (.ref b33), .val (.int (1 : Int32))] []))
    refine Go.on (fun t k => XS.iload X34.here hx rfl (hb hby at_153) rfl k) ?_
    show Go p e below _ (T34.setTop (mkF m 155 #[.val (.int p1), .val (.int p2), .val (.int p3), .val (.int p4), .val (.int p5), .val (.int (own_n p1)), .val (.int (own_cap p1 p2)), .val (.ref b1), .val (.ref b2), .val (.ref b3), .val (.ref a4), .val (.ref a6), .val (.ref a8), .val (.ref a10), .val (.ref b33), .val (.int (1 : Int32))] [(.int (own_n p1))]))
    refine Go.on (fun t k => XS.ifYes X34.here hx rfl (pc0 := 155) (pc' := 192) rfl (hb hby at_155) rfl ((if0 _ _).trans (flt hc87).2.2.2) (by decide) (by decide) k) ?_
    show Go p e below _ (T34.setTop (mkF m 192 #[.val (.int p1), .val (.int p2), .val (.int p3), .val (.int p4), .val (.int p5), .val (.int (own_n p1)), .val (.int (own_cap p1 p2)), .val (.ref b1), .val (.ref b2), .val (.ref b3), .val (.ref a4), .val (.ref a6), .val (.ref a8), .val (.ref a10), .val (.ref b33), .val (.int (1 : Int32))] []))
    refine Go.on (fun t k => XS.iload X34.here hx rfl (hb hby at_192) rfl k) ?_
    show Go p e below _ (T34.setTop (mkF m 194 #[.val (.int p1), .val (.int p2), .val (.int p3), .val (.int p4), .val (.int p5), .val (.int (own_n p1)), .val (.int (own_cap p1 p2)), .val (.ref b1), .val (.ref b2), .val (.ref b3), .val (.ref a4), .val (.ref a6), .val (.ref a8), .val (.ref a10), .val (.ref b33), .val (.int (1 : Int32))] [(.int (own_n p1))]))
    refine Go.on (fun t k => XS.iconst X34.here hx rfl (hb hby at_194) k) ?_
    show Go p e below _ (T34.setTop (mkF m 195 #[.val (.int p1), .val (.int p2), .val (.int p3), .val (.int p4), .val (.int p5), .val (.int (own_n p1)), .val (.int (own_cap p1 p2)), .val (.ref b1), .val (.ref b2), .val (.ref b3), .val (.ref a4), .val (.ref a6), .val (.ref a8), .val (.ref a10), .val (.ref b33), .val (.int (1 : Int32))] [(.int (1 : Int32)), (.int (own_n p1))]))
    refine Go.on (fun t k => XS.icmpYes X34.here hx rfl (pc0 := 195) (pc' := 232) rfl (hb hby at_195) rfl (flt (fun q => hc87 (Int32.lt_iff_toInt_lt.mpr (by have := Int32.lt_iff_toInt_lt.mp q; have z1 : (1 : Int32).toInt = 1 := (by decide); have z2 : (0 : Int32).toInt = 0 := (by decide); omega)))).2.2.2 (by decide) (by decide) k) ?_
    show Go p e below _ (T34.setTop (mkF m 232 #[.val (.int p1), .val (.int p2), .val (.int p3), .val (.int p4), .val (.int p5), .val (.int (own_n p1)), .val (.int (own_cap p1 p2)), .val (.ref b1), .val (.ref b2), .val (.ref b3), .val (.ref a4), .val (.ref a6), .val (.ref a8), .val (.ref a10), .val (.ref b33), .val (.int (1 : Int32))] []))
    refine Go.on (fun t k => XS.iload X34.here hx rfl (hb hby at_232) rfl k) ?_
    show Go p e below _ (T34.setTop (mkF m 234 #[.val (.int p1), .val (.int p2), .val (.int p3), .val (.int p4), .val (.int p5), .val (.int (own_n p1)), .val (.int (own_cap p1 p2)), .val (.ref b1), .val (.ref b2), .val (.ref b3), .val (.ref a4), .val (.ref a6), .val (.ref a8), .val (.ref a10), .val (.ref b33), .val (.int (1 : Int32))] [(.int (own_n p1))]))
    refine Go.on (fun t k => XS.iconst X34.here hx rfl (hb hby at_234) k) ?_
    show Go p e below _ (T34.setTop (mkF m 235 #[.val (.int p1), .val (.int p2), .val (.int p3), .val (.int p4), .val (.int p5), .val (.int (own_n p1)), .val (.int (own_cap p1 p2)), .val (.ref b1), .val (.ref b2), .val (.ref b3), .val (.ref a4), .val (.ref a6), .val (.ref a8), .val (.ref a10), .val (.ref b33), .val (.int (1 : Int32))] [(.int (2 : Int32)), (.int (own_n p1))]))
    refine Go.on (fun t k => XS.icmpYes X34.here hx rfl (pc0 := 235) (pc' := 272) rfl (hb hby at_235) rfl (flt (fun q => hc87 (Int32.lt_iff_toInt_lt.mpr (by have := Int32.lt_iff_toInt_lt.mp q; have z1 : (2 : Int32).toInt = 2 := (by decide); have z2 : (0 : Int32).toInt = 0 := (by decide); omega)))).2.2.2 (by decide) (by decide) k) ?_
    show Go p e below _ (T34.setTop (mkF m 272 #[.val (.int p1), .val (.int p2), .val (.int p3), .val (.int p4), .val (.int p5), .val (.int (own_n p1)), .val (.int (own_cap p1 p2)), .val (.ref b1), .val (.ref b2), .val (.ref b3), .val (.ref a4), .val (.ref a6), .val (.ref a8), .val (.ref a10), .val (.ref b33), .val (.int (1 : Int32))] []))
    refine Go.on (fun t k => XS.iload X34.here hx rfl (hb hby at_272) rfl k) ?_
    show Go p e below _ (T34.setTop (mkF m 274 #[.val (.int p1), .val (.int p2), .val (.int p3), .val (.int p4), .val (.int p5), .val (.int (own_n p1)), .val (.int (own_cap p1 p2)), .val (.ref b1), .val (.ref b2), .val (.ref b3), .val (.ref a4), .val (.ref a6), .val (.ref a8), .val (.ref a10), .val (.ref b33), .val (.int (1 : Int32))] [(.int (1 : Int32))]))
    exact Go.retN X34 hx hlk hret (by simp) (hb hby at_274) (by decide) (by decide) ⟨by rfl, N34⟩
set_option maxRecDepth 65536 in
set_option maxHeartbeats 40000000 in
theorem comes_1 {Post : Tables → Env → Array Value → State → Outcome → State → Prop} (hpost : ∀ tb e args s v u, (limb_1_1.after args s (.returned v) u = true ∧ limb_1_2.after args s (.returned v) u = true ∧ True) → FrameEnd s (.returned v) u (Jvm.fieldLocs frame_1_writes args s ++ Jvm.arrayLocs frame_1_arrays args s ++ Jvm.staticLocs frame_1_statics s) 40 192 → Post tb e args s (.returned v) u) :
    ArmFor flags0 classFile x code maxLocals ret World_1 tables_1 room_1 Calls_1 rest_1 Pre_1 Post := by
  intro l hfl _ _ p e ha hc hk s m args below hf hA hF happ hP
  obtain ⟨hcalls, hrest, hpre⟩ := hP
  obtain ⟨-, -, -, hnamed, -, -, -, hat⟩ := (Spec.applies_iff hf).mp happ
  obtain ⟨hg, hn⟩ := and_e (Cond.before_iff.mp (show (Jvm.Cond.and given_1 narrow_1).before args s = true from hpre))
  obtain ⟨g0, gA0⟩ := and_e hg
  obtain ⟨w0, w1, w2, w3, w4, rfl⟩ : ∃ w0 w1 w2 w3 w4 : Value, args = #[w0, w1, w2, w3, w4] := by
    have hs : args.size = 5 := by simpa [Cond.value, given_1] using g0
    obtain ⟨L⟩ := args
    match L, hs with
    | [w0, w1, w2, w3, w4], _ => exact ⟨w0, w1, w2, w3, w4, rfl⟩
  have hw := fun d (hd : d ∈ tables_1) => atoms_spec (ws := Jvm.Cond.code x code maxLocals ret :: tables_1) hat d (List.mem_cons_of_mem _ hd)
  obtain ⟨hsets, hown0⟩ := atoms_of _ (rest_1_c_eq ▸ (show rest_1_c.before _ s = true from hrest))
  have hn5 := not_v (Cond.before_iff.mp (hsets _ (List.mem_of_getElem? (i := 2) rfl)))
  obtain ⟨iu, eu⟩ := is_v (Cond.before_iff.mp (hsets _ (List.mem_of_getElem? (i := 1) rfl)))
  have SC : Sta s s.heap "java/lang/String" "COMPACT_STRINGS" "Z" (.int iu) := Sta.start eu (Or.inl (hsets _ (List.mem_of_getElem? (i := 0) rfl)))
  have hu : ¬ iu = (0 : Int32) := by
    have q := (Cond.eq_ints eu (Term.int_eval (0))).symm.trans hn5
    exact of_decide_eq_false (Option.some.inj q)
  obtain ⟨xd, ed⟩ := arr_v (Cond.before_iff.mp (hsets _ (List.mem_of_getElem? (i := 15) rfl)))
  have SD : Sta s s.heap "java/util/ArrayList" "DEFAULTCAPACITY_EMPTY_ELEMENTDATA" "[Ljava/lang/Object;" (.ref xd) := Sta.start ed (Or.inr ⟨hw _ (List.mem_of_getElem? (i := 28) rfl), hsets _ (List.mem_of_getElem? (i := 11) rfl)⟩)
  obtain ⟨g1, gA1⟩ := and_e gA0
  obtain ⟨i0, ei0⟩ := is_v g1
  obtain rfl : w0 = (.int i0) := Option.some.inj ei0
  obtain ⟨g2, gA2⟩ := and_e gA1
  obtain ⟨i1, ei1⟩ := is_v g2
  obtain rfl : w1 = (.int i1) := Option.some.inj ei1
  obtain ⟨g3, gA3⟩ := and_e gA2
  obtain ⟨i2, ei2⟩ := is_v g3
  obtain rfl : w2 = (.int i2) := Option.some.inj ei2
  obtain ⟨g4, gA4⟩ := and_e gA3
  obtain ⟨i3, ei3⟩ := is_v g4
  obtain rfl : w3 = (.int i3) := Option.some.inj ei3
  obtain ⟨i4, ei4⟩ := is_v gA4
  obtain rfl : w4 = (.int i4) := Option.some.inj ei4
  obtain ⟨n, o, h1, h2, h3, _, L, rfl, ⟨rfl, N⟩, hq⟩ := rm0 l s _ hw tables_1 i0 i1 i2 i3 i4 iu xd s.heap s.heap.size (Nat.le_refl _) hu SC SD p e ha hc hk s m _ below hf ((Spec.applies_iff_loose hf).mp happ).1 ⟨rfl, State.Warmed39.refl s, rfl⟩ trivial
  refine ⟨n, _, h1, h2, h3, hpost _ _ _ _ _ _ ⟨Cond.after_iff.mpr rfl, Cond.after_iff.mpr (eq_i res_at (Term.int_eval (1)) rfl), trivial⟩ ⟨hq.1, hq.2.1, (hq.2.2.sift fun y hy => Or.inr (N y hy)).mono (by decide) (by decide)⟩⟩
theorem main_1_1 : Claimed_1_1 := comes_1 fun _ _ _ _ _ _ h hF => ⟨h.1, hF⟩
theorem main_1_2 : Claimed_1_2 := comes_1 fun _ _ _ _ _ _ h hF => ⟨h.2.1, hF⟩
end Jvm.Pilot.@@N@@
namespace Jvm.Pilot.@@N@@
open Jvm Jvm.ClassFile Sem Op Lib Jvm.Free Jvm.Stand Jvm.Pilot.@@N@@.Jvm.D
/-! MADE BY PROGRAM (witnessworld.py) out of the Statement's table words and the real class files: 34 classes; the members and pool entries that the words name. The judged class is class 1, her method 1. -/
namespace start1
open Jvm.ClassFile
def u (s : String) : CpInfo := .utf8 (stringToUtf16 s)
/-- a pool by its gaps: so many unusable entries, then the entry; so many at the end -/
def gap : Nat → List CpInfo → List CpInfo
  | 0, r => r
  | n + 1, r => .unusable :: gap n r
def poolList (es : List (Nat × CpInfo)) (last : Nat) : List CpInfo := es.foldr (fun e r => gap e.1 (e.2 :: r)) (gap last [])
def pool (es : List (Nat × CpInfo)) (last : Nat) : Array CpInfo := ⟨poolList es last⟩
def fileOf (pool : Array CpInfo) (this : Nat) (attrs : Array Attribute := #[]) (ms : Array MethodInfo := #[]) (fl : Nat := 33) (sup : Nat := 0) (ifs : Array Nat := #[]) (fds : Array FieldInfo := #[]) : ClassFile where
  minorVersion := 0
  majorVersion := 65
  constantPool := pool
  accessFlags := fl
  thisClass := this
  superClass := sup
  interfaces := ifs
  fields := fds
  methods := ms
  attributes := attrs
def plain (name : String) (sup : Option ClassId) : Class where
  name := name
  kind := .ordinary
  loader := none
  accessFlags := 33
  super := sup
  interfaces := #[]
  cf := none
  fields := #[]
  methods := #[]
  instanceTypes := #[]
  staticTypes := #[]
  resolved := #[]
  callSites := []
  init := .initialized
  statics := none
  mirror := none

def pool0 : Array CpInfo := pool [(5, u "<init>"), (0, u "()V"), (1, .class_ 10), (1, u "java/lang/Object")] 113

def k0c0 : Code := { maxStack := 0, maxLocals := 1, code := object_method_1_code, exceptionTable := #[], attributes := #[] }
def k0m0 : Method := { name := "<init>", desc := "()V", sig := { parameters := [], returnType := none }, accessFlags := 1, code := some k0c0 }
/-- java/lang/Object -/
def k0 : Class := { plain "java/lang/Object" none with
  accessFlags := 33
  interfaces := #[]
  cf := some (fileOf pool0 8 #[] #[{ accessFlags := 1, nameIndex := 5, descriptorIndex := 6, attributes := #[] }] 33 0 #[] #[])
  fields := #[]
  methods := #[k0m0]
  instanceTypes := #[]
  staticTypes := #[]
  resolved := Array.replicate 124 none
  statics := none }

def pool1 : Array CpInfo := pool [(2, .class_ 4), (0, .nameAndType 5 6), (0, u "java/lang/Object"), (0, u "<init>"), (0, u "()V"), (0, .methodref 8 9), (0, .class_ 10), (0, .nameAndType 11 12), (0, u "java/lang/String"), (0, u "valueOf"), (0, u "(C)Ljava/lang/String;"), (0, .class_ 14), (0, u "java/util/ArrayList"), (0, .methodref 13 3), (0, .class_ 17), (0, u "com/example/olentangy/olentangy/engine/AttributeMap$Builder"), (0, .methodref 16 19), (0, .nameAndType 5 20), (0, u "(I)V"), (0, .methodref 16 22), (0, .nameAndType 23 24), (0, u "add"), (0, u "(Ljava/lang/String;Ljava/util/List;)V"), (0, .methodref 16 26), (0, .nameAndType 27 28), (0, u "build"), (0, u "()Lcom/example/olentangy/olentangy/engine/AttributeMap;"), (0, .methodref 30 31), (0, .class_ 32), (0, .nameAndType 33 34), (0, u "com/example/olentangy/olentangy/engine/AttributeMap"), (0, u "size"), (0, u "()I"), (0, .methodref 30 36), (0, .nameAndType 37 38), (0, u "id"), (0, u "(I)Ljava/lang/String;"), (0, .methodref 30 40), (0, .nameAndType 41 42), (0, u "values"), (0, u "(I)Ljava/util/List;"), (0, .class_ 44), (0, u "com/example/olentangy/olentangy/engine/BuilderAddPinLaw"), (2, u "law"), (0, u "(IIIII)Z")] 7

def k1m0 : Method := { name := "<init>", desc := "()V", sig := { parameters := [], returnType := none }, accessFlags := 1, code := none }
def k1c1 : Code := { maxStack := 3, maxLocals := 16, code := code, exceptionTable := #[], attributes := #[] }
def k1m1 : Method := { name := "law", desc := "(IIIII)Z", sig := { parameters := [.int, .int, .int, .int, .int], returnType := some .boolean }, accessFlags := 9, code := some k1c1 }
/-- com/example/olentangy/olentangy/engine/BuilderAddPinLaw -/
def k1 : Class := { plain "com/example/olentangy/olentangy/engine/BuilderAddPinLaw" (some 0) with
  accessFlags := 49
  interfaces := #[]
  cf := some (fileOf pool1 43 #[] #[{ accessFlags := 1, nameIndex := 5, descriptorIndex := 6, attributes := #[] }, { accessFlags := 9, nameIndex := 47, descriptorIndex := 48, attributes := #[] }] 49 2 #[] #[])
  fields := #[]
  methods := #[k1m0, k1m1]
  instanceTypes := #[]
  staticTypes := #[]
  resolved := Array.replicate 56 none
  statics := none }

def pool2 : Array CpInfo := pool [(1, .class_ 2), (0, u "java/io/Serializable"), (0, .class_ 4), (0, u "java/lang/Object")] 2

/-- java/io/Serializable -/
def k2 : Class := { plain "java/io/Serializable" (some 0) with
  accessFlags := 1537
  interfaces := #[]
  cf := some (fileOf pool2 1 #[] #[] 1537 3 #[] #[])
  fields := #[]
  methods := #[]
  instanceTypes := #[]
  staticTypes := #[]
  resolved := Array.replicate 7 none
  statics := none }

def pool3 : Array CpInfo := pool [(1, .class_ 2), (0, u "java/lang/Comparable"), (0, .class_ 4), (0, u "java/lang/Object")] 7

/-- java/lang/Comparable -/
def k3 : Class := { plain "java/lang/Comparable" (some 0) with
  accessFlags := 1537
  interfaces := #[]
  cf := some (fileOf pool3 1 #[] #[] 1537 3 #[] #[])
  fields := #[]
  methods := #[]
  instanceTypes := #[]
  staticTypes := #[]
  resolved := Array.replicate 12 none
  statics := none }

def pool4 : Array CpInfo := pool [(2, .class_ 4), (1, u "java/lang/CharSequence"), (42, .class_ 48), (0, u "java/lang/CharSequence$1CodePointIterator"), (10, .class_ 60), (0, u "java/lang/CharSequence$1CharIterator"), (5, .class_ 67), (0, u "java/lang/Object")] 63

/-- java/lang/CharSequence -/
def k4 : Class := { plain "java/lang/CharSequence" (some 0) with
  accessFlags := 1537
  interfaces := #[]
  cf := some (fileOf pool4 2 #[.nestMembers #[47, 59]] #[] 1537 66 #[] #[])
  fields := #[]
  methods := #[]
  instanceTypes := #[]
  staticTypes := #[]
  resolved := Array.replicate 131 none
  statics := none }

def pool5 : Array CpInfo := pool [(1, .class_ 2), (0, u "java/lang/constant/Constable"), (0, .class_ 4), (0, u "java/lang/Object")] 6

/-- java/lang/constant/Constable -/
def k5 : Class := { plain "java/lang/constant/Constable" (some 0) with
  accessFlags := 1537
  interfaces := #[]
  cf := some (fileOf pool5 1 #[] #[] 1537 3 #[] #[])
  fields := #[]
  methods := #[]
  instanceTypes := #[]
  staticTypes := #[]
  resolved := Array.replicate 11 none
  statics := none }

def pool6 : Array CpInfo := pool [(1, .class_ 2), (0, u "java/lang/constant/ConstantDesc"), (0, .class_ 4), (0, u "java/lang/Object")] 32

/-- java/lang/constant/ConstantDesc -/
def k6 : Class := { plain "java/lang/constant/ConstantDesc" (some 0) with
  accessFlags := 1537
  interfaces := #[]
  cf := some (fileOf pool6 1 #[] #[] 1537 3 #[] #[])
  fields := #[]
  methods := #[]
  instanceTypes := #[]
  staticTypes := #[]
  resolved := Array.replicate 37 none
  statics := none }

def pool7 : Array CpInfo := pool [(1, .methodref 2 3), (0, .class_ 4), (0, .nameAndType 5 6), (0, u "java/lang/Object"), (0, u "<init>"), (0, u "()V"), (2, .fieldref 10 11), (0, .class_ 12), (0, .nameAndType 13 14), (0, u "java/lang/String"), (0, u "value"), (0, u "[B"), (0, .fieldref 10 16), (0, .nameAndType 17 18), (0, u "coder"), (0, u "B"), (2, u "hash"), (0, u "I"), (2, u "hashIsZero"), (0, u "Z"), (11, .fieldref 10 39), (0, .nameAndType 40 26), (0, u "COMPACT_STRINGS"), (12, u "toBytes"), (53, .class_ 109), (1, u "java/lang/StringLatin1"), (99, .methodref 10 210), (0, .nameAndType 5 211), (0, u "([BB)V"), (157, u "(C)Z"), (205, .class_ 576), (0, u "java/lang/CharSequence"), (22, u "CASE_INSENSITIVE_ORDER"), (0, u "Ljava/util/Comparator;"), (181, u "valueOf"), (0, u "(C)Ljava/lang/String;"), (231, .methodref 107 1016), (0, .nameAndType 1017 369), (0, u "canEncode"), (0, .methodref 107 1019), (0, .nameAndType 53 1020), (0, u "(C)[B"), (80, u "serialPersistentFields"), (0, u "[Ljava/io/ObjectStreamField;"), (0, .class_ 1104), (0, u "java/lang/String$CaseInsensitiveComparator"), (1, .class_ 1107), (0, u "java/io/Serializable"), (0, .class_ 1109), (0, u "java/lang/Comparable"), (0, .class_ 1111), (0, u "java/lang/constant/Constable"), (0, .class_ 1113), (0, u "java/lang/constant/ConstantDesc"), (2, u "serialVersionUID"), (0, u "J"), (3, u "REPL"), (0, u "C"), (2, u "LATIN1"), (1, u "UTF16")] 323

def k7m0 : Method := { name := "<init>", desc := "()V", sig := { parameters := [], returnType := none }, accessFlags := 1, code := none }
def k7c1 : Code := { maxStack := 4, maxLocals := 1, code := jdk_42_method_139_code, exceptionTable := #[], attributes := #[] }
def k7m1 : Method := { name := "valueOf", desc := "(C)Ljava/lang/String;", sig := { parameters := [.char], returnType := some (.object "java/lang/String") }, accessFlags := 9, code := some k7c1 }
def k7c2 : Code := { maxStack := 2, maxLocals := 3, code := jdk_42_method_151_code, exceptionTable := #[], attributes := #[] }
def k7m2 : Method := { name := "<init>", desc := "([BB)V", sig := { parameters := [(.array .byte), .byte], returnType := none }, accessFlags := 0, code := some k7c2 }
/-- java/lang/String -/
def k7 : Class := { plain "java/lang/String" (some 0) with
  accessFlags := 49
  interfaces := #[2, 3, 4, 5, 6]
  cf := some (fileOf pool7 10 #[.nestMembers #[1103]] #[{ accessFlags := 1, nameIndex := 5, descriptorIndex := 6, attributes := #[] }, { accessFlags := 9, nameIndex := 782, descriptorIndex := 783, attributes := #[] }, { accessFlags := 0, nameIndex := 5, descriptorIndex := 211, attributes := #[] }] 49 2 #[1106, 1108, 575, 1110, 1112] #[{ accessFlags := 18, nameIndex := 13, descriptorIndex := 14, attributes := #[] }, { accessFlags := 18, nameIndex := 17, descriptorIndex := 18, attributes := #[] }, { accessFlags := 2, nameIndex := 21, descriptorIndex := 22, attributes := #[] }, { accessFlags := 2, nameIndex := 25, descriptorIndex := 26, attributes := #[] }, { accessFlags := 26, nameIndex := 1116, descriptorIndex := 1117, attributes := #[] }, { accessFlags := 24, nameIndex := 40, descriptorIndex := 26, attributes := #[] }, { accessFlags := 26, nameIndex := 1101, descriptorIndex := 1102, attributes := #[] }, { accessFlags := 26, nameIndex := 1121, descriptorIndex := 1122, attributes := #[] }, { accessFlags := 25, nameIndex := 599, descriptorIndex := 600, attributes := #[] }, { accessFlags := 24, nameIndex := 1125, descriptorIndex := 18, attributes := #[] }, { accessFlags := 24, nameIndex := 1127, descriptorIndex := 18, attributes := #[] }])
  fields := #[{ name := "value", type := (.array .byte), accessFlags := 18, slot := 0, constantValue := 0 }, { name := "coder", type := .byte, accessFlags := 18, slot := 1, constantValue := 0 }, { name := "hash", type := .int, accessFlags := 2, slot := 2, constantValue := 0 }, { name := "hashIsZero", type := .boolean, accessFlags := 2, slot := 3, constantValue := 0 }, { name := "serialVersionUID", type := .long, accessFlags := 26, slot := 0, constantValue := 0 }, { name := "COMPACT_STRINGS", type := .boolean, accessFlags := 24, slot := 1, constantValue := 0 }, { name := "serialPersistentFields", type := (.array (.object "java/io/ObjectStreamField")), accessFlags := 26, slot := 2, constantValue := 0 }, { name := "REPL", type := .char, accessFlags := 26, slot := 3, constantValue := 0 }, { name := "CASE_INSENSITIVE_ORDER", type := (.object "java/util/Comparator"), accessFlags := 25, slot := 4, constantValue := 0 }, { name := "LATIN1", type := .byte, accessFlags := 24, slot := 5, constantValue := 0 }, { name := "UTF16", type := .byte, accessFlags := 24, slot := 6, constantValue := 0 }]
  methods := #[k7m0, k7m1, k7m2]
  instanceTypes := #[(.array .byte), .byte, .int, .boolean]
  staticTypes := #[.long, .boolean, (.array (.object "java/io/ObjectStreamField")), .char, (.object "java/util/Comparator"), .byte, .byte]
  resolved := Array.replicate 1451 none
  statics := some 0 }

def pool8 : Array CpInfo := pool [(4, .class_ 6), (1, u "java/lang/Object"), (0, u "<init>"), (0, u "()V"), (5, .class_ 16), (1, u "java/lang/StringLatin1"), (73, u "canEncode"), (14, u "(C)Z"), (15, u "$assertionsDisabled"), (0, u "Z"), (98, .class_ 223), (1, u "java/lang/StringLatin1$LinesSpliterator"), (156, u "toBytes"), (1, u "(C)[B"), (7, .class_ 391), (0, u "java/lang/StringLatin1$CharsSpliterator")] 3

def k8m0 : Method := { name := "<init>", desc := "()V", sig := { parameters := [], returnType := none }, accessFlags := 0, code := none }
def k8c1 : Code := { maxStack := 2, maxLocals := 1, code := jdk_43_method_3_code, exceptionTable := #[], attributes := #[] }
def k8m1 : Method := { name := "canEncode", desc := "(C)Z", sig := { parameters := [.char], returnType := some .boolean }, accessFlags := 9, code := some k8c1 }
def k8c2 : Code := { maxStack := 4, maxLocals := 1, code := jdk_43_method_46_code, exceptionTable := #[], attributes := #[] }
def k8m2 : Method := { name := "toBytes", desc := "(C)[B", sig := { parameters := [.char], returnType := some (.array .byte) }, accessFlags := 9, code := some k8c2 }
/-- java/lang/StringLatin1 -/
def k8 : Class := { plain "java/lang/StringLatin1" (some 0) with
  accessFlags := 48
  interfaces := #[]
  cf := some (fileOf pool8 14 #[.nestMembers #[390, 221]] #[{ accessFlags := 0, nameIndex := 7, descriptorIndex := 8, attributes := #[] }, { accessFlags := 9, nameIndex := 90, descriptorIndex := 105, attributes := #[] }, { accessFlags := 9, nameIndex := 380, descriptorIndex := 382, attributes := #[] }] 48 4 #[] #[{ accessFlags := 4120, nameIndex := 121, descriptorIndex := 122, attributes := #[] }])
  fields := #[{ name := "$assertionsDisabled", type := .boolean, accessFlags := 4120, slot := 0, constantValue := 0 }]
  methods := #[k8m0, k8m1, k8m2]
  instanceTypes := #[]
  staticTypes := #[.boolean]
  resolved := Array.replicate 395 none
  statics := none }

def pool9 : Array CpInfo := pool [(8, .class_ 10), (1, u "java/lang/Iterable"), (24, .class_ 36), (0, u "java/lang/Object")] 25

/-- java/lang/Iterable -/
def k9 : Class := { plain "java/lang/Iterable" (some 0) with
  accessFlags := 1537
  interfaces := #[]
  cf := some (fileOf pool9 8 #[] #[] 1537 35 #[] #[])
  fields := #[]
  methods := #[]
  instanceTypes := #[]
  staticTypes := #[]
  resolved := Array.replicate 62 none
  statics := none }

def pool10 : Array CpInfo := pool [(10, .class_ 12), (1, u "java/util/Collection"), (47, .class_ 61), (0, u "java/lang/Object"), (0, .class_ 63), (0, u "java/lang/Iterable")] 51

/-- java/util/Collection -/
def k10 : Class := { plain "java/util/Collection" (some 0) with
  accessFlags := 1537
  interfaces := #[9]
  cf := some (fileOf pool10 10 #[] #[] 1537 60 #[62] #[])
  fields := #[]
  methods := #[]
  instanceTypes := #[]
  staticTypes := #[]
  resolved := Array.replicate 115 none
  statics := none }

def pool11 : Array CpInfo := pool [(1, .methodref 2 3), (0, .class_ 4), (0, .nameAndType 5 6), (0, u "java/lang/Object"), (0, u "<init>"), (0, u "()V"), (1, .class_ 10), (1, u "java/util/AbstractCollection"), (66, .class_ 78), (0, u "java/util/Collection")] 81

def k11c0 : Code := { maxStack := 1, maxLocals := 1, code := jdk_22_method_1_code, exceptionTable := #[], attributes := #[] }
def k11m0 : Method := { name := "<init>", desc := "()V", sig := { parameters := [], returnType := none }, accessFlags := 4, code := some k11c0 }
/-- java/util/AbstractCollection -/
def k11 : Class := { plain "java/util/AbstractCollection" (some 0) with
  accessFlags := 1057
  interfaces := #[10]
  cf := some (fileOf pool11 8 #[] #[{ accessFlags := 4, nameIndex := 5, descriptorIndex := 6, attributes := #[] }] 1057 2 #[77] #[])
  fields := #[]
  methods := #[k11m0]
  instanceTypes := #[]
  staticTypes := #[]
  resolved := Array.replicate 160 none
  statics := none }

def pool12 : Array CpInfo := pool [(8, .class_ 10), (1, u "java/util/SequencedCollection"), (15, .class_ 27), (0, u "java/lang/Object"), (0, .class_ 29), (0, u "java/util/Collection")] 27

/-- java/util/SequencedCollection -/
def k12 : Class := { plain "java/util/SequencedCollection" (some 0) with
  accessFlags := 1537
  interfaces := #[10]
  cf := some (fileOf pool12 8 #[] #[] 1537 26 #[28] #[])
  fields := #[]
  methods := #[]
  instanceTypes := #[]
  staticTypes := #[]
  resolved := Array.replicate 57 none
  statics := none }

def pool13 : Array CpInfo := pool [(8, .class_ 10), (1, u "java/util/List"), (92, .class_ 104), (0, u "java/lang/Object"), (15, .class_ 121), (0, u "java/util/SequencedCollection")] 129

/-- java/util/List -/
def k13 : Class := { plain "java/util/List" (some 0) with
  accessFlags := 1537
  interfaces := #[12]
  cf := some (fileOf pool13 8 #[] #[] 1537 103 #[120] #[])
  fields := #[]
  methods := #[]
  instanceTypes := #[]
  staticTypes := #[]
  resolved := Array.replicate 251 none
  statics := none }

def pool14 : Array CpInfo := pool [(1, .methodref 2 3), (0, .class_ 4), (0, .nameAndType 5 6), (0, u "java/util/AbstractCollection"), (0, u "<init>"), (0, u "()V"), (0, .fieldref 8 9), (0, .class_ 10), (0, .nameAndType 11 12), (0, u "java/util/AbstractList"), (0, u "modCount"), (0, u "I"), (64, .class_ 78), (0, u "java/util/AbstractList$Itr"), (3, .class_ 83), (0, u "java/util/AbstractList$ListItr"), (9, .class_ 94), (0, u "java/util/AbstractList$RandomAccessSubList"), (3, .class_ 99), (0, u "java/util/AbstractList$SubList"), (33, .class_ 134), (0, u "java/util/List"), (73, .class_ 209), (0, u "java/util/AbstractList$SubList$1"), (0, .class_ 211), (0, u "java/util/AbstractList$RandomAccessSpliterator")] 6

def k14c0 : Code := { maxStack := 2, maxLocals := 1, code := jdk_39_method_1_code, exceptionTable := #[], attributes := #[] }
def k14m0 : Method := { name := "<init>", desc := "()V", sig := { parameters := [], returnType := none }, accessFlags := 4, code := some k14c0 }
/-- java/util/AbstractList -/
def k14 : Class := { plain "java/util/AbstractList" (some 11) with
  accessFlags := 1057
  interfaces := #[13]
  cf := some (fileOf pool14 8 #[.nestMembers #[93, 98, 208, 210, 82, 77]] #[{ accessFlags := 4, nameIndex := 5, descriptorIndex := 6, attributes := #[] }] 1057 2 #[133] #[{ accessFlags := 132, nameIndex := 11, descriptorIndex := 12, attributes := #[] }])
  fields := #[{ name := "modCount", type := .int, accessFlags := 132, slot := 0, constantValue := 0 }]
  methods := #[k14m0]
  instanceTypes := #[.int]
  staticTypes := #[]
  resolved := Array.replicate 218 none
  statics := none }

def pool15 : Array CpInfo := pool [(1, .class_ 2), (0, u "java/util/RandomAccess"), (0, .class_ 4), (0, u "java/lang/Object")] 2

/-- java/util/RandomAccess -/
def k15 : Class := { plain "java/util/RandomAccess" (some 0) with
  accessFlags := 1537
  interfaces := #[]
  cf := some (fileOf pool15 1 #[] #[] 1537 3 #[] #[])
  fields := #[]
  methods := #[]
  instanceTypes := #[]
  staticTypes := #[]
  resolved := Array.replicate 7 none
  statics := none }

def pool16 : Array CpInfo := pool [(1, .class_ 2), (0, u "java/lang/Cloneable"), (0, .class_ 4), (0, u "java/lang/Object")] 2

/-- java/lang/Cloneable -/
def k16 : Class := { plain "java/lang/Cloneable" (some 0) with
  accessFlags := 1537
  interfaces := #[]
  cf := some (fileOf pool16 1 #[] #[] 1537 3 #[] #[])
  fields := #[]
  methods := #[]
  instanceTypes := #[]
  staticTypes := #[]
  resolved := Array.replicate 7 none
  statics := none }

def pool17 : Array CpInfo := pool [(1, .methodref 2 3), (0, .class_ 4), (0, .nameAndType 5 6), (0, u "java/util/AbstractList"), (0, u "<init>"), (0, u "()V"), (2, .fieldref 10 11), (0, .class_ 12), (0, .nameAndType 13 14), (0, u "java/util/ArrayList"), (0, u "elementData"), (0, u "[Ljava/lang/Object;"), (2, u "EMPTY_ELEMENTDATA"), (21, .fieldref 10 40), (0, .nameAndType 41 14), (0, u "DEFAULTCAPACITY_EMPTY_ELEMENTDATA"), (8, u "size"), (0, u "I"), (96, .class_ 149), (0, u "java/util/List"), (112, .class_ 263), (0, u "java/util/ArrayList$ListItr"), (3, .class_ 268), (0, u "java/util/ArrayList$Itr"), (7, .class_ 277), (0, u "java/util/ArrayList$SubList"), (12, .class_ 291), (0, u "java/util/ArrayList$ArrayListSpliterator"), (37, .class_ 330), (0, u "java/util/RandomAccess"), (0, .class_ 332), (0, u "java/lang/Cloneable"), (0, .class_ 334), (0, u "java/io/Serializable"), (0, u "serialVersionUID"), (0, u "J"), (3, u "DEFAULT_CAPACITY"), (159, .class_ 501), (0, u "java/util/ArrayList$SubList$2"), (0, .class_ 503), (0, u "java/util/ArrayList$SubList$1")] 5

def k17c0 : Code := { maxStack := 2, maxLocals := 1, code := jdk_38_method_2_code, exceptionTable := #[], attributes := #[] }
def k17m0 : Method := { name := "<init>", desc := "()V", sig := { parameters := [], returnType := none }, accessFlags := 1, code := some k17c0 }
/-- java/util/ArrayList -/
def k17 : Class := { plain "java/util/ArrayList" (some 14) with
  accessFlags := 33
  interfaces := #[13, 15, 16, 2]
  cf := some (fileOf pool17 10 #[.nestMembers #[290, 276, 500, 502, 262, 267]] #[{ accessFlags := 1, nameIndex := 5, descriptorIndex := 6, attributes := #[] }] 33 2 #[148, 329, 331, 333] #[{ accessFlags := 26, nameIndex := 335, descriptorIndex := 336, attributes := #[] }, { accessFlags := 26, nameIndex := 340, descriptorIndex := 51, attributes := #[] }, { accessFlags := 26, nameIndex := 17, descriptorIndex := 14, attributes := #[] }, { accessFlags := 26, nameIndex := 41, descriptorIndex := 14, attributes := #[] }, { accessFlags := 128, nameIndex := 13, descriptorIndex := 14, attributes := #[] }, { accessFlags := 2, nameIndex := 50, descriptorIndex := 51, attributes := #[] }])
  fields := #[{ name := "serialVersionUID", type := .long, accessFlags := 26, slot := 0, constantValue := 0 }, { name := "DEFAULT_CAPACITY", type := .int, accessFlags := 26, slot := 1, constantValue := 0 }, { name := "EMPTY_ELEMENTDATA", type := (.array (.object "java/lang/Object")), accessFlags := 26, slot := 2, constantValue := 0 }, { name := "DEFAULTCAPACITY_EMPTY_ELEMENTDATA", type := (.array (.object "java/lang/Object")), accessFlags := 26, slot := 3, constantValue := 0 }, { name := "elementData", type := (.array (.object "java/lang/Object")), accessFlags := 128, slot := 1, constantValue := 0 }, { name := "size", type := .int, accessFlags := 2, slot := 2, constantValue := 0 }]
  methods := #[k17m0]
  instanceTypes := #[.int, (.array (.object "java/lang/Object")), .int]
  staticTypes := #[.long, .int, (.array (.object "java/lang/Object")), (.array (.object "java/lang/Object"))]
  resolved := Array.replicate 509 none
  statics := some 1 }

def pool18 : Array CpInfo := pool [(1, .methodref 2 3), (0, .class_ 4), (0, .nameAndType 5 6), (0, u "java/lang/Object"), (0, u "<init>"), (0, u "()V"), (0, .class_ 8), (0, u "java/lang/String"), (0, .fieldref 10 11), (0, .class_ 12), (0, .nameAndType 13 14), (0, u "com/example/olentangy/olentangy/engine/AttributeMap$Builder"), (0, u "ids"), (0, u "[Ljava/lang/String;"), (0, .class_ 16), (0, u "java/util/List"), (0, .fieldref 10 18), (0, .nameAndType 19 20), (0, u "values"), (0, u "[Ljava/util/List;"), (0, .fieldref 10 22), (0, .nameAndType 23 24), (0, u "size"), (0, u "I"), (0, .class_ 26), (0, u "com/example/olentangy/olentangy/engine/AttributeMap"), (0, .methodref 25 28), (0, .nameAndType 5 29), (0, u "([Ljava/lang/String;[Ljava/util/List;I)V"), (2, u "(I)V"), (2, u "add"), (0, u "(Ljava/lang/String;Ljava/util/List;)V"), (1, u "build"), (0, u "()Lcom/example/olentangy/olentangy/engine/AttributeMap;")] 5

def k18c0 : Code := { maxStack := 2, maxLocals := 2, code := prog_39_method_1_code, exceptionTable := #[], attributes := #[] }
def k18m0 : Method := { name := "<init>", desc := "(I)V", sig := { parameters := [.int], returnType := none }, accessFlags := 0, code := some k18c0 }
def k18c1 : Code := { maxStack := 3, maxLocals := 3, code := prog_39_method_2_code, exceptionTable := #[], attributes := #[] }
def k18m1 : Method := { name := "add", desc := "(Ljava/lang/String;Ljava/util/List;)V", sig := { parameters := [(.object "java/lang/String"), (.object "java/util/List")], returnType := none }, accessFlags := 0, code := some k18c1 }
def k18c2 : Code := { maxStack := 5, maxLocals := 1, code := prog_39_method_3_code, exceptionTable := #[], attributes := #[] }
def k18m2 : Method := { name := "build", desc := "()Lcom/example/olentangy/olentangy/engine/AttributeMap;", sig := { parameters := [], returnType := some (.object "com/example/olentangy/olentangy/engine/AttributeMap") }, accessFlags := 0, code := some k18c2 }
/-- com/example/olentangy/olentangy/engine/AttributeMap$Builder -/
def k18 : Class := { plain "com/example/olentangy/olentangy/engine/AttributeMap$Builder" (some 0) with
  accessFlags := 48
  interfaces := #[]
  cf := some (fileOf pool18 10 #[.nestHost 25] #[{ accessFlags := 0, nameIndex := 5, descriptorIndex := 32, attributes := #[] }, { accessFlags := 0, nameIndex := 35, descriptorIndex := 36, attributes := #[] }, { accessFlags := 0, nameIndex := 38, descriptorIndex := 39, attributes := #[] }] 48 2 #[] #[{ accessFlags := 18, nameIndex := 13, descriptorIndex := 14, attributes := #[] }, { accessFlags := 18, nameIndex := 19, descriptorIndex := 20, attributes := #[] }, { accessFlags := 2, nameIndex := 23, descriptorIndex := 24, attributes := #[] }])
  fields := #[{ name := "ids", type := (.array (.object "java/lang/String")), accessFlags := 18, slot := 0, constantValue := 0 }, { name := "values", type := (.array (.object "java/util/List")), accessFlags := 18, slot := 1, constantValue := 0 }, { name := "size", type := .int, accessFlags := 2, slot := 2, constantValue := 0 }]
  methods := #[k18m0, k18m1, k18m2]
  instanceTypes := #[(.array (.object "java/lang/String")), (.array (.object "java/util/List")), .int]
  staticTypes := #[]
  resolved := Array.replicate 45 none
  statics := none }

def pool19 : Array CpInfo := pool [(2, .class_ 4), (1, u "java/util/Map"), (31, .class_ 37), (0, u "java/util/Map$Entry"), (55, .class_ 94), (0, u "java/lang/Object")] 168

/-- java/util/Map -/
def k19 : Class := { plain "java/util/Map" (some 0) with
  accessFlags := 1537
  interfaces := #[]
  cf := some (fileOf pool19 2 #[.nestMembers #[36]] #[] 1537 93 #[] #[])
  fields := #[]
  methods := #[]
  instanceTypes := #[]
  staticTypes := #[]
  resolved := Array.replicate 263 none
  statics := none }

def pool20 : Array CpInfo := pool [(1, .methodref 2 3), (0, .class_ 4), (0, .nameAndType 5 6), (0, u "java/lang/Object"), (0, u "<init>"), (0, u "()V"), (1, .class_ 10), (1, u "java/util/AbstractMap"), (42, .class_ 54), (0, u "java/util/Map"), (9, u "keySet"), (0, u "Ljava/util/Set;"), (0, .class_ 67), (0, u "java/util/AbstractMap$1"), (5, u "values"), (0, u "Ljava/util/Collection;"), (0, .class_ 76), (0, u "java/util/AbstractMap$2"), (104, .class_ 182), (0, u "java/util/AbstractMap$ViewCollection"), (0, .class_ 184), (0, u "java/util/AbstractMap$SimpleImmutableEntry"), (0, .class_ 186), (0, u "java/util/AbstractMap$SimpleEntry"), (0, .class_ 188), (0, u "java/util/AbstractMap$2$1"), (0, .class_ 190), (0, u "java/util/AbstractMap$1$1")] 5

def k20c0 : Code := { maxStack := 1, maxLocals := 1, code := jdk_71_method_1_code, exceptionTable := #[], attributes := #[] }
def k20m0 : Method := { name := "<init>", desc := "()V", sig := { parameters := [], returnType := none }, accessFlags := 4, code := some k20c0 }
/-- java/util/AbstractMap -/
def k20 : Class := { plain "java/util/AbstractMap" (some 0) with
  accessFlags := 1057
  interfaces := #[19]
  cf := some (fileOf pool20 8 #[.nestMembers #[181, 183, 185, 75, 187, 66, 189]] #[{ accessFlags := 4, nameIndex := 5, descriptorIndex := 6, attributes := #[] }] 1057 2 #[53] #[{ accessFlags := 128, nameIndex := 64, descriptorIndex := 65, attributes := #[] }, { accessFlags := 128, nameIndex := 73, descriptorIndex := 74, attributes := #[] }])
  fields := #[{ name := "keySet", type := (.object "java/util/Set"), accessFlags := 128, slot := 0, constantValue := 0 }, { name := "values", type := (.object "java/util/Collection"), accessFlags := 128, slot := 1, constantValue := 0 }]
  methods := #[k20m0]
  instanceTypes := #[(.object "java/util/Set"), (.object "java/util/Collection")]
  staticTypes := #[]
  resolved := Array.replicate 196 none
  statics := none }

def pool21 : Array CpInfo := pool [(1, .methodref 2 3), (0, .class_ 4), (0, .nameAndType 5 6), (0, u "java/util/AbstractMap"), (0, u "<init>"), (0, u "()V"), (0, .class_ 8), (0, u "com/example/olentangy/olentangy/engine/AttributeMap$Entries"), (0, .methodref 7 10), (0, .nameAndType 5 11), (0, u "(Lcom/example/olentangy/olentangy/engine/AttributeMap;)V"), (0, .fieldref 13 14), (0, .class_ 15), (0, .nameAndType 16 17), (0, u "com/example/olentangy/olentangy/engine/AttributeMap"), (0, u "entrySet"), (0, u "Ljava/util/Set;"), (0, .fieldref 13 19), (0, .nameAndType 20 21), (0, u "ids"), (0, u "[Ljava/lang/String;"), (0, .fieldref 13 23), (0, .nameAndType 24 25), (0, u "values"), (0, u "[Ljava/util/List;"), (0, .fieldref 13 27), (0, .nameAndType 28 29), (0, u "size"), (0, u "I"), (0, .class_ 31), (0, u "com/example/olentangy/olentangy/engine/AttributeMap$Builder"), (4, u "()I"), (58, u "index"), (11, u "Ljava/util/Map;"), (14, u "([Ljava/lang/String;[Ljava/util/List;I)V"), (6, u "id"), (0, u "(I)Ljava/lang/String;"), (0, u "(I)Ljava/util/List;"), (9, .class_ 142), (0, u "com/example/olentangy/olentangy/engine/AttributeMap$Entries$1")] 4

def k21c0 : Code := { maxStack := 4, maxLocals := 4, code := prog_38_method_1_code, exceptionTable := #[], attributes := #[] }
def k21m0 : Method := { name := "<init>", desc := "([Ljava/lang/String;[Ljava/util/List;I)V", sig := { parameters := [(.array (.object "java/lang/String")), (.array (.object "java/util/List")), .int], returnType := none }, accessFlags := 2, code := some k21c0 }
def k21c1 : Code := { maxStack := 2, maxLocals := 2, code := prog_38_method_3_code, exceptionTable := #[], attributes := #[] }
def k21m1 : Method := { name := "id", desc := "(I)Ljava/lang/String;", sig := { parameters := [.int], returnType := some (.object "java/lang/String") }, accessFlags := 0, code := some k21c1 }
def k21c2 : Code := { maxStack := 2, maxLocals := 2, code := prog_38_method_4_code, exceptionTable := #[], attributes := #[] }
def k21m2 : Method := { name := "values", desc := "(I)Ljava/util/List;", sig := { parameters := [.int], returnType := some (.object "java/util/List") }, accessFlags := 0, code := some k21c2 }
def k21c3 : Code := { maxStack := 1, maxLocals := 1, code := prog_38_method_6_code, exceptionTable := #[], attributes := #[] }
def k21m3 : Method := { name := "size", desc := "()I", sig := { parameters := [], returnType := some .int }, accessFlags := 1, code := some k21c3 }
/-- com/example/olentangy/olentangy/engine/AttributeMap -/
def k21 : Class := { plain "com/example/olentangy/olentangy/engine/AttributeMap" (some 20) with
  accessFlags := 48
  interfaces := #[]
  cf := some (fileOf pool21 13 #[.nestMembers #[7, 141, 30]] #[{ accessFlags := 2, nameIndex := 5, descriptorIndex := 122, attributes := #[] }, { accessFlags := 0, nameIndex := 129, descriptorIndex := 130, attributes := #[] }, { accessFlags := 0, nameIndex := 24, descriptorIndex := 131, attributes := #[] }, { accessFlags := 1, nameIndex := 28, descriptorIndex := 36, attributes := #[] }] 48 2 #[] #[{ accessFlags := 18, nameIndex := 20, descriptorIndex := 21, attributes := #[] }, { accessFlags := 18, nameIndex := 24, descriptorIndex := 25, attributes := #[] }, { accessFlags := 18, nameIndex := 28, descriptorIndex := 29, attributes := #[] }, { accessFlags := 18, nameIndex := 16, descriptorIndex := 17, attributes := #[] }, { accessFlags := 66, nameIndex := 95, descriptorIndex := 107, attributes := #[] }])
  fields := #[{ name := "ids", type := (.array (.object "java/lang/String")), accessFlags := 18, slot := 2, constantValue := 0 }, { name := "values", type := (.array (.object "java/util/List")), accessFlags := 18, slot := 3, constantValue := 0 }, { name := "size", type := .int, accessFlags := 18, slot := 4, constantValue := 0 }, { name := "entrySet", type := (.object "java/util/Set"), accessFlags := 18, slot := 5, constantValue := 0 }, { name := "index", type := (.object "java/util/Map"), accessFlags := 66, slot := 6, constantValue := 0 }]
  methods := #[k21m0, k21m1, k21m2, k21m3]
  instanceTypes := #[(.object "java/util/Set"), (.object "java/util/Collection"), (.array (.object "java/lang/String")), (.array (.object "java/util/List")), .int, (.object "java/util/Set"), (.object "java/util/Map")]
  staticTypes := #[]
  resolved := ((Array.replicate 147 none).setIfInBounds 7 (some (.cls 24))).setIfInBounds 9 (some (.method ⟨24, 0⟩))
  statics := none }

def pool22 : Array CpInfo := pool [(26, .class_ 27), (0, u "java/lang/Object"), (5, .class_ 34), (0, u "java/util/Set"), (1, .class_ 38), (1, u "java/util/Collection")] 105

/-- java/util/Set -/
def k22 : Class := { plain "java/util/Set" (some 0) with
  accessFlags := 1537
  interfaces := #[10]
  cf := some (fileOf pool22 33 #[] #[] 1537 26 #[36] #[])
  fields := #[]
  methods := #[]
  instanceTypes := #[]
  staticTypes := #[]
  resolved := Array.replicate 144 none
  statics := none }

def pool23 : Array CpInfo := pool [(1, .methodref 2 3), (0, .class_ 4), (0, .nameAndType 5 6), (0, u "java/util/AbstractCollection"), (0, u "<init>"), (0, u "()V"), (0, .class_ 8), (0, u "java/util/Set"), (7, .class_ 17), (0, u "java/util/AbstractSet")] 78

def k23c0 : Code := { maxStack := 1, maxLocals := 1, code := jdk_91_method_1_code, exceptionTable := #[], attributes := #[] }
def k23m0 : Method := { name := "<init>", desc := "()V", sig := { parameters := [], returnType := none }, accessFlags := 4, code := some k23c0 }
/-- java/util/AbstractSet -/
def k23 : Class := { plain "java/util/AbstractSet" (some 11) with
  accessFlags := 1057
  interfaces := #[22]
  cf := some (fileOf pool23 16 #[] #[{ accessFlags := 4, nameIndex := 5, descriptorIndex := 6, attributes := #[] }] 1057 2 #[7] #[])
  fields := #[]
  methods := #[k23m0]
  instanceTypes := #[]
  staticTypes := #[]
  resolved := Array.replicate 96 none
  statics := none }

def pool24 : Array CpInfo := pool [(1, .fieldref 2 3), (0, .class_ 4), (0, .nameAndType 5 6), (0, u "com/example/olentangy/olentangy/engine/AttributeMap$Entries"), (0, u "this$0"), (0, u "Lcom/example/olentangy/olentangy/engine/AttributeMap;"), (0, .methodref 8 9), (0, .class_ 10), (0, .nameAndType 11 12), (0, u "java/util/AbstractSet"), (0, u "<init>"), (0, u "()V"), (6, .class_ 21), (1, u "com/example/olentangy/olentangy/engine/AttributeMap"), (2, u "(Lcom/example/olentangy/olentangy/engine/AttributeMap;)V")] 19

def k24c0 : Code := { maxStack := 2, maxLocals := 2, code := prog_40_method_1_code, exceptionTable := #[], attributes := #[] }
def k24m0 : Method := { name := "<init>", desc := "(Lcom/example/olentangy/olentangy/engine/AttributeMap;)V", sig := { parameters := [(.object "com/example/olentangy/olentangy/engine/AttributeMap")], returnType := none }, accessFlags := 2, code := some k24c0 }
/-- com/example/olentangy/olentangy/engine/AttributeMap$Entries -/
def k24 : Class := { plain "com/example/olentangy/olentangy/engine/AttributeMap$Entries" (some 23) with
  accessFlags := 48
  interfaces := #[]
  cf := some (fileOf pool24 2 #[.nestHost 19] #[{ accessFlags := 2, nameIndex := 11, descriptorIndex := 24, attributes := #[] }] 48 8 #[] #[{ accessFlags := 4112, nameIndex := 5, descriptorIndex := 6, attributes := #[] }])
  fields := #[{ name := "this$0", type := (.object "com/example/olentangy/olentangy/engine/AttributeMap"), accessFlags := 4112, slot := 0, constantValue := 0 }]
  methods := #[k24m0]
  instanceTypes := #[(.object "com/example/olentangy/olentangy/engine/AttributeMap")]
  staticTypes := #[]
  resolved := Array.replicate 44 none
  statics := none }

def pool25 : Array CpInfo := pool [(2, .class_ 4), (1, u "java/lang/Object"), (0, u "<init>"), (0, u "()V"), (17, .class_ 26), (1, u "jdk/internal/util/Preconditions"), (28, .class_ 56), (0, u "jdk/internal/util/Preconditions$4"), (57, .class_ 115), (0, u "jdk/internal/util/Preconditions$1"), (7, u "SIOOBE_FORMATTER"), (0, u "Ljava/util/function/BiFunction;"), (0, .class_ 126), (0, u "jdk/internal/util/Preconditions$2"), (3, u "AIOOBE_FORMATTER"), (0, .class_ 132), (0, u "jdk/internal/util/Preconditions$3"), (3, u "IOOBE_FORMATTER")] 57

def k25m0 : Method := { name := "<init>", desc := "()V", sig := { parameters := [], returnType := none }, accessFlags := 1, code := none }
/-- jdk/internal/util/Preconditions -/
def k25 : Class := { plain "jdk/internal/util/Preconditions" (some 0) with
  accessFlags := 33
  interfaces := #[]
  cf := some (fileOf pool25 24 #[.nestMembers #[55, 131, 125, 114]] #[{ accessFlags := 1, nameIndex := 5, descriptorIndex := 6, attributes := #[] }] 33 2 #[] #[{ accessFlags := 25, nameIndex := 123, descriptorIndex := 124, attributes := #[] }, { accessFlags := 25, nameIndex := 130, descriptorIndex := 124, attributes := #[] }, { accessFlags := 25, nameIndex := 136, descriptorIndex := 124, attributes := #[] }])
  fields := #[{ name := "SIOOBE_FORMATTER", type := (.object "java/util/function/BiFunction"), accessFlags := 25, slot := 0, constantValue := 0 }, { name := "AIOOBE_FORMATTER", type := (.object "java/util/function/BiFunction"), accessFlags := 25, slot := 1, constantValue := 0 }, { name := "IOOBE_FORMATTER", type := (.object "java/util/function/BiFunction"), accessFlags := 25, slot := 2, constantValue := 0 }]
  methods := #[k25m0]
  instanceTypes := #[]
  staticTypes := #[(.object "java/util/function/BiFunction"), (.object "java/util/function/BiFunction"), (.object "java/util/function/BiFunction")]
  resolved := Array.replicate 194 none
  statics := some 2 }

def pool26 : Array CpInfo := pool [(9, u "<init>"), (6, .class_ 18), (1, u "java/lang/Object"), (0, u "()V"), (1, .class_ 23), (1, u "jdk/internal/util/ArraysSupport"), (0, u "LOG2_ARRAY_LONG_INDEX_SCALE"), (0, u "I"), (2, u "U"), (0, u "Ljdk/internal/misc/Unsafe;"), (8, u "BIG_ENDIAN"), (0, u "Z"), (8, u "LOG2_BYTE_BIT_SIZE"), (4, u "LOG2_ARRAY_INT_INDEX_SCALE"), (54, u "JLA"), (0, u "Ljdk/internal/access/JavaLangAccess;"), (11, u "LOG2_ARRAY_BOOLEAN_INDEX_SCALE"), (9, u "LOG2_ARRAY_BYTE_INDEX_SCALE"), (5, u "LOG2_ARRAY_CHAR_INDEX_SCALE"), (5, u "LOG2_ARRAY_SHORT_INDEX_SCALE"), (18, u "LOG2_ARRAY_FLOAT_INDEX_SCALE"), (24, u "LOG2_ARRAY_DOUBLE_INDEX_SCALE"), (89, u "T_BOOLEAN"), (2, u "T_CHAR"), (1, u "T_FLOAT"), (1, u "T_DOUBLE"), (1, u "T_BYTE"), (1, u "T_SHORT"), (1, u "T_INT"), (1, u "T_LONG"), (1, u "SOFT_MAX_ARRAY_LENGTH")] 83

def k26m0 : Method := { name := "<init>", desc := "()V", sig := { parameters := [], returnType := none }, accessFlags := 2, code := none }
/-- jdk/internal/util/ArraysSupport -/
def k26 : Class := { plain "jdk/internal/util/ArraysSupport" (some 0) with
  accessFlags := 33
  interfaces := #[]
  cf := some (fileOf pool26 21 #[] #[{ accessFlags := 2, nameIndex := 9, descriptorIndex := 19, attributes := #[] }] 33 16 #[] #[{ accessFlags := 24, nameIndex := 28, descriptorIndex := 29, attributes := #[] }, { accessFlags := 26, nameIndex := 38, descriptorIndex := 39, attributes := #[] }, { accessFlags := 25, nameIndex := 121, descriptorIndex := 25, attributes := #[] }, { accessFlags := 25, nameIndex := 131, descriptorIndex := 25, attributes := #[] }, { accessFlags := 25, nameIndex := 137, descriptorIndex := 25, attributes := #[] }, { accessFlags := 25, nameIndex := 143, descriptorIndex := 25, attributes := #[] }, { accessFlags := 25, nameIndex := 53, descriptorIndex := 25, attributes := #[] }, { accessFlags := 25, nameIndex := 24, descriptorIndex := 25, attributes := #[] }, { accessFlags := 25, nameIndex := 162, descriptorIndex := 25, attributes := #[] }, { accessFlags := 25, nameIndex := 187, descriptorIndex := 25, attributes := #[] }, { accessFlags := 26, nameIndex := 48, descriptorIndex := 25, attributes := #[] }, { accessFlags := 25, nameIndex := 277, descriptorIndex := 25, attributes := #[] }, { accessFlags := 25, nameIndex := 280, descriptorIndex := 25, attributes := #[] }, { accessFlags := 25, nameIndex := 282, descriptorIndex := 25, attributes := #[] }, { accessFlags := 25, nameIndex := 284, descriptorIndex := 25, attributes := #[] }, { accessFlags := 25, nameIndex := 286, descriptorIndex := 25, attributes := #[] }, { accessFlags := 25, nameIndex := 288, descriptorIndex := 25, attributes := #[] }, { accessFlags := 25, nameIndex := 290, descriptorIndex := 25, attributes := #[] }, { accessFlags := 25, nameIndex := 292, descriptorIndex := 25, attributes := #[] }, { accessFlags := 26, nameIndex := 108, descriptorIndex := 109, attributes := #[] }, { accessFlags := 25, nameIndex := 294, descriptorIndex := 25, attributes := #[] }])
  fields := #[{ name := "U", type := (.object "jdk/internal/misc/Unsafe"), accessFlags := 24, slot := 0, constantValue := 0 }, { name := "BIG_ENDIAN", type := .boolean, accessFlags := 26, slot := 1, constantValue := 0 }, { name := "LOG2_ARRAY_BOOLEAN_INDEX_SCALE", type := .int, accessFlags := 25, slot := 2, constantValue := 0 }, { name := "LOG2_ARRAY_BYTE_INDEX_SCALE", type := .int, accessFlags := 25, slot := 3, constantValue := 0 }, { name := "LOG2_ARRAY_CHAR_INDEX_SCALE", type := .int, accessFlags := 25, slot := 4, constantValue := 0 }, { name := "LOG2_ARRAY_SHORT_INDEX_SCALE", type := .int, accessFlags := 25, slot := 5, constantValue := 0 }, { name := "LOG2_ARRAY_INT_INDEX_SCALE", type := .int, accessFlags := 25, slot := 6, constantValue := 0 }, { name := "LOG2_ARRAY_LONG_INDEX_SCALE", type := .int, accessFlags := 25, slot := 7, constantValue := 0 }, { name := "LOG2_ARRAY_FLOAT_INDEX_SCALE", type := .int, accessFlags := 25, slot := 8, constantValue := 0 }, { name := "LOG2_ARRAY_DOUBLE_INDEX_SCALE", type := .int, accessFlags := 25, slot := 9, constantValue := 0 }, { name := "LOG2_BYTE_BIT_SIZE", type := .int, accessFlags := 26, slot := 10, constantValue := 0 }, { name := "T_BOOLEAN", type := .int, accessFlags := 25, slot := 11, constantValue := 0 }, { name := "T_CHAR", type := .int, accessFlags := 25, slot := 12, constantValue := 0 }, { name := "T_FLOAT", type := .int, accessFlags := 25, slot := 13, constantValue := 0 }, { name := "T_DOUBLE", type := .int, accessFlags := 25, slot := 14, constantValue := 0 }, { name := "T_BYTE", type := .int, accessFlags := 25, slot := 15, constantValue := 0 }, { name := "T_SHORT", type := .int, accessFlags := 25, slot := 16, constantValue := 0 }, { name := "T_INT", type := .int, accessFlags := 25, slot := 17, constantValue := 0 }, { name := "T_LONG", type := .int, accessFlags := 25, slot := 18, constantValue := 0 }, { name := "JLA", type := (.object "jdk/internal/access/JavaLangAccess"), accessFlags := 26, slot := 19, constantValue := 0 }, { name := "SOFT_MAX_ARRAY_LENGTH", type := .int, accessFlags := 25, slot := 20, constantValue := 0 }]
  methods := #[k26m0]
  instanceTypes := #[]
  staticTypes := #[(.object "jdk/internal/misc/Unsafe"), .boolean, .int, .int, .int, .int, .int, .int, .int, .int, .int, .int, .int, .int, .int, .int, .int, .int, .int, (.object "jdk/internal/access/JavaLangAccess"), .int]
  resolved := Array.replicate 378 none
  statics := none }

/-- the primitive byte -/
def k27 : Class := { plain "byte" none with kind := .primitive 'B', accessFlags := 0x411 }
/-- [B -/
def k28 : Class := { plain "[B" (some 0) with kind := .array 27 .byte, interfaces := #[16, 2], accessFlags := 1041 }

/-- the primitive int -/
def k29 : Class := { plain "int" none with kind := .primitive 'I', accessFlags := 0x411 }
/-- [I -/
def k30 : Class := { plain "[I" (some 0) with kind := .array 29 .int, interfaces := #[16, 2], accessFlags := 1041 }

/-- [Ljava/lang/Object; -/
def k31 : Class := { plain "[Ljava/lang/Object;" (some 0) with kind := .array 0 (.object "java/lang/Object"), interfaces := #[16, 2], accessFlags := 1041 }

/-- [Ljava/lang/String; -/
def k32 : Class := { plain "[Ljava/lang/String;" (some 0) with kind := .array 7 (.object "java/lang/String"), interfaces := #[16, 2], accessFlags := 1041 }

/-- [Ljava/util/List; -/
def k33 : Class := { plain "[Ljava/util/List;" (some 0) with kind := .array 13 (.object "java/util/List"), interfaces := #[16, 2], accessFlags := 1041 }

def heap : Heap := #[{ cls := 7, slots := #[.long 0, .int 1, .null, .int 0, .null, .int 0, .int 0], vm := .statics 7 },
  { cls := 17, slots := #[.long 0, .int 0, .ref 3, .ref 4], vm := .statics 17 },
  { cls := 25, slots := #[.null, .null, .null], vm := .statics 25 },
  { cls := 31, slots := #[], vm := .none },
  { cls := 31, slots := #[], vm := .none }]
def classes : Array Class := #[k0, k1, k2, k3, k4, k5, k6, k7, k8, k9, k10, k11, k12, k13, k14, k15, k16, k17, k18, k19, k20, k21, k22, k23, k24, k25, k26, k27, k28, k29, k30, k31, k32, k33]
def interned : List (Array UInt16 × Addr) := []
def slotsUsed : Nat := 14
def theMethod : MethodId := ⟨1, 1⟩
def args0 : Array Value := #[.int 5, .int 1, .int 7, .int 2, .int 3]
def aboutOver (below : List Frame) : State where
  vm := { classes := classes, interned := interned.toArray }
  heap := heap
  slotsUsed := slotsUsed
  threads := #[{ frames := .invoking theMethod args0 :: below }]
def below0 : List Frame := [.native { method := ⟨0, 0⟩, args := #[] }]
def about1 : State := aboutOver below0
def p0 : Program := .bare "" "" ""
def e0 : Env := launch0.env 0 0 0
theorem w_frames : about1.frames = Frame.invoking theMethod args0 :: below0 := rfl
set_option maxRecDepth 65536 in
theorem w_args : argsFit about1.vm theMethod args0 = true := by decide +kernel
set_option maxRecDepth 65536 in
theorem w_heap : heapFits about1 = true := by decide +kernel
set_option maxRecDepth 65536 in
theorem w_runnable : about1.curStatus? = some .runnable := by decide +kernel
set_option maxRecDepth 65536 in
theorem w_alone : about1.alone = true := by decide +kernel
set_option maxRecDepth 65536 in
theorem w_named : about1.methodNamed? x = some theMethod := by decide +kernel
set_option maxRecDepth 65536 in
theorem w_hears : about1.hears theMethod below0 = true := by decide +kernel
set_option maxRecDepth 65536 in
theorem w_ripe : about1.ripe theMethod args0 below0 = true := by decide +kernel
theorem w_running : about1.status = .running := rfl
set_option maxRecDepth 65536 in
theorem w_room : about1.hasRoom e0.platform room_1 = true :=
  launch0.hasRoom_least _ room_1 (by decide +kernel) (by decide +kernel) (by decide +kernel) (by decide +kernel) (by decide +kernel) (by decide +kernel)
theorem allAtoms_all (ts : List Jvm.Cond) (a : Array Jvm.Value) (st : Jvm.State) : (allAtoms ts).before a st = ts.all (fun c => c.before a st) := by
  induction ts with
  | nil => rfl
  | cons c t ih =>
    show (Jvm.Cond.and c (allAtoms t)).before a st = _
    rw [Jvm.Cond.before_and, ih, List.all_cons]
def words1 : List Jvm.Cond := Jvm.Cond.code x code maxLocals ret :: tables_1
/-- a 'code' word, met by the world's own term for the bytes: nothing is compared byte by byte -/
theorem code_word {y : MethodName} {bytes : ByteArray} {mx : Nat} {rt : Option FieldType} {a : Array Value} {s : State} {m : MethodId} {meth : Method} {c : Code} (h1 : s.methodNamed? y = some m) (h2 : s.vm.method? m = some meth) (h3 : meth.code = some c) (h4 : c.code = bytes)
    (h5 : (c.maxLocals == mx && c.exceptionTable.isEmpty && decide (c.maxStack ≤ mostOperands) && decide (meth.sig.returnType = rt) && !meth.locks && decide (parseMethodDescriptor y.desc = some meth.sig)) = true) : (Jvm.Cond.code y bytes mx rt).before a s = true := by
  simp only [Bool.and_eq_true, beq_iff_eq, Bool.not_eq_true', decide_eq_true_eq] at h5
  obtain ⟨⟨⟨⟨⟨g1, g2⟩, g3⟩, g4⟩, g5⟩, g6⟩ := h5
  simp [Cond.before, Cond.holds, Cond.value, h1, h2, h3, h4, g1, g2, g3, g4, g5, g6]
def isCode : Jvm.Cond → Bool
  | .code _ _ _ _ => true
  | _ => false
theorem all_split {L : List Jvm.Cond} {P : Jvm.Cond → Bool} (h1 : L.all (fun c => isCode c || P c) = true) (h2 : ∀ c ∈ L.filter isCode, P c = true) : L.all P = true := by
  refine List.all_eq_true.mpr fun c hc => ?_
  have h := List.all_eq_true.mp h1 c hc
  rcases Bool.eq_false_or_eq_true (isCode c) with hi | hi
  · exact h2 c (List.mem_filter.mpr ⟨hc, hi⟩)
  · simpa [hi] using h
set_option maxRecDepth 65536 in
theorem w_c0 : (Jvm.Cond.code x code maxLocals ret).before args0 about1 = true := code_word (m := ⟨1, 1⟩) (meth := k1m1) (c := k1c1) (by decide +kernel) rfl rfl rfl (by decide +kernel)
set_option maxRecDepth 65536 in
theorem w_c1 : (Jvm.Cond.code ({ cls := "java/lang/String", name := "valueOf", desc := "(C)Ljava/lang/String;" } : Jvm.MethodName) jdk_42_method_139_code (1 : Nat) (Option.some (Jvm.ClassFile.FieldType.object "java/lang/String"))).before args0 about1 = true := code_word (m := ⟨7, 1⟩) (meth := k7m1) (c := k7c1) (by decide +kernel) rfl rfl rfl (by decide +kernel)
set_option maxRecDepth 65536 in
theorem w_c2 : (Jvm.Cond.code ({ cls := "java/lang/StringLatin1", name := "canEncode", desc := "(C)Z" } : Jvm.MethodName) jdk_43_method_3_code (1 : Nat) (Option.some Jvm.ClassFile.FieldType.boolean)).before args0 about1 = true := code_word (m := ⟨8, 1⟩) (meth := k8m1) (c := k8c1) (by decide +kernel) rfl rfl rfl (by decide +kernel)
set_option maxRecDepth 65536 in
theorem w_c3 : (Jvm.Cond.code ({ cls := "java/lang/StringLatin1", name := "toBytes", desc := "(C)[B" } : Jvm.MethodName) jdk_43_method_46_code (1 : Nat) (Option.some (Jvm.ClassFile.FieldType.array Jvm.ClassFile.FieldType.byte))).before args0 about1 = true := code_word (m := ⟨8, 2⟩) (meth := k8m2) (c := k8c2) (by decide +kernel) rfl rfl rfl (by decide +kernel)
set_option maxRecDepth 65536 in
theorem w_c4 : (Jvm.Cond.code ({ cls := "java/lang/String", name := "<init>", desc := "([BB)V" } : Jvm.MethodName) jdk_42_method_151_code (3 : Nat) (Option.none : Option Jvm.ClassFile.FieldType)).before args0 about1 = true := code_word (m := ⟨7, 2⟩) (meth := k7m2) (c := k7c2) (by decide +kernel) rfl rfl rfl (by decide +kernel)
set_option maxRecDepth 65536 in
theorem w_c5 : (Jvm.Cond.code ({ cls := "java/lang/Object", name := "<init>", desc := "()V" } : Jvm.MethodName) object_method_1_code (1 : Nat) (Option.none : Option Jvm.ClassFile.FieldType)).before args0 about1 = true := code_word (m := ⟨0, 0⟩) (meth := k0m0) (c := k0c0) (by decide +kernel) rfl rfl rfl (by decide +kernel)
set_option maxRecDepth 65536 in
theorem w_c6 : (Jvm.Cond.code ({ cls := "java/util/ArrayList", name := "<init>", desc := "()V" } : Jvm.MethodName) jdk_38_method_2_code (1 : Nat) (Option.none : Option Jvm.ClassFile.FieldType)).before args0 about1 = true := code_word (m := ⟨17, 0⟩) (meth := k17m0) (c := k17c0) (by decide +kernel) rfl rfl rfl (by decide +kernel)
set_option maxRecDepth 65536 in
theorem w_c7 : (Jvm.Cond.code ({ cls := "java/util/AbstractList", name := "<init>", desc := "()V" } : Jvm.MethodName) jdk_39_method_1_code (1 : Nat) (Option.none : Option Jvm.ClassFile.FieldType)).before args0 about1 = true := code_word (m := ⟨14, 0⟩) (meth := k14m0) (c := k14c0) (by decide +kernel) rfl rfl rfl (by decide +kernel)
set_option maxRecDepth 65536 in
theorem w_c8 : (Jvm.Cond.code ({ cls := "java/util/AbstractCollection", name := "<init>", desc := "()V" } : Jvm.MethodName) jdk_22_method_1_code (1 : Nat) (Option.none : Option Jvm.ClassFile.FieldType)).before args0 about1 = true := code_word (m := ⟨11, 0⟩) (meth := k11m0) (c := k11c0) (by decide +kernel) rfl rfl rfl (by decide +kernel)
set_option maxRecDepth 65536 in
theorem w_c9 : (Jvm.Cond.code ({ cls := "com/example/olentangy/olentangy/engine/AttributeMap$Builder", name := "<init>", desc := "(I)V" } : Jvm.MethodName) prog_39_method_1_code (2 : Nat) (Option.none : Option Jvm.ClassFile.FieldType)).before args0 about1 = true := code_word (m := ⟨18, 0⟩) (meth := k18m0) (c := k18c0) (by decide +kernel) rfl rfl rfl (by decide +kernel)
set_option maxRecDepth 65536 in
theorem w_c10 : (Jvm.Cond.code ({ cls := "com/example/olentangy/olentangy/engine/AttributeMap$Builder", name := "build", desc := "()Lcom/example/olentangy/olentangy/engine/AttributeMap;" } : Jvm.MethodName) prog_39_method_3_code (1 : Nat) (Option.some (Jvm.ClassFile.FieldType.object "com/example/olentangy/olentangy/engine/AttributeMap"))).before args0 about1 = true := code_word (m := ⟨18, 2⟩) (meth := k18m2) (c := k18c2) (by decide +kernel) rfl rfl rfl (by decide +kernel)
set_option maxRecDepth 65536 in
theorem w_c11 : (Jvm.Cond.code ({ cls := "com/example/olentangy/olentangy/engine/AttributeMap", name := "<init>", desc := "([Ljava/lang/String;[Ljava/util/List;I)V" } : Jvm.MethodName) prog_38_method_1_code (4 : Nat) (Option.none : Option Jvm.ClassFile.FieldType)).before args0 about1 = true := code_word (m := ⟨21, 0⟩) (meth := k21m0) (c := k21c0) (by decide +kernel) rfl rfl rfl (by decide +kernel)
set_option maxRecDepth 65536 in
theorem w_c12 : (Jvm.Cond.code ({ cls := "java/util/AbstractMap", name := "<init>", desc := "()V" } : Jvm.MethodName) jdk_71_method_1_code (1 : Nat) (Option.none : Option Jvm.ClassFile.FieldType)).before args0 about1 = true := code_word (m := ⟨20, 0⟩) (meth := k20m0) (c := k20c0) (by decide +kernel) rfl rfl rfl (by decide +kernel)
set_option maxRecDepth 65536 in
theorem w_c13 : (Jvm.Cond.code ({ cls := "com/example/olentangy/olentangy/engine/AttributeMap$Entries", name := "<init>", desc := "(Lcom/example/olentangy/olentangy/engine/AttributeMap;)V" } : Jvm.MethodName) prog_40_method_1_code (2 : Nat) (Option.none : Option Jvm.ClassFile.FieldType)).before args0 about1 = true := code_word (m := ⟨24, 0⟩) (meth := k24m0) (c := k24c0) (by decide +kernel) rfl rfl rfl (by decide +kernel)
set_option maxRecDepth 65536 in
theorem w_c14 : (Jvm.Cond.code ({ cls := "java/util/AbstractSet", name := "<init>", desc := "()V" } : Jvm.MethodName) jdk_91_method_1_code (1 : Nat) (Option.none : Option Jvm.ClassFile.FieldType)).before args0 about1 = true := code_word (m := ⟨23, 0⟩) (meth := k23m0) (c := k23c0) (by decide +kernel) rfl rfl rfl (by decide +kernel)
set_option maxRecDepth 65536 in
theorem w_c15 : (Jvm.Cond.code ({ cls := "com/example/olentangy/olentangy/engine/AttributeMap", name := "size", desc := "()I" } : Jvm.MethodName) prog_38_method_6_code (1 : Nat) (Option.some Jvm.ClassFile.FieldType.int)).before args0 about1 = true := code_word (m := ⟨21, 3⟩) (meth := k21m3) (c := k21c3) (by decide +kernel) rfl rfl rfl (by decide +kernel)
set_option maxRecDepth 65536 in
theorem w_c16 : (Jvm.Cond.code ({ cls := "com/example/olentangy/olentangy/engine/AttributeMap$Builder", name := "add", desc := "(Ljava/lang/String;Ljava/util/List;)V" } : Jvm.MethodName) prog_39_method_2_code (3 : Nat) (Option.none : Option Jvm.ClassFile.FieldType)).before args0 about1 = true := code_word (m := ⟨18, 1⟩) (meth := k18m1) (c := k18c1) (by decide +kernel) rfl rfl rfl (by decide +kernel)
set_option maxRecDepth 65536 in
theorem w_c17 : (Jvm.Cond.code ({ cls := "com/example/olentangy/olentangy/engine/AttributeMap", name := "id", desc := "(I)Ljava/lang/String;" } : Jvm.MethodName) prog_38_method_3_code (2 : Nat) (Option.some (Jvm.ClassFile.FieldType.object "java/lang/String"))).before args0 about1 = true := code_word (m := ⟨21, 1⟩) (meth := k21m1) (c := k21c1) (by decide +kernel) rfl rfl rfl (by decide +kernel)
set_option maxRecDepth 65536 in
theorem w_c18 : (Jvm.Cond.code ({ cls := "com/example/olentangy/olentangy/engine/AttributeMap", name := "values", desc := "(I)Ljava/util/List;" } : Jvm.MethodName) prog_38_method_4_code (2 : Nat) (Option.some (Jvm.ClassFile.FieldType.object "java/util/List"))).before args0 about1 = true := code_word (m := ⟨21, 2⟩) (meth := k21m2) (c := k21c2) (by decide +kernel) rfl rfl rfl (by decide +kernel)
def codes1 : List Jvm.Cond := [Jvm.Cond.code x code maxLocals ret, Jvm.Cond.code ({ cls := "java/lang/String", name := "valueOf", desc := "(C)Ljava/lang/String;" } : Jvm.MethodName) jdk_42_method_139_code (1 : Nat) (Option.some (Jvm.ClassFile.FieldType.object "java/lang/String")), Jvm.Cond.code ({ cls := "java/lang/StringLatin1", name := "canEncode", desc := "(C)Z" } : Jvm.MethodName) jdk_43_method_3_code (1 : Nat) (Option.some Jvm.ClassFile.FieldType.boolean), Jvm.Cond.code ({ cls := "java/lang/StringLatin1", name := "toBytes", desc := "(C)[B" } : Jvm.MethodName) jdk_43_method_46_code (1 : Nat) (Option.some (Jvm.ClassFile.FieldType.array Jvm.ClassFile.FieldType.byte)), Jvm.Cond.code ({ cls := "java/lang/String", name := "<init>", desc := "([BB)V" } : Jvm.MethodName) jdk_42_method_151_code (3 : Nat) (Option.none : Option Jvm.ClassFile.FieldType), Jvm.Cond.code ({ cls := "java/lang/Object", name := "<init>", desc := "()V" } : Jvm.MethodName) object_method_1_code (1 : Nat) (Option.none : Option Jvm.ClassFile.FieldType), Jvm.Cond.code ({ cls := "java/util/ArrayList", name := "<init>", desc := "()V" } : Jvm.MethodName) jdk_38_method_2_code (1 : Nat) (Option.none : Option Jvm.ClassFile.FieldType), Jvm.Cond.code ({ cls := "java/util/AbstractList", name := "<init>", desc := "()V" } : Jvm.MethodName) jdk_39_method_1_code (1 : Nat) (Option.none : Option Jvm.ClassFile.FieldType), Jvm.Cond.code ({ cls := "java/util/AbstractCollection", name := "<init>", desc := "()V" } : Jvm.MethodName) jdk_22_method_1_code (1 : Nat) (Option.none : Option Jvm.ClassFile.FieldType), Jvm.Cond.code ({ cls := "com/example/olentangy/olentangy/engine/AttributeMap$Builder", name := "<init>", desc := "(I)V" } : Jvm.MethodName) prog_39_method_1_code (2 : Nat) (Option.none : Option Jvm.ClassFile.FieldType), Jvm.Cond.code ({ cls := "com/example/olentangy/olentangy/engine/AttributeMap$Builder", name := "build", desc := "()Lcom/example/olentangy/olentangy/engine/AttributeMap;" } : Jvm.MethodName) prog_39_method_3_code (1 : Nat) (Option.some (Jvm.ClassFile.FieldType.object "com/example/olentangy/olentangy/engine/AttributeMap")), Jvm.Cond.code ({ cls := "com/example/olentangy/olentangy/engine/AttributeMap", name := "<init>", desc := "([Ljava/lang/String;[Ljava/util/List;I)V" } : Jvm.MethodName) prog_38_method_1_code (4 : Nat) (Option.none : Option Jvm.ClassFile.FieldType), Jvm.Cond.code ({ cls := "java/util/AbstractMap", name := "<init>", desc := "()V" } : Jvm.MethodName) jdk_71_method_1_code (1 : Nat) (Option.none : Option Jvm.ClassFile.FieldType), Jvm.Cond.code ({ cls := "com/example/olentangy/olentangy/engine/AttributeMap$Entries", name := "<init>", desc := "(Lcom/example/olentangy/olentangy/engine/AttributeMap;)V" } : Jvm.MethodName) prog_40_method_1_code (2 : Nat) (Option.none : Option Jvm.ClassFile.FieldType), Jvm.Cond.code ({ cls := "java/util/AbstractSet", name := "<init>", desc := "()V" } : Jvm.MethodName) jdk_91_method_1_code (1 : Nat) (Option.none : Option Jvm.ClassFile.FieldType), Jvm.Cond.code ({ cls := "com/example/olentangy/olentangy/engine/AttributeMap", name := "size", desc := "()I" } : Jvm.MethodName) prog_38_method_6_code (1 : Nat) (Option.some Jvm.ClassFile.FieldType.int), Jvm.Cond.code ({ cls := "com/example/olentangy/olentangy/engine/AttributeMap$Builder", name := "add", desc := "(Ljava/lang/String;Ljava/util/List;)V" } : Jvm.MethodName) prog_39_method_2_code (3 : Nat) (Option.none : Option Jvm.ClassFile.FieldType), Jvm.Cond.code ({ cls := "com/example/olentangy/olentangy/engine/AttributeMap", name := "id", desc := "(I)Ljava/lang/String;" } : Jvm.MethodName) prog_38_method_3_code (2 : Nat) (Option.some (Jvm.ClassFile.FieldType.object "java/lang/String")), Jvm.Cond.code ({ cls := "com/example/olentangy/olentangy/engine/AttributeMap", name := "values", desc := "(I)Ljava/util/List;" } : Jvm.MethodName) prog_38_method_4_code (2 : Nat) (Option.some (Jvm.ClassFile.FieldType.object "java/util/List"))]
set_option maxRecDepth 65536 in
theorem codes_eq : words1.filter isCode = codes1 := rfl
theorem w_codes : ∀ c ∈ words1.filter isCode, c.before args0 about1 = true := by
  rw [codes_eq]
  intro c hc
  simp only [codes1, List.mem_cons, List.not_mem_nil, or_false] at hc
  rcases hc with rfl | rfl | rfl | rfl | rfl | rfl | rfl | rfl | rfl | rfl | rfl | rfl | rfl | rfl | rfl | rfl | rfl | rfl | rfl
  · exact w_c0
  · exact w_c1
  · exact w_c2
  · exact w_c3
  · exact w_c4
  · exact w_c5
  · exact w_c6
  · exact w_c7
  · exact w_c8
  · exact w_c9
  · exact w_c10
  · exact w_c11
  · exact w_c12
  · exact w_c13
  · exact w_c14
  · exact w_c15
  · exact w_c16
  · exact w_c17
  · exact w_c18
set_option maxRecDepth 65536 in
theorem w_t1 : (words1.take 24).all (fun c => isCode c || c.before args0 about1) = true := by decide +kernel
set_option maxRecDepth 65536 in
theorem w_t2 : ((words1.drop 24).take 24).all (fun c => isCode c || c.before args0 about1) = true := by decide +kernel
set_option maxRecDepth 65536 in
theorem w_t3 : (((words1.drop 24).drop 24).take 24).all (fun c => isCode c || c.before args0 about1) = true := by decide +kernel
set_option maxRecDepth 65536 in
theorem w_t4 : ((((words1.drop 24).drop 24).drop 24).take 24).all (fun c => isCode c || c.before args0 about1) = true := by decide +kernel
set_option maxRecDepth 65536 in
theorem w_t5 : (((((words1.drop 24).drop 24).drop 24).drop 24).take 24).all (fun c => isCode c || c.before args0 about1) = true := by decide +kernel
set_option maxRecDepth 65536 in
theorem w_t6 : (((((words1.drop 24).drop 24).drop 24).drop 24).drop 24).all (fun c => isCode c || c.before args0 about1) = true := by decide +kernel
theorem w_tables : (allAtoms (Jvm.Cond.code x code maxLocals ret :: tables_1)).before args0 about1 = true := by
  rw [allAtoms_all]
  show words1.all (fun c => c.before args0 about1) = true
  refine all_split ?_ w_codes
  rw [← List.take_append_drop 24 words1, List.all_append, w_t1, ← List.take_append_drop 24 (words1.drop 24), List.all_append, w_t2, ← List.take_append_drop 24 ((words1.drop 24).drop 24), List.all_append, w_t3, ← List.take_append_drop 24 (((words1.drop 24).drop 24).drop 24), List.all_append, w_t4, ← List.take_append_drop 24 ((((words1.drop 24).drop 24).drop 24).drop 24), List.all_append, w_t5, w_t6]
  rfl
set_option maxRecDepth 65536 in
theorem w_rest : rest_1_c.before args0 about1 = true := by decide +kernel
set_option maxRecDepth 65536 in
theorem w_case : (Jvm.Cond.and given_1 narrow_1).before args0 about1 = true := by decide +kernel
theorem w_applies : (headSpec (Jvm.Cond.code x code maxLocals ret :: tables_1) room_1).applies x e0.platform about1 = true :=
  (Spec.applies_iff w_frames).mpr ⟨w_running, w_runnable, w_alone, w_named, w_hears, w_ripe, w_room, w_tables⟩
theorem atStart : AtStart classFile x code maxLocals ret World_1 tables_1 room_1 Calls_1 rest_1 Pre_1 launch0 p0 e0 about1 theMethod args0 below0 :=
  ⟨lists_1, trivial, launch0.admits_env _ _ _, launch0.least_env, fairChoices_fair.cas, fairChoices_fair.clock, w_frames, w_args, w_heap, w_applies, trivial, w_rest, w_case⟩
end start1
theorem witness_1 : WitnessClaimed_1 := ⟨start1.p0, start1.e0, start1.about1, start1.theMethod, start1.args0, start1.below0, start1.atStart⟩
end Jvm.Pilot.@@N@@
