import JvmDerived
import JvmDerived.Pilot.@@N@@Statement
import JvmDerived.Pilot.@@N@@Code
set_option linter.unusedVariables false
set_option linter.unusedSimpArgs false
set_option maxRecDepth 65536
namespace Jvm.Pilot.@@N@@
open Jvm Jvm.ClassFile Sem Op Lib Jvm.Free Jvm.Stand Jvm.LawKit Jvm.RoadKit Bundle Jvm.Pilot.@@N@@.Jvm.D
/-- the run goes on from S to a return that Q says, within so many new cells and slots -/
def OFin (p : Program) (e : Env) (below : List Frame) (s : State) (Q : Option Value → Heap → List Loc → Prop) (cells slots : Nat) (S : State) : Prop :=
  ∃ s₂ o, Steps p.tables e below S s₂ ∧ s₂.status = .running ∧ Ended s₂ below o ∧ ∃ v L, o = .returned v ∧ Q v s₂.heap L ∧ FrameEnd s o s₂ L cells slots
section Own
variable {p : Program} {l : Launch} {e : Env} {R : Room} {s : State} {m : MethodId} {args : Array Value} {below : List Frame} {meth : Method} {c : Code} {T S S' : State} {locs : List Loc} {cells slots k n : Nat} {Q : Option Value → Heap → List Loc → Prop} {pc : Nat} {Ls : Array Slot} {rest : List Value}
theorem OFin.go (st : ∀ t, Steps p.tables e below S' t → Steps p.tables e below S t) (F : OFin p e below s Q cells slots S') : OFin p e below s Q cells slots S := by
  obtain ⟨s₂, o, h, r⟩ := F
  exact ⟨s₂, o, st _ h, r⟩
theorem OFin.tr (st : Steps p.tables e below S S') (F : OFin p e below s Q cells slots S') : OFin p e below s Q cells slots S := by
  obtain ⟨s₂, o, h, r⟩ := F
  exact ⟨s₂, o, st.trans h, r⟩
theorem OFin.ends (X : Stand p l e R s m args below meth c T locs k n) {v : Option Value} (hv : meth.sig.returnType = none → v = none) (hlk : meth.locks = false) (hq : Q v T.heap locs) (hk : k ≤ cells) (hn : n ≤ slots)
    (st : ∀ fs, (∀ (f : JFrame) (acts : List Action), f.method = m → f.locked = none → f.entered = [] → (doReturn e (T.setTop f) acts v).1 = T.setFrames fs) → Steps p.tables e below S (T.setFrames fs)) : OFin p e below s Q cells slots S := by
  obtain ⟨fs, hr, hrun, hended, hW, hsame⟩ := X.leave (v := v) hv hlk
  exact ⟨_, _, st fs hr, hrun, hended, _, _, rfl, hq, ⟨_, rfl⟩, hW, hsame.mono hk hn⟩
theorem OFin.retN (X : Stand p l e R s m args below meth c T locs k n) (hx : p.tables.exec = Jvm.exec) {z w : Int32} {t : FieldType} (hret : meth.sig.returnType = some t) (ht : t = .boolean ∨ t = .byte ∨ t = .char ∨ t = .short) (hlk : meth.locks = false)
    (hd : decode c.code pc = .ok (.ireturn, 1)) (hz : nar t z = w) (hq : Q (some (.int w)) T.heap locs) (hk : k ≤ cells) (hn : n ≤ slots) : OFin p e below s Q cells slots (T.setTop (mkF m pc Ls (.int z :: rest))) :=
  OFin.ends X (v := some (.int w)) (fun h => by rw [hret] at h; cases h) hlk hq hk hn fun fs hr => Jvm.RoadKit.retN X hx hret ht hd (by rw [hz]; exact hr)
theorem OFin.retI (X : Stand p l e R s m args below meth c T locs k n) (hx : p.tables.exec = Jvm.exec) {z : Int32} (hret : meth.sig.returnType = some .int) (hlk : meth.locks = false)
    (hd : decode c.code pc = .ok (.ireturn, 1)) (hq : Q (some (.int z)) T.heap locs) (hk : k ≤ cells) (hn : n ≤ slots) : OFin p e below s Q cells slots (T.setTop (mkF m pc Ls (.int z :: rest))) :=
  OFin.ends X (v := some (.int z)) (fun h => by rw [hret] at h; cases h) hlk hq hk hn fun fs hr => retOut X hx hret rfl (Or.inl ⟨rfl, Or.inl rfl, z, rfl⟩) hd hr
theorem OFin.retL (X : Stand p l e R s m args below meth c T locs k n) (hx : p.tables.exec = Jvm.exec) {z : Int64} (hret : meth.sig.returnType = some .long) (hlk : meth.locks = false)
    (hd : decode c.code pc = .ok (.lreturn, 1)) (hq : Q (some (.long z)) T.heap locs) (hk : k ≤ cells) (hn : n ≤ slots) : OFin p e below s Q cells slots (T.setTop (mkF m pc Ls (.long z :: rest))) :=
  OFin.ends X (v := some (.long z)) (fun h => by rw [hret] at h; cases h) hlk hq hk hn fun fs hr => retOut X hx hret rfl (Or.inr (Or.inl ⟨rfl, rfl, z, rfl⟩)) hd hr
theorem OFin.retA (X : Stand p l e R s m args below meth c T locs k n) (hx : p.tables.exec = Jvm.exec) {w : Value} {t : FieldType} (hret : meth.sig.returnType = some t) (ht : t.isReference = true) (hw : w.isRef = true) (hnr : narrow t w = w) (hlk : meth.locks = false)
    (hd : decode c.code pc = .ok (.areturn, 1)) (hq : Q (some w) T.heap locs) (hk : k ≤ cells) (hn : n ≤ slots) : OFin p e below s Q cells slots (T.setTop (mkF m pc Ls (w :: rest))) :=
  OFin.ends X (v := some w) (fun h => by rw [hret] at h; cases h) hlk hq hk hn fun fs hr => retOut X hx hret hnr (Or.inr (Or.inr (Or.inr (Or.inr ⟨rfl, ht, hw⟩)))) hd hr
theorem OFin.retV (X : Stand p l e R s m args below meth c T locs k n) (hx : p.tables.exec = Jvm.exec) (hret : meth.sig.returnType = none) (hlk : meth.locks = false)
    (hd : decode c.code pc = .ok (.return_, 1)) (hq : Q none T.heap locs) (hk : k ≤ cells) (hn : n ≤ slots) : OFin p e below s Q cells slots (T.setTop (mkF m pc Ls [])) :=
  OFin.ends X (v := none) (fun _ => rfl) hlk hq hk hn fun fs hr => X.returnOut hx hret hd hr
end Own
theorem d1_0 : decode jdk_29_method_69_code 0 = .ok (.iload_n 0, 1) := by decide +kernel
theorem d1_1 : decode jdk_29_method_69_code 1 = .ok (.iload_n 1, 1) := by decide +kernel
theorem d1_2 : decode jdk_29_method_69_code 2 = .ok (.if_icmp .gt 7, 3) := by decide +kernel
theorem d1_5 : decode jdk_29_method_69_code 5 = .ok (.iload_n 0, 1) := by decide +kernel
theorem d1_6 : decode jdk_29_method_69_code 6 = .ok (.goto 4, 3) := by decide +kernel
theorem d1_9 : decode jdk_29_method_69_code 9 = .ok (.iload_n 1, 1) := by decide +kernel
theorem d1_10 : decode jdk_29_method_69_code 10 = .ok (.ireturn, 1) := by decide +kernel
theorem ef_1 (m : MethodId) (x0 : Int32) (x1 : Int32) : entryFrame m #[(.int x0), (.int x1)] 2 = mkF m 0 #[.val (.int x0), .val (.int x1)] [] := by first | (simp [entryFrame, mkF, argsToLocals, Value.category]; done) | rfl
def own_f1 (q0 : Int32) (q1 : Int32) : Int32 := (if q1 < q0 then q1 else q0)
def Q1 (Z : State) (q0 : Int32) (q1 : Int32) (h0 : Heap) (n0 : Nat) (v : Option Value) (h : Heap) (L : List Loc) : Prop := v = some (.int (own_f1 q0 q1)) ∧ Fr n0 L ∧ h = h0
set_option maxHeartbeats 40000000 in
theorem rm1 (l : Launch) (Z : State) (aZ : Array Value) (hw : ∀ d ∈ tables_1, d.before aZ Z = true) (ws : List Jvm.Cond) (q0 : Int32) (q1 : Int32) (h0 : Heap) (n0 : Nat) (Z0 : n0 ≤ h0.size) :
    MetFree l (⟨"java/lang/Math", "min", "(II)I"⟩ : MethodName) (head1 (Jvm.Cond.code (⟨"java/lang/Math", "min", "(II)I"⟩ : MethodName) jdk_29_method_69_code 2 (some .int) :: ws) ({ frames := 0, cells := 0, slots := 0, locals := 0 } : Room)) (fun a U => a = #[(.int q0), (.int q1)] ∧ Z.Warmed39 U.vm ∧ U.heap = h0) (fun _ _ _ _ _ => True) (fun _ U o U' => ∃ v L, o = .returned v ∧ Q1 Z q0 q1 h0 n0 v U'.heap L ∧ FrameEnd U o U' L ({ frames := 0, cells := 0, slots := 0, locals := 0 } : Room).cells ({ frames := 0, cells := 0, slots := 0, locals := 0 } : Room).slots) := by
  refine MetFree.of_bodySF (Jvm.Free.JP.mathPlain rfl (by decide +kernel)) hisR ?_
  intro p e s m args below meth c s₁ Bd hml0 hP hK
  obtain ⟨rfl, hZ, hh⟩ := hP
  have hx := Bd.exec
  have hby := Bd.bytes
  have hret := Bd.returns
  have hlk : meth.locks = false := BodyLoose.notSynchronized Bd
  have hml : c.maxLocals = 2 := hml0
  have hown : s.vm.findClass "java/lang/Math" = some m.cls := findClass_of_methodNamed Bd.named
  have hnm := (name_of_methodNamed Bd.named Bd.method).1
  have X0 : Stand p l e ({ frames := 0, cells := 0, slots := 0, locals := 0 } : Room) s m #[(.int q0), (.int q1)] below meth c s₁ [] 0 0 := Stand.of_body Bd
  have e0 : s₁.heap = h0 := by rw [← hh, Bd.state]; rfl
  have N0 := Fr.nil n0
  have K0 : Keep h0 h0 [] := Keep.refl _ _
  have pre0 : ∀ t, Steps p.tables e below (s₁.setTop (mkF m 0 #[.val (.int q0), .val (.int q1)] [])) t → Steps p.tables e below (s₁.setTop (entryFrame m #[(.int q0), (.int q1)] 2)) t := fun t k => castTop (ef_1 m q0 q1) k
  show OFin p e below s (Q1 Z q0 q1 h0 n0) ({ frames := 0, cells := 0, slots := 0, locals := 0 } : Room).cells ({ frames := 0, cells := 0, slots := 0, locals := 0 } : Room).slots _
  refine OFin.go pre0 ?_
  have sg101 : ∀ t, Steps p.tables e below (s₁.setTop (mkF m 2 #[.val (.int q0), .val (.int q1)] [(.int q1), (.int q0)])) t → Steps p.tables e below (s₁.setTop (mkF m 0 #[.val (.int q0), .val (.int q1)] [])) t := by
    intro t k
    show Steps p.tables e below (s₁.setTop (mkF m 0 #[.val (.int q0), .val (.int q1)] [])) t
    refine XS.iloadN X0.here hx rfl (hb hby d1_0) rfl ?_
    show Steps p.tables e below (s₁.setTop (mkF m 1 #[.val (.int q0), .val (.int q1)] [(.int q0)])) t
    refine XS.iloadN X0.here hx rfl (hb hby d1_1) rfl ?_
    exact k
  refine OFin.go sg101 ?_
  by_cases c102 : q1 < q0
  · have sg103 : ∀ t, Steps p.tables e below (s₁.setTop (mkF m 10 #[.val (.int q0), .val (.int q1)] [(.int q1)])) t → Steps p.tables e below (s₁.setTop (mkF m 2 #[.val (.int q0), .val (.int q1)] [(.int q1), (.int q0)])) t := by
      intro t k
      show Steps p.tables e below (s₁.setTop (mkF m 2 #[.val (.int q0), .val (.int q1)] [(.int q1), (.int q0)])) t
      refine XS.icmpYes X0.here hx rfl (pc0 := 2) (pc' := 9) rfl (hb hby d1_2) rfl (tlt c102).2.2.1 (by decide) (by decide) ?_
      show Steps p.tables e below (s₁.setTop (mkF m 9 #[.val (.int q0), .val (.int q1)] [])) t
      refine XS.iloadN X0.here hx rfl (hb hby d1_9) rfl ?_
      exact k
    refine OFin.go sg103 ?_
    exact OFin.retI X0 hx hret hlk (hb hby d1_10) (by rw [e0]; exact ⟨(congrArg (fun z => some (Value.int z)) (show q1 = own_f1 q0 q1 from (by rw [own_f1, if_pos c102]))), N0, rfl⟩) (by decide) (by decide)
  · have sg104 : ∀ t, Steps p.tables e below (s₁.setTop (mkF m 10 #[.val (.int q0), .val (.int q1)] [(.int q0)])) t → Steps p.tables e below (s₁.setTop (mkF m 2 #[.val (.int q0), .val (.int q1)] [(.int q1), (.int q0)])) t := by
      intro t k
      show Steps p.tables e below (s₁.setTop (mkF m 2 #[.val (.int q0), .val (.int q1)] [(.int q1), (.int q0)])) t
      refine XS.icmpNo X0.here hx rfl (hb hby d1_2) rfl (flt c102).2.2.1 ?_
      show Steps p.tables e below (s₁.setTop (mkF m 5 #[.val (.int q0), .val (.int q1)] [])) t
      refine XS.iloadN X0.here hx rfl (hb hby d1_5) rfl ?_
      show Steps p.tables e below (s₁.setTop (mkF m 6 #[.val (.int q0), .val (.int q1)] [(.int q0)])) t
      refine XS.goto X0.here hx rfl (pc0 := 6) (pc' := 10) rfl (hb hby d1_6) (by decide) (by decide) ?_
      exact k
    refine OFin.go sg104 ?_
    exact OFin.retI X0 hx hret hlk (hb hby d1_10) (by rw [e0]; exact ⟨(congrArg (fun z => some (Value.int z)) (show q0 = own_f1 q0 q1 from (by rw [own_f1, if_neg c102]))), N0, rfl⟩) (by decide) (by decide)
theorem own_min (x y : Int32) : own_f1 x y = if y < x then y else x := rfl
theorem own_set (vs : List Value) (i : Nat) (v : Value) (n : Nat) (h : vs.length = n) : (vs.set i v).length = n := by rw [List.length_set]; exact h
theorem own_got (vs : List Value) (i : Nat) (v d : Value) (h : i < vs.length) : (vs.set i v).getD i d = v := by simp [h]
theorem own_in {c n : Int32} {vs : List Value} (hc : ¬ c < 0) (hn : c < n) (hl : vs.length = n.toNatClampNeg) : c.toNatClampNeg < vs.length := by
  rw [hl]
  rw [Int32.lt_iff_toInt_lt] at hc hn
  simp only [show (0 : Int32).toInt = 0 from rfl] at hc
  simp only [Int32.toNatClampNeg]
  omega
theorem own_nn {q : Int32} (h : ¬ (q < (1 : Int32))) : ¬ q < 0 := by
  rw [Int32.lt_iff_toInt_lt] at *
  simp only [show (0 : Int32).toInt = 0 from rfl, show (1 : Int32).toInt = 1 from rfl] at *
  omega
theorem own_c4 {q : Int32} (h : ¬ ((4 : Int32) < q)) : q.toNatClampNeg ≤ 4 := by
  rw [Int32.lt_iff_toInt_lt] at h
  simp only [show (4 : Int32).toInt = 4 from rfl] at h
  simp only [Int32.toNatClampNeg]
  omega
theorem d2_0 : decode prog_26_method_1_code 0 = .ok (.aload_n 0, 1) := by decide +kernel
theorem d2_1 : decode prog_26_method_1_code 1 = .ok (.invokespecial 1, 3) := by decide +kernel
theorem d2_4 : decode prog_26_method_1_code 4 = .ok (.iload_n 1, 1) := by decide +kernel
theorem d2_5 : decode prog_26_method_1_code 5 = .ok (.iconst 1, 1) := by decide +kernel
theorem d2_6 : decode prog_26_method_1_code 6 = .ok (.if_icmp .lt 8, 3) := by decide +kernel
theorem d2_9 : decode prog_26_method_1_code 9 = .ok (.iload_n 2, 1) := by decide +kernel
theorem d2_10 : decode prog_26_method_1_code 10 = .ok (.iconst 1, 1) := by decide +kernel
theorem d2_11 : decode prog_26_method_1_code 11 = .ok (.if_icmp .ge 13, 3) := by decide +kernel
theorem d2_14 : decode prog_26_method_1_code 14 = .ok (.new 7, 3) := by decide +kernel
theorem d2_17 : decode prog_26_method_1_code 17 = .ok (.dup, 1) := by decide +kernel
theorem d2_18 : decode prog_26_method_1_code 18 = .ok (.ldc 9, 2) := by decide +kernel
theorem d2_20 : decode prog_26_method_1_code 20 = .ok (.invokespecial 11, 3) := by decide +kernel
theorem d2_23 : decode prog_26_method_1_code 23 = .ok (.athrow, 1) := by decide +kernel
theorem d2_24 : decode prog_26_method_1_code 24 = .ok (.aload_n 0, 1) := by decide +kernel
theorem d2_25 : decode prog_26_method_1_code 25 = .ok (.iload_n 1, 1) := by decide +kernel
theorem d2_26 : decode prog_26_method_1_code 26 = .ok (.putfield 14, 3) := by decide +kernel
theorem d2_29 : decode prog_26_method_1_code 29 = .ok (.aload_n 0, 1) := by decide +kernel
theorem d2_30 : decode prog_26_method_1_code 30 = .ok (.iload_n 2, 1) := by decide +kernel
theorem d2_31 : decode prog_26_method_1_code 31 = .ok (.putfield 20, 3) := by decide +kernel
theorem d2_34 : decode prog_26_method_1_code 34 = .ok (.aload_n 0, 1) := by decide +kernel
theorem d2_35 : decode prog_26_method_1_code 35 = .ok (.iload_n 1, 1) := by decide +kernel
theorem d2_36 : decode prog_26_method_1_code 36 = .ok (.sipush 8192, 3) := by decide +kernel
theorem d2_39 : decode prog_26_method_1_code 39 = .ok (.invokestatic 23, 3) := by decide +kernel
theorem d2_42 : decode prog_26_method_1_code 42 = .ok (.newarray .byte, 2) := by decide +kernel
theorem d2_44 : decode prog_26_method_1_code 44 = .ok (.putfield 29, 3) := by decide +kernel
theorem d2_47 : decode prog_26_method_1_code 47 = .ok (.aload_n 0, 1) := by decide +kernel
theorem d2_48 : decode prog_26_method_1_code 48 = .ok (.iload_n 2, 1) := by decide +kernel
theorem d2_49 : decode prog_26_method_1_code 49 = .ok (.sipush 256, 3) := by decide +kernel
theorem d2_52 : decode prog_26_method_1_code 52 = .ok (.invokestatic 23, 3) := by decide +kernel
theorem d2_55 : decode prog_26_method_1_code 55 = .ok (.newarray .int, 2) := by decide +kernel
theorem d2_57 : decode prog_26_method_1_code 57 = .ok (.putfield 33, 3) := by decide +kernel
theorem d2_60 : decode prog_26_method_1_code 60 = .ok (.return_, 1) := by decide +kernel
theorem pn_0 : plainName "com/example/rida/rida/io/LineBlock" = true := by first | (simp [plainName, overriddenIn]; done) | decide +kernel
theorem pd_0 : parseMethodDescriptor "(II)I" = some ⟨[.int, .int], some .int⟩ := by decide +kernel
theorem ef_2 (m : MethodId) (x0 : Addr) (x1 : Int32) (x2 : Int32) : entryFrame m #[(.ref x0), (.int x1), (.int x2)] 3 = mkF m 0 #[.val (.ref x0), .val (.int x1), .val (.int x2)] [] := by first | (simp [entryFrame, mkF, argsToLocals, Value.category]; done) | rfl
def Q2 (Z : State) (a0 : Addr) (q1 : Int32) (q2 : Int32) (h0 : Heap) (n0 : Nat) (v : Option Value) (h : Heap) (L : List Loc) : Prop := ∃ (bv : Addr) (t9 : Addr) (k9 : ClassId), v = none ∧ Fr n0 L ∧ Keep h0 h [a0] ∧ Fld Z h a0 "com/example/rida/rida/io/LineBlock" "bytes" "[B" (.ref bv) ∧ Fld Z h a0 "com/example/rida/rida/io/LineBlock" "ends" "[I" (.ref t9) ∧ Fld Z h a0 "com/example/rida/rida/io/LineBlock" "count" "I" (.int (0 : Int32)) ∧ Fld Z h a0 "com/example/rida/rida/io/LineBlock" "origin" "I" (.int (0 : Int32)) ∧ Fld Z h a0 "com/example/rida/rida/io/LineBlock" "firstNumber" "J" (.long (0 : Int64)) ∧ Fld Z h a0 "com/example/rida/rida/io/LineBlock" "sees" "Z" (.int (0 : Int32)) ∧ Arv Z h t9 k9 .int q2 (List.replicate q2.toNatClampNeg (.int (0 : Int32))) (.int (0 : Int32)) ∧ h0.size ≤ t9
set_option maxHeartbeats 40000000 in
theorem rm2 (l : Launch) (Z : State) (aZ : Array Value) (hw : ∀ d ∈ tables_1, d.before aZ Z = true) (ws : List Jvm.Cond) (a0 : Addr) (q1 : Int32) (q2 : Int32) (h0 : Heap) (n0 : Nat) (Z0 : n0 ≤ h0.size) (E1 : Exa Z h0 a0 "com/example/rida/rida/io/LineBlock") (F1 : Fld Z h0 a0 "com/example/rida/rida/io/LineBlock" "capacity" "I" (.int (0 : Int32))) (F2 : Fld Z h0 a0 "com/example/rida/rida/io/LineBlock" "maxLines" "I" (.int (0 : Int32))) (F3 : Fld Z h0 a0 "com/example/rida/rida/io/LineBlock" "bytes" "[B" .null) (F4 : Fld Z h0 a0 "com/example/rida/rida/io/LineBlock" "ends" "[I" .null) (F5 : Fld Z h0 a0 "com/example/rida/rida/io/LineBlock" "count" "I" (.int (0 : Int32))) (F6 : Fld Z h0 a0 "com/example/rida/rida/io/LineBlock" "origin" "I" (.int (0 : Int32))) (F7 : Fld Z h0 a0 "com/example/rida/rida/io/LineBlock" "firstNumber" "J" (.long (0 : Int64))) (F8 : Fld Z h0 a0 "com/example/rida/rida/io/LineBlock" "sees" "Z" (.int (0 : Int32))) (h16 : q1 = (16 : Int32)) (hlo : ¬ (q2 < (1 : Int32))) (hhi : ¬ ((4 : Int32) < q2)) (g_a0 : n0 ≤ a0) :
    MetFree l (⟨"com/example/rida/rida/io/LineBlock", "<init>", "(II)V"⟩ : MethodName) (head1 (Jvm.Cond.code (⟨"com/example/rida/rida/io/LineBlock", "<init>", "(II)V"⟩ : MethodName) prog_26_method_1_code 3 none :: ws) ({ frames := 1, cells := 2, slots := 20, locals := 14 } : Room)) (fun a U => a = #[(.ref a0), (.int q1), (.int q2)] ∧ Z.Warmed39 U.vm ∧ U.heap = h0) (fun _ _ _ _ _ => True) (fun _ U o U' => ∃ v L, o = .returned v ∧ Q2 Z a0 q1 q2 h0 n0 v U'.heap L ∧ FrameEnd U o U' L ({ frames := 1, cells := 2, slots := 20, locals := 14 } : Room).cells ({ frames := 1, cells := 2, slots := 20, locals := 14 } : Room).slots) := by
  refine MetFree.of_bodySF (plainFor_of_name pn_0) hisR ?_
  intro p e s m args below meth c s₁ Bd hml0 hP hK
  obtain ⟨rfl, hZ, hh⟩ := hP
  have hx := Bd.exec
  have hby := Bd.bytes
  have hret := Bd.returns
  have hlk : meth.locks = false := BodyLoose.notSynchronized Bd
  have hml : c.maxLocals = 3 := hml0
  have hown : s.vm.findClass "com/example/rida/rida/io/LineBlock" = some m.cls := findClass_of_methodNamed Bd.named
  have hnm := (name_of_methodNamed Bd.named Bd.method).1
  have X0 : Stand p l e ({ frames := 1, cells := 2, slots := 20, locals := 14 } : Room) s m #[(.ref a0), (.int q1), (.int q2)] below meth c s₁ [] 0 0 := Stand.of_body Bd
  have e0 : s₁.heap = h0 := by rw [← hh, Bd.state]; rfl
  have N0 := Fr.nil n0
  have K0 : Keep h0 h0 [a0] := Keep.refl _ _
  have pre0 : ∀ t, Steps p.tables e below (s₁.setTop (mkF m 0 #[.val (.ref a0), .val (.int q1), .val (.int q2)] [])) t → Steps p.tables e below (s₁.setTop (entryFrame m #[(.ref a0), (.int q1), (.int q2)] 3)) t := fun t k => castTop (ef_2 m a0 q1 q2) k
  show OFin p e below s (Q2 Z a0 q1 q2 h0 n0) ({ frames := 1, cells := 2, slots := 20, locals := 14 } : Room).cells ({ frames := 1, cells := 2, slots := 20, locals := 14 } : Room).slots _
  refine OFin.go pre0 ?_
  have sg101 : ∀ t, Steps p.tables e below (s₁.setTop (mkF m 1 #[.val (.ref a0), .val (.int q1), .val (.int q2)] [(.ref a0)])) t → Steps p.tables e below (s₁.setTop (mkF m 0 #[.val (.ref a0), .val (.int q1), .val (.int q2)] [])) t := by
    intro t k
    show Steps p.tables e below (s₁.setTop (mkF m 0 #[.val (.ref a0), .val (.int q1), .val (.int q2)] [])) t
    refine XS.aloadN X0.here hx rfl (hb hby d2_0) rfl rfl ?_
    exact k
  refine OFin.go sg101 ?_
  obtain ⟨T102, X102, e102, st102⟩ := initO X0 hx hZ hown (hw _ (List.mem_of_getElem? (i := 11) rfl)) (hw _ (List.mem_of_getElem? (i := 12) rfl)) (hw _ (List.mem_of_getElem? (i := 13) rfl)) e0 (g := (mkF m 1 #[.val (.ref a0), .val (.int q1), .val (.int q2)] [(.ref a0)])) rfl (by rw [hml]; rfl) rfl (hb hby d2_1) (by decide) (W := 0) (by show 2 * 0 + _ ≤ _; exact Nat.le_of_eq rfl) (by decide)
  refine OFin.go st102 ?_
  have sg104 : ∀ t, Steps p.tables e below (T102.setTop (mkF m 6 #[.val (.ref a0), .val (.int q1), .val (.int q2)] [(.int (1 : Int32)), (.int q1)])) t → Steps p.tables e below (T102.setTop (mkF m 4 #[.val (.ref a0), .val (.int q1), .val (.int q2)] [])) t := by
    intro t k
    show Steps p.tables e below (T102.setTop (mkF m 4 #[.val (.ref a0), .val (.int q1), .val (.int q2)] [])) t
    refine XS.iloadN X102.here hx rfl (hb hby d2_4) rfl ?_
    show Steps p.tables e below (T102.setTop (mkF m 5 #[.val (.ref a0), .val (.int q1), .val (.int q2)] [(.int q1)])) t
    refine XS.iconst X102.here hx rfl (hb hby d2_5) ?_
    exact k
  refine OFin.go sg104 ?_
  have c103 : ¬ (q1 < (1 : Int32)) := (by rw [h16]; decide)
  have sg106 : ∀ t, Steps p.tables e below (T102.setTop (mkF m 11 #[.val (.ref a0), .val (.int q1), .val (.int q2)] [(.int (1 : Int32)), (.int q2)])) t → Steps p.tables e below (T102.setTop (mkF m 6 #[.val (.ref a0), .val (.int q1), .val (.int q2)] [(.int (1 : Int32)), (.int q1)])) t := by
    intro t k
    show Steps p.tables e below (T102.setTop (mkF m 6 #[.val (.ref a0), .val (.int q1), .val (.int q2)] [(.int (1 : Int32)), (.int q1)])) t
    refine XS.icmpNo X102.here hx rfl (hb hby d2_6) rfl (flt c103).1 ?_
    show Steps p.tables e below (T102.setTop (mkF m 9 #[.val (.ref a0), .val (.int q1), .val (.int q2)] [])) t
    refine XS.iloadN X102.here hx rfl (hb hby d2_9) rfl ?_
    show Steps p.tables e below (T102.setTop (mkF m 10 #[.val (.ref a0), .val (.int q1), .val (.int q2)] [(.int q2)])) t
    refine XS.iconst X102.here hx rfl (hb hby d2_10) ?_
    exact k
  refine OFin.go sg106 ?_
  have c105 : ¬ (q2 < (1 : Int32)) := hlo
  have sg107 : ∀ t, Steps p.tables e below (T102.setTop (mkF m 26 #[.val (.ref a0), .val (.int q1), .val (.int q2)] [(.int q1), (.ref a0)])) t → Steps p.tables e below (T102.setTop (mkF m 11 #[.val (.ref a0), .val (.int q1), .val (.int q2)] [(.int (1 : Int32)), (.int q2)])) t := by
    intro t k
    show Steps p.tables e below (T102.setTop (mkF m 11 #[.val (.ref a0), .val (.int q1), .val (.int q2)] [(.int (1 : Int32)), (.int q2)])) t
    refine XS.icmpYes X102.here hx rfl (pc0 := 11) (pc' := 24) rfl (hb hby d2_11) rfl (flt c105).2.1 (by decide) (by decide) ?_
    show Steps p.tables e below (T102.setTop (mkF m 24 #[.val (.ref a0), .val (.int q1), .val (.int q2)] [])) t
    refine XS.aloadN X102.here hx rfl (hb hby d2_24) rfl rfl ?_
    show Steps p.tables e below (T102.setTop (mkF m 25 #[.val (.ref a0), .val (.int q1), .val (.int q2)] [(.ref a0)])) t
    refine XS.iloadN X102.here hx rfl (hb hby d2_25) rfl ?_
    exact k
  refine OFin.go sg107 ?_
  obtain ⟨T108, h108, X108, e108, W108, st108⟩ := putF X102 hx hZ hown (host := "") (Or.inl (hw _ (List.mem_of_getElem? (i := 14) rfl))) Via.refl e102 F1 E1 (Or.inr ⟨(hw _ (List.mem_of_getElem? (i := 15) rfl)), rfl, hnm⟩) (hw _ (List.mem_of_getElem? (i := 6) rfl)) (ty := .int) (by decide) rfl rfl (g := (mkF m 26 #[.val (.ref a0), .val (.int q1), .val (.int q2)] [(.int q1), (.ref a0)])) rfl rfl (hb hby d2_26)
  refine OFin.go st108 ?_
  have F108 := F1.same W108
  have K108 : Keep h0 h108 [a0] := K0.wr W108 (Or.inl (List.mem_of_getElem? (i := 0) rfl))
  have N108 := Fr.snoc X108 N0 g_a0
  have sg109 : ∀ t, Steps p.tables e below (T108.setTop (mkF m 31 #[.val (.ref a0), .val (.int q1), .val (.int q2)] [(.int q2), (.ref a0)])) t → Steps p.tables e below (T108.setTop (mkF m 29 #[.val (.ref a0), .val (.int q1), .val (.int q2)] [])) t := by
    intro t k
    show Steps p.tables e below (T108.setTop (mkF m 29 #[.val (.ref a0), .val (.int q1), .val (.int q2)] [])) t
    refine XS.aloadN X108.here hx rfl (hb hby d2_29) rfl rfl ?_
    show Steps p.tables e below (T108.setTop (mkF m 30 #[.val (.ref a0), .val (.int q1), .val (.int q2)] [(.ref a0)])) t
    refine XS.iloadN X108.here hx rfl (hb hby d2_30) rfl ?_
    exact k
  refine OFin.go sg109 ?_
  obtain ⟨T110, h110, X110, e110, W110, st110⟩ := putF X108 hx hZ hown (host := "") (Or.inl (hw _ (List.mem_of_getElem? (i := 16) rfl))) Via.refl e108 (F2.other W108 (Or.inr (slot_ne (Or.inr (hw _ (List.mem_of_getElem? (i := 17) rfl))) (Or.inr (hw _ (List.mem_of_getElem? (i := 15) rfl))) (by decide) (t := .int) (t' := .int) (by decide) (by decide)))) (E1.wr W108) (Or.inr ⟨(hw _ (List.mem_of_getElem? (i := 17) rfl)), rfl, hnm⟩) (hw _ (List.mem_of_getElem? (i := 6) rfl)) (ty := .int) (by decide) rfl rfl (g := (mkF m 31 #[.val (.ref a0), .val (.int q1), .val (.int q2)] [(.int q2), (.ref a0)])) rfl rfl (hb hby d2_31)
  refine OFin.go st110 ?_
  have F110 := (F2.other W108 (Or.inr (slot_ne (Or.inr (hw _ (List.mem_of_getElem? (i := 17) rfl))) (Or.inr (hw _ (List.mem_of_getElem? (i := 15) rfl))) (by decide) (t := .int) (t' := .int) (by decide) (by decide)))).same W110
  have K110 : Keep h0 h110 [a0] := K108.wr W110 (Or.inl (List.mem_of_getElem? (i := 0) rfl))
  have N110 := Fr.snoc X110 N108 g_a0
  have sg111 : ∀ t, Steps p.tables e below (T110.setTop (mkF m 39 #[.val (.ref a0), .val (.int q1), .val (.int q2)] [(.int (8192 : Int32)), (.int q1), (.ref a0)])) t → Steps p.tables e below (T110.setTop (mkF m 34 #[.val (.ref a0), .val (.int q1), .val (.int q2)] [])) t := by
    intro t k
    show Steps p.tables e below (T110.setTop (mkF m 34 #[.val (.ref a0), .val (.int q1), .val (.int q2)] [])) t
    refine XS.aloadN X110.here hx rfl (hb hby d2_34) rfl rfl ?_
    show Steps p.tables e below (T110.setTop (mkF m 35 #[.val (.ref a0), .val (.int q1), .val (.int q2)] [(.ref a0)])) t
    refine XS.iloadN X110.here hx rfl (hb hby d2_35) rfl ?_
    show Steps p.tables e below (T110.setTop (mkF m 36 #[.val (.ref a0), .val (.int q1), .val (.int q2)] [(.int q1), (.ref a0)])) t
    refine XS.sipush X110.here hx rfl (hb hby d2_36) ?_
    exact k
  refine OFin.go sg111 ?_
  obtain ⟨_, _, ⟨T112, L112, k112, n112⟩, -, X112, ⟨Lc112, hQ112, l112, y112, z112⟩, st112⟩ := Jvm.LawKit.callS X110 hx (y := (⟨"java/lang/Math", "min", "(II)I"⟩ : MethodName)) hown (mvT hZ (hw _ (List.mem_of_getElem? (i := 18) rfl))) (mvT hZ (hw _ (List.mem_of_getElem? (i := 1) rfl))) (mvT hZ (hw _ (List.mem_of_getElem? (i := 2) rfl))) (mvT hZ (hw _ (List.mem_of_getElem? (i := 3) rfl))) (by decide) (backOf (W := 1) (rm1 l Z aZ hw [] q1 (8192 : Int32) h110 n0 (Nat.le_trans Z0 K110.1) ) hZ (hw _ (List.mem_of_getElem? (i := 3) rfl)) (hw _ (List.mem_of_getElem? (i := 2) rfl)) (by decide) (by decide)) (g := (mkF m 39 #[.val (.ref a0), .val (.int q1), .val (.int q2)] [(.int (8192 : Int32)), (.int q1), (.ref a0)])) rfl (by rw [hml]; rfl) (argsL := [(.int q1), (.int (8192 : Int32))]) (rest := [(.ref a0)]) (lenOf pd_0 rfl) rfl (by show 2 * 0 + _ ≤ _; exact Nat.le_of_eq rfl) (hb hby d2_39) (fun _ _ => ⟨rfl, e110, (by decide : 0 + 0 ≤ _), (by decide : 0 + 0 ≤ _)⟩)
  dsimp only [Pt.U, Pt.locs, Pt.cells, Pt.slots] at X112 l112 y112 z112 st112 hQ112
  subst l112 y112 z112
  obtain ⟨rfl, N112q, e112⟩ := hQ112
  have N112 := Fr.app N110 N112q
  refine OFin.go st112 ?_
  obtain ⟨T113, h113, k113, X113, e113, E113, A113, st113⟩ := newP X112 hx hZ (hw _ (List.mem_of_getElem? (i := 4) rfl)) e112 (g := (mkF m 42 #[.val (.ref a0), .val (.int q1), .val (.int q2)] [(.int (own_f1 q1 (8192 : Int32))), (.ref a0)])) rfl (hb hby d2_42) rfl (by rw [own_min, h16]; decide) (cap := 16) (by rw [own_min, h16]; decide) (by decide) (by decide) (by decide)
  obtain ⟨b113, g113⟩ : ∃ z, z = h110.size := ⟨_, rfl⟩
  rw [← g113] at A113 st113
  refine OFin.go st113 ?_
  have g_b113 : n0 ≤ b113 := Nat.le_trans (Nat.le_trans Z0 K110.1) (Nat.le_of_eq g113.symm)
  have sz_b113 : h0.size ≤ b113 := Nat.le_trans K110.1 (Nat.le_of_eq g113.symm)
  have K113 : Keep h0 h113 [a0] := K110.ext E113
  have V113 : Arv Z h113 b113 k113 .byte (own_f1 q1 (8192 : Int32)) [] (.int (0 : Int32)) := Arv.new A113 (by rw [own_min, h16]; decide)
  obtain ⟨T114, h114, X114, e114, W114, st114⟩ := putF X113 hx hZ hown (host := "") (Or.inl (hw _ (List.mem_of_getElem? (i := 19) rfl))) Via.refl e113 (((F3.other W108 (Or.inr (slot_ne (Or.inl (hw _ (List.mem_of_getElem? (i := 20) rfl))) (Or.inr (hw _ (List.mem_of_getElem? (i := 15) rfl))) (by decide) (t := (.array .byte)) (t' := .int) (by decide) (by decide)))).other W110 (Or.inr (slot_ne (Or.inl (hw _ (List.mem_of_getElem? (i := 20) rfl))) (Or.inr (hw _ (List.mem_of_getElem? (i := 17) rfl))) (by decide) (t := (.array .byte)) (t' := .int) (by decide) (by decide)))).ext E113) (((E1.wr W108).wr W110).ext E113) (Or.inl (hw _ (List.mem_of_getElem? (i := 20) rfl))) (hw _ (List.mem_of_getElem? (i := 6) rfl)) (ty := (.array .byte)) (by decide) rfl rfl (g := (mkF m 44 #[.val (.ref a0), .val (.int q1), .val (.int q2)] [(.ref b113), (.ref a0)])) rfl rfl (hb hby d2_44)
  refine OFin.go st114 ?_
  have F114 := (((F3.other W108 (Or.inr (slot_ne (Or.inl (hw _ (List.mem_of_getElem? (i := 20) rfl))) (Or.inr (hw _ (List.mem_of_getElem? (i := 15) rfl))) (by decide) (t := (.array .byte)) (t' := .int) (by decide) (by decide)))).other W110 (Or.inr (slot_ne (Or.inl (hw _ (List.mem_of_getElem? (i := 20) rfl))) (Or.inr (hw _ (List.mem_of_getElem? (i := 17) rfl))) (by decide) (t := (.array .byte)) (t' := .int) (by decide) (by decide)))).ext E113).same W114
  have K114 : Keep h0 h114 [a0] := K113.wr W114 (Or.inl (List.mem_of_getElem? (i := 0) rfl))
  have N114 := Fr.snoc X114 N112 g_a0
  have sg115 : ∀ t, Steps p.tables e below (T114.setTop (mkF m 52 #[.val (.ref a0), .val (.int q1), .val (.int q2)] [(.int (256 : Int32)), (.int q2), (.ref a0)])) t → Steps p.tables e below (T114.setTop (mkF m 47 #[.val (.ref a0), .val (.int q1), .val (.int q2)] [])) t := by
    intro t k
    show Steps p.tables e below (T114.setTop (mkF m 47 #[.val (.ref a0), .val (.int q1), .val (.int q2)] [])) t
    refine XS.aloadN X114.here hx rfl (hb hby d2_47) rfl rfl ?_
    show Steps p.tables e below (T114.setTop (mkF m 48 #[.val (.ref a0), .val (.int q1), .val (.int q2)] [(.ref a0)])) t
    refine XS.iloadN X114.here hx rfl (hb hby d2_48) rfl ?_
    show Steps p.tables e below (T114.setTop (mkF m 49 #[.val (.ref a0), .val (.int q1), .val (.int q2)] [(.int q2), (.ref a0)])) t
    refine XS.sipush X114.here hx rfl (hb hby d2_49) ?_
    exact k
  refine OFin.go sg115 ?_
  obtain ⟨_, _, ⟨T116, L116, k116, n116⟩, -, X116, ⟨Lc116, hQ116, l116, y116, z116⟩, st116⟩ := Jvm.LawKit.callS X114 hx (y := (⟨"java/lang/Math", "min", "(II)I"⟩ : MethodName)) hown (mvT hZ (hw _ (List.mem_of_getElem? (i := 18) rfl))) (mvT hZ (hw _ (List.mem_of_getElem? (i := 1) rfl))) (mvT hZ (hw _ (List.mem_of_getElem? (i := 2) rfl))) (mvT hZ (hw _ (List.mem_of_getElem? (i := 3) rfl))) (by decide) (backOf (W := 1) (rm1 l Z aZ hw [] q2 (256 : Int32) h114 n0 (Nat.le_trans Z0 K114.1) ) hZ (hw _ (List.mem_of_getElem? (i := 3) rfl)) (hw _ (List.mem_of_getElem? (i := 2) rfl)) (by decide) (by decide)) (g := (mkF m 52 #[.val (.ref a0), .val (.int q1), .val (.int q2)] [(.int (256 : Int32)), (.int q2), (.ref a0)])) rfl (by rw [hml]; rfl) (argsL := [(.int q2), (.int (256 : Int32))]) (rest := [(.ref a0)]) (lenOf pd_0 rfl) rfl (by show 2 * 0 + _ ≤ _; exact Nat.le_of_eq rfl) (hb hby d2_52) (fun _ _ => ⟨rfl, e114, (by decide : 1 + 0 ≤ _), (by decide : 16 + 0 ≤ _)⟩)
  dsimp only [Pt.U, Pt.locs, Pt.cells, Pt.slots] at X116 l116 y116 z116 st116 hQ116
  subst l116 y116 z116
  obtain ⟨rfl, N116q, e116⟩ := hQ116
  have N116 := Fr.app N114 N116q
  refine OFin.go st116 ?_
  have hmin : own_f1 q2 (256 : Int32) = q2 := by
    rw [own_min, if_neg]
    rw [Int32.lt_iff_toInt_lt] at *
    simp only [show (256 : Int32).toInt = 256 from rfl, show (4 : Int32).toInt = 4 from rfl, show (1 : Int32).toInt = 1 from rfl] at *
    omega
  obtain ⟨T117, h117, k117, X117, e117, E117, A117, st117⟩ := newP X116 hx hZ (hw _ (List.mem_of_getElem? (i := 21) rfl)) e116 (g := (mkF m 55 #[.val (.ref a0), .val (.int q1), .val (.int q2)] [(.int (own_f1 q2 (256 : Int32))), (.ref a0)])) rfl (hb hby d2_55) rfl (by rw [hmin]; exact own_nn hlo) (cap := 4) (by rw [hmin]; exact own_c4 hhi) (by decide) (by decide) (by decide)
  obtain ⟨b117, g117⟩ : ∃ z, z = h114.size := ⟨_, rfl⟩
  rw [← g117] at A117 st117
  refine OFin.go st117 ?_
  have g_b117 : n0 ≤ b117 := Nat.le_trans (Nat.le_trans Z0 K114.1) (Nat.le_of_eq g117.symm)
  have sz_b117 : h0.size ≤ b117 := Nat.le_trans K114.1 (Nat.le_of_eq g117.symm)
  have K117 : Keep h0 h117 [a0] := K114.ext E117
  have V117 : Arv Z h117 b117 k117 .int (own_f1 q2 (256 : Int32)) [] (.int (0 : Int32)) := Arv.new A117 (by rw [hmin]; exact own_nn hlo)
  have Vp118 : Arv Z h117 b117 k117 .int q2 (List.replicate q2.toNatClampNeg (.int (0 : Int32))) (.int (0 : Int32)) := by
    have z := (V117).pad (pad_rep [] (.int (0 : Int32)) q2.toNatClampNeg)
    rw [hmin] at z
    exact z
  obtain ⟨T119, h119, X119, e119, W119, st119⟩ := putF X117 hx hZ hown (host := "") (Or.inl (hw _ (List.mem_of_getElem? (i := 22) rfl))) Via.refl e117 (((((F4.other W108 (Or.inr (slot_ne (Or.inl (hw _ (List.mem_of_getElem? (i := 23) rfl))) (Or.inr (hw _ (List.mem_of_getElem? (i := 15) rfl))) (by decide) (t := (.array .int)) (t' := .int) (by decide) (by decide)))).other W110 (Or.inr (slot_ne (Or.inl (hw _ (List.mem_of_getElem? (i := 23) rfl))) (Or.inr (hw _ (List.mem_of_getElem? (i := 17) rfl))) (by decide) (t := (.array .int)) (t' := .int) (by decide) (by decide)))).ext E113).other W114 (Or.inr (slot_ne (Or.inl (hw _ (List.mem_of_getElem? (i := 23) rfl))) (Or.inl (hw _ (List.mem_of_getElem? (i := 20) rfl))) (by decide) (t := (.array .int)) (t' := (.array .byte)) (by decide) (by decide)))).ext E117) (((((E1.wr W108).wr W110).ext E113).wr W114).ext E117) (Or.inl (hw _ (List.mem_of_getElem? (i := 23) rfl))) (hw _ (List.mem_of_getElem? (i := 6) rfl)) (ty := (.array .int)) (by decide) rfl rfl (g := (mkF m 57 #[.val (.ref a0), .val (.int q1), .val (.int q2)] [(.ref b117), (.ref a0)])) rfl rfl (hb hby d2_57)
  refine OFin.go st119 ?_
  have F119 := (((((F4.other W108 (Or.inr (slot_ne (Or.inl (hw _ (List.mem_of_getElem? (i := 23) rfl))) (Or.inr (hw _ (List.mem_of_getElem? (i := 15) rfl))) (by decide) (t := (.array .int)) (t' := .int) (by decide) (by decide)))).other W110 (Or.inr (slot_ne (Or.inl (hw _ (List.mem_of_getElem? (i := 23) rfl))) (Or.inr (hw _ (List.mem_of_getElem? (i := 17) rfl))) (by decide) (t := (.array .int)) (t' := .int) (by decide) (by decide)))).ext E113).other W114 (Or.inr (slot_ne (Or.inl (hw _ (List.mem_of_getElem? (i := 23) rfl))) (Or.inl (hw _ (List.mem_of_getElem? (i := 20) rfl))) (by decide) (t := (.array .int)) (t' := (.array .byte)) (by decide) (by decide)))).ext E117).same W119
  have K119 : Keep h0 h119 [a0] := K117.wr W119 (Or.inl (List.mem_of_getElem? (i := 0) rfl))
  have N119 := Fr.snoc X119 N116 g_a0
  exact OFin.retV X119 hx hret hlk (hb hby d2_60) (by rw [e119]; exact ⟨b113, b117, k117, rfl, N119, K119, ((F114.ext E117).other W119 (Or.inr (slot_ne (Or.inl (hw _ (List.mem_of_getElem? (i := 20) rfl))) (Or.inl (hw _ (List.mem_of_getElem? (i := 23) rfl))) (by decide) (t := (.array .byte)) (t' := (.array .int)) (by decide) (by decide)))), F119, ((((((F5.other W108 (Or.inr (slot_ne (Or.inl (hw _ (List.mem_of_getElem? (i := 30) rfl))) (Or.inr (hw _ (List.mem_of_getElem? (i := 15) rfl))) (by decide) (t := .int) (t' := .int) (by decide) (by decide)))).other W110 (Or.inr (slot_ne (Or.inl (hw _ (List.mem_of_getElem? (i := 30) rfl))) (Or.inr (hw _ (List.mem_of_getElem? (i := 17) rfl))) (by decide) (t := .int) (t' := .int) (by decide) (by decide)))).ext E113).other W114 (Or.inr (slot_ne (Or.inl (hw _ (List.mem_of_getElem? (i := 30) rfl))) (Or.inl (hw _ (List.mem_of_getElem? (i := 20) rfl))) (by decide) (t := .int) (t' := (.array .byte)) (by decide) (by decide)))).ext E117).other W119 (Or.inr (slot_ne (Or.inl (hw _ (List.mem_of_getElem? (i := 30) rfl))) (Or.inl (hw _ (List.mem_of_getElem? (i := 23) rfl))) (by decide) (t := .int) (t' := (.array .int)) (by decide) (by decide)))), ((((((F6.other W108 (Or.inr (slot_ne (Or.inl (hw _ (List.mem_of_getElem? (i := 42) rfl))) (Or.inr (hw _ (List.mem_of_getElem? (i := 15) rfl))) (by decide) (t := .int) (t' := .int) (by decide) (by decide)))).other W110 (Or.inr (slot_ne (Or.inl (hw _ (List.mem_of_getElem? (i := 42) rfl))) (Or.inr (hw _ (List.mem_of_getElem? (i := 17) rfl))) (by decide) (t := .int) (t' := .int) (by decide) (by decide)))).ext E113).other W114 (Or.inr (slot_ne (Or.inl (hw _ (List.mem_of_getElem? (i := 42) rfl))) (Or.inl (hw _ (List.mem_of_getElem? (i := 20) rfl))) (by decide) (t := .int) (t' := (.array .byte)) (by decide) (by decide)))).ext E117).other W119 (Or.inr (slot_ne (Or.inl (hw _ (List.mem_of_getElem? (i := 42) rfl))) (Or.inl (hw _ (List.mem_of_getElem? (i := 23) rfl))) (by decide) (t := .int) (t' := (.array .int)) (by decide) (by decide)))), ((((((F7.other W108 (Or.inr (slot_ne (Or.inl (hw _ (List.mem_of_getElem? (i := 49) rfl))) (Or.inr (hw _ (List.mem_of_getElem? (i := 15) rfl))) (by decide) (t := .long) (t' := .int) (by decide) (by decide)))).other W110 (Or.inr (slot_ne (Or.inl (hw _ (List.mem_of_getElem? (i := 49) rfl))) (Or.inr (hw _ (List.mem_of_getElem? (i := 17) rfl))) (by decide) (t := .long) (t' := .int) (by decide) (by decide)))).ext E113).other W114 (Or.inr (slot_ne (Or.inl (hw _ (List.mem_of_getElem? (i := 49) rfl))) (Or.inl (hw _ (List.mem_of_getElem? (i := 20) rfl))) (by decide) (t := .long) (t' := (.array .byte)) (by decide) (by decide)))).ext E117).other W119 (Or.inr (slot_ne (Or.inl (hw _ (List.mem_of_getElem? (i := 49) rfl))) (Or.inl (hw _ (List.mem_of_getElem? (i := 23) rfl))) (by decide) (t := .long) (t' := (.array .int)) (by decide) (by decide)))), ((((((F8.other W108 (Or.inr (slot_ne (Or.inl (hw _ (List.mem_of_getElem? (i := 56) rfl))) (Or.inr (hw _ (List.mem_of_getElem? (i := 15) rfl))) (by decide) (t := .boolean) (t' := .int) (by decide) (by decide)))).other W110 (Or.inr (slot_ne (Or.inl (hw _ (List.mem_of_getElem? (i := 56) rfl))) (Or.inr (hw _ (List.mem_of_getElem? (i := 17) rfl))) (by decide) (t := .boolean) (t' := .int) (by decide) (by decide)))).ext E113).other W114 (Or.inr (slot_ne (Or.inl (hw _ (List.mem_of_getElem? (i := 56) rfl))) (Or.inl (hw _ (List.mem_of_getElem? (i := 20) rfl))) (by decide) (t := .boolean) (t' := (.array .byte)) (by decide) (by decide)))).ext E117).other W119 (Or.inr (slot_ne (Or.inl (hw _ (List.mem_of_getElem? (i := 56) rfl))) (Or.inl (hw _ (List.mem_of_getElem? (i := 23) rfl))) (by decide) (t := .boolean) (t' := (.array .int)) (by decide) (by decide)))), (Vp118.other W119 (Ne.symm (Nat.ne_of_lt (Nat.lt_of_lt_of_le ((((E1.wr W108).wr W110).ext E113).wr W114).lt (Nat.le_of_eq g117.symm))))), sz_b117⟩) (by decide) (by decide)
theorem d6_0 : decode prog_26_method_12_code 0 = .ok (.aload_n 0, 1) := by decide +kernel
theorem d6_1 : decode prog_26_method_12_code 1 = .ok (.getfield 37, 3) := by decide +kernel
theorem d6_4 : decode prog_26_method_12_code 4 = .ok (.aload_n 0, 1) := by decide +kernel
theorem d6_5 : decode prog_26_method_12_code 5 = .ok (.getfield 33, 3) := by decide +kernel
theorem d6_8 : decode prog_26_method_12_code 8 = .ok (.arraylength, 1) := by decide +kernel
theorem d6_9 : decode prog_26_method_12_code 9 = .ok (.if_icmp .ne 33, 3) := by decide +kernel
theorem d6_12 : decode prog_26_method_12_code 12 = .ok (.aload_n 0, 1) := by decide +kernel
theorem d6_13 : decode prog_26_method_12_code 13 = .ok (.aload_n 0, 1) := by decide +kernel
theorem d6_14 : decode prog_26_method_12_code 14 = .ok (.getfield 33, 3) := by decide +kernel
theorem d6_17 : decode prog_26_method_12_code 17 = .ok (.ldc2_w 56, 3) := by decide +kernel
theorem d6_20 : decode prog_26_method_12_code 20 = .ok (.aload_n 0, 1) := by decide +kernel
theorem d6_21 : decode prog_26_method_12_code 21 = .ok (.getfield 33, 3) := by decide +kernel
theorem d6_24 : decode prog_26_method_12_code 24 = .ok (.arraylength, 1) := by decide +kernel
theorem d6_25 : decode prog_26_method_12_code 25 = .ok (.i2l, 1) := by decide +kernel
theorem d6_26 : decode prog_26_method_12_code 26 = .ok (.lmul, 1) := by decide +kernel
theorem d6_27 : decode prog_26_method_12_code 27 = .ok (.aload_n 0, 1) := by decide +kernel
theorem d6_28 : decode prog_26_method_12_code 28 = .ok (.getfield 20, 3) := by decide +kernel
theorem d6_31 : decode prog_26_method_12_code 31 = .ok (.i2l, 1) := by decide +kernel
theorem d6_32 : decode prog_26_method_12_code 32 = .ok (.invokestatic 58, 3) := by decide +kernel
theorem d6_35 : decode prog_26_method_12_code 35 = .ok (.l2i, 1) := by decide +kernel
theorem d6_36 : decode prog_26_method_12_code 36 = .ok (.invokestatic 61, 3) := by decide +kernel
theorem d6_39 : decode prog_26_method_12_code 39 = .ok (.putfield 33, 3) := by decide +kernel
theorem d6_42 : decode prog_26_method_12_code 42 = .ok (.aload_n 0, 1) := by decide +kernel
theorem d6_43 : decode prog_26_method_12_code 43 = .ok (.getfield 33, 3) := by decide +kernel
theorem d6_46 : decode prog_26_method_12_code 46 = .ok (.aload_n 0, 1) := by decide +kernel
theorem d6_47 : decode prog_26_method_12_code 47 = .ok (.getfield 37, 3) := by decide +kernel
theorem d6_50 : decode prog_26_method_12_code 50 = .ok (.iload_n 1, 1) := by decide +kernel
theorem d6_51 : decode prog_26_method_12_code 51 = .ok (.iastore, 1) := by decide +kernel
theorem d6_52 : decode prog_26_method_12_code 52 = .ok (.aload_n 0, 1) := by decide +kernel
theorem d6_53 : decode prog_26_method_12_code 53 = .ok (.dup, 1) := by decide +kernel
theorem d6_54 : decode prog_26_method_12_code 54 = .ok (.getfield 37, 3) := by decide +kernel
theorem d6_57 : decode prog_26_method_12_code 57 = .ok (.iconst 1, 1) := by decide +kernel
theorem d6_58 : decode prog_26_method_12_code 58 = .ok (.iadd, 1) := by decide +kernel
theorem d6_59 : decode prog_26_method_12_code 59 = .ok (.putfield 37, 3) := by decide +kernel
theorem d6_62 : decode prog_26_method_12_code 62 = .ok (.return_, 1) := by decide +kernel
theorem ef_6 (m : MethodId) (x0 : Addr) (x1 : Int32) : entryFrame m #[(.ref x0), (.int x1)] 2 = mkF m 0 #[.val (.ref x0), .val (.int x1)] [] := by first | (simp [entryFrame, mkF, argsToLocals, Value.category]; done) | rfl
def Q6 (Z : State) (a0 : Addr) (q1 : Int32) (t9 : Addr) (k9 : ClassId) (n9 : Int32) (vs9 : List Value) (c9 : Int32) (o9 : Int32) (bv9 : Value) (sv9 : Value) (fv9 : Value) (h0 : Heap) (n0 : Nat) (v : Option Value) (h : Heap) (L : List Loc) : Prop := v = none ∧ Fr n0 L ∧ Keep h0 h [a0, t9] ∧ Fld Z h a0 "com/example/rida/rida/io/LineBlock" "bytes" "[B" bv9 ∧ Fld Z h a0 "com/example/rida/rida/io/LineBlock" "ends" "[I" (.ref t9) ∧ Fld Z h a0 "com/example/rida/rida/io/LineBlock" "count" "I" (.int (c9 + (1 : Int32))) ∧ Fld Z h a0 "com/example/rida/rida/io/LineBlock" "origin" "I" (.int o9) ∧ Fld Z h a0 "com/example/rida/rida/io/LineBlock" "firstNumber" "J" fv9 ∧ Fld Z h a0 "com/example/rida/rida/io/LineBlock" "sees" "Z" sv9 ∧ Arv Z h t9 k9 .int n9 (vs9.set c9.toNatClampNeg (.int q1)) (.int (0 : Int32))
set_option maxHeartbeats 40000000 in
theorem rm6 (l : Launch) (Z : State) (aZ : Array Value) (hw : ∀ d ∈ tables_1, d.before aZ Z = true) (ws : List Jvm.Cond) (a0 : Addr) (q1 : Int32) (t9 : Addr) (k9 : ClassId) (n9 : Int32) (vs9 : List Value) (c9 : Int32) (o9 : Int32) (bv9 : Value) (sv9 : Value) (fv9 : Value) (h0 : Heap) (n0 : Nat) (Z0 : n0 ≤ h0.size) (E1 : Exa Z h0 a0 "com/example/rida/rida/io/LineBlock") (F3 : Fld Z h0 a0 "com/example/rida/rida/io/LineBlock" "bytes" "[B" bv9) (F4 : Fld Z h0 a0 "com/example/rida/rida/io/LineBlock" "ends" "[I" (.ref t9)) (F5 : Fld Z h0 a0 "com/example/rida/rida/io/LineBlock" "count" "I" (.int c9)) (F6 : Fld Z h0 a0 "com/example/rida/rida/io/LineBlock" "origin" "I" (.int o9)) (F7 : Fld Z h0 a0 "com/example/rida/rida/io/LineBlock" "firstNumber" "J" fv9) (F8 : Fld Z h0 a0 "com/example/rida/rida/io/LineBlock" "sees" "Z" sv9) (V1 : Arv Z h0 t9 k9 .int n9 vs9 (.int (0 : Int32))) (hc : ¬ c9 < 0) (hn : c9 < n9) (hl : vs9.length = n9.toNatClampNeg) (hne : a0 ≠ t9) (g_a0 : n0 ≤ a0) (g_t9 : n0 ≤ t9) :
    MetFree l (⟨"com/example/rida/rida/io/LineBlock", "add", "(I)V"⟩ : MethodName) (head1 (Jvm.Cond.code (⟨"com/example/rida/rida/io/LineBlock", "add", "(I)V"⟩ : MethodName) prog_26_method_12_code 2 none :: ws) ({ frames := 0, cells := 0, slots := 0, locals := 0 } : Room)) (fun a U => a = #[(.ref a0), (.int q1)] ∧ Z.Warmed39 U.vm ∧ U.heap = h0) (fun _ _ _ _ _ => True) (fun _ U o U' => ∃ v L, o = .returned v ∧ Q6 Z a0 q1 t9 k9 n9 vs9 c9 o9 bv9 sv9 fv9 h0 n0 v U'.heap L ∧ FrameEnd U o U' L ({ frames := 0, cells := 0, slots := 0, locals := 0 } : Room).cells ({ frames := 0, cells := 0, slots := 0, locals := 0 } : Room).slots) := by
  refine MetFree.of_bodySF (plainFor_of_name pn_0) hisR ?_
  intro p e s m args below meth c s₁ Bd hml0 hP hK
  obtain ⟨rfl, hZ, hh⟩ := hP
  have hx := Bd.exec
  have hby := Bd.bytes
  have hret := Bd.returns
  have hlk : meth.locks = false := BodyLoose.notSynchronized Bd
  have hml : c.maxLocals = 2 := hml0
  have hown : s.vm.findClass "com/example/rida/rida/io/LineBlock" = some m.cls := findClass_of_methodNamed Bd.named
  have hnm := (name_of_methodNamed Bd.named Bd.method).1
  have X0 : Stand p l e ({ frames := 0, cells := 0, slots := 0, locals := 0 } : Room) s m #[(.ref a0), (.int q1)] below meth c s₁ [] 0 0 := Stand.of_body Bd
  have e0 : s₁.heap = h0 := by rw [← hh, Bd.state]; rfl
  have N0 := Fr.nil n0
  have K0 : Keep h0 h0 [a0, t9] := Keep.refl _ _
  have pre0 : ∀ t, Steps p.tables e below (s₁.setTop (mkF m 0 #[.val (.ref a0), .val (.int q1)] [])) t → Steps p.tables e below (s₁.setTop (entryFrame m #[(.ref a0), (.int q1)] 2)) t := fun t k => castTop (ef_6 m a0 q1) k
  show OFin p e below s (Q6 Z a0 q1 t9 k9 n9 vs9 c9 o9 bv9 sv9 fv9 h0 n0) ({ frames := 0, cells := 0, slots := 0, locals := 0 } : Room).cells ({ frames := 0, cells := 0, slots := 0, locals := 0 } : Room).slots _
  refine OFin.go pre0 ?_
  have sg101 : ∀ t, Steps p.tables e below (s₁.setTop (mkF m 1 #[.val (.ref a0), .val (.int q1)] [(.ref a0)])) t → Steps p.tables e below (s₁.setTop (mkF m 0 #[.val (.ref a0), .val (.int q1)] [])) t := by
    intro t k
    show Steps p.tables e below (s₁.setTop (mkF m 0 #[.val (.ref a0), .val (.int q1)] [])) t
    refine XS.aloadN X0.here hx rfl (hb hby d6_0) rfl rfl ?_
    exact k
  refine OFin.go sg101 ?_
  obtain ⟨T102, X102, e102, st102⟩ := getF X0 hx hZ hown (host := "") (Or.inl (hw _ (List.mem_of_getElem? (i := 29) rfl))) Via.refl e0 F5 (g := (mkF m 1 #[.val (.ref a0), .val (.int q1)] [(.ref a0)])) rfl rfl (hb hby d6_1)
  refine OFin.go st102 ?_
  have sg103 : ∀ t, Steps p.tables e below (T102.setTop (mkF m 5 #[.val (.ref a0), .val (.int q1)] [(.ref a0), (.int c9)])) t → Steps p.tables e below (T102.setTop (mkF m 4 #[.val (.ref a0), .val (.int q1)] [(.int c9)])) t := by
    intro t k
    show Steps p.tables e below (T102.setTop (mkF m 4 #[.val (.ref a0), .val (.int q1)] [(.int c9)])) t
    refine XS.aloadN X102.here hx rfl (hb hby d6_4) rfl rfl ?_
    exact k
  refine OFin.go sg103 ?_
  obtain ⟨T104, X104, e104, st104⟩ := getF X102 hx hZ hown (host := "") (Or.inl (hw _ (List.mem_of_getElem? (i := 22) rfl))) Via.refl e102 F4 (g := (mkF m 5 #[.val (.ref a0), .val (.int q1)] [(.ref a0), (.int c9)])) rfl rfl (hb hby d6_5)
  refine OFin.go st104 ?_
  obtain ⟨cl105, Ar105, q105, S105, M105, H105, G105⟩ := id V1
  have sg107 : ∀ t, Steps p.tables e below (T104.setTop (mkF m 9 #[.val (.ref a0), .val (.int q1)] [(.int n9), (.int c9)])) t → Steps p.tables e below (T104.setTop (mkF m 8 #[.val (.ref a0), .val (.int q1)] [(.ref t9), (.int c9)])) t := by
    intro t k
    show Steps p.tables e below (T104.setTop (mkF m 8 #[.val (.ref a0), .val (.int q1)] [(.ref t9), (.int c9)])) t
    refine X104.arraylength hx (by rw [e104]; exact Ar105.1) (State.isArrayOf_alike hZ.alike Ar105.2.1) (g := (mkF m 8 #[.val (.ref a0), .val (.int q1)] [(.ref t9), (.int c9)])) rfl rfl (hb hby d6_8) _ ?_
    rw [len_of S105 M105]
    exact k
  refine OFin.go sg107 ?_
  have c106 : ¬ (c9 = n9) := (fun q => by rw [q] at hn; exact Int32.lt_irrefl hn)
  have sg108 : ∀ t, Steps p.tables e below (T104.setTop (mkF m 43 #[.val (.ref a0), .val (.int q1)] [(.ref a0)])) t → Steps p.tables e below (T104.setTop (mkF m 9 #[.val (.ref a0), .val (.int q1)] [(.int n9), (.int c9)])) t := by
    intro t k
    show Steps p.tables e below (T104.setTop (mkF m 9 #[.val (.ref a0), .val (.int q1)] [(.int n9), (.int c9)])) t
    refine XS.icmpYes X104.here hx rfl (pc0 := 9) (pc' := 42) rfl (hb hby d6_9) rfl (feq c106).2 (by decide) (by decide) ?_
    show Steps p.tables e below (T104.setTop (mkF m 42 #[.val (.ref a0), .val (.int q1)] [])) t
    refine XS.aloadN X104.here hx rfl (hb hby d6_42) rfl rfl ?_
    exact k
  refine OFin.go sg108 ?_
  obtain ⟨T109, X109, e109, st109⟩ := getF X104 hx hZ hown (host := "") (Or.inl (hw _ (List.mem_of_getElem? (i := 22) rfl))) Via.refl e104 F4 (g := (mkF m 43 #[.val (.ref a0), .val (.int q1)] [(.ref a0)])) rfl rfl (hb hby d6_43)
  refine OFin.go st109 ?_
  have sg110 : ∀ t, Steps p.tables e below (T109.setTop (mkF m 47 #[.val (.ref a0), .val (.int q1)] [(.ref a0), (.ref t9)])) t → Steps p.tables e below (T109.setTop (mkF m 46 #[.val (.ref a0), .val (.int q1)] [(.ref t9)])) t := by
    intro t k
    show Steps p.tables e below (T109.setTop (mkF m 46 #[.val (.ref a0), .val (.int q1)] [(.ref t9)])) t
    refine XS.aloadN X109.here hx rfl (hb hby d6_46) rfl rfl ?_
    exact k
  refine OFin.go sg110 ?_
  obtain ⟨T111, X111, e111, st111⟩ := getF X109 hx hZ hown (host := "") (Or.inl (hw _ (List.mem_of_getElem? (i := 29) rfl))) Via.refl e109 F5 (g := (mkF m 47 #[.val (.ref a0), .val (.int q1)] [(.ref a0), (.ref t9)])) rfl rfl (hb hby d6_47)
  refine OFin.go st111 ?_
  have sg112 : ∀ t, Steps p.tables e below (T111.setTop (mkF m 51 #[.val (.ref a0), .val (.int q1)] [(.int q1), (.int c9), (.ref t9)])) t → Steps p.tables e below (T111.setTop (mkF m 50 #[.val (.ref a0), .val (.int q1)] [(.int c9), (.ref t9)])) t := by
    intro t k
    show Steps p.tables e below (T111.setTop (mkF m 50 #[.val (.ref a0), .val (.int q1)] [(.int c9), (.ref t9)])) t
    refine XS.iloadN X111.here hx rfl (hb hby d6_50) rfl ?_
    exact k
  refine OFin.go sg112 ?_
  obtain ⟨cl113, Ar113, q113, S113, M113, H113, G113⟩ := id V1
  have hin113 : ¬ (c9 < 0 ∨ cl113.slots.size ≤ (c9).toNatClampNeg) := inb_of S113 ⟨hc, hn⟩
  obtain ⟨T113, h113, X113, e113, W113, st113⟩ := stI X111 hx hZ e111 Ar113 (j := c9) hin113 (g := (mkF m 51 #[.val (.ref a0), .val (.int q1)] [(.int q1), (.int c9), (.ref t9)])) rfl rfl (hb hby d6_51)
  refine OFin.go st113 ?_
  have V113 : Arv Z h113 t9 k9 .int n9 (vs9.set c9.toNatClampNeg (.int q1)) (.int (0 : Int32)) := Arv.set Ar113 q113 S113 M113 H113 G113 rfl W113 c9.toNatClampNeg rfl (own_in hc hn hl)
  have K113 : Keep h0 h113 [a0, t9] := K0.wr W113 (Or.inl (List.mem_of_getElem? (i := 1) rfl))
  have N113 := Fr.snoc X113 N0 g_t9
  have sg114 : ∀ t, Steps p.tables e below (T113.setTop (mkF m 54 #[.val (.ref a0), .val (.int q1)] [(.ref a0), (.ref a0)])) t → Steps p.tables e below (T113.setTop (mkF m 52 #[.val (.ref a0), .val (.int q1)] [])) t := by
    intro t k
    show Steps p.tables e below (T113.setTop (mkF m 52 #[.val (.ref a0), .val (.int q1)] [])) t
    refine XS.aloadN X113.here hx rfl (hb hby d6_52) rfl rfl ?_
    show Steps p.tables e below (T113.setTop (mkF m 53 #[.val (.ref a0), .val (.int q1)] [(.ref a0)])) t
    refine XS.dup X113.here hx rfl (hb hby d6_53) rfl rfl ?_
    exact k
  refine OFin.go sg114 ?_
  obtain ⟨T115, X115, e115, st115⟩ := getF X113 hx hZ hown (host := "") (Or.inl (hw _ (List.mem_of_getElem? (i := 29) rfl))) Via.refl e113 (F5.other W113 (Or.inl hne)) (g := (mkF m 54 #[.val (.ref a0), .val (.int q1)] [(.ref a0), (.ref a0)])) rfl rfl (hb hby d6_54)
  refine OFin.go st115 ?_
  have sg116 : ∀ t, Steps p.tables e below (T115.setTop (mkF m 59 #[.val (.ref a0), .val (.int q1)] [(.int (c9 + (1 : Int32))), (.ref a0)])) t → Steps p.tables e below (T115.setTop (mkF m 57 #[.val (.ref a0), .val (.int q1)] [(.int c9), (.ref a0)])) t := by
    intro t k
    show Steps p.tables e below (T115.setTop (mkF m 57 #[.val (.ref a0), .val (.int q1)] [(.int c9), (.ref a0)])) t
    refine XS.iconst X115.here hx rfl (hb hby d6_57) ?_
    show Steps p.tables e below (T115.setTop (mkF m 58 #[.val (.ref a0), .val (.int q1)] [(.int (1 : Int32)), (.int c9), (.ref a0)])) t
    refine XS.iadd X115.here hx rfl (hb hby d6_58) rfl ?_
    exact k
  refine OFin.go sg116 ?_
  obtain ⟨T117, h117, X117, e117, W117, st117⟩ := putF X115 hx hZ hown (host := "") (Or.inl (hw _ (List.mem_of_getElem? (i := 29) rfl))) Via.refl e115 (F5.other W113 (Or.inl hne)) (E1.wr W113) (Or.inl (hw _ (List.mem_of_getElem? (i := 30) rfl))) (hw _ (List.mem_of_getElem? (i := 6) rfl)) (ty := .int) (by decide) rfl rfl (g := (mkF m 59 #[.val (.ref a0), .val (.int q1)] [(.int (c9 + (1 : Int32))), (.ref a0)])) rfl rfl (hb hby d6_59)
  refine OFin.go st117 ?_
  have F117 := (F5.other W113 (Or.inl hne)).same W117
  have K117 : Keep h0 h117 [a0, t9] := K113.wr W117 (Or.inl (List.mem_of_getElem? (i := 0) rfl))
  have N117 := Fr.snoc X117 N113 g_a0
  exact OFin.retV X117 hx hret hlk (hb hby d6_62) (by rw [e117]; exact ⟨rfl, N117, K117, ((F3.other W113 (Or.inl hne)).other W117 (Or.inr (slot_ne (Or.inl (hw _ (List.mem_of_getElem? (i := 20) rfl))) (Or.inl (hw _ (List.mem_of_getElem? (i := 30) rfl))) (by decide) (t := (.array .byte)) (t' := .int) (by decide) (by decide)))), ((F4.other W113 (Or.inl hne)).other W117 (Or.inr (slot_ne (Or.inl (hw _ (List.mem_of_getElem? (i := 23) rfl))) (Or.inl (hw _ (List.mem_of_getElem? (i := 30) rfl))) (by decide) (t := (.array .int)) (t' := .int) (by decide) (by decide)))), F117, ((F6.other W113 (Or.inl hne)).other W117 (Or.inr (slot_ne (Or.inl (hw _ (List.mem_of_getElem? (i := 42) rfl))) (Or.inl (hw _ (List.mem_of_getElem? (i := 30) rfl))) (by decide) (t := .int) (t' := .int) (by decide) (by decide)))), ((F7.other W113 (Or.inl hne)).other W117 (Or.inr (slot_ne (Or.inl (hw _ (List.mem_of_getElem? (i := 49) rfl))) (Or.inl (hw _ (List.mem_of_getElem? (i := 30) rfl))) (by decide) (t := .long) (t' := .int) (by decide) (by decide)))), ((F8.other W113 (Or.inl hne)).other W117 (Or.inr (slot_ne (Or.inl (hw _ (List.mem_of_getElem? (i := 56) rfl))) (Or.inl (hw _ (List.mem_of_getElem? (i := 30) rfl))) (by decide) (t := .boolean) (t' := .int) (by decide) (by decide)))), (V113.other W117 (Ne.symm hne))⟩) (by decide) (by decide)
theorem d7_0 : decode prog_26_method_9_code 0 = .ok (.aload_n 0, 1) := by decide +kernel
theorem d7_1 : decode prog_26_method_9_code 1 = .ok (.iconst 0, 1) := by decide +kernel
theorem d7_2 : decode prog_26_method_9_code 2 = .ok (.putfield 37, 3) := by decide +kernel
theorem d7_5 : decode prog_26_method_9_code 5 = .ok (.aload_n 0, 1) := by decide +kernel
theorem d7_6 : decode prog_26_method_9_code 6 = .ok (.lload_n 1, 1) := by decide +kernel
theorem d7_7 : decode prog_26_method_9_code 7 = .ok (.lconst 1, 1) := by decide +kernel
theorem d7_8 : decode prog_26_method_9_code 8 = .ok (.ladd, 1) := by decide +kernel
theorem d7_9 : decode prog_26_method_9_code 9 = .ok (.putfield 48, 3) := by decide +kernel
theorem d7_12 : decode prog_26_method_9_code 12 = .ok (.aload_n 0, 1) := by decide +kernel
theorem d7_13 : decode prog_26_method_9_code 13 = .ok (.iconst 0, 1) := by decide +kernel
theorem d7_14 : decode prog_26_method_9_code 14 = .ok (.putfield 45, 3) := by decide +kernel
theorem d7_17 : decode prog_26_method_9_code 17 = .ok (.return_, 1) := by decide +kernel
theorem ef_7 (m : MethodId) (x0 : Addr) (x1 : Int64) : entryFrame m #[(.ref x0), (.long x1)] 3 = mkF m 0 #[.val (.ref x0), .val (.long x1), .second] [] := by first | (simp [entryFrame, mkF, argsToLocals, Value.category]; done) | rfl
def Q7 (Z : State) (a0 : Addr) (q1 : Int64) (t9 : Addr) (k9 : ClassId) (n9 : Int32) (vs9 : List Value) (c9 : Int32) (o9 : Int32) (bv9 : Value) (sv9 : Value) (fv9 : Value) (h0 : Heap) (n0 : Nat) (v : Option Value) (h : Heap) (L : List Loc) : Prop := v = none ∧ Fr n0 L ∧ Keep h0 h [a0] ∧ Fld Z h a0 "com/example/rida/rida/io/LineBlock" "bytes" "[B" bv9 ∧ Fld Z h a0 "com/example/rida/rida/io/LineBlock" "ends" "[I" (.ref t9) ∧ Fld Z h a0 "com/example/rida/rida/io/LineBlock" "count" "I" (.int (0 : Int32)) ∧ Fld Z h a0 "com/example/rida/rida/io/LineBlock" "origin" "I" (.int (0 : Int32)) ∧ Fld Z h a0 "com/example/rida/rida/io/LineBlock" "firstNumber" "J" (.long (q1 + (1 : Int64))) ∧ Fld Z h a0 "com/example/rida/rida/io/LineBlock" "sees" "Z" sv9
set_option maxHeartbeats 40000000 in
theorem rm7 (l : Launch) (Z : State) (aZ : Array Value) (hw : ∀ d ∈ tables_1, d.before aZ Z = true) (ws : List Jvm.Cond) (a0 : Addr) (q1 : Int64) (t9 : Addr) (k9 : ClassId) (n9 : Int32) (vs9 : List Value) (c9 : Int32) (o9 : Int32) (bv9 : Value) (sv9 : Value) (fv9 : Value) (h0 : Heap) (n0 : Nat) (Z0 : n0 ≤ h0.size) (E1 : Exa Z h0 a0 "com/example/rida/rida/io/LineBlock") (F3 : Fld Z h0 a0 "com/example/rida/rida/io/LineBlock" "bytes" "[B" bv9) (F4 : Fld Z h0 a0 "com/example/rida/rida/io/LineBlock" "ends" "[I" (.ref t9)) (F5 : Fld Z h0 a0 "com/example/rida/rida/io/LineBlock" "count" "I" (.int c9)) (F6 : Fld Z h0 a0 "com/example/rida/rida/io/LineBlock" "origin" "I" (.int o9)) (F7 : Fld Z h0 a0 "com/example/rida/rida/io/LineBlock" "firstNumber" "J" fv9) (F8 : Fld Z h0 a0 "com/example/rida/rida/io/LineBlock" "sees" "Z" sv9) (V1 : Arv Z h0 t9 k9 .int n9 vs9 (.int (0 : Int32))) (hne : a0 ≠ t9) (g_a0 : n0 ≤ a0) :
    MetFree l (⟨"com/example/rida/rida/io/LineBlock", "clear", "(J)V"⟩ : MethodName) (head1 (Jvm.Cond.code (⟨"com/example/rida/rida/io/LineBlock", "clear", "(J)V"⟩ : MethodName) prog_26_method_9_code 3 none :: ws) ({ frames := 0, cells := 0, slots := 0, locals := 0 } : Room)) (fun a U => a = #[(.ref a0), (.long q1)] ∧ Z.Warmed39 U.vm ∧ U.heap = h0) (fun _ _ _ _ _ => True) (fun _ U o U' => ∃ v L, o = .returned v ∧ Q7 Z a0 q1 t9 k9 n9 vs9 c9 o9 bv9 sv9 fv9 h0 n0 v U'.heap L ∧ FrameEnd U o U' L ({ frames := 0, cells := 0, slots := 0, locals := 0 } : Room).cells ({ frames := 0, cells := 0, slots := 0, locals := 0 } : Room).slots) := by
  refine MetFree.of_bodySF (plainFor_of_name pn_0) hisR ?_
  intro p e s m args below meth c s₁ Bd hml0 hP hK
  obtain ⟨rfl, hZ, hh⟩ := hP
  have hx := Bd.exec
  have hby := Bd.bytes
  have hret := Bd.returns
  have hlk : meth.locks = false := BodyLoose.notSynchronized Bd
  have hml : c.maxLocals = 3 := hml0
  have hown : s.vm.findClass "com/example/rida/rida/io/LineBlock" = some m.cls := findClass_of_methodNamed Bd.named
  have hnm := (name_of_methodNamed Bd.named Bd.method).1
  have X0 : Stand p l e ({ frames := 0, cells := 0, slots := 0, locals := 0 } : Room) s m #[(.ref a0), (.long q1)] below meth c s₁ [] 0 0 := Stand.of_body Bd
  have e0 : s₁.heap = h0 := by rw [← hh, Bd.state]; rfl
  have N0 := Fr.nil n0
  have K0 : Keep h0 h0 [a0] := Keep.refl _ _
  have pre0 : ∀ t, Steps p.tables e below (s₁.setTop (mkF m 0 #[.val (.ref a0), .val (.long q1), .second] [])) t → Steps p.tables e below (s₁.setTop (entryFrame m #[(.ref a0), (.long q1)] 3)) t := fun t k => castTop (ef_7 m a0 q1) k
  show OFin p e below s (Q7 Z a0 q1 t9 k9 n9 vs9 c9 o9 bv9 sv9 fv9 h0 n0) ({ frames := 0, cells := 0, slots := 0, locals := 0 } : Room).cells ({ frames := 0, cells := 0, slots := 0, locals := 0 } : Room).slots _
  refine OFin.go pre0 ?_
  have sg101 : ∀ t, Steps p.tables e below (s₁.setTop (mkF m 2 #[.val (.ref a0), .val (.long q1), .second] [(.int (0 : Int32)), (.ref a0)])) t → Steps p.tables e below (s₁.setTop (mkF m 0 #[.val (.ref a0), .val (.long q1), .second] [])) t := by
    intro t k
    show Steps p.tables e below (s₁.setTop (mkF m 0 #[.val (.ref a0), .val (.long q1), .second] [])) t
    refine XS.aloadN X0.here hx rfl (hb hby d7_0) rfl rfl ?_
    show Steps p.tables e below (s₁.setTop (mkF m 1 #[.val (.ref a0), .val (.long q1), .second] [(.ref a0)])) t
    refine XS.iconst X0.here hx rfl (hb hby d7_1) ?_
    exact k
  refine OFin.go sg101 ?_
  obtain ⟨T102, h102, X102, e102, W102, st102⟩ := putF X0 hx hZ hown (host := "") (Or.inl (hw _ (List.mem_of_getElem? (i := 29) rfl))) Via.refl e0 F5 E1 (Or.inl (hw _ (List.mem_of_getElem? (i := 30) rfl))) (hw _ (List.mem_of_getElem? (i := 6) rfl)) (ty := .int) (by decide) rfl rfl (g := (mkF m 2 #[.val (.ref a0), .val (.long q1), .second] [(.int (0 : Int32)), (.ref a0)])) rfl rfl (hb hby d7_2)
  refine OFin.go st102 ?_
  have F102 := F5.same W102
  have K102 : Keep h0 h102 [a0] := K0.wr W102 (Or.inl (List.mem_of_getElem? (i := 0) rfl))
  have N102 := Fr.snoc X102 N0 g_a0
  have sg103 : ∀ t, Steps p.tables e below (T102.setTop (mkF m 9 #[.val (.ref a0), .val (.long q1), .second] [(.long (q1 + (1 : Int64))), (.ref a0)])) t → Steps p.tables e below (T102.setTop (mkF m 5 #[.val (.ref a0), .val (.long q1), .second] [])) t := by
    intro t k
    show Steps p.tables e below (T102.setTop (mkF m 5 #[.val (.ref a0), .val (.long q1), .second] [])) t
    refine XS.aloadN X102.here hx rfl (hb hby d7_5) rfl rfl ?_
    show Steps p.tables e below (T102.setTop (mkF m 6 #[.val (.ref a0), .val (.long q1), .second] [(.ref a0)])) t
    refine XS.lloadN X102.here hx rfl (hb hby d7_6) rfl ?_
    show Steps p.tables e below (T102.setTop (mkF m 7 #[.val (.ref a0), .val (.long q1), .second] [(.long q1), (.ref a0)])) t
    refine XS.lconst X102.here hx rfl (hb hby d7_7) ?_
    show Steps p.tables e below (T102.setTop (mkF m 8 #[.val (.ref a0), .val (.long q1), .second] [(.long (1 : Int64)), (.long q1), (.ref a0)])) t
    refine XS.ladd X102.here hx rfl (hb hby d7_8) rfl ?_
    exact k
  refine OFin.go sg103 ?_
  obtain ⟨T104, h104, X104, e104, W104, st104⟩ := putF X102 hx hZ hown (host := "") (Or.inl (hw _ (List.mem_of_getElem? (i := 48) rfl))) Via.refl e102 (F7.other W102 (Or.inr (slot_ne (Or.inl (hw _ (List.mem_of_getElem? (i := 49) rfl))) (Or.inl (hw _ (List.mem_of_getElem? (i := 30) rfl))) (by decide) (t := .long) (t' := .int) (by decide) (by decide)))) (E1.wr W102) (Or.inl (hw _ (List.mem_of_getElem? (i := 49) rfl))) (hw _ (List.mem_of_getElem? (i := 6) rfl)) (ty := .long) (by decide) rfl rfl (g := (mkF m 9 #[.val (.ref a0), .val (.long q1), .second] [(.long (q1 + (1 : Int64))), (.ref a0)])) rfl rfl (hb hby d7_9)
  refine OFin.go st104 ?_
  have F104 := (F7.other W102 (Or.inr (slot_ne (Or.inl (hw _ (List.mem_of_getElem? (i := 49) rfl))) (Or.inl (hw _ (List.mem_of_getElem? (i := 30) rfl))) (by decide) (t := .long) (t' := .int) (by decide) (by decide)))).same W104
  have K104 : Keep h0 h104 [a0] := K102.wr W104 (Or.inl (List.mem_of_getElem? (i := 0) rfl))
  have N104 := Fr.snoc X104 N102 g_a0
  have sg105 : ∀ t, Steps p.tables e below (T104.setTop (mkF m 14 #[.val (.ref a0), .val (.long q1), .second] [(.int (0 : Int32)), (.ref a0)])) t → Steps p.tables e below (T104.setTop (mkF m 12 #[.val (.ref a0), .val (.long q1), .second] [])) t := by
    intro t k
    show Steps p.tables e below (T104.setTop (mkF m 12 #[.val (.ref a0), .val (.long q1), .second] [])) t
    refine XS.aloadN X104.here hx rfl (hb hby d7_12) rfl rfl ?_
    show Steps p.tables e below (T104.setTop (mkF m 13 #[.val (.ref a0), .val (.long q1), .second] [(.ref a0)])) t
    refine XS.iconst X104.here hx rfl (hb hby d7_13) ?_
    exact k
  refine OFin.go sg105 ?_
  obtain ⟨T106, h106, X106, e106, W106, st106⟩ := putF X104 hx hZ hown (host := "") (Or.inl (hw _ (List.mem_of_getElem? (i := 41) rfl))) Via.refl e104 ((F6.other W102 (Or.inr (slot_ne (Or.inl (hw _ (List.mem_of_getElem? (i := 42) rfl))) (Or.inl (hw _ (List.mem_of_getElem? (i := 30) rfl))) (by decide) (t := .int) (t' := .int) (by decide) (by decide)))).other W104 (Or.inr (slot_ne (Or.inl (hw _ (List.mem_of_getElem? (i := 42) rfl))) (Or.inl (hw _ (List.mem_of_getElem? (i := 49) rfl))) (by decide) (t := .int) (t' := .long) (by decide) (by decide)))) ((E1.wr W102).wr W104) (Or.inl (hw _ (List.mem_of_getElem? (i := 42) rfl))) (hw _ (List.mem_of_getElem? (i := 6) rfl)) (ty := .int) (by decide) rfl rfl (g := (mkF m 14 #[.val (.ref a0), .val (.long q1), .second] [(.int (0 : Int32)), (.ref a0)])) rfl rfl (hb hby d7_14)
  refine OFin.go st106 ?_
  have F106 := ((F6.other W102 (Or.inr (slot_ne (Or.inl (hw _ (List.mem_of_getElem? (i := 42) rfl))) (Or.inl (hw _ (List.mem_of_getElem? (i := 30) rfl))) (by decide) (t := .int) (t' := .int) (by decide) (by decide)))).other W104 (Or.inr (slot_ne (Or.inl (hw _ (List.mem_of_getElem? (i := 42) rfl))) (Or.inl (hw _ (List.mem_of_getElem? (i := 49) rfl))) (by decide) (t := .int) (t' := .long) (by decide) (by decide)))).same W106
  have K106 : Keep h0 h106 [a0] := K104.wr W106 (Or.inl (List.mem_of_getElem? (i := 0) rfl))
  have N106 := Fr.snoc X106 N104 g_a0
  exact OFin.retV X106 hx hret hlk (hb hby d7_17) (by rw [e106]; exact ⟨rfl, N106, K106, (((F3.other W102 (Or.inr (slot_ne (Or.inl (hw _ (List.mem_of_getElem? (i := 20) rfl))) (Or.inl (hw _ (List.mem_of_getElem? (i := 30) rfl))) (by decide) (t := (.array .byte)) (t' := .int) (by decide) (by decide)))).other W104 (Or.inr (slot_ne (Or.inl (hw _ (List.mem_of_getElem? (i := 20) rfl))) (Or.inl (hw _ (List.mem_of_getElem? (i := 49) rfl))) (by decide) (t := (.array .byte)) (t' := .long) (by decide) (by decide)))).other W106 (Or.inr (slot_ne (Or.inl (hw _ (List.mem_of_getElem? (i := 20) rfl))) (Or.inl (hw _ (List.mem_of_getElem? (i := 42) rfl))) (by decide) (t := (.array .byte)) (t' := .int) (by decide) (by decide)))), (((F4.other W102 (Or.inr (slot_ne (Or.inl (hw _ (List.mem_of_getElem? (i := 23) rfl))) (Or.inl (hw _ (List.mem_of_getElem? (i := 30) rfl))) (by decide) (t := (.array .int)) (t' := .int) (by decide) (by decide)))).other W104 (Or.inr (slot_ne (Or.inl (hw _ (List.mem_of_getElem? (i := 23) rfl))) (Or.inl (hw _ (List.mem_of_getElem? (i := 49) rfl))) (by decide) (t := (.array .int)) (t' := .long) (by decide) (by decide)))).other W106 (Or.inr (slot_ne (Or.inl (hw _ (List.mem_of_getElem? (i := 23) rfl))) (Or.inl (hw _ (List.mem_of_getElem? (i := 42) rfl))) (by decide) (t := (.array .int)) (t' := .int) (by decide) (by decide)))), ((F102.other W104 (Or.inr (slot_ne (Or.inl (hw _ (List.mem_of_getElem? (i := 30) rfl))) (Or.inl (hw _ (List.mem_of_getElem? (i := 49) rfl))) (by decide) (t := .int) (t' := .long) (by decide) (by decide)))).other W106 (Or.inr (slot_ne (Or.inl (hw _ (List.mem_of_getElem? (i := 30) rfl))) (Or.inl (hw _ (List.mem_of_getElem? (i := 42) rfl))) (by decide) (t := .int) (t' := .int) (by decide) (by decide)))), F106, (F104.other W106 (Or.inr (slot_ne (Or.inl (hw _ (List.mem_of_getElem? (i := 49) rfl))) (Or.inl (hw _ (List.mem_of_getElem? (i := 42) rfl))) (by decide) (t := .long) (t' := .int) (by decide) (by decide)))), (((F8.other W102 (Or.inr (slot_ne (Or.inl (hw _ (List.mem_of_getElem? (i := 56) rfl))) (Or.inl (hw _ (List.mem_of_getElem? (i := 30) rfl))) (by decide) (t := .boolean) (t' := .int) (by decide) (by decide)))).other W104 (Or.inr (slot_ne (Or.inl (hw _ (List.mem_of_getElem? (i := 56) rfl))) (Or.inl (hw _ (List.mem_of_getElem? (i := 49) rfl))) (by decide) (t := .boolean) (t' := .long) (by decide) (by decide)))).other W106 (Or.inr (slot_ne (Or.inl (hw _ (List.mem_of_getElem? (i := 56) rfl))) (Or.inl (hw _ (List.mem_of_getElem? (i := 42) rfl))) (by decide) (t := .boolean) (t' := .int) (by decide) (by decide))))⟩) (by decide) (by decide)
theorem d8_0 : decode prog_26_method_10_code 0 = .ok (.aload_n 0, 1) := by decide +kernel
theorem d8_1 : decode prog_26_method_10_code 1 = .ok (.aload_n 1, 1) := by decide +kernel
theorem d8_2 : decode prog_26_method_10_code 2 = .ok (.putfield 29, 3) := by decide +kernel
theorem d8_5 : decode prog_26_method_10_code 5 = .ok (.aload_n 0, 1) := by decide +kernel
theorem d8_6 : decode prog_26_method_10_code 6 = .ok (.iconst 1, 1) := by decide +kernel
theorem d8_7 : decode prog_26_method_10_code 7 = .ok (.putfield 52, 3) := by decide +kernel
theorem d8_10 : decode prog_26_method_10_code 10 = .ok (.aload_n 0, 1) := by decide +kernel
theorem d8_11 : decode prog_26_method_10_code 11 = .ok (.iload_n 2, 1) := by decide +kernel
theorem d8_12 : decode prog_26_method_10_code 12 = .ok (.putfield 45, 3) := by decide +kernel
theorem d8_15 : decode prog_26_method_10_code 15 = .ok (.return_, 1) := by decide +kernel
theorem ef_8 (m : MethodId) (x0 : Addr) (x1 : Addr) (x2 : Int32) : entryFrame m #[(.ref x0), (.ref x1), (.int x2)] 3 = mkF m 0 #[.val (.ref x0), .val (.ref x1), .val (.int x2)] [] := by first | (simp [entryFrame, mkF, argsToLocals, Value.category]; done) | rfl
def Q8 (Z : State) (a0 : Addr) (a1 : Addr) (q2 : Int32) (t9 : Addr) (k9 : ClassId) (n9 : Int32) (vs9 : List Value) (c9 : Int32) (o9 : Int32) (bv9 : Value) (sv9 : Value) (fv9 : Value) (h0 : Heap) (n0 : Nat) (v : Option Value) (h : Heap) (L : List Loc) : Prop := v = none ∧ Fr n0 L ∧ Keep h0 h [a0] ∧ Fld Z h a0 "com/example/rida/rida/io/LineBlock" "bytes" "[B" (.ref a1) ∧ Fld Z h a0 "com/example/rida/rida/io/LineBlock" "ends" "[I" (.ref t9) ∧ Fld Z h a0 "com/example/rida/rida/io/LineBlock" "count" "I" (.int c9) ∧ Fld Z h a0 "com/example/rida/rida/io/LineBlock" "origin" "I" (.int q2) ∧ Fld Z h a0 "com/example/rida/rida/io/LineBlock" "firstNumber" "J" fv9 ∧ Fld Z h a0 "com/example/rida/rida/io/LineBlock" "sees" "Z" (.int (1 : Int32))
set_option maxHeartbeats 40000000 in
theorem rm8 (l : Launch) (Z : State) (aZ : Array Value) (hw : ∀ d ∈ tables_1, d.before aZ Z = true) (ws : List Jvm.Cond) (a0 : Addr) (a1 : Addr) (q2 : Int32) (t9 : Addr) (k9 : ClassId) (n9 : Int32) (vs9 : List Value) (c9 : Int32) (o9 : Int32) (bv9 : Value) (sv9 : Value) (fv9 : Value) (h0 : Heap) (n0 : Nat) (Z0 : n0 ≤ h0.size) (E1 : Exa Z h0 a0 "com/example/rida/rida/io/LineBlock") (F3 : Fld Z h0 a0 "com/example/rida/rida/io/LineBlock" "bytes" "[B" bv9) (F4 : Fld Z h0 a0 "com/example/rida/rida/io/LineBlock" "ends" "[I" (.ref t9)) (F5 : Fld Z h0 a0 "com/example/rida/rida/io/LineBlock" "count" "I" (.int c9)) (F6 : Fld Z h0 a0 "com/example/rida/rida/io/LineBlock" "origin" "I" (.int o9)) (F7 : Fld Z h0 a0 "com/example/rida/rida/io/LineBlock" "firstNumber" "J" fv9) (F8 : Fld Z h0 a0 "com/example/rida/rida/io/LineBlock" "sees" "Z" sv9) (V1 : Arv Z h0 t9 k9 .int n9 vs9 (.int (0 : Int32))) (hne : a0 ≠ t9) (g_a0 : n0 ≤ a0) :
    MetFree l (⟨"com/example/rida/rida/io/LineBlock", "see", "([BI)V"⟩ : MethodName) (head1 (Jvm.Cond.code (⟨"com/example/rida/rida/io/LineBlock", "see", "([BI)V"⟩ : MethodName) prog_26_method_10_code 3 none :: ws) ({ frames := 0, cells := 0, slots := 0, locals := 0 } : Room)) (fun a U => a = #[(.ref a0), (.ref a1), (.int q2)] ∧ Z.Warmed39 U.vm ∧ U.heap = h0) (fun _ _ _ _ _ => True) (fun _ U o U' => ∃ v L, o = .returned v ∧ Q8 Z a0 a1 q2 t9 k9 n9 vs9 c9 o9 bv9 sv9 fv9 h0 n0 v U'.heap L ∧ FrameEnd U o U' L ({ frames := 0, cells := 0, slots := 0, locals := 0 } : Room).cells ({ frames := 0, cells := 0, slots := 0, locals := 0 } : Room).slots) := by
  refine MetFree.of_bodySF (plainFor_of_name pn_0) hisR ?_
  intro p e s m args below meth c s₁ Bd hml0 hP hK
  obtain ⟨rfl, hZ, hh⟩ := hP
  have hx := Bd.exec
  have hby := Bd.bytes
  have hret := Bd.returns
  have hlk : meth.locks = false := BodyLoose.notSynchronized Bd
  have hml : c.maxLocals = 3 := hml0
  have hown : s.vm.findClass "com/example/rida/rida/io/LineBlock" = some m.cls := findClass_of_methodNamed Bd.named
  have hnm := (name_of_methodNamed Bd.named Bd.method).1
  have X0 : Stand p l e ({ frames := 0, cells := 0, slots := 0, locals := 0 } : Room) s m #[(.ref a0), (.ref a1), (.int q2)] below meth c s₁ [] 0 0 := Stand.of_body Bd
  have e0 : s₁.heap = h0 := by rw [← hh, Bd.state]; rfl
  have N0 := Fr.nil n0
  have K0 : Keep h0 h0 [a0] := Keep.refl _ _
  have pre0 : ∀ t, Steps p.tables e below (s₁.setTop (mkF m 0 #[.val (.ref a0), .val (.ref a1), .val (.int q2)] [])) t → Steps p.tables e below (s₁.setTop (entryFrame m #[(.ref a0), (.ref a1), (.int q2)] 3)) t := fun t k => castTop (ef_8 m a0 a1 q2) k
  show OFin p e below s (Q8 Z a0 a1 q2 t9 k9 n9 vs9 c9 o9 bv9 sv9 fv9 h0 n0) ({ frames := 0, cells := 0, slots := 0, locals := 0 } : Room).cells ({ frames := 0, cells := 0, slots := 0, locals := 0 } : Room).slots _
  refine OFin.go pre0 ?_
  have sg101 : ∀ t, Steps p.tables e below (s₁.setTop (mkF m 2 #[.val (.ref a0), .val (.ref a1), .val (.int q2)] [(.ref a1), (.ref a0)])) t → Steps p.tables e below (s₁.setTop (mkF m 0 #[.val (.ref a0), .val (.ref a1), .val (.int q2)] [])) t := by
    intro t k
    show Steps p.tables e below (s₁.setTop (mkF m 0 #[.val (.ref a0), .val (.ref a1), .val (.int q2)] [])) t
    refine XS.aloadN X0.here hx rfl (hb hby d8_0) rfl rfl ?_
    show Steps p.tables e below (s₁.setTop (mkF m 1 #[.val (.ref a0), .val (.ref a1), .val (.int q2)] [(.ref a0)])) t
    refine XS.aloadN X0.here hx rfl (hb hby d8_1) rfl rfl ?_
    exact k
  refine OFin.go sg101 ?_
  obtain ⟨T102, h102, X102, e102, W102, st102⟩ := putF X0 hx hZ hown (host := "") (Or.inl (hw _ (List.mem_of_getElem? (i := 19) rfl))) Via.refl e0 F3 E1 (Or.inl (hw _ (List.mem_of_getElem? (i := 20) rfl))) (hw _ (List.mem_of_getElem? (i := 6) rfl)) (ty := (.array .byte)) (by decide) rfl rfl (g := (mkF m 2 #[.val (.ref a0), .val (.ref a1), .val (.int q2)] [(.ref a1), (.ref a0)])) rfl rfl (hb hby d8_2)
  refine OFin.go st102 ?_
  have F102 := F3.same W102
  have K102 : Keep h0 h102 [a0] := K0.wr W102 (Or.inl (List.mem_of_getElem? (i := 0) rfl))
  have N102 := Fr.snoc X102 N0 g_a0
  have sg103 : ∀ t, Steps p.tables e below (T102.setTop (mkF m 7 #[.val (.ref a0), .val (.ref a1), .val (.int q2)] [(.int (1 : Int32)), (.ref a0)])) t → Steps p.tables e below (T102.setTop (mkF m 5 #[.val (.ref a0), .val (.ref a1), .val (.int q2)] [])) t := by
    intro t k
    show Steps p.tables e below (T102.setTop (mkF m 5 #[.val (.ref a0), .val (.ref a1), .val (.int q2)] [])) t
    refine XS.aloadN X102.here hx rfl (hb hby d8_5) rfl rfl ?_
    show Steps p.tables e below (T102.setTop (mkF m 6 #[.val (.ref a0), .val (.ref a1), .val (.int q2)] [(.ref a0)])) t
    refine XS.iconst X102.here hx rfl (hb hby d8_6) ?_
    exact k
  refine OFin.go sg103 ?_
  obtain ⟨T104, h104, X104, e104, W104, st104⟩ := putFN X102 hx hZ hown (hw _ (List.mem_of_getElem? (i := 55) rfl)) Via.refl e102 (F8.other W102 (Or.inr (slot_ne (Or.inl (hw _ (List.mem_of_getElem? (i := 56) rfl))) (Or.inl (hw _ (List.mem_of_getElem? (i := 20) rfl))) (by decide) (t := .boolean) (t' := (.array .byte)) (by decide) (by decide)))) (E1.wr W102) (Or.inl (hw _ (List.mem_of_getElem? (i := 56) rfl))) (hw _ (List.mem_of_getElem? (i := 6) rfl)) (ty := .boolean) (v' := (.int (1 : Int32))) (by decide) rfl rfl (g := (mkF m 7 #[.val (.ref a0), .val (.ref a1), .val (.int q2)] [(.int (1 : Int32)), (.ref a0)])) rfl rfl (hb hby d8_7)
  refine OFin.go st104 ?_
  have F104 := (F8.other W102 (Or.inr (slot_ne (Or.inl (hw _ (List.mem_of_getElem? (i := 56) rfl))) (Or.inl (hw _ (List.mem_of_getElem? (i := 20) rfl))) (by decide) (t := .boolean) (t' := (.array .byte)) (by decide) (by decide)))).same W104
  have K104 : Keep h0 h104 [a0] := K102.wr W104 (Or.inl (List.mem_of_getElem? (i := 0) rfl))
  have N104 := Fr.snoc X104 N102 g_a0
  have sg105 : ∀ t, Steps p.tables e below (T104.setTop (mkF m 12 #[.val (.ref a0), .val (.ref a1), .val (.int q2)] [(.int q2), (.ref a0)])) t → Steps p.tables e below (T104.setTop (mkF m 10 #[.val (.ref a0), .val (.ref a1), .val (.int q2)] [])) t := by
    intro t k
    show Steps p.tables e below (T104.setTop (mkF m 10 #[.val (.ref a0), .val (.ref a1), .val (.int q2)] [])) t
    refine XS.aloadN X104.here hx rfl (hb hby d8_10) rfl rfl ?_
    show Steps p.tables e below (T104.setTop (mkF m 11 #[.val (.ref a0), .val (.ref a1), .val (.int q2)] [(.ref a0)])) t
    refine XS.iloadN X104.here hx rfl (hb hby d8_11) rfl ?_
    exact k
  refine OFin.go sg105 ?_
  obtain ⟨T106, h106, X106, e106, W106, st106⟩ := putF X104 hx hZ hown (host := "") (Or.inl (hw _ (List.mem_of_getElem? (i := 41) rfl))) Via.refl e104 ((F6.other W102 (Or.inr (slot_ne (Or.inl (hw _ (List.mem_of_getElem? (i := 42) rfl))) (Or.inl (hw _ (List.mem_of_getElem? (i := 20) rfl))) (by decide) (t := .int) (t' := (.array .byte)) (by decide) (by decide)))).other W104 (Or.inr (slot_ne (Or.inl (hw _ (List.mem_of_getElem? (i := 42) rfl))) (Or.inl (hw _ (List.mem_of_getElem? (i := 56) rfl))) (by decide) (t := .int) (t' := .boolean) (by decide) (by decide)))) ((E1.wr W102).wr W104) (Or.inl (hw _ (List.mem_of_getElem? (i := 42) rfl))) (hw _ (List.mem_of_getElem? (i := 6) rfl)) (ty := .int) (by decide) rfl rfl (g := (mkF m 12 #[.val (.ref a0), .val (.ref a1), .val (.int q2)] [(.int q2), (.ref a0)])) rfl rfl (hb hby d8_12)
  refine OFin.go st106 ?_
  have F106 := ((F6.other W102 (Or.inr (slot_ne (Or.inl (hw _ (List.mem_of_getElem? (i := 42) rfl))) (Or.inl (hw _ (List.mem_of_getElem? (i := 20) rfl))) (by decide) (t := .int) (t' := (.array .byte)) (by decide) (by decide)))).other W104 (Or.inr (slot_ne (Or.inl (hw _ (List.mem_of_getElem? (i := 42) rfl))) (Or.inl (hw _ (List.mem_of_getElem? (i := 56) rfl))) (by decide) (t := .int) (t' := .boolean) (by decide) (by decide)))).same W106
  have K106 : Keep h0 h106 [a0] := K104.wr W106 (Or.inl (List.mem_of_getElem? (i := 0) rfl))
  have N106 := Fr.snoc X106 N104 g_a0
  exact OFin.retV X106 hx hret hlk (hb hby d8_15) (by rw [e106]; exact ⟨rfl, N106, K106, ((F102.other W104 (Or.inr (slot_ne (Or.inl (hw _ (List.mem_of_getElem? (i := 20) rfl))) (Or.inl (hw _ (List.mem_of_getElem? (i := 56) rfl))) (by decide) (t := (.array .byte)) (t' := .boolean) (by decide) (by decide)))).other W106 (Or.inr (slot_ne (Or.inl (hw _ (List.mem_of_getElem? (i := 20) rfl))) (Or.inl (hw _ (List.mem_of_getElem? (i := 42) rfl))) (by decide) (t := (.array .byte)) (t' := .int) (by decide) (by decide)))), (((F4.other W102 (Or.inr (slot_ne (Or.inl (hw _ (List.mem_of_getElem? (i := 23) rfl))) (Or.inl (hw _ (List.mem_of_getElem? (i := 20) rfl))) (by decide) (t := (.array .int)) (t' := (.array .byte)) (by decide) (by decide)))).other W104 (Or.inr (slot_ne (Or.inl (hw _ (List.mem_of_getElem? (i := 23) rfl))) (Or.inl (hw _ (List.mem_of_getElem? (i := 56) rfl))) (by decide) (t := (.array .int)) (t' := .boolean) (by decide) (by decide)))).other W106 (Or.inr (slot_ne (Or.inl (hw _ (List.mem_of_getElem? (i := 23) rfl))) (Or.inl (hw _ (List.mem_of_getElem? (i := 42) rfl))) (by decide) (t := (.array .int)) (t' := .int) (by decide) (by decide)))), (((F5.other W102 (Or.inr (slot_ne (Or.inl (hw _ (List.mem_of_getElem? (i := 30) rfl))) (Or.inl (hw _ (List.mem_of_getElem? (i := 20) rfl))) (by decide) (t := .int) (t' := (.array .byte)) (by decide) (by decide)))).other W104 (Or.inr (slot_ne (Or.inl (hw _ (List.mem_of_getElem? (i := 30) rfl))) (Or.inl (hw _ (List.mem_of_getElem? (i := 56) rfl))) (by decide) (t := .int) (t' := .boolean) (by decide) (by decide)))).other W106 (Or.inr (slot_ne (Or.inl (hw _ (List.mem_of_getElem? (i := 30) rfl))) (Or.inl (hw _ (List.mem_of_getElem? (i := 42) rfl))) (by decide) (t := .int) (t' := .int) (by decide) (by decide)))), F106, (((F7.other W102 (Or.inr (slot_ne (Or.inl (hw _ (List.mem_of_getElem? (i := 49) rfl))) (Or.inl (hw _ (List.mem_of_getElem? (i := 20) rfl))) (by decide) (t := .long) (t' := (.array .byte)) (by decide) (by decide)))).other W104 (Or.inr (slot_ne (Or.inl (hw _ (List.mem_of_getElem? (i := 49) rfl))) (Or.inl (hw _ (List.mem_of_getElem? (i := 56) rfl))) (by decide) (t := .long) (t' := .boolean) (by decide) (by decide)))).other W106 (Or.inr (slot_ne (Or.inl (hw _ (List.mem_of_getElem? (i := 49) rfl))) (Or.inl (hw _ (List.mem_of_getElem? (i := 42) rfl))) (by decide) (t := .long) (t' := .int) (by decide) (by decide)))), (F104.other W106 (Or.inr (slot_ne (Or.inl (hw _ (List.mem_of_getElem? (i := 56) rfl))) (Or.inl (hw _ (List.mem_of_getElem? (i := 42) rfl))) (by decide) (t := .boolean) (t' := .int) (by decide) (by decide))))⟩) (by decide) (by decide)
theorem d4_0 : decode prog_26_method_2_code 0 = .ok (.aload_n 0, 1) := by decide +kernel
theorem d4_1 : decode prog_26_method_2_code 1 = .ok (.getfield 37, 3) := by decide +kernel
theorem d4_4 : decode prog_26_method_2_code 4 = .ok (.ireturn, 1) := by decide +kernel
theorem ef_4 (m : MethodId) (x0 : Addr) : entryFrame m #[(.ref x0)] 1 = mkF m 0 #[.val (.ref x0)] [] := by first | (simp [entryFrame, mkF, argsToLocals, Value.category]; done) | rfl
def Q4 (Z : State) (a0 : Addr) (c9 : Int32) (h0 : Heap) (n0 : Nat) (v : Option Value) (h : Heap) (L : List Loc) : Prop := v = some (.int c9) ∧ Fr n0 L ∧ h = h0
set_option maxHeartbeats 40000000 in
theorem rm4 (l : Launch) (Z : State) (aZ : Array Value) (hw : ∀ d ∈ tables_1, d.before aZ Z = true) (ws : List Jvm.Cond) (a0 : Addr) (c9 : Int32) (h0 : Heap) (n0 : Nat) (Z0 : n0 ≤ h0.size) (F5 : Fld Z h0 a0 "com/example/rida/rida/io/LineBlock" "count" "I" (.int c9)) :
    MetFree l (⟨"com/example/rida/rida/io/LineBlock", "count", "()I"⟩ : MethodName) (head1 (Jvm.Cond.code (⟨"com/example/rida/rida/io/LineBlock", "count", "()I"⟩ : MethodName) prog_26_method_2_code 1 (some .int) :: ws) ({ frames := 0, cells := 0, slots := 0, locals := 0 } : Room)) (fun a U => a = #[(.ref a0)] ∧ Z.Warmed39 U.vm ∧ U.heap = h0) (fun _ _ _ _ _ => True) (fun _ U o U' => ∃ v L, o = .returned v ∧ Q4 Z a0 c9 h0 n0 v U'.heap L ∧ FrameEnd U o U' L ({ frames := 0, cells := 0, slots := 0, locals := 0 } : Room).cells ({ frames := 0, cells := 0, slots := 0, locals := 0 } : Room).slots) := by
  refine MetFree.of_bodySF (plainFor_of_name pn_0) hisR ?_
  intro p e s m args below meth c s₁ Bd hml0 hP hK
  obtain ⟨rfl, hZ, hh⟩ := hP
  have hx := Bd.exec
  have hby := Bd.bytes
  have hret := Bd.returns
  have hlk : meth.locks = false := BodyLoose.notSynchronized Bd
  have hml : c.maxLocals = 1 := hml0
  have hown : s.vm.findClass "com/example/rida/rida/io/LineBlock" = some m.cls := findClass_of_methodNamed Bd.named
  have hnm := (name_of_methodNamed Bd.named Bd.method).1
  have X0 : Stand p l e ({ frames := 0, cells := 0, slots := 0, locals := 0 } : Room) s m #[(.ref a0)] below meth c s₁ [] 0 0 := Stand.of_body Bd
  have e0 : s₁.heap = h0 := by rw [← hh, Bd.state]; rfl
  have N0 := Fr.nil n0
  have K0 : Keep h0 h0 [] := Keep.refl _ _
  have pre0 : ∀ t, Steps p.tables e below (s₁.setTop (mkF m 0 #[.val (.ref a0)] [])) t → Steps p.tables e below (s₁.setTop (entryFrame m #[(.ref a0)] 1)) t := fun t k => castTop (ef_4 m a0) k
  show OFin p e below s (Q4 Z a0 c9 h0 n0) ({ frames := 0, cells := 0, slots := 0, locals := 0 } : Room).cells ({ frames := 0, cells := 0, slots := 0, locals := 0 } : Room).slots _
  refine OFin.go pre0 ?_
  have sg101 : ∀ t, Steps p.tables e below (s₁.setTop (mkF m 1 #[.val (.ref a0)] [(.ref a0)])) t → Steps p.tables e below (s₁.setTop (mkF m 0 #[.val (.ref a0)] [])) t := by
    intro t k
    show Steps p.tables e below (s₁.setTop (mkF m 0 #[.val (.ref a0)] [])) t
    refine XS.aloadN X0.here hx rfl (hb hby d4_0) rfl rfl ?_
    exact k
  refine OFin.go sg101 ?_
  obtain ⟨T102, X102, e102, st102⟩ := getF X0 hx hZ hown (host := "") (Or.inl (hw _ (List.mem_of_getElem? (i := 29) rfl))) Via.refl e0 F5 (g := (mkF m 1 #[.val (.ref a0)] [(.ref a0)])) rfl rfl (hb hby d4_1)
  refine OFin.go st102 ?_
  exact OFin.retI X102 hx hret hlk (hb hby d4_4) (by rw [e102]; exact ⟨rfl, N0, rfl⟩) (by decide) (by decide)
theorem d5_0 : decode prog_26_method_8_code 0 = .ok (.aload_n 0, 1) := by decide +kernel
theorem d5_1 : decode prog_26_method_8_code 1 = .ok (.getfield 37, 3) := by decide +kernel
theorem d5_4 : decode prog_26_method_8_code 4 = .ok (.ifCond .ne 7, 3) := by decide +kernel
theorem d5_7 : decode prog_26_method_8_code 7 = .ok (.iconst 0, 1) := by decide +kernel
theorem d5_8 : decode prog_26_method_8_code 8 = .ok (.goto 19, 3) := by decide +kernel
theorem d5_11 : decode prog_26_method_8_code 11 = .ok (.aload_n 0, 1) := by decide +kernel
theorem d5_12 : decode prog_26_method_8_code 12 = .ok (.getfield 33, 3) := by decide +kernel
theorem d5_15 : decode prog_26_method_8_code 15 = .ok (.aload_n 0, 1) := by decide +kernel
theorem d5_16 : decode prog_26_method_8_code 16 = .ok (.getfield 37, 3) := by decide +kernel
theorem d5_19 : decode prog_26_method_8_code 19 = .ok (.iconst 1, 1) := by decide +kernel
theorem d5_20 : decode prog_26_method_8_code 20 = .ok (.isub, 1) := by decide +kernel
theorem d5_21 : decode prog_26_method_8_code 21 = .ok (.iaload, 1) := by decide +kernel
theorem d5_22 : decode prog_26_method_8_code 22 = .ok (.aload_n 0, 1) := by decide +kernel
theorem d5_23 : decode prog_26_method_8_code 23 = .ok (.getfield 45, 3) := by decide +kernel
theorem d5_26 : decode prog_26_method_8_code 26 = .ok (.isub, 1) := by decide +kernel
theorem d5_27 : decode prog_26_method_8_code 27 = .ok (.ireturn, 1) := by decide +kernel
theorem ef_5 (m : MethodId) (x0 : Addr) : entryFrame m #[(.ref x0)] 1 = mkF m 0 #[.val (.ref x0)] [] := by first | (simp [entryFrame, mkF, argsToLocals, Value.category]; done) | rfl
def Q5 (Z : State) (a0 : Addr) (c9 : Int32) (t9 : Addr) (o9 : Int32) (k9 : ClassId) (n9 : Int32) (vs9 : List Value) (z9 : Int32) (h0 : Heap) (n0 : Nat) (v : Option Value) (h : Heap) (L : List Loc) : Prop := v = some (.int (if c9 = (0 : Int32) then (0 : Int32) else (z9 - o9))) ∧ Fr n0 L ∧ h = h0
set_option maxHeartbeats 40000000 in
theorem rm5 (l : Launch) (Z : State) (aZ : Array Value) (hw : ∀ d ∈ tables_1, d.before aZ Z = true) (ws : List Jvm.Cond) (a0 : Addr) (c9 : Int32) (t9 : Addr) (o9 : Int32) (k9 : ClassId) (n9 : Int32) (vs9 : List Value) (z9 : Int32) (h0 : Heap) (n0 : Nat) (Z0 : n0 ≤ h0.size) (F5 : Fld Z h0 a0 "com/example/rida/rida/io/LineBlock" "count" "I" (.int c9)) (F4 : Fld Z h0 a0 "com/example/rida/rida/io/LineBlock" "ends" "[I" (.ref t9)) (F6 : Fld Z h0 a0 "com/example/rida/rida/io/LineBlock" "origin" "I" (.int o9)) (V1 : Arv Z h0 t9 k9 .int n9 vs9 (.int (0 : Int32))) (hc : c9 = (0 : Int32) ∨ (¬ (c9 - (1 : Int32)) < 0 ∧ (c9 - (1 : Int32)) < n9 ∧ vs9.getD (c9 - (1 : Int32)).toNatClampNeg (.int (0 : Int32)) = .int z9)) :
    MetFree l (⟨"com/example/rida/rida/io/LineBlock", "size", "()I"⟩ : MethodName) (head1 (Jvm.Cond.code (⟨"com/example/rida/rida/io/LineBlock", "size", "()I"⟩ : MethodName) prog_26_method_8_code 1 (some .int) :: ws) ({ frames := 0, cells := 0, slots := 0, locals := 0 } : Room)) (fun a U => a = #[(.ref a0)] ∧ Z.Warmed39 U.vm ∧ U.heap = h0) (fun _ _ _ _ _ => True) (fun _ U o U' => ∃ v L, o = .returned v ∧ Q5 Z a0 c9 t9 o9 k9 n9 vs9 z9 h0 n0 v U'.heap L ∧ FrameEnd U o U' L ({ frames := 0, cells := 0, slots := 0, locals := 0 } : Room).cells ({ frames := 0, cells := 0, slots := 0, locals := 0 } : Room).slots) := by
  refine MetFree.of_bodySF (plainFor_of_name pn_0) hisR ?_
  intro p e s m args below meth c s₁ Bd hml0 hP hK
  obtain ⟨rfl, hZ, hh⟩ := hP
  have hx := Bd.exec
  have hby := Bd.bytes
  have hret := Bd.returns
  have hlk : meth.locks = false := BodyLoose.notSynchronized Bd
  have hml : c.maxLocals = 1 := hml0
  have hown : s.vm.findClass "com/example/rida/rida/io/LineBlock" = some m.cls := findClass_of_methodNamed Bd.named
  have hnm := (name_of_methodNamed Bd.named Bd.method).1
  have X0 : Stand p l e ({ frames := 0, cells := 0, slots := 0, locals := 0 } : Room) s m #[(.ref a0)] below meth c s₁ [] 0 0 := Stand.of_body Bd
  have e0 : s₁.heap = h0 := by rw [← hh, Bd.state]; rfl
  have N0 := Fr.nil n0
  have K0 : Keep h0 h0 [] := Keep.refl _ _
  have pre0 : ∀ t, Steps p.tables e below (s₁.setTop (mkF m 0 #[.val (.ref a0)] [])) t → Steps p.tables e below (s₁.setTop (entryFrame m #[(.ref a0)] 1)) t := fun t k => castTop (ef_5 m a0) k
  show OFin p e below s (Q5 Z a0 c9 t9 o9 k9 n9 vs9 z9 h0 n0) ({ frames := 0, cells := 0, slots := 0, locals := 0 } : Room).cells ({ frames := 0, cells := 0, slots := 0, locals := 0 } : Room).slots _
  refine OFin.go pre0 ?_
  have sg101 : ∀ t, Steps p.tables e below (s₁.setTop (mkF m 1 #[.val (.ref a0)] [(.ref a0)])) t → Steps p.tables e below (s₁.setTop (mkF m 0 #[.val (.ref a0)] [])) t := by
    intro t k
    show Steps p.tables e below (s₁.setTop (mkF m 0 #[.val (.ref a0)] [])) t
    refine XS.aloadN X0.here hx rfl (hb hby d5_0) rfl rfl ?_
    exact k
  refine OFin.go sg101 ?_
  obtain ⟨T102, X102, e102, st102⟩ := getF X0 hx hZ hown (host := "") (Or.inl (hw _ (List.mem_of_getElem? (i := 29) rfl))) Via.refl e0 F5 (g := (mkF m 1 #[.val (.ref a0)] [(.ref a0)])) rfl rfl (hb hby d5_1)
  refine OFin.go st102 ?_
  by_cases c103 : c9 = (0 : Int32)
  · have sg104 : ∀ t, Steps p.tables e below (T102.setTop (mkF m 27 #[.val (.ref a0)] [(.int (0 : Int32))])) t → Steps p.tables e below (T102.setTop (mkF m 4 #[.val (.ref a0)] [(.int c9)])) t := by
      intro t k
      show Steps p.tables e below (T102.setTop (mkF m 4 #[.val (.ref a0)] [(.int c9)])) t
      refine XS.ifNo X102.here hx rfl (hb hby d5_4) rfl ((if0 _ _).trans (teq c103).2) ?_
      show Steps p.tables e below (T102.setTop (mkF m 7 #[.val (.ref a0)] [])) t
      refine XS.iconst X102.here hx rfl (hb hby d5_7) ?_
      show Steps p.tables e below (T102.setTop (mkF m 8 #[.val (.ref a0)] [(.int (0 : Int32))])) t
      refine XS.goto X102.here hx rfl (pc0 := 8) (pc' := 27) rfl (hb hby d5_8) (by decide) (by decide) ?_
      exact k
    refine OFin.go sg104 ?_
    exact OFin.retI X102 hx hret hlk (hb hby d5_27) (by rw [e102]; exact ⟨(congrArg (fun z => some (Value.int z)) ((by first | rfl | (simp [c103]; done) | (simp_all; done)) : (0 : Int32) = (if c9 = (0 : Int32) then (0 : Int32) else (z9 - o9)))), N0, rfl⟩) (by decide) (by decide)
  · have sg105 : ∀ t, Steps p.tables e below (T102.setTop (mkF m 12 #[.val (.ref a0)] [(.ref a0)])) t → Steps p.tables e below (T102.setTop (mkF m 4 #[.val (.ref a0)] [(.int c9)])) t := by
      intro t k
      show Steps p.tables e below (T102.setTop (mkF m 4 #[.val (.ref a0)] [(.int c9)])) t
      refine XS.ifYes X102.here hx rfl (pc0 := 4) (pc' := 11) rfl (hb hby d5_4) rfl ((if0 _ _).trans (feq c103).2) (by decide) (by decide) ?_
      show Steps p.tables e below (T102.setTop (mkF m 11 #[.val (.ref a0)] [])) t
      refine XS.aloadN X102.here hx rfl (hb hby d5_11) rfl rfl ?_
      exact k
    refine OFin.go sg105 ?_
    obtain ⟨T106, X106, e106, st106⟩ := getF X102 hx hZ hown (host := "") (Or.inl (hw _ (List.mem_of_getElem? (i := 22) rfl))) Via.refl e102 F4 (g := (mkF m 12 #[.val (.ref a0)] [(.ref a0)])) rfl rfl (hb hby d5_12)
    refine OFin.go st106 ?_
    have sg107 : ∀ t, Steps p.tables e below (T106.setTop (mkF m 16 #[.val (.ref a0)] [(.ref a0), (.ref t9)])) t → Steps p.tables e below (T106.setTop (mkF m 15 #[.val (.ref a0)] [(.ref t9)])) t := by
      intro t k
      show Steps p.tables e below (T106.setTop (mkF m 15 #[.val (.ref a0)] [(.ref t9)])) t
      refine XS.aloadN X106.here hx rfl (hb hby d5_15) rfl rfl ?_
      exact k
    refine OFin.go sg107 ?_
    obtain ⟨T108, X108, e108, st108⟩ := getF X106 hx hZ hown (host := "") (Or.inl (hw _ (List.mem_of_getElem? (i := 29) rfl))) Via.refl e106 F5 (g := (mkF m 16 #[.val (.ref a0)] [(.ref a0), (.ref t9)])) rfl rfl (hb hby d5_16)
    refine OFin.go st108 ?_
    have sg109 : ∀ t, Steps p.tables e below (T108.setTop (mkF m 21 #[.val (.ref a0)] [(.int (c9 - (1 : Int32))), (.ref t9)])) t → Steps p.tables e below (T108.setTop (mkF m 19 #[.val (.ref a0)] [(.int c9), (.ref t9)])) t := by
      intro t k
      show Steps p.tables e below (T108.setTop (mkF m 19 #[.val (.ref a0)] [(.int c9), (.ref t9)])) t
      refine XS.iconst X108.here hx rfl (hb hby d5_19) ?_
      show Steps p.tables e below (T108.setTop (mkF m 20 #[.val (.ref a0)] [(.int (1 : Int32)), (.int c9), (.ref t9)])) t
      refine XS.isub X108.here hx rfl (hb hby d5_20) rfl ?_
      exact k
    refine OFin.go sg109 ?_
    have hc2 := hc.resolve_left (by assumption)
    obtain ⟨cl110, Ar110, q110, S110, M110, H110, G110⟩ := id V1
    have hin110 : ¬ ((c9 - (1 : Int32)) < 0 ∨ cl110.slots.size ≤ ((c9 - (1 : Int32))).toNatClampNeg) := inb_of S110 ⟨hc2.1, hc2.2.1⟩
    have hat110 : cl110.slots[((c9 - (1 : Int32))).toNatClampNeg]? = some (.int z9) := H110.at hin110 hc2.2.2
    have sg111 : ∀ t, Steps p.tables e below (T108.setTop (mkF m 23 #[.val (.ref a0)] [(.ref a0), (.int z9)])) t → Steps p.tables e below (T108.setTop (mkF m 21 #[.val (.ref a0)] [(.int (c9 - (1 : Int32))), (.ref t9)])) t := by
      intro t k
      show Steps p.tables e below (T108.setTop (mkF m 21 #[.val (.ref a0)] [(.int (c9 - (1 : Int32))), (.ref t9)])) t
      refine X108.iaload hx (j := (c9 - (1 : Int32))) (v := (.int z9)) (by rw [e108]; exact Ar110.1) (State.isArrayOf_alike hZ.alike Ar110.2.1) Ar110.2.2 hin110 hat110 (g := (mkF m 21 #[.val (.ref a0)] [(.int (c9 - (1 : Int32))), (.ref t9)])) rfl rfl (hb hby d5_21) _ ?_
      show Steps p.tables e below (T108.setTop (mkF m 22 #[.val (.ref a0)] [(.int z9)])) t
      refine XS.aloadN X108.here hx rfl (hb hby d5_22) rfl rfl ?_
      exact k
    refine OFin.go sg111 ?_
    obtain ⟨T112, X112, e112, st112⟩ := getF X108 hx hZ hown (host := "") (Or.inl (hw _ (List.mem_of_getElem? (i := 41) rfl))) Via.refl e108 F6 (g := (mkF m 23 #[.val (.ref a0)] [(.ref a0), (.int z9)])) rfl rfl (hb hby d5_23)
    refine OFin.go st112 ?_
    have sg113 : ∀ t, Steps p.tables e below (T112.setTop (mkF m 27 #[.val (.ref a0)] [(.int (z9 - o9))])) t → Steps p.tables e below (T112.setTop (mkF m 26 #[.val (.ref a0)] [(.int o9), (.int z9)])) t := by
      intro t k
      show Steps p.tables e below (T112.setTop (mkF m 26 #[.val (.ref a0)] [(.int o9), (.int z9)])) t
      refine XS.isub X112.here hx rfl (hb hby d5_26) rfl ?_
      exact k
    refine OFin.go sg113 ?_
    exact OFin.retI X112 hx hret hlk (hb hby d5_27) (by rw [e112]; exact ⟨(congrArg (fun z => some (Value.int z)) ((by first | rfl | (simp [c103]; done) | (simp_all; done)) : (z9 - o9) = (if c9 = (0 : Int32) then (0 : Int32) else (z9 - o9)))), N0, rfl⟩) (by decide) (by decide)
theorem own_ml (f : Int32) : ¬ (((1 : Int32) + (f &&& (3 : Int32))) < (1 : Int32)) ∧ ¬ ((4 : Int32) < ((1 : Int32) + (f &&& (3 : Int32)))) := by
  have a := c_and f 3 (by decide)
  have b := c_iadd 1 (f &&& (3 : Int32))
  have r := rng32 ((1 : Int32) + (f &&& (3 : Int32)))
  simp only [show (3 : Int32).toInt = 3 from rfl, show (1 : Int32).toInt = 1 from rfl] at a b
  rw [Int32.lt_iff_toInt_lt, Int32.lt_iff_toInt_lt]
  simp only [show (4 : Int32).toInt = 4 from rfl, show (1 : Int32).toInt = 1 from rfl]
  omega
theorem own_kk (y m : Int32) (h : ¬ (m < (1 : Int32))) : ¬ (own_f1 (y &&& (3 : Int32)) m < (0 : Int32)) ∧ ¬ ((3 : Int32) < own_f1 (y &&& (3 : Int32)) m) ∧ ¬ (m < own_f1 (y &&& (3 : Int32)) m) := by
  have a := c_and y 3 (by decide)
  rw [own_min]
  simp only [show (3 : Int32).toInt = 3 from rfl] at a
  rw [Int32.lt_iff_toInt_lt] at h
  split
  case isTrue q =>
    rw [Int32.lt_iff_toInt_lt] at q
    rw [Int32.lt_iff_toInt_lt, Int32.lt_iff_toInt_lt, Int32.lt_iff_toInt_lt]
    simp only [show (0 : Int32).toInt = 0 from rfl, show (3 : Int32).toInt = 3 from rfl, show (1 : Int32).toInt = 1 from rfl] at *
    omega
  case isFalse q =>
    rw [Int32.lt_iff_toInt_lt] at q
    rw [Int32.lt_iff_toInt_lt, Int32.lt_iff_toInt_lt, Int32.lt_iff_toInt_lt]
    simp only [show (0 : Int32).toInt = 0 from rfl, show (3 : Int32).toInt = 3 from rfl, show (1 : Int32).toInt = 1 from rfl] at *
    omega
theorem own_j {j : Int32} {k : Int} (h : j.toInt = k) (z : Int32) (hz : z.toInt = k) : j = z := Int32.toInt_inj.mp (h.trans hz.symm)
theorem own_up {j a b : Int32} (h : j < a) (h2 : a < b) : j < b := by
  rw [Int32.lt_iff_toInt_lt] at *
  omega
theorem own_h0 {m : Int32} (h1 : ¬ (m < (1 : Int32))) : (0 : Int32) < m := by
  rw [Int32.lt_iff_toInt_lt] at *
  simp only [show (0 : Int32).toInt = 0 from rfl, show (1 : Int32).toInt = 1 from rfl, show (2 : Int32).toInt = 2 from rfl, show (3 : Int32).toInt = 3 from rfl, show (4 : Int32).toInt = 4 from rfl, show (((0 : Int32) + (1 : Int32)) : Int32).toInt = 1 from rfl, show ((((0 : Int32) + (1 : Int32)) + (1 : Int32)) : Int32).toInt = 2 from rfl, show (((((0 : Int32) + (1 : Int32)) + (1 : Int32)) + (1 : Int32)) : Int32).toInt = 3 from rfl] at *
  omega
theorem own_h1 {m j : Int32} (h1 : ¬ (j < (2 : Int32))) (h2 : ¬ (m < j)) : ((0 : Int32) + (1 : Int32)) < m := by
  rw [Int32.lt_iff_toInt_lt] at *
  simp only [show (0 : Int32).toInt = 0 from rfl, show (1 : Int32).toInt = 1 from rfl, show (2 : Int32).toInt = 2 from rfl, show (3 : Int32).toInt = 3 from rfl, show (4 : Int32).toInt = 4 from rfl, show (((0 : Int32) + (1 : Int32)) : Int32).toInt = 1 from rfl, show ((((0 : Int32) + (1 : Int32)) + (1 : Int32)) : Int32).toInt = 2 from rfl, show (((((0 : Int32) + (1 : Int32)) + (1 : Int32)) + (1 : Int32)) : Int32).toInt = 3 from rfl] at *
  omega
theorem own_h2 {m j : Int32} (h1 : ¬ (j < (3 : Int32))) (h2 : ¬ (m < j)) : (((0 : Int32) + (1 : Int32)) + (1 : Int32)) < m := by
  rw [Int32.lt_iff_toInt_lt] at *
  simp only [show (0 : Int32).toInt = 0 from rfl, show (1 : Int32).toInt = 1 from rfl, show (2 : Int32).toInt = 2 from rfl, show (3 : Int32).toInt = 3 from rfl, show (4 : Int32).toInt = 4 from rfl, show (((0 : Int32) + (1 : Int32)) : Int32).toInt = 1 from rfl, show ((((0 : Int32) + (1 : Int32)) + (1 : Int32)) : Int32).toInt = 2 from rfl, show (((((0 : Int32) + (1 : Int32)) + (1 : Int32)) + (1 : Int32)) : Int32).toInt = 3 from rfl] at *
  omega
theorem own_e0 {j : Int32} (h1 : ¬ (j < (0 : Int32))) (h2 : j < (1 : Int32)) : (0 : Int32) = j := by
  rw [Int32.lt_iff_toInt_lt] at h1 h2
  rw [← Int32.toInt_inj]
  simp only [show (0 : Int32).toInt = 0 from rfl, show (1 : Int32).toInt = 1 from rfl, show (2 : Int32).toInt = 2 from rfl, show (3 : Int32).toInt = 3 from rfl, show (4 : Int32).toInt = 4 from rfl, show (((0 : Int32) + (1 : Int32)) : Int32).toInt = 1 from rfl, show ((((0 : Int32) + (1 : Int32)) + (1 : Int32)) : Int32).toInt = 2 from rfl, show (((((0 : Int32) + (1 : Int32)) + (1 : Int32)) + (1 : Int32)) : Int32).toInt = 3 from rfl] at *
  omega
theorem own_e1 {j : Int32} (h1 : ¬ (j < (1 : Int32))) (h2 : j < (2 : Int32)) : ((0 : Int32) + (1 : Int32)) = j := by
  rw [Int32.lt_iff_toInt_lt] at h1 h2
  rw [← Int32.toInt_inj]
  simp only [show (0 : Int32).toInt = 0 from rfl, show (1 : Int32).toInt = 1 from rfl, show (2 : Int32).toInt = 2 from rfl, show (3 : Int32).toInt = 3 from rfl, show (4 : Int32).toInt = 4 from rfl, show (((0 : Int32) + (1 : Int32)) : Int32).toInt = 1 from rfl, show ((((0 : Int32) + (1 : Int32)) + (1 : Int32)) : Int32).toInt = 2 from rfl, show (((((0 : Int32) + (1 : Int32)) + (1 : Int32)) + (1 : Int32)) : Int32).toInt = 3 from rfl] at *
  omega
theorem own_e2 {j : Int32} (h1 : ¬ (j < (2 : Int32))) (h2 : j < (3 : Int32)) : (((0 : Int32) + (1 : Int32)) + (1 : Int32)) = j := by
  rw [Int32.lt_iff_toInt_lt] at h1 h2
  rw [← Int32.toInt_inj]
  simp only [show (0 : Int32).toInt = 0 from rfl, show (1 : Int32).toInt = 1 from rfl, show (2 : Int32).toInt = 2 from rfl, show (3 : Int32).toInt = 3 from rfl, show (4 : Int32).toInt = 4 from rfl, show (((0 : Int32) + (1 : Int32)) : Int32).toInt = 1 from rfl, show ((((0 : Int32) + (1 : Int32)) + (1 : Int32)) : Int32).toInt = 2 from rfl, show (((((0 : Int32) + (1 : Int32)) + (1 : Int32)) + (1 : Int32)) : Int32).toInt = 3 from rfl] at *
  omega
theorem own_e3 {j : Int32} (h1 : ¬ (j < (3 : Int32))) (h2 : ¬ ((3 : Int32) < j)) : ((((0 : Int32) + (1 : Int32)) + (1 : Int32)) + (1 : Int32)) = j := by
  rw [Int32.lt_iff_toInt_lt] at h1 h2
  rw [← Int32.toInt_inj]
  simp only [show (0 : Int32).toInt = 0 from rfl, show (1 : Int32).toInt = 1 from rfl, show (2 : Int32).toInt = 2 from rfl, show (3 : Int32).toInt = 3 from rfl, show (4 : Int32).toInt = 4 from rfl, show (((0 : Int32) + (1 : Int32)) : Int32).toInt = 1 from rfl, show ((((0 : Int32) + (1 : Int32)) + (1 : Int32)) : Int32).toInt = 2 from rfl, show (((((0 : Int32) + (1 : Int32)) + (1 : Int32)) + (1 : Int32)) : Int32).toInt = 3 from rfl] at *
  omega
theorem ef_0 (m : MethodId) (x0 : Int32) (x1 : Int32) (x2 : Int32) (x3 : Int32) (x4 : Int32) (x5 : Int64) : entryFrame m #[(.int x0), (.int x1), (.int x2), (.int x3), (.int x4), (.long x5)] maxLocals = mkF m 0 #[.val (.int x0), .val (.int x1), .val (.int x2), .val (.int x3), .val (.int x4), .val (.long x5), .second, .unset, .unset, .unset, .unset, .unset, .unset, .unset, .unset, .unset] [] := by first | (simp [entryFrame, mkF, argsToLocals, Value.category, maxLocals]; done) | rfl
def Q0 (Z : State) (q0 : Int32) (q1 : Int32) (q2 : Int32) (q3 : Int32) (q4 : Int32) (q5 : Int64) (h0 : Heap) (n0 : Nat) (v : Option Value) (h : Heap) (L : List Loc) : Prop := v = some (.int (1 : Int32)) ∧ Fr n0 L
theorem pd_1 : parseMethodDescriptor "()I" = some ⟨[], some .int⟩ := by decide +kernel
theorem pd_2 : parseMethodDescriptor "(I)V" = some ⟨[.int], none⟩ := by decide +kernel
set_option maxHeartbeats 40000000 in
theorem pt0_128 {p : Program} {l : Launch} {e : Env} {s : State} {m : MethodId} {below : List Frame} {meth : Method} {c : Code} {T0 : State} {locs : List Loc} (Z : State) (aZ : Array Value) (hw : ∀ d ∈ tables_1, d.before aZ Z = true) (q0 : Int32) (q1 : Int32) (q2 : Int32) (q3 : Int32) (q4 : Int32) (q5 : Int64) (h0 : Heap) (n0 : Nat) (Z0 : n0 ≤ h0.size) (b9 : Addr) (y9 : Addr) (m9 : Int32) (j9 : Int32) (s1 : Int32) (s2 : Int32) (s3 : Int32) (t9 : Addr) (k9 : ClassId) (vs9 : List Value) (o9 : Int32) (bv9 : Value) (sv9 : Value) (fv9 : Value) (hC : Heap)
    (X0 : Stand p l e room_1 s m #[(.int q0), (.int q1), (.int q2), (.int q3), (.int q4), (.long q5)] below meth c T0 locs 4 32) (hx : p.tables.exec = Jvm.exec) (hZ : Z.Warmed39 s.vm) (hby : c.code = code) (hml : c.maxLocals = 16) (hown : s.vm.findClass "com/example/rida/rida/io/LineBlockSizePinLaw" = some m.cls) (hnm : meth.name = "law") (hret : meth.sig.returnType = some .boolean) (hlk : meth.locks = false) (e0 : T0.heap = hC) (K0 : Keep h0 hC []) (N0 : Fr n0 locs) (OC : Old Z n0 hC) (g_b9 : n0 ≤ b9) (sz_b9 : h0.size ≤ b9) (g_t9 : n0 ≤ t9) (sz_t9 : h0.size ≤ t9) (ne_b9_t9 : b9 ≠ t9) (E1 : Exa Z hC b9 "com/example/rida/rida/io/LineBlock") (F3 : Fld Z hC b9 "com/example/rida/rida/io/LineBlock" "bytes" "[B" bv9) (F4 : Fld Z hC b9 "com/example/rida/rida/io/LineBlock" "ends" "[I" (.ref t9)) (F5 : Fld Z hC b9 "com/example/rida/rida/io/LineBlock" "count" "I" (.int (0 : Int32))) (F6 : Fld Z hC b9 "com/example/rida/rida/io/LineBlock" "origin" "I" (.int o9)) (F7 : Fld Z hC b9 "com/example/rida/rida/io/LineBlock" "firstNumber" "J" fv9) (F8 : Fld Z hC b9 "com/example/rida/rida/io/LineBlock" "sees" "Z" sv9) (V1 : Arv Z hC t9 k9 .int m9 vs9 (.int (0 : Int32))) (hm1 : ¬ (m9 < (1 : Int32))) (hm4 : ¬ ((4 : Int32) < m9)) (hj0 : ¬ (j9 < (0 : Int32))) (hj3 : ¬ ((3 : Int32) < j9)) (hjm : ¬ (m9 < j9)) (hl : vs9.length = m9.toNatClampNeg) (ho : o9 = (if s3 = (0 : Int32) then (if s2 = (0 : Int32) then (if s1 = (0 : Int32) then (0 : Int32) else q1) else (0 : Int32)) else q1)) :
    OFin p e below s (Q0 Z q0 q1 q2 q3 q4 q5 h0 n0) room_1.cells room_1.slots (T0.setTop (mkF m 128 #[.val (.int q0), .val (.int q1), .val (.int q2), .val (.int q3), .val (.int q4), .val (.long q5), .second, .val (.int m9), .val (.int j9), .val (.int s1), .val (.int s2), .val (.int s3), .val (.ref y9), .val (.ref b9), .unset, .unset] [])) := by
  have sg102 : ∀ t, Steps p.tables e below (T0.setTop (mkF m 131 #[.val (.int q0), .val (.int q1), .val (.int q2), .val (.int q3), .val (.int q4), .val (.long q5), .second, .val (.int m9), .val (.int j9), .val (.int s1), .val (.int s2), .val (.int s3), .val (.ref y9), .val (.ref b9), .unset, .unset] [(.int (1 : Int32)), (.int j9)])) t → Steps p.tables e below (T0.setTop (mkF m 128 #[.val (.int q0), .val (.int q1), .val (.int q2), .val (.int q3), .val (.int q4), .val (.long q5), .second, .val (.int m9), .val (.int j9), .val (.int s1), .val (.int s2), .val (.int s3), .val (.ref y9), .val (.ref b9), .unset, .unset] [])) t := by
    intro t k
    show Steps p.tables e below (T0.setTop (mkF m 128 #[.val (.int q0), .val (.int q1), .val (.int q2), .val (.int q3), .val (.int q4), .val (.long q5), .second, .val (.int m9), .val (.int j9), .val (.int s1), .val (.int s2), .val (.int s3), .val (.ref y9), .val (.ref b9), .unset, .unset] [])) t
    refine XS.iload X0.here hx rfl (hb hby at_128) rfl ?_
    show Steps p.tables e below (T0.setTop (mkF m 130 #[.val (.int q0), .val (.int q1), .val (.int q2), .val (.int q3), .val (.int q4), .val (.long q5), .second, .val (.int m9), .val (.int j9), .val (.int s1), .val (.int s2), .val (.int s3), .val (.ref y9), .val (.ref b9), .unset, .unset] [(.int j9)])) t
    refine XS.iconst X0.here hx rfl (hb hby at_130) ?_
    exact k
  refine OFin.go sg102 ?_
  by_cases c103 : j9 < (1 : Int32)
  · have sg105 : ∀ t, Steps p.tables e below (T0.setTop (mkF m 143 #[.val (.int q0), .val (.int q1), .val (.int q2), .val (.int q3), .val (.int q4), .val (.long q5), .second, .val (.int m9), .val (.int j9), .val (.int s1), .val (.int s2), .val (.int s3), .val (.ref y9), .val (.ref b9), .unset, .unset] [(.int (2 : Int32)), (.int j9)])) t → Steps p.tables e below (T0.setTop (mkF m 131 #[.val (.int q0), .val (.int q1), .val (.int q2), .val (.int q3), .val (.int q4), .val (.long q5), .second, .val (.int m9), .val (.int j9), .val (.int s1), .val (.int s2), .val (.int s3), .val (.ref y9), .val (.ref b9), .unset, .unset] [(.int (1 : Int32)), (.int j9)])) t := by
      intro t k
      show Steps p.tables e below (T0.setTop (mkF m 131 #[.val (.int q0), .val (.int q1), .val (.int q2), .val (.int q3), .val (.int q4), .val (.long q5), .second, .val (.int m9), .val (.int j9), .val (.int s1), .val (.int s2), .val (.int s3), .val (.ref y9), .val (.ref b9), .unset, .unset] [(.int (1 : Int32)), (.int j9)])) t
      refine XS.icmpYes X0.here hx rfl (pc0 := 131) (pc' := 140) rfl (hb hby at_131) rfl (tlt c103).1 (by decide) (by decide) ?_
      show Steps p.tables e below (T0.setTop (mkF m 140 #[.val (.int q0), .val (.int q1), .val (.int q2), .val (.int q3), .val (.int q4), .val (.long q5), .second, .val (.int m9), .val (.int j9), .val (.int s1), .val (.int s2), .val (.int s3), .val (.ref y9), .val (.ref b9), .unset, .unset] [])) t
      refine XS.iload X0.here hx rfl (hb hby at_140) rfl ?_
      show Steps p.tables e below (T0.setTop (mkF m 142 #[.val (.int q0), .val (.int q1), .val (.int q2), .val (.int q3), .val (.int q4), .val (.long q5), .second, .val (.int m9), .val (.int j9), .val (.int s1), .val (.int s2), .val (.int s3), .val (.ref y9), .val (.ref b9), .unset, .unset] [(.int j9)])) t
      refine XS.iconst X0.here hx rfl (hb hby at_142) ?_
      exact k
    refine OFin.go sg105 ?_
    have c104 : j9 < (2 : Int32) := (own_up c103 (by decide))
    have sg107 : ∀ t, Steps p.tables e below (T0.setTop (mkF m 155 #[.val (.int q0), .val (.int q1), .val (.int q2), .val (.int q3), .val (.int q4), .val (.long q5), .second, .val (.int m9), .val (.int j9), .val (.int s1), .val (.int s2), .val (.int s3), .val (.ref y9), .val (.ref b9), .unset, .unset] [(.int (3 : Int32)), (.int j9)])) t → Steps p.tables e below (T0.setTop (mkF m 143 #[.val (.int q0), .val (.int q1), .val (.int q2), .val (.int q3), .val (.int q4), .val (.long q5), .second, .val (.int m9), .val (.int j9), .val (.int s1), .val (.int s2), .val (.int s3), .val (.ref y9), .val (.ref b9), .unset, .unset] [(.int (2 : Int32)), (.int j9)])) t := by
      intro t k
      show Steps p.tables e below (T0.setTop (mkF m 143 #[.val (.int q0), .val (.int q1), .val (.int q2), .val (.int q3), .val (.int q4), .val (.long q5), .second, .val (.int m9), .val (.int j9), .val (.int s1), .val (.int s2), .val (.int s3), .val (.ref y9), .val (.ref b9), .unset, .unset] [(.int (2 : Int32)), (.int j9)])) t
      refine XS.icmpYes X0.here hx rfl (pc0 := 143) (pc' := 152) rfl (hb hby at_143) rfl (tlt c104).1 (by decide) (by decide) ?_
      show Steps p.tables e below (T0.setTop (mkF m 152 #[.val (.int q0), .val (.int q1), .val (.int q2), .val (.int q3), .val (.int q4), .val (.long q5), .second, .val (.int m9), .val (.int j9), .val (.int s1), .val (.int s2), .val (.int s3), .val (.ref y9), .val (.ref b9), .unset, .unset] [])) t
      refine XS.iload X0.here hx rfl (hb hby at_152) rfl ?_
      show Steps p.tables e below (T0.setTop (mkF m 154 #[.val (.int q0), .val (.int q1), .val (.int q2), .val (.int q3), .val (.int q4), .val (.long q5), .second, .val (.int m9), .val (.int j9), .val (.int s1), .val (.int s2), .val (.int s3), .val (.ref y9), .val (.ref b9), .unset, .unset] [(.int j9)])) t
      refine XS.iconst X0.here hx rfl (hb hby at_154) ?_
      exact k
    refine OFin.go sg107 ?_
    have c106 : j9 < (3 : Int32) := (own_up c103 (by decide))
    have sg112 : ∀ t, Steps p.tables e below (T0.setTop (mkF m 167 #[.val (.int q0), .val (.int q1), .val (.int q2), .val (.int q3), .val (.int q4), .val (.long q5), .second, .val (.int m9), .val (.int j9), .val (.int s1), .val (.int s2), .val (.int s3), .val (.ref y9), .val (.ref b9), .unset, .unset] [(.int s3)])) t → Steps p.tables e below (T0.setTop (mkF m 155 #[.val (.int q0), .val (.int q1), .val (.int q2), .val (.int q3), .val (.int q4), .val (.long q5), .second, .val (.int m9), .val (.int j9), .val (.int s1), .val (.int s2), .val (.int s3), .val (.ref y9), .val (.ref b9), .unset, .unset] [(.int (3 : Int32)), (.int j9)])) t := by
      intro t k
      show Steps p.tables e below (T0.setTop (mkF m 155 #[.val (.int q0), .val (.int q1), .val (.int q2), .val (.int q3), .val (.int q4), .val (.long q5), .second, .val (.int m9), .val (.int j9), .val (.int s1), .val (.int s2), .val (.int s3), .val (.ref y9), .val (.ref b9), .unset, .unset] [(.int (3 : Int32)), (.int j9)])) t
      refine XS.icmpYes X0.here hx rfl (pc0 := 155) (pc' := 165) rfl (hb hby at_155) rfl (tlt c106).1 (by decide) (by decide) ?_
      show Steps p.tables e below (T0.setTop (mkF m 165 #[.val (.int q0), .val (.int q1), .val (.int q2), .val (.int q3), .val (.int q4), .val (.long q5), .second, .val (.int m9), .val (.int j9), .val (.int s1), .val (.int s2), .val (.int s3), .val (.ref y9), .val (.ref b9), .unset, .unset] [])) t
      refine XS.iload X0.here hx rfl (hb hby at_165) rfl ?_
      exact k
    refine OFin.go sg112 ?_
    obtain ⟨v111, e_v111⟩ : ∃ z : Int32, z = (if s3 = (0 : Int32) then (if s2 = (0 : Int32) then (if s1 = (0 : Int32) then (0 : Int32) else q1) else (0 : Int32)) else q1) := ⟨_, rfl⟩
    have sg113 : ∀ t, Steps p.tables e below (T0.setTop (mkF m 201 #[.val (.int q0), .val (.int q1), .val (.int q2), .val (.int q3), .val (.int q4), .val (.long q5), .second, .val (.int m9), .val (.int j9), .val (.int s1), .val (.int s2), .val (.int s3), .val (.ref y9), .val (.ref b9), .val (.int v111), .unset] [])) t → Steps p.tables e below (T0.setTop (mkF m 167 #[.val (.int q0), .val (.int q1), .val (.int q2), .val (.int q3), .val (.int q4), .val (.long q5), .second, .val (.int m9), .val (.int j9), .val (.int s1), .val (.int s2), .val (.int s3), .val (.ref y9), .val (.ref b9), .unset, .unset] [(.int s3)])) t := by
      intro t k
      by_cases c108 : s3 = (0 : Int32)
      · show Steps p.tables e below (T0.setTop (mkF m 167 #[.val (.int q0), .val (.int q1), .val (.int q2), .val (.int q3), .val (.int q4), .val (.long q5), .second, .val (.int m9), .val (.int j9), .val (.int s1), .val (.int s2), .val (.int s3), .val (.ref y9), .val (.ref b9), .unset, .unset] [(.int s3)])) t
        refine XS.ifYes X0.here hx rfl (pc0 := 167) (pc' := 176) rfl (hb hby at_167) rfl ((if0 _ _).trans (teq c108).1) (by decide) (by decide) ?_
        show Steps p.tables e below (T0.setTop (mkF m 176 #[.val (.int q0), .val (.int q1), .val (.int q2), .val (.int q3), .val (.int q4), .val (.long q5), .second, .val (.int m9), .val (.int j9), .val (.int s1), .val (.int s2), .val (.int s3), .val (.ref y9), .val (.ref b9), .unset, .unset] [])) t
        refine XS.iload X0.here hx rfl (hb hby at_176) rfl ?_
        by_cases c109 : s2 = (0 : Int32)
        · show Steps p.tables e below (T0.setTop (mkF m 178 #[.val (.int q0), .val (.int q1), .val (.int q2), .val (.int q3), .val (.int q4), .val (.long q5), .second, .val (.int m9), .val (.int j9), .val (.int s1), .val (.int s2), .val (.int s3), .val (.ref y9), .val (.ref b9), .unset, .unset] [(.int s2)])) t
          refine XS.ifYes X0.here hx rfl (pc0 := 178) (pc' := 187) rfl (hb hby at_178) rfl ((if0 _ _).trans (teq c109).1) (by decide) (by decide) ?_
          show Steps p.tables e below (T0.setTop (mkF m 187 #[.val (.int q0), .val (.int q1), .val (.int q2), .val (.int q3), .val (.int q4), .val (.long q5), .second, .val (.int m9), .val (.int j9), .val (.int s1), .val (.int s2), .val (.int s3), .val (.ref y9), .val (.ref b9), .unset, .unset] [])) t
          refine XS.iload X0.here hx rfl (hb hby at_187) rfl ?_
          by_cases c110 : s1 = (0 : Int32)
          · show Steps p.tables e below (T0.setTop (mkF m 189 #[.val (.int q0), .val (.int q1), .val (.int q2), .val (.int q3), .val (.int q4), .val (.long q5), .second, .val (.int m9), .val (.int j9), .val (.int s1), .val (.int s2), .val (.int s3), .val (.ref y9), .val (.ref b9), .unset, .unset] [(.int s1)])) t
            refine XS.ifYes X0.here hx rfl (pc0 := 189) (pc' := 198) rfl (hb hby at_189) rfl ((if0 _ _).trans (teq c110).1) (by decide) (by decide) ?_
            show Steps p.tables e below (T0.setTop (mkF m 198 #[.val (.int q0), .val (.int q1), .val (.int q2), .val (.int q3), .val (.int q4), .val (.long q5), .second, .val (.int m9), .val (.int j9), .val (.int s1), .val (.int s2), .val (.int s3), .val (.ref y9), .val (.ref b9), .unset, .unset] [])) t
            refine XS.iconst X0.here hx rfl (hb hby at_198) ?_
            show Steps p.tables e below (T0.setTop (mkF m 199 #[.val (.int q0), .val (.int q1), .val (.int q2), .val (.int q3), .val (.int q4), .val (.long q5), .second, .val (.int m9), .val (.int j9), .val (.int s1), .val (.int s2), .val (.int s3), .val (.ref y9), .val (.ref b9), .unset, .unset] [(.int (0 : Int32))])) t
            refine XS.istore X0.here hx rfl (hb hby at_199) rfl (l' := #[.val (.int q0), .val (.int q1), .val (.int q2), .val (.int q3), .val (.int q4), .val (.long q5), .second, .val (.int m9), .val (.int j9), .val (.int s1), .val (.int s2), .val (.int s3), .val (.ref y9), .val (.ref b9), .val (.int (0 : Int32)), .unset]) rfl ?_
            have e_v111' := e_v111
            try rw [if_pos c108] at e_v111'
            try rw [if_pos c109] at e_v111'
            try rw [if_pos c110] at e_v111'
            subst e_v111'
            exact k
          · show Steps p.tables e below (T0.setTop (mkF m 189 #[.val (.int q0), .val (.int q1), .val (.int q2), .val (.int q3), .val (.int q4), .val (.long q5), .second, .val (.int m9), .val (.int j9), .val (.int s1), .val (.int s2), .val (.int s3), .val (.ref y9), .val (.ref b9), .unset, .unset] [(.int s1)])) t
            refine XS.ifNo X0.here hx rfl (hb hby at_189) rfl ((if0 _ _).trans (feq c110).1) ?_
            show Steps p.tables e below (T0.setTop (mkF m 192 #[.val (.int q0), .val (.int q1), .val (.int q2), .val (.int q3), .val (.int q4), .val (.long q5), .second, .val (.int m9), .val (.int j9), .val (.int s1), .val (.int s2), .val (.int s3), .val (.ref y9), .val (.ref b9), .unset, .unset] [])) t
            refine XS.iloadN X0.here hx rfl (hb hby at_192) rfl ?_
            show Steps p.tables e below (T0.setTop (mkF m 193 #[.val (.int q0), .val (.int q1), .val (.int q2), .val (.int q3), .val (.int q4), .val (.long q5), .second, .val (.int m9), .val (.int j9), .val (.int s1), .val (.int s2), .val (.int s3), .val (.ref y9), .val (.ref b9), .unset, .unset] [(.int q1)])) t
            refine XS.istore X0.here hx rfl (hb hby at_193) rfl (l' := #[.val (.int q0), .val (.int q1), .val (.int q2), .val (.int q3), .val (.int q4), .val (.long q5), .second, .val (.int m9), .val (.int j9), .val (.int s1), .val (.int s2), .val (.int s3), .val (.ref y9), .val (.ref b9), .val (.int q1), .unset]) rfl ?_
            show Steps p.tables e below (T0.setTop (mkF m 195 #[.val (.int q0), .val (.int q1), .val (.int q2), .val (.int q3), .val (.int q4), .val (.long q5), .second, .val (.int m9), .val (.int j9), .val (.int s1), .val (.int s2), .val (.int s3), .val (.ref y9), .val (.ref b9), .val (.int q1), .unset] [])) t
            refine XS.goto X0.here hx rfl (pc0 := 195) (pc' := 201) rfl (hb hby at_195) (by decide) (by decide) ?_
            have e_v111' := e_v111
            try rw [if_pos c108] at e_v111'
            try rw [if_pos c109] at e_v111'
            try rw [if_neg c110] at e_v111'
            subst e_v111'
            exact k
        · show Steps p.tables e below (T0.setTop (mkF m 178 #[.val (.int q0), .val (.int q1), .val (.int q2), .val (.int q3), .val (.int q4), .val (.long q5), .second, .val (.int m9), .val (.int j9), .val (.int s1), .val (.int s2), .val (.int s3), .val (.ref y9), .val (.ref b9), .unset, .unset] [(.int s2)])) t
          refine XS.ifNo X0.here hx rfl (hb hby at_178) rfl ((if0 _ _).trans (feq c109).1) ?_
          show Steps p.tables e below (T0.setTop (mkF m 181 #[.val (.int q0), .val (.int q1), .val (.int q2), .val (.int q3), .val (.int q4), .val (.long q5), .second, .val (.int m9), .val (.int j9), .val (.int s1), .val (.int s2), .val (.int s3), .val (.ref y9), .val (.ref b9), .unset, .unset] [])) t
          refine XS.iconst X0.here hx rfl (hb hby at_181) ?_
          show Steps p.tables e below (T0.setTop (mkF m 182 #[.val (.int q0), .val (.int q1), .val (.int q2), .val (.int q3), .val (.int q4), .val (.long q5), .second, .val (.int m9), .val (.int j9), .val (.int s1), .val (.int s2), .val (.int s3), .val (.ref y9), .val (.ref b9), .unset, .unset] [(.int (0 : Int32))])) t
          refine XS.istore X0.here hx rfl (hb hby at_182) rfl (l' := #[.val (.int q0), .val (.int q1), .val (.int q2), .val (.int q3), .val (.int q4), .val (.long q5), .second, .val (.int m9), .val (.int j9), .val (.int s1), .val (.int s2), .val (.int s3), .val (.ref y9), .val (.ref b9), .val (.int (0 : Int32)), .unset]) rfl ?_
          show Steps p.tables e below (T0.setTop (mkF m 184 #[.val (.int q0), .val (.int q1), .val (.int q2), .val (.int q3), .val (.int q4), .val (.long q5), .second, .val (.int m9), .val (.int j9), .val (.int s1), .val (.int s2), .val (.int s3), .val (.ref y9), .val (.ref b9), .val (.int (0 : Int32)), .unset] [])) t
          refine XS.goto X0.here hx rfl (pc0 := 184) (pc' := 201) rfl (hb hby at_184) (by decide) (by decide) ?_
          have e_v111' := e_v111
          try rw [if_pos c108] at e_v111'
          try rw [if_neg c109] at e_v111'
          subst e_v111'
          exact k
      · show Steps p.tables e below (T0.setTop (mkF m 167 #[.val (.int q0), .val (.int q1), .val (.int q2), .val (.int q3), .val (.int q4), .val (.long q5), .second, .val (.int m9), .val (.int j9), .val (.int s1), .val (.int s2), .val (.int s3), .val (.ref y9), .val (.ref b9), .unset, .unset] [(.int s3)])) t
        refine XS.ifNo X0.here hx rfl (hb hby at_167) rfl ((if0 _ _).trans (feq c108).1) ?_
        show Steps p.tables e below (T0.setTop (mkF m 170 #[.val (.int q0), .val (.int q1), .val (.int q2), .val (.int q3), .val (.int q4), .val (.long q5), .second, .val (.int m9), .val (.int j9), .val (.int s1), .val (.int s2), .val (.int s3), .val (.ref y9), .val (.ref b9), .unset, .unset] [])) t
        refine XS.iloadN X0.here hx rfl (hb hby at_170) rfl ?_
        show Steps p.tables e below (T0.setTop (mkF m 171 #[.val (.int q0), .val (.int q1), .val (.int q2), .val (.int q3), .val (.int q4), .val (.long q5), .second, .val (.int m9), .val (.int j9), .val (.int s1), .val (.int s2), .val (.int s3), .val (.ref y9), .val (.ref b9), .unset, .unset] [(.int q1)])) t
        refine XS.istore X0.here hx rfl (hb hby at_171) rfl (l' := #[.val (.int q0), .val (.int q1), .val (.int q2), .val (.int q3), .val (.int q4), .val (.long q5), .second, .val (.int m9), .val (.int j9), .val (.int s1), .val (.int s2), .val (.int s3), .val (.ref y9), .val (.ref b9), .val (.int q1), .unset]) rfl ?_
        show Steps p.tables e below (T0.setTop (mkF m 173 #[.val (.int q0), .val (.int q1), .val (.int q2), .val (.int q3), .val (.int q4), .val (.long q5), .second, .val (.int m9), .val (.int j9), .val (.int s1), .val (.int s2), .val (.int s3), .val (.ref y9), .val (.ref b9), .val (.int q1), .unset] [])) t
        refine XS.goto X0.here hx rfl (pc0 := 173) (pc' := 201) rfl (hb hby at_173) (by decide) (by decide) ?_
        have e_v111' := e_v111
        try rw [if_neg c108] at e_v111'
        subst e_v111'
        exact k
    refine OFin.go sg113 ?_
    have sg118 : ∀ t, Steps p.tables e below (T0.setTop (mkF m 203 #[.val (.int q0), .val (.int q1), .val (.int q2), .val (.int q3), .val (.int q4), .val (.long q5), .second, .val (.int m9), .val (.int j9), .val (.int s1), .val (.int s2), .val (.int s3), .val (.ref y9), .val (.ref b9), .val (.int v111), .unset] [(.int j9)])) t → Steps p.tables e below (T0.setTop (mkF m 201 #[.val (.int q0), .val (.int q1), .val (.int q2), .val (.int q3), .val (.int q4), .val (.long q5), .second, .val (.int m9), .val (.int j9), .val (.int s1), .val (.int s2), .val (.int s3), .val (.ref y9), .val (.ref b9), .val (.int v111), .unset] [])) t := by
      intro t k
      show Steps p.tables e below (T0.setTop (mkF m 201 #[.val (.int q0), .val (.int q1), .val (.int q2), .val (.int q3), .val (.int q4), .val (.long q5), .second, .val (.int m9), .val (.int j9), .val (.int s1), .val (.int s2), .val (.int s3), .val (.ref y9), .val (.ref b9), .val (.int v111), .unset] [])) t
      refine XS.iload X0.here hx rfl (hb hby at_201) rfl ?_
      exact k
    refine OFin.go sg118 ?_
    obtain ⟨v117, e_v117⟩ : ∃ z : Int32, z = (if j9 = (0 : Int32) then (0 : Int32) else (if j9 = (1 : Int32) then (q2 - v111) else (if j9 = (2 : Int32) then (q3 - v111) else (q4 - v111)))) := ⟨_, rfl⟩
    have sg119 : ∀ t, Steps p.tables e below (T0.setTop (mkF m 249 #[.val (.int q0), .val (.int q1), .val (.int q2), .val (.int q3), .val (.int q4), .val (.long q5), .second, .val (.int m9), .val (.int j9), .val (.int s1), .val (.int s2), .val (.int s3), .val (.ref y9), .val (.ref b9), .val (.int v111), .val (.int v117)] [])) t → Steps p.tables e below (T0.setTop (mkF m 203 #[.val (.int q0), .val (.int q1), .val (.int q2), .val (.int q3), .val (.int q4), .val (.long q5), .second, .val (.int m9), .val (.int j9), .val (.int s1), .val (.int s2), .val (.int s3), .val (.ref y9), .val (.ref b9), .val (.int v111), .unset] [(.int j9)])) t := by
      intro t k
      by_cases c114 : j9 = (0 : Int32)
      · show Steps p.tables e below (T0.setTop (mkF m 203 #[.val (.int q0), .val (.int q1), .val (.int q2), .val (.int q3), .val (.int q4), .val (.long q5), .second, .val (.int m9), .val (.int j9), .val (.int s1), .val (.int s2), .val (.int s3), .val (.ref y9), .val (.ref b9), .val (.int v111), .unset] [(.int j9)])) t
        refine XS.ifNo X0.here hx rfl (hb hby at_203) rfl ((if0 _ _).trans (teq c114).2) ?_
        show Steps p.tables e below (T0.setTop (mkF m 206 #[.val (.int q0), .val (.int q1), .val (.int q2), .val (.int q3), .val (.int q4), .val (.long q5), .second, .val (.int m9), .val (.int j9), .val (.int s1), .val (.int s2), .val (.int s3), .val (.ref y9), .val (.ref b9), .val (.int v111), .unset] [])) t
        refine XS.iconst X0.here hx rfl (hb hby at_206) ?_
        show Steps p.tables e below (T0.setTop (mkF m 207 #[.val (.int q0), .val (.int q1), .val (.int q2), .val (.int q3), .val (.int q4), .val (.long q5), .second, .val (.int m9), .val (.int j9), .val (.int s1), .val (.int s2), .val (.int s3), .val (.ref y9), .val (.ref b9), .val (.int v111), .unset] [(.int (0 : Int32))])) t
        refine XS.istore X0.here hx rfl (hb hby at_207) rfl (l' := #[.val (.int q0), .val (.int q1), .val (.int q2), .val (.int q3), .val (.int q4), .val (.long q5), .second, .val (.int m9), .val (.int j9), .val (.int s1), .val (.int s2), .val (.int s3), .val (.ref y9), .val (.ref b9), .val (.int v111), .val (.int (0 : Int32))]) rfl ?_
        show Steps p.tables e below (T0.setTop (mkF m 209 #[.val (.int q0), .val (.int q1), .val (.int q2), .val (.int q3), .val (.int q4), .val (.long q5), .second, .val (.int m9), .val (.int j9), .val (.int s1), .val (.int s2), .val (.int s3), .val (.ref y9), .val (.ref b9), .val (.int v111), .val (.int (0 : Int32))] [])) t
        refine XS.goto X0.here hx rfl (pc0 := 209) (pc' := 249) rfl (hb hby at_209) (by decide) (by decide) ?_
        have e_v117' := e_v117
        try rw [if_pos c114] at e_v117'
        subst e_v117'
        exact k
      · show Steps p.tables e below (T0.setTop (mkF m 203 #[.val (.int q0), .val (.int q1), .val (.int q2), .val (.int q3), .val (.int q4), .val (.long q5), .second, .val (.int m9), .val (.int j9), .val (.int s1), .val (.int s2), .val (.int s3), .val (.ref y9), .val (.ref b9), .val (.int v111), .unset] [(.int j9)])) t
        refine XS.ifYes X0.here hx rfl (pc0 := 203) (pc' := 212) rfl (hb hby at_203) rfl ((if0 _ _).trans (feq c114).2) (by decide) (by decide) ?_
        show Steps p.tables e below (T0.setTop (mkF m 212 #[.val (.int q0), .val (.int q1), .val (.int q2), .val (.int q3), .val (.int q4), .val (.long q5), .second, .val (.int m9), .val (.int j9), .val (.int s1), .val (.int s2), .val (.int s3), .val (.ref y9), .val (.ref b9), .val (.int v111), .unset] [])) t
        refine XS.iload X0.here hx rfl (hb hby at_212) rfl ?_
        show Steps p.tables e below (T0.setTop (mkF m 214 #[.val (.int q0), .val (.int q1), .val (.int q2), .val (.int q3), .val (.int q4), .val (.long q5), .second, .val (.int m9), .val (.int j9), .val (.int s1), .val (.int s2), .val (.int s3), .val (.ref y9), .val (.ref b9), .val (.int v111), .unset] [(.int j9)])) t
        refine XS.iconst X0.here hx rfl (hb hby at_214) ?_
        by_cases c115 : j9 = (1 : Int32)
        · show Steps p.tables e below (T0.setTop (mkF m 215 #[.val (.int q0), .val (.int q1), .val (.int q2), .val (.int q3), .val (.int q4), .val (.long q5), .second, .val (.int m9), .val (.int j9), .val (.int s1), .val (.int s2), .val (.int s3), .val (.ref y9), .val (.ref b9), .val (.int v111), .unset] [(.int (1 : Int32)), (.int j9)])) t
          refine XS.icmpNo X0.here hx rfl (hb hby at_215) rfl (teq c115).2 ?_
          show Steps p.tables e below (T0.setTop (mkF m 218 #[.val (.int q0), .val (.int q1), .val (.int q2), .val (.int q3), .val (.int q4), .val (.long q5), .second, .val (.int m9), .val (.int j9), .val (.int s1), .val (.int s2), .val (.int s3), .val (.ref y9), .val (.ref b9), .val (.int v111), .unset] [])) t
          refine XS.iloadN X0.here hx rfl (hb hby at_218) rfl ?_
          show Steps p.tables e below (T0.setTop (mkF m 219 #[.val (.int q0), .val (.int q1), .val (.int q2), .val (.int q3), .val (.int q4), .val (.long q5), .second, .val (.int m9), .val (.int j9), .val (.int s1), .val (.int s2), .val (.int s3), .val (.ref y9), .val (.ref b9), .val (.int v111), .unset] [(.int q2)])) t
          refine XS.iload X0.here hx rfl (hb hby at_219) rfl ?_
          show Steps p.tables e below (T0.setTop (mkF m 221 #[.val (.int q0), .val (.int q1), .val (.int q2), .val (.int q3), .val (.int q4), .val (.long q5), .second, .val (.int m9), .val (.int j9), .val (.int s1), .val (.int s2), .val (.int s3), .val (.ref y9), .val (.ref b9), .val (.int v111), .unset] [(.int v111), (.int q2)])) t
          refine XS.isub X0.here hx rfl (hb hby at_221) rfl ?_
          show Steps p.tables e below (T0.setTop (mkF m 222 #[.val (.int q0), .val (.int q1), .val (.int q2), .val (.int q3), .val (.int q4), .val (.long q5), .second, .val (.int m9), .val (.int j9), .val (.int s1), .val (.int s2), .val (.int s3), .val (.ref y9), .val (.ref b9), .val (.int v111), .unset] [(.int (q2 - v111))])) t
          refine XS.istore X0.here hx rfl (hb hby at_222) rfl (l' := #[.val (.int q0), .val (.int q1), .val (.int q2), .val (.int q3), .val (.int q4), .val (.long q5), .second, .val (.int m9), .val (.int j9), .val (.int s1), .val (.int s2), .val (.int s3), .val (.ref y9), .val (.ref b9), .val (.int v111), .val (.int (q2 - v111))]) rfl ?_
          show Steps p.tables e below (T0.setTop (mkF m 224 #[.val (.int q0), .val (.int q1), .val (.int q2), .val (.int q3), .val (.int q4), .val (.long q5), .second, .val (.int m9), .val (.int j9), .val (.int s1), .val (.int s2), .val (.int s3), .val (.ref y9), .val (.ref b9), .val (.int v111), .val (.int (q2 - v111))] [])) t
          refine XS.goto X0.here hx rfl (pc0 := 224) (pc' := 249) rfl (hb hby at_224) (by decide) (by decide) ?_
          have e_v117' := e_v117
          try rw [if_neg c114] at e_v117'
          try rw [if_pos c115] at e_v117'
          subst e_v117'
          exact k
        · show Steps p.tables e below (T0.setTop (mkF m 215 #[.val (.int q0), .val (.int q1), .val (.int q2), .val (.int q3), .val (.int q4), .val (.long q5), .second, .val (.int m9), .val (.int j9), .val (.int s1), .val (.int s2), .val (.int s3), .val (.ref y9), .val (.ref b9), .val (.int v111), .unset] [(.int (1 : Int32)), (.int j9)])) t
          refine XS.icmpYes X0.here hx rfl (pc0 := 215) (pc' := 227) rfl (hb hby at_215) rfl (feq c115).2 (by decide) (by decide) ?_
          show Steps p.tables e below (T0.setTop (mkF m 227 #[.val (.int q0), .val (.int q1), .val (.int q2), .val (.int q3), .val (.int q4), .val (.long q5), .second, .val (.int m9), .val (.int j9), .val (.int s1), .val (.int s2), .val (.int s3), .val (.ref y9), .val (.ref b9), .val (.int v111), .unset] [])) t
          refine XS.iload X0.here hx rfl (hb hby at_227) rfl ?_
          show Steps p.tables e below (T0.setTop (mkF m 229 #[.val (.int q0), .val (.int q1), .val (.int q2), .val (.int q3), .val (.int q4), .val (.long q5), .second, .val (.int m9), .val (.int j9), .val (.int s1), .val (.int s2), .val (.int s3), .val (.ref y9), .val (.ref b9), .val (.int v111), .unset] [(.int j9)])) t
          refine XS.iconst X0.here hx rfl (hb hby at_229) ?_
          by_cases c116 : j9 = (2 : Int32)
          · show Steps p.tables e below (T0.setTop (mkF m 230 #[.val (.int q0), .val (.int q1), .val (.int q2), .val (.int q3), .val (.int q4), .val (.long q5), .second, .val (.int m9), .val (.int j9), .val (.int s1), .val (.int s2), .val (.int s3), .val (.ref y9), .val (.ref b9), .val (.int v111), .unset] [(.int (2 : Int32)), (.int j9)])) t
            refine XS.icmpNo X0.here hx rfl (hb hby at_230) rfl (teq c116).2 ?_
            show Steps p.tables e below (T0.setTop (mkF m 233 #[.val (.int q0), .val (.int q1), .val (.int q2), .val (.int q3), .val (.int q4), .val (.long q5), .second, .val (.int m9), .val (.int j9), .val (.int s1), .val (.int s2), .val (.int s3), .val (.ref y9), .val (.ref b9), .val (.int v111), .unset] [])) t
            refine XS.iloadN X0.here hx rfl (hb hby at_233) rfl ?_
            show Steps p.tables e below (T0.setTop (mkF m 234 #[.val (.int q0), .val (.int q1), .val (.int q2), .val (.int q3), .val (.int q4), .val (.long q5), .second, .val (.int m9), .val (.int j9), .val (.int s1), .val (.int s2), .val (.int s3), .val (.ref y9), .val (.ref b9), .val (.int v111), .unset] [(.int q3)])) t
            refine XS.iload X0.here hx rfl (hb hby at_234) rfl ?_
            show Steps p.tables e below (T0.setTop (mkF m 236 #[.val (.int q0), .val (.int q1), .val (.int q2), .val (.int q3), .val (.int q4), .val (.long q5), .second, .val (.int m9), .val (.int j9), .val (.int s1), .val (.int s2), .val (.int s3), .val (.ref y9), .val (.ref b9), .val (.int v111), .unset] [(.int v111), (.int q3)])) t
            refine XS.isub X0.here hx rfl (hb hby at_236) rfl ?_
            show Steps p.tables e below (T0.setTop (mkF m 237 #[.val (.int q0), .val (.int q1), .val (.int q2), .val (.int q3), .val (.int q4), .val (.long q5), .second, .val (.int m9), .val (.int j9), .val (.int s1), .val (.int s2), .val (.int s3), .val (.ref y9), .val (.ref b9), .val (.int v111), .unset] [(.int (q3 - v111))])) t
            refine XS.istore X0.here hx rfl (hb hby at_237) rfl (l' := #[.val (.int q0), .val (.int q1), .val (.int q2), .val (.int q3), .val (.int q4), .val (.long q5), .second, .val (.int m9), .val (.int j9), .val (.int s1), .val (.int s2), .val (.int s3), .val (.ref y9), .val (.ref b9), .val (.int v111), .val (.int (q3 - v111))]) rfl ?_
            show Steps p.tables e below (T0.setTop (mkF m 239 #[.val (.int q0), .val (.int q1), .val (.int q2), .val (.int q3), .val (.int q4), .val (.long q5), .second, .val (.int m9), .val (.int j9), .val (.int s1), .val (.int s2), .val (.int s3), .val (.ref y9), .val (.ref b9), .val (.int v111), .val (.int (q3 - v111))] [])) t
            refine XS.goto X0.here hx rfl (pc0 := 239) (pc' := 249) rfl (hb hby at_239) (by decide) (by decide) ?_
            have e_v117' := e_v117
            try rw [if_neg c114] at e_v117'
            try rw [if_neg c115] at e_v117'
            try rw [if_pos c116] at e_v117'
            subst e_v117'
            exact k
          · show Steps p.tables e below (T0.setTop (mkF m 230 #[.val (.int q0), .val (.int q1), .val (.int q2), .val (.int q3), .val (.int q4), .val (.long q5), .second, .val (.int m9), .val (.int j9), .val (.int s1), .val (.int s2), .val (.int s3), .val (.ref y9), .val (.ref b9), .val (.int v111), .unset] [(.int (2 : Int32)), (.int j9)])) t
            refine XS.icmpYes X0.here hx rfl (pc0 := 230) (pc' := 242) rfl (hb hby at_230) rfl (feq c116).2 (by decide) (by decide) ?_
            show Steps p.tables e below (T0.setTop (mkF m 242 #[.val (.int q0), .val (.int q1), .val (.int q2), .val (.int q3), .val (.int q4), .val (.long q5), .second, .val (.int m9), .val (.int j9), .val (.int s1), .val (.int s2), .val (.int s3), .val (.ref y9), .val (.ref b9), .val (.int v111), .unset] [])) t
            refine XS.iload X0.here hx rfl (hb hby at_242) rfl ?_
            show Steps p.tables e below (T0.setTop (mkF m 244 #[.val (.int q0), .val (.int q1), .val (.int q2), .val (.int q3), .val (.int q4), .val (.long q5), .second, .val (.int m9), .val (.int j9), .val (.int s1), .val (.int s2), .val (.int s3), .val (.ref y9), .val (.ref b9), .val (.int v111), .unset] [(.int q4)])) t
            refine XS.iload X0.here hx rfl (hb hby at_244) rfl ?_
            show Steps p.tables e below (T0.setTop (mkF m 246 #[.val (.int q0), .val (.int q1), .val (.int q2), .val (.int q3), .val (.int q4), .val (.long q5), .second, .val (.int m9), .val (.int j9), .val (.int s1), .val (.int s2), .val (.int s3), .val (.ref y9), .val (.ref b9), .val (.int v111), .unset] [(.int v111), (.int q4)])) t
            refine XS.isub X0.here hx rfl (hb hby at_246) rfl ?_
            show Steps p.tables e below (T0.setTop (mkF m 247 #[.val (.int q0), .val (.int q1), .val (.int q2), .val (.int q3), .val (.int q4), .val (.long q5), .second, .val (.int m9), .val (.int j9), .val (.int s1), .val (.int s2), .val (.int s3), .val (.ref y9), .val (.ref b9), .val (.int v111), .unset] [(.int (q4 - v111))])) t
            refine XS.istore X0.here hx rfl (hb hby at_247) rfl (l' := #[.val (.int q0), .val (.int q1), .val (.int q2), .val (.int q3), .val (.int q4), .val (.long q5), .second, .val (.int m9), .val (.int j9), .val (.int s1), .val (.int s2), .val (.int s3), .val (.ref y9), .val (.ref b9), .val (.int v111), .val (.int (q4 - v111))]) rfl ?_
            have e_v117' := e_v117
            try rw [if_neg c114] at e_v117'
            try rw [if_neg c115] at e_v117'
            try rw [if_neg c116] at e_v117'
            subst e_v117'
            exact k
    refine OFin.go sg119 ?_
    have sg120 : ∀ t, Steps p.tables e below (T0.setTop (mkF m 251 #[.val (.int q0), .val (.int q1), .val (.int q2), .val (.int q3), .val (.int q4), .val (.long q5), .second, .val (.int m9), .val (.int j9), .val (.int s1), .val (.int s2), .val (.int s3), .val (.ref y9), .val (.ref b9), .val (.int v111), .val (.int v117)] [(.ref b9)])) t → Steps p.tables e below (T0.setTop (mkF m 249 #[.val (.int q0), .val (.int q1), .val (.int q2), .val (.int q3), .val (.int q4), .val (.long q5), .second, .val (.int m9), .val (.int j9), .val (.int s1), .val (.int s2), .val (.int s3), .val (.ref y9), .val (.ref b9), .val (.int v111), .val (.int v117)] [])) t := by
      intro t k
      show Steps p.tables e below (T0.setTop (mkF m 249 #[.val (.int q0), .val (.int q1), .val (.int q2), .val (.int q3), .val (.int q4), .val (.long q5), .second, .val (.int m9), .val (.int j9), .val (.int s1), .val (.int s2), .val (.int s3), .val (.ref y9), .val (.ref b9), .val (.int v111), .val (.int v117)] [])) t
      refine XS.aload X0.here hx rfl (hb hby at_249) rfl rfl ?_
      exact k
    refine OFin.go sg120 ?_
    obtain ⟨cq121, kq121, q121a, q121b, q121c⟩ := isOf hZ e0 E1
    obtain ⟨_, _, ⟨T121, L121, k121, n121⟩, -, X121, ⟨Lc121, hQ121, l121, y121, z121⟩, st121⟩ := X0.virtualBack hx (y := (⟨"com/example/rida/rida/io/LineBlock", "count", "()I"⟩ : MethodName)) (z := (⟨"com/example/rida/rida/io/LineBlock", "count", "()I"⟩ : MethodName)) hown (mvT hZ (hw _ (List.mem_of_getElem? (i := 24) rfl))) (mvT hZ (hw _ (List.mem_of_getElem? (i := 25) rfl))) (notFace_of_selects (args := #[]) (mvT hZ (hw _ (List.mem_of_getElem? (i := 27) rfl)))) (mvT hZ (hw _ (List.mem_of_getElem? (i := 27) rfl))) (mvT hZ (hw _ (List.mem_of_getElem? (i := 26) rfl))) (by decide) (backOf (W := 0) (rm4 l Z aZ hw [] b9 (0 : Int32) hC n0 (Nat.le_trans Z0 K0.1) F5) hZ (hw _ (List.mem_of_getElem? (i := 28) rfl)) (hw _ (List.mem_of_getElem? (i := 7) rfl)) (by decide) (by decide)) q121a q121c (g := (mkF m 251 #[.val (.int q0), .val (.int q1), .val (.int q2), .val (.int q3), .val (.int q4), .val (.long q5), .second, .val (.int m9), .val (.int j9), .val (.int s1), .val (.int s2), .val (.int s3), .val (.ref y9), .val (.ref b9), .val (.int v111), .val (.int v117)] [(.ref b9)])) rfl (by rw [hml]; rfl) (Steps.refl _) (argsL := []) (rest := []) (lenOf pd_1 rfl) rfl (by show 2 * 0 + _ ≤ _; exact Nat.le_of_eq rfl) (hb hby at_251) (fun _ _ => ⟨rfl, e0, (by decide : 4 + 0 ≤ _), (by decide : 32 + 0 ≤ _)⟩)
    dsimp only [Pt.U, Pt.locs, Pt.cells, Pt.slots] at X121 l121 y121 z121 st121 hQ121
    subst l121 y121 z121
    obtain ⟨rfl, N121q, e121⟩ := hQ121
    have N121 := Fr.app N0 N121q
    refine OFin.tr st121 ?_
    have sg123 : ∀ t, Steps p.tables e below (T121.setTop (mkF m 256 #[.val (.int q0), .val (.int q1), .val (.int q2), .val (.int q3), .val (.int q4), .val (.long q5), .second, .val (.int m9), .val (.int j9), .val (.int s1), .val (.int s2), .val (.int s3), .val (.ref y9), .val (.ref b9), .val (.int v111), .val (.int v117)] [(.int j9), (.int (0 : Int32))])) t → Steps p.tables e below (T121.setTop (mkF m 254 #[.val (.int q0), .val (.int q1), .val (.int q2), .val (.int q3), .val (.int q4), .val (.long q5), .second, .val (.int m9), .val (.int j9), .val (.int s1), .val (.int s2), .val (.int s3), .val (.ref y9), .val (.ref b9), .val (.int v111), .val (.int v117)] [(.int (0 : Int32))])) t := by
      intro t k
      show Steps p.tables e below (T121.setTop (mkF m 254 #[.val (.int q0), .val (.int q1), .val (.int q2), .val (.int q3), .val (.int q4), .val (.long q5), .second, .val (.int m9), .val (.int j9), .val (.int s1), .val (.int s2), .val (.int s3), .val (.ref y9), .val (.ref b9), .val (.int v111), .val (.int v117)] [(.int (0 : Int32))])) t
      refine XS.iload X121.here hx rfl (hb hby at_254) rfl ?_
      exact k
    refine OFin.go sg123 ?_
    have c122 : (0 : Int32) = j9 := (own_e0 hj0 c103)
    have sg124 : ∀ t, Steps p.tables e below (T121.setTop (mkF m 261 #[.val (.int q0), .val (.int q1), .val (.int q2), .val (.int q3), .val (.int q4), .val (.long q5), .second, .val (.int m9), .val (.int j9), .val (.int s1), .val (.int s2), .val (.int s3), .val (.ref y9), .val (.ref b9), .val (.int v111), .val (.int v117)] [(.ref b9)])) t → Steps p.tables e below (T121.setTop (mkF m 256 #[.val (.int q0), .val (.int q1), .val (.int q2), .val (.int q3), .val (.int q4), .val (.long q5), .second, .val (.int m9), .val (.int j9), .val (.int s1), .val (.int s2), .val (.int s3), .val (.ref y9), .val (.ref b9), .val (.int v111), .val (.int v117)] [(.int j9), (.int (0 : Int32))])) t := by
      intro t k
      show Steps p.tables e below (T121.setTop (mkF m 256 #[.val (.int q0), .val (.int q1), .val (.int q2), .val (.int q3), .val (.int q4), .val (.long q5), .second, .val (.int m9), .val (.int j9), .val (.int s1), .val (.int s2), .val (.int s3), .val (.ref y9), .val (.ref b9), .val (.int v111), .val (.int v117)] [(.int j9), (.int (0 : Int32))])) t
      refine XS.icmpNo X121.here hx rfl (hb hby at_256) rfl (teq c122).2 ?_
      show Steps p.tables e below (T121.setTop (mkF m 259 #[.val (.int q0), .val (.int q1), .val (.int q2), .val (.int q3), .val (.int q4), .val (.long q5), .second, .val (.int m9), .val (.int j9), .val (.int s1), .val (.int s2), .val (.int s3), .val (.ref y9), .val (.ref b9), .val (.int v111), .val (.int v117)] [])) t
      refine XS.aload X121.here hx rfl (hb hby at_259) rfl rfl ?_
      exact k
    refine OFin.go sg124 ?_
    obtain ⟨cq125, kq125, q125a, q125b, q125c⟩ := isOf hZ e121 E1
    obtain ⟨_, _, ⟨T125, L125, k125, n125⟩, -, X125, ⟨Lc125, hQ125, l125, y125, z125⟩, st125⟩ := X121.virtualBack hx (y := (⟨"com/example/rida/rida/io/LineBlock", "size", "()I"⟩ : MethodName)) (z := (⟨"com/example/rida/rida/io/LineBlock", "size", "()I"⟩ : MethodName)) hown (mvT hZ (hw _ (List.mem_of_getElem? (i := 31) rfl))) (mvT hZ (hw _ (List.mem_of_getElem? (i := 32) rfl))) (notFace_of_selects (args := #[]) (mvT hZ (hw _ (List.mem_of_getElem? (i := 34) rfl)))) (mvT hZ (hw _ (List.mem_of_getElem? (i := 34) rfl))) (mvT hZ (hw _ (List.mem_of_getElem? (i := 33) rfl))) (by decide) (backOf (W := 0) (rm5 l Z aZ hw [] b9 (0 : Int32) t9 o9 k9 m9 vs9 (0 : Int32) hC n0 (Nat.le_trans Z0 K0.1) F5 F4 F6 V1 (Or.inl rfl)) hZ (hw _ (List.mem_of_getElem? (i := 35) rfl)) (hw _ (List.mem_of_getElem? (i := 7) rfl)) (by decide) (by decide)) q125a q125c (g := (mkF m 261 #[.val (.int q0), .val (.int q1), .val (.int q2), .val (.int q3), .val (.int q4), .val (.long q5), .second, .val (.int m9), .val (.int j9), .val (.int s1), .val (.int s2), .val (.int s3), .val (.ref y9), .val (.ref b9), .val (.int v111), .val (.int v117)] [(.ref b9)])) rfl (by rw [hml]; rfl) (Steps.refl _) (argsL := []) (rest := []) (lenOf pd_1 rfl) rfl (by show 2 * 0 + _ ≤ _; exact Nat.le_of_eq rfl) (hb hby at_261) (fun _ _ => ⟨rfl, e121, (by decide : 4 + 0 ≤ _), (by decide : 32 + 0 ≤ _)⟩)
    dsimp only [Pt.U, Pt.locs, Pt.cells, Pt.slots] at X125 l125 y125 z125 st125 hQ125
    subst l125 y125 z125
    obtain ⟨rfl, N125q, e125⟩ := hQ125
    have N125 := Fr.app N121 N125q
    refine OFin.tr st125 ?_
    have sg127 : ∀ t, Steps p.tables e below (T125.setTop (mkF m 266 #[.val (.int q0), .val (.int q1), .val (.int q2), .val (.int q3), .val (.int q4), .val (.long q5), .second, .val (.int m9), .val (.int j9), .val (.int s1), .val (.int s2), .val (.int s3), .val (.ref y9), .val (.ref b9), .val (.int v111), .val (.int v117)] [(.int v117), (.int (if (0 : Int32) = (0 : Int32) then (0 : Int32) else ((0 : Int32) - o9)))])) t → Steps p.tables e below (T125.setTop (mkF m 264 #[.val (.int q0), .val (.int q1), .val (.int q2), .val (.int q3), .val (.int q4), .val (.long q5), .second, .val (.int m9), .val (.int j9), .val (.int s1), .val (.int s2), .val (.int s3), .val (.ref y9), .val (.ref b9), .val (.int v111), .val (.int v117)] [(.int (if (0 : Int32) = (0 : Int32) then (0 : Int32) else ((0 : Int32) - o9)))])) t := by
      intro t k
      show Steps p.tables e below (T125.setTop (mkF m 264 #[.val (.int q0), .val (.int q1), .val (.int q2), .val (.int q3), .val (.int q4), .val (.long q5), .second, .val (.int m9), .val (.int j9), .val (.int s1), .val (.int s2), .val (.int s3), .val (.ref y9), .val (.ref b9), .val (.int v111), .val (.int v117)] [(.int (if (0 : Int32) = (0 : Int32) then (0 : Int32) else ((0 : Int32) - o9)))])) t
      refine XS.iload X125.here hx rfl (hb hby at_264) rfl ?_
      exact k
    refine OFin.go sg127 ?_
    have c126 : (if (0 : Int32) = (0 : Int32) then (0 : Int32) else ((0 : Int32) - o9)) = v117 := (by have q := (own_e0 hj0 c103); simp [e_v117, e_v111, ho, ← q])
    have sg128 : ∀ t, Steps p.tables e below (T125.setTop (mkF m 274 #[.val (.int q0), .val (.int q1), .val (.int q2), .val (.int q3), .val (.int q4), .val (.long q5), .second, .val (.int m9), .val (.int j9), .val (.int s1), .val (.int s2), .val (.int s3), .val (.ref y9), .val (.ref b9), .val (.int v111), .val (.int v117)] [(.int (1 : Int32))])) t → Steps p.tables e below (T125.setTop (mkF m 266 #[.val (.int q0), .val (.int q1), .val (.int q2), .val (.int q3), .val (.int q4), .val (.long q5), .second, .val (.int m9), .val (.int j9), .val (.int s1), .val (.int s2), .val (.int s3), .val (.ref y9), .val (.ref b9), .val (.int v111), .val (.int v117)] [(.int v117), (.int (if (0 : Int32) = (0 : Int32) then (0 : Int32) else ((0 : Int32) - o9)))])) t := by
      intro t k
      show Steps p.tables e below (T125.setTop (mkF m 266 #[.val (.int q0), .val (.int q1), .val (.int q2), .val (.int q3), .val (.int q4), .val (.long q5), .second, .val (.int m9), .val (.int j9), .val (.int s1), .val (.int s2), .val (.int s3), .val (.ref y9), .val (.ref b9), .val (.int v111), .val (.int v117)] [(.int v117), (.int (if (0 : Int32) = (0 : Int32) then (0 : Int32) else ((0 : Int32) - o9)))])) t
      refine XS.icmpNo X125.here hx rfl (hb hby at_266) rfl (teq c126).2 ?_
      show Steps p.tables e below (T125.setTop (mkF m 269 #[.val (.int q0), .val (.int q1), .val (.int q2), .val (.int q3), .val (.int q4), .val (.long q5), .second, .val (.int m9), .val (.int j9), .val (.int s1), .val (.int s2), .val (.int s3), .val (.ref y9), .val (.ref b9), .val (.int v111), .val (.int v117)] [])) t
      refine XS.iconst X125.here hx rfl (hb hby at_269) ?_
      show Steps p.tables e below (T125.setTop (mkF m 270 #[.val (.int q0), .val (.int q1), .val (.int q2), .val (.int q3), .val (.int q4), .val (.long q5), .second, .val (.int m9), .val (.int j9), .val (.int s1), .val (.int s2), .val (.int s3), .val (.ref y9), .val (.ref b9), .val (.int v111), .val (.int v117)] [(.int (1 : Int32))])) t
      refine XS.goto X125.here hx rfl (pc0 := 270) (pc' := 274) rfl (hb hby at_270) (by decide) (by decide) ?_
      exact k
    refine OFin.go sg128 ?_
    exact OFin.retN X125 hx hret (by simp) hlk (hb hby at_274) rfl (by rw [e125]; exact ⟨rfl, N125⟩) (by decide) (by decide)
  · have sg129 : ∀ t, Steps p.tables e below (T0.setTop (mkF m 137 #[.val (.int q0), .val (.int q1), .val (.int q2), .val (.int q3), .val (.int q4), .val (.long q5), .second, .val (.int m9), .val (.int j9), .val (.int s1), .val (.int s2), .val (.int s3), .val (.ref y9), .val (.ref b9), .unset, .unset] [(.int q2), (.ref b9)])) t → Steps p.tables e below (T0.setTop (mkF m 131 #[.val (.int q0), .val (.int q1), .val (.int q2), .val (.int q3), .val (.int q4), .val (.long q5), .second, .val (.int m9), .val (.int j9), .val (.int s1), .val (.int s2), .val (.int s3), .val (.ref y9), .val (.ref b9), .unset, .unset] [(.int (1 : Int32)), (.int j9)])) t := by
      intro t k
      show Steps p.tables e below (T0.setTop (mkF m 131 #[.val (.int q0), .val (.int q1), .val (.int q2), .val (.int q3), .val (.int q4), .val (.long q5), .second, .val (.int m9), .val (.int j9), .val (.int s1), .val (.int s2), .val (.int s3), .val (.ref y9), .val (.ref b9), .unset, .unset] [(.int (1 : Int32)), (.int j9)])) t
      refine XS.icmpNo X0.here hx rfl (hb hby at_131) rfl (flt c103).1 ?_
      show Steps p.tables e below (T0.setTop (mkF m 134 #[.val (.int q0), .val (.int q1), .val (.int q2), .val (.int q3), .val (.int q4), .val (.long q5), .second, .val (.int m9), .val (.int j9), .val (.int s1), .val (.int s2), .val (.int s3), .val (.ref y9), .val (.ref b9), .unset, .unset] [])) t
      refine XS.aload X0.here hx rfl (hb hby at_134) rfl rfl ?_
      show Steps p.tables e below (T0.setTop (mkF m 136 #[.val (.int q0), .val (.int q1), .val (.int q2), .val (.int q3), .val (.int q4), .val (.long q5), .second, .val (.int m9), .val (.int j9), .val (.int s1), .val (.int s2), .val (.int s3), .val (.ref y9), .val (.ref b9), .unset, .unset] [(.ref b9)])) t
      refine XS.iloadN X0.here hx rfl (hb hby at_136) rfl ?_
      exact k
    refine OFin.go sg129 ?_
    obtain ⟨cq130, kq130, q130a, q130b, q130c⟩ := isOf hZ e0 E1
    obtain ⟨_, _, ⟨T130, L130, k130, n130⟩, -, X130, ⟨Lc130, hQ130, l130, y130, z130⟩, st130⟩ := X0.virtualBack hx (y := (⟨"com/example/rida/rida/io/LineBlock", "add", "(I)V"⟩ : MethodName)) (z := (⟨"com/example/rida/rida/io/LineBlock", "add", "(I)V"⟩ : MethodName)) hown (mvT hZ (hw _ (List.mem_of_getElem? (i := 36) rfl))) (mvT hZ (hw _ (List.mem_of_getElem? (i := 37) rfl))) (notFace_of_selects (args := #[]) (mvT hZ (hw _ (List.mem_of_getElem? (i := 39) rfl)))) (mvT hZ (hw _ (List.mem_of_getElem? (i := 39) rfl))) (mvT hZ (hw _ (List.mem_of_getElem? (i := 38) rfl))) (by decide) (backOf (W := 0) (rm6 l Z aZ hw [] b9 q2 t9 k9 m9 vs9 (0 : Int32) o9 bv9 sv9 fv9 hC n0 (Nat.le_trans Z0 K0.1) E1 F3 F4 F5 F6 F7 F8 V1 (by decide) (own_h0 hm1) hl ne_b9_t9 g_b9 g_t9) hZ (hw _ (List.mem_of_getElem? (i := 40) rfl)) (hw _ (List.mem_of_getElem? (i := 7) rfl)) (by decide) (by decide)) q130a q130c (g := (mkF m 137 #[.val (.int q0), .val (.int q1), .val (.int q2), .val (.int q3), .val (.int q4), .val (.long q5), .second, .val (.int m9), .val (.int j9), .val (.int s1), .val (.int s2), .val (.int s3), .val (.ref y9), .val (.ref b9), .unset, .unset] [(.int q2), (.ref b9)])) rfl (by rw [hml]; rfl) (Steps.refl _) (argsL := [(.int q2)]) (rest := []) (lenOf pd_2 rfl) rfl (by show 2 * 0 + _ ≤ _; exact Nat.le_of_eq rfl) (hb hby at_137) (fun _ _ => ⟨rfl, e0, (by decide : 4 + 0 ≤ _), (by decide : 32 + 0 ≤ _)⟩)
    dsimp only [Pt.U, Pt.locs, Pt.cells, Pt.slots] at X130 l130 y130 z130 st130 hQ130
    subst l130 y130 z130
    obtain ⟨rfl, N130q, Kq130, P130_0, P130_1, P130_2, P130_3, P130_4, P130_5, P130_6⟩ := hQ130
    have N130 := Fr.app N0 N130q
    refine OFin.tr st130 ?_
    have K130 : Keep h0 T130.heap [] := K0.trans Kq130 (allS (Or.inr sz_b9) (allS (Or.inr sz_t9) all0))
    have sg131 : ∀ t, Steps p.tables e below (T130.setTop (mkF m 143 #[.val (.int q0), .val (.int q1), .val (.int q2), .val (.int q3), .val (.int q4), .val (.long q5), .second, .val (.int m9), .val (.int j9), .val (.int s1), .val (.int s2), .val (.int s3), .val (.ref y9), .val (.ref b9), .unset, .unset] [(.int (2 : Int32)), (.int j9)])) t → Steps p.tables e below (T130.setTop (mkF m 140 #[.val (.int q0), .val (.int q1), .val (.int q2), .val (.int q3), .val (.int q4), .val (.long q5), .second, .val (.int m9), .val (.int j9), .val (.int s1), .val (.int s2), .val (.int s3), .val (.ref y9), .val (.ref b9), .unset, .unset] [])) t := by
      intro t k
      show Steps p.tables e below (T130.setTop (mkF m 140 #[.val (.int q0), .val (.int q1), .val (.int q2), .val (.int q3), .val (.int q4), .val (.long q5), .second, .val (.int m9), .val (.int j9), .val (.int s1), .val (.int s2), .val (.int s3), .val (.ref y9), .val (.ref b9), .unset, .unset] [])) t
      refine XS.iload X130.here hx rfl (hb hby at_140) rfl ?_
      show Steps p.tables e below (T130.setTop (mkF m 142 #[.val (.int q0), .val (.int q1), .val (.int q2), .val (.int q3), .val (.int q4), .val (.long q5), .second, .val (.int m9), .val (.int j9), .val (.int s1), .val (.int s2), .val (.int s3), .val (.ref y9), .val (.ref b9), .unset, .unset] [(.int j9)])) t
      refine XS.iconst X130.here hx rfl (hb hby at_142) ?_
      exact k
    refine OFin.go sg131 ?_
    by_cases c132 : j9 < (2 : Int32)
    · have sg134 : ∀ t, Steps p.tables e below (T130.setTop (mkF m 155 #[.val (.int q0), .val (.int q1), .val (.int q2), .val (.int q3), .val (.int q4), .val (.long q5), .second, .val (.int m9), .val (.int j9), .val (.int s1), .val (.int s2), .val (.int s3), .val (.ref y9), .val (.ref b9), .unset, .unset] [(.int (3 : Int32)), (.int j9)])) t → Steps p.tables e below (T130.setTop (mkF m 143 #[.val (.int q0), .val (.int q1), .val (.int q2), .val (.int q3), .val (.int q4), .val (.long q5), .second, .val (.int m9), .val (.int j9), .val (.int s1), .val (.int s2), .val (.int s3), .val (.ref y9), .val (.ref b9), .unset, .unset] [(.int (2 : Int32)), (.int j9)])) t := by
        intro t k
        show Steps p.tables e below (T130.setTop (mkF m 143 #[.val (.int q0), .val (.int q1), .val (.int q2), .val (.int q3), .val (.int q4), .val (.long q5), .second, .val (.int m9), .val (.int j9), .val (.int s1), .val (.int s2), .val (.int s3), .val (.ref y9), .val (.ref b9), .unset, .unset] [(.int (2 : Int32)), (.int j9)])) t
        refine XS.icmpYes X130.here hx rfl (pc0 := 143) (pc' := 152) rfl (hb hby at_143) rfl (tlt c132).1 (by decide) (by decide) ?_
        show Steps p.tables e below (T130.setTop (mkF m 152 #[.val (.int q0), .val (.int q1), .val (.int q2), .val (.int q3), .val (.int q4), .val (.long q5), .second, .val (.int m9), .val (.int j9), .val (.int s1), .val (.int s2), .val (.int s3), .val (.ref y9), .val (.ref b9), .unset, .unset] [])) t
        refine XS.iload X130.here hx rfl (hb hby at_152) rfl ?_
        show Steps p.tables e below (T130.setTop (mkF m 154 #[.val (.int q0), .val (.int q1), .val (.int q2), .val (.int q3), .val (.int q4), .val (.long q5), .second, .val (.int m9), .val (.int j9), .val (.int s1), .val (.int s2), .val (.int s3), .val (.ref y9), .val (.ref b9), .unset, .unset] [(.int j9)])) t
        refine XS.iconst X130.here hx rfl (hb hby at_154) ?_
        exact k
      refine OFin.go sg134 ?_
      have c133 : j9 < (3 : Int32) := (own_up c132 (by decide))
      have sg139 : ∀ t, Steps p.tables e below (T130.setTop (mkF m 167 #[.val (.int q0), .val (.int q1), .val (.int q2), .val (.int q3), .val (.int q4), .val (.long q5), .second, .val (.int m9), .val (.int j9), .val (.int s1), .val (.int s2), .val (.int s3), .val (.ref y9), .val (.ref b9), .unset, .unset] [(.int s3)])) t → Steps p.tables e below (T130.setTop (mkF m 155 #[.val (.int q0), .val (.int q1), .val (.int q2), .val (.int q3), .val (.int q4), .val (.long q5), .second, .val (.int m9), .val (.int j9), .val (.int s1), .val (.int s2), .val (.int s3), .val (.ref y9), .val (.ref b9), .unset, .unset] [(.int (3 : Int32)), (.int j9)])) t := by
        intro t k
        show Steps p.tables e below (T130.setTop (mkF m 155 #[.val (.int q0), .val (.int q1), .val (.int q2), .val (.int q3), .val (.int q4), .val (.long q5), .second, .val (.int m9), .val (.int j9), .val (.int s1), .val (.int s2), .val (.int s3), .val (.ref y9), .val (.ref b9), .unset, .unset] [(.int (3 : Int32)), (.int j9)])) t
        refine XS.icmpYes X130.here hx rfl (pc0 := 155) (pc' := 165) rfl (hb hby at_155) rfl (tlt c133).1 (by decide) (by decide) ?_
        show Steps p.tables e below (T130.setTop (mkF m 165 #[.val (.int q0), .val (.int q1), .val (.int q2), .val (.int q3), .val (.int q4), .val (.long q5), .second, .val (.int m9), .val (.int j9), .val (.int s1), .val (.int s2), .val (.int s3), .val (.ref y9), .val (.ref b9), .unset, .unset] [])) t
        refine XS.iload X130.here hx rfl (hb hby at_165) rfl ?_
        exact k
      refine OFin.go sg139 ?_
      obtain ⟨v138, e_v138⟩ : ∃ z : Int32, z = (if s3 = (0 : Int32) then (if s2 = (0 : Int32) then (if s1 = (0 : Int32) then (0 : Int32) else q1) else (0 : Int32)) else q1) := ⟨_, rfl⟩
      have sg140 : ∀ t, Steps p.tables e below (T130.setTop (mkF m 201 #[.val (.int q0), .val (.int q1), .val (.int q2), .val (.int q3), .val (.int q4), .val (.long q5), .second, .val (.int m9), .val (.int j9), .val (.int s1), .val (.int s2), .val (.int s3), .val (.ref y9), .val (.ref b9), .val (.int v138), .unset] [])) t → Steps p.tables e below (T130.setTop (mkF m 167 #[.val (.int q0), .val (.int q1), .val (.int q2), .val (.int q3), .val (.int q4), .val (.long q5), .second, .val (.int m9), .val (.int j9), .val (.int s1), .val (.int s2), .val (.int s3), .val (.ref y9), .val (.ref b9), .unset, .unset] [(.int s3)])) t := by
        intro t k
        by_cases c135 : s3 = (0 : Int32)
        · show Steps p.tables e below (T130.setTop (mkF m 167 #[.val (.int q0), .val (.int q1), .val (.int q2), .val (.int q3), .val (.int q4), .val (.long q5), .second, .val (.int m9), .val (.int j9), .val (.int s1), .val (.int s2), .val (.int s3), .val (.ref y9), .val (.ref b9), .unset, .unset] [(.int s3)])) t
          refine XS.ifYes X130.here hx rfl (pc0 := 167) (pc' := 176) rfl (hb hby at_167) rfl ((if0 _ _).trans (teq c135).1) (by decide) (by decide) ?_
          show Steps p.tables e below (T130.setTop (mkF m 176 #[.val (.int q0), .val (.int q1), .val (.int q2), .val (.int q3), .val (.int q4), .val (.long q5), .second, .val (.int m9), .val (.int j9), .val (.int s1), .val (.int s2), .val (.int s3), .val (.ref y9), .val (.ref b9), .unset, .unset] [])) t
          refine XS.iload X130.here hx rfl (hb hby at_176) rfl ?_
          by_cases c136 : s2 = (0 : Int32)
          · show Steps p.tables e below (T130.setTop (mkF m 178 #[.val (.int q0), .val (.int q1), .val (.int q2), .val (.int q3), .val (.int q4), .val (.long q5), .second, .val (.int m9), .val (.int j9), .val (.int s1), .val (.int s2), .val (.int s3), .val (.ref y9), .val (.ref b9), .unset, .unset] [(.int s2)])) t
            refine XS.ifYes X130.here hx rfl (pc0 := 178) (pc' := 187) rfl (hb hby at_178) rfl ((if0 _ _).trans (teq c136).1) (by decide) (by decide) ?_
            show Steps p.tables e below (T130.setTop (mkF m 187 #[.val (.int q0), .val (.int q1), .val (.int q2), .val (.int q3), .val (.int q4), .val (.long q5), .second, .val (.int m9), .val (.int j9), .val (.int s1), .val (.int s2), .val (.int s3), .val (.ref y9), .val (.ref b9), .unset, .unset] [])) t
            refine XS.iload X130.here hx rfl (hb hby at_187) rfl ?_
            by_cases c137 : s1 = (0 : Int32)
            · show Steps p.tables e below (T130.setTop (mkF m 189 #[.val (.int q0), .val (.int q1), .val (.int q2), .val (.int q3), .val (.int q4), .val (.long q5), .second, .val (.int m9), .val (.int j9), .val (.int s1), .val (.int s2), .val (.int s3), .val (.ref y9), .val (.ref b9), .unset, .unset] [(.int s1)])) t
              refine XS.ifYes X130.here hx rfl (pc0 := 189) (pc' := 198) rfl (hb hby at_189) rfl ((if0 _ _).trans (teq c137).1) (by decide) (by decide) ?_
              show Steps p.tables e below (T130.setTop (mkF m 198 #[.val (.int q0), .val (.int q1), .val (.int q2), .val (.int q3), .val (.int q4), .val (.long q5), .second, .val (.int m9), .val (.int j9), .val (.int s1), .val (.int s2), .val (.int s3), .val (.ref y9), .val (.ref b9), .unset, .unset] [])) t
              refine XS.iconst X130.here hx rfl (hb hby at_198) ?_
              show Steps p.tables e below (T130.setTop (mkF m 199 #[.val (.int q0), .val (.int q1), .val (.int q2), .val (.int q3), .val (.int q4), .val (.long q5), .second, .val (.int m9), .val (.int j9), .val (.int s1), .val (.int s2), .val (.int s3), .val (.ref y9), .val (.ref b9), .unset, .unset] [(.int (0 : Int32))])) t
              refine XS.istore X130.here hx rfl (hb hby at_199) rfl (l' := #[.val (.int q0), .val (.int q1), .val (.int q2), .val (.int q3), .val (.int q4), .val (.long q5), .second, .val (.int m9), .val (.int j9), .val (.int s1), .val (.int s2), .val (.int s3), .val (.ref y9), .val (.ref b9), .val (.int (0 : Int32)), .unset]) rfl ?_
              have e_v138' := e_v138
              try rw [if_pos c135] at e_v138'
              try rw [if_pos c136] at e_v138'
              try rw [if_pos c137] at e_v138'
              subst e_v138'
              exact k
            · show Steps p.tables e below (T130.setTop (mkF m 189 #[.val (.int q0), .val (.int q1), .val (.int q2), .val (.int q3), .val (.int q4), .val (.long q5), .second, .val (.int m9), .val (.int j9), .val (.int s1), .val (.int s2), .val (.int s3), .val (.ref y9), .val (.ref b9), .unset, .unset] [(.int s1)])) t
              refine XS.ifNo X130.here hx rfl (hb hby at_189) rfl ((if0 _ _).trans (feq c137).1) ?_
              show Steps p.tables e below (T130.setTop (mkF m 192 #[.val (.int q0), .val (.int q1), .val (.int q2), .val (.int q3), .val (.int q4), .val (.long q5), .second, .val (.int m9), .val (.int j9), .val (.int s1), .val (.int s2), .val (.int s3), .val (.ref y9), .val (.ref b9), .unset, .unset] [])) t
              refine XS.iloadN X130.here hx rfl (hb hby at_192) rfl ?_
              show Steps p.tables e below (T130.setTop (mkF m 193 #[.val (.int q0), .val (.int q1), .val (.int q2), .val (.int q3), .val (.int q4), .val (.long q5), .second, .val (.int m9), .val (.int j9), .val (.int s1), .val (.int s2), .val (.int s3), .val (.ref y9), .val (.ref b9), .unset, .unset] [(.int q1)])) t
              refine XS.istore X130.here hx rfl (hb hby at_193) rfl (l' := #[.val (.int q0), .val (.int q1), .val (.int q2), .val (.int q3), .val (.int q4), .val (.long q5), .second, .val (.int m9), .val (.int j9), .val (.int s1), .val (.int s2), .val (.int s3), .val (.ref y9), .val (.ref b9), .val (.int q1), .unset]) rfl ?_
              show Steps p.tables e below (T130.setTop (mkF m 195 #[.val (.int q0), .val (.int q1), .val (.int q2), .val (.int q3), .val (.int q4), .val (.long q5), .second, .val (.int m9), .val (.int j9), .val (.int s1), .val (.int s2), .val (.int s3), .val (.ref y9), .val (.ref b9), .val (.int q1), .unset] [])) t
              refine XS.goto X130.here hx rfl (pc0 := 195) (pc' := 201) rfl (hb hby at_195) (by decide) (by decide) ?_
              have e_v138' := e_v138
              try rw [if_pos c135] at e_v138'
              try rw [if_pos c136] at e_v138'
              try rw [if_neg c137] at e_v138'
              subst e_v138'
              exact k
          · show Steps p.tables e below (T130.setTop (mkF m 178 #[.val (.int q0), .val (.int q1), .val (.int q2), .val (.int q3), .val (.int q4), .val (.long q5), .second, .val (.int m9), .val (.int j9), .val (.int s1), .val (.int s2), .val (.int s3), .val (.ref y9), .val (.ref b9), .unset, .unset] [(.int s2)])) t
            refine XS.ifNo X130.here hx rfl (hb hby at_178) rfl ((if0 _ _).trans (feq c136).1) ?_
            show Steps p.tables e below (T130.setTop (mkF m 181 #[.val (.int q0), .val (.int q1), .val (.int q2), .val (.int q3), .val (.int q4), .val (.long q5), .second, .val (.int m9), .val (.int j9), .val (.int s1), .val (.int s2), .val (.int s3), .val (.ref y9), .val (.ref b9), .unset, .unset] [])) t
            refine XS.iconst X130.here hx rfl (hb hby at_181) ?_
            show Steps p.tables e below (T130.setTop (mkF m 182 #[.val (.int q0), .val (.int q1), .val (.int q2), .val (.int q3), .val (.int q4), .val (.long q5), .second, .val (.int m9), .val (.int j9), .val (.int s1), .val (.int s2), .val (.int s3), .val (.ref y9), .val (.ref b9), .unset, .unset] [(.int (0 : Int32))])) t
            refine XS.istore X130.here hx rfl (hb hby at_182) rfl (l' := #[.val (.int q0), .val (.int q1), .val (.int q2), .val (.int q3), .val (.int q4), .val (.long q5), .second, .val (.int m9), .val (.int j9), .val (.int s1), .val (.int s2), .val (.int s3), .val (.ref y9), .val (.ref b9), .val (.int (0 : Int32)), .unset]) rfl ?_
            show Steps p.tables e below (T130.setTop (mkF m 184 #[.val (.int q0), .val (.int q1), .val (.int q2), .val (.int q3), .val (.int q4), .val (.long q5), .second, .val (.int m9), .val (.int j9), .val (.int s1), .val (.int s2), .val (.int s3), .val (.ref y9), .val (.ref b9), .val (.int (0 : Int32)), .unset] [])) t
            refine XS.goto X130.here hx rfl (pc0 := 184) (pc' := 201) rfl (hb hby at_184) (by decide) (by decide) ?_
            have e_v138' := e_v138
            try rw [if_pos c135] at e_v138'
            try rw [if_neg c136] at e_v138'
            subst e_v138'
            exact k
        · show Steps p.tables e below (T130.setTop (mkF m 167 #[.val (.int q0), .val (.int q1), .val (.int q2), .val (.int q3), .val (.int q4), .val (.long q5), .second, .val (.int m9), .val (.int j9), .val (.int s1), .val (.int s2), .val (.int s3), .val (.ref y9), .val (.ref b9), .unset, .unset] [(.int s3)])) t
          refine XS.ifNo X130.here hx rfl (hb hby at_167) rfl ((if0 _ _).trans (feq c135).1) ?_
          show Steps p.tables e below (T130.setTop (mkF m 170 #[.val (.int q0), .val (.int q1), .val (.int q2), .val (.int q3), .val (.int q4), .val (.long q5), .second, .val (.int m9), .val (.int j9), .val (.int s1), .val (.int s2), .val (.int s3), .val (.ref y9), .val (.ref b9), .unset, .unset] [])) t
          refine XS.iloadN X130.here hx rfl (hb hby at_170) rfl ?_
          show Steps p.tables e below (T130.setTop (mkF m 171 #[.val (.int q0), .val (.int q1), .val (.int q2), .val (.int q3), .val (.int q4), .val (.long q5), .second, .val (.int m9), .val (.int j9), .val (.int s1), .val (.int s2), .val (.int s3), .val (.ref y9), .val (.ref b9), .unset, .unset] [(.int q1)])) t
          refine XS.istore X130.here hx rfl (hb hby at_171) rfl (l' := #[.val (.int q0), .val (.int q1), .val (.int q2), .val (.int q3), .val (.int q4), .val (.long q5), .second, .val (.int m9), .val (.int j9), .val (.int s1), .val (.int s2), .val (.int s3), .val (.ref y9), .val (.ref b9), .val (.int q1), .unset]) rfl ?_
          show Steps p.tables e below (T130.setTop (mkF m 173 #[.val (.int q0), .val (.int q1), .val (.int q2), .val (.int q3), .val (.int q4), .val (.long q5), .second, .val (.int m9), .val (.int j9), .val (.int s1), .val (.int s2), .val (.int s3), .val (.ref y9), .val (.ref b9), .val (.int q1), .unset] [])) t
          refine XS.goto X130.here hx rfl (pc0 := 173) (pc' := 201) rfl (hb hby at_173) (by decide) (by decide) ?_
          have e_v138' := e_v138
          try rw [if_neg c135] at e_v138'
          subst e_v138'
          exact k
      refine OFin.go sg140 ?_
      have sg145 : ∀ t, Steps p.tables e below (T130.setTop (mkF m 203 #[.val (.int q0), .val (.int q1), .val (.int q2), .val (.int q3), .val (.int q4), .val (.long q5), .second, .val (.int m9), .val (.int j9), .val (.int s1), .val (.int s2), .val (.int s3), .val (.ref y9), .val (.ref b9), .val (.int v138), .unset] [(.int j9)])) t → Steps p.tables e below (T130.setTop (mkF m 201 #[.val (.int q0), .val (.int q1), .val (.int q2), .val (.int q3), .val (.int q4), .val (.long q5), .second, .val (.int m9), .val (.int j9), .val (.int s1), .val (.int s2), .val (.int s3), .val (.ref y9), .val (.ref b9), .val (.int v138), .unset] [])) t := by
        intro t k
        show Steps p.tables e below (T130.setTop (mkF m 201 #[.val (.int q0), .val (.int q1), .val (.int q2), .val (.int q3), .val (.int q4), .val (.long q5), .second, .val (.int m9), .val (.int j9), .val (.int s1), .val (.int s2), .val (.int s3), .val (.ref y9), .val (.ref b9), .val (.int v138), .unset] [])) t
        refine XS.iload X130.here hx rfl (hb hby at_201) rfl ?_
        exact k
      refine OFin.go sg145 ?_
      obtain ⟨v144, e_v144⟩ : ∃ z : Int32, z = (if j9 = (0 : Int32) then (0 : Int32) else (if j9 = (1 : Int32) then (q2 - v138) else (if j9 = (2 : Int32) then (q3 - v138) else (q4 - v138)))) := ⟨_, rfl⟩
      have sg146 : ∀ t, Steps p.tables e below (T130.setTop (mkF m 249 #[.val (.int q0), .val (.int q1), .val (.int q2), .val (.int q3), .val (.int q4), .val (.long q5), .second, .val (.int m9), .val (.int j9), .val (.int s1), .val (.int s2), .val (.int s3), .val (.ref y9), .val (.ref b9), .val (.int v138), .val (.int v144)] [])) t → Steps p.tables e below (T130.setTop (mkF m 203 #[.val (.int q0), .val (.int q1), .val (.int q2), .val (.int q3), .val (.int q4), .val (.long q5), .second, .val (.int m9), .val (.int j9), .val (.int s1), .val (.int s2), .val (.int s3), .val (.ref y9), .val (.ref b9), .val (.int v138), .unset] [(.int j9)])) t := by
        intro t k
        by_cases c141 : j9 = (0 : Int32)
        · show Steps p.tables e below (T130.setTop (mkF m 203 #[.val (.int q0), .val (.int q1), .val (.int q2), .val (.int q3), .val (.int q4), .val (.long q5), .second, .val (.int m9), .val (.int j9), .val (.int s1), .val (.int s2), .val (.int s3), .val (.ref y9), .val (.ref b9), .val (.int v138), .unset] [(.int j9)])) t
          refine XS.ifNo X130.here hx rfl (hb hby at_203) rfl ((if0 _ _).trans (teq c141).2) ?_
          show Steps p.tables e below (T130.setTop (mkF m 206 #[.val (.int q0), .val (.int q1), .val (.int q2), .val (.int q3), .val (.int q4), .val (.long q5), .second, .val (.int m9), .val (.int j9), .val (.int s1), .val (.int s2), .val (.int s3), .val (.ref y9), .val (.ref b9), .val (.int v138), .unset] [])) t
          refine XS.iconst X130.here hx rfl (hb hby at_206) ?_
          show Steps p.tables e below (T130.setTop (mkF m 207 #[.val (.int q0), .val (.int q1), .val (.int q2), .val (.int q3), .val (.int q4), .val (.long q5), .second, .val (.int m9), .val (.int j9), .val (.int s1), .val (.int s2), .val (.int s3), .val (.ref y9), .val (.ref b9), .val (.int v138), .unset] [(.int (0 : Int32))])) t
          refine XS.istore X130.here hx rfl (hb hby at_207) rfl (l' := #[.val (.int q0), .val (.int q1), .val (.int q2), .val (.int q3), .val (.int q4), .val (.long q5), .second, .val (.int m9), .val (.int j9), .val (.int s1), .val (.int s2), .val (.int s3), .val (.ref y9), .val (.ref b9), .val (.int v138), .val (.int (0 : Int32))]) rfl ?_
          show Steps p.tables e below (T130.setTop (mkF m 209 #[.val (.int q0), .val (.int q1), .val (.int q2), .val (.int q3), .val (.int q4), .val (.long q5), .second, .val (.int m9), .val (.int j9), .val (.int s1), .val (.int s2), .val (.int s3), .val (.ref y9), .val (.ref b9), .val (.int v138), .val (.int (0 : Int32))] [])) t
          refine XS.goto X130.here hx rfl (pc0 := 209) (pc' := 249) rfl (hb hby at_209) (by decide) (by decide) ?_
          have e_v144' := e_v144
          try rw [if_pos c141] at e_v144'
          subst e_v144'
          exact k
        · show Steps p.tables e below (T130.setTop (mkF m 203 #[.val (.int q0), .val (.int q1), .val (.int q2), .val (.int q3), .val (.int q4), .val (.long q5), .second, .val (.int m9), .val (.int j9), .val (.int s1), .val (.int s2), .val (.int s3), .val (.ref y9), .val (.ref b9), .val (.int v138), .unset] [(.int j9)])) t
          refine XS.ifYes X130.here hx rfl (pc0 := 203) (pc' := 212) rfl (hb hby at_203) rfl ((if0 _ _).trans (feq c141).2) (by decide) (by decide) ?_
          show Steps p.tables e below (T130.setTop (mkF m 212 #[.val (.int q0), .val (.int q1), .val (.int q2), .val (.int q3), .val (.int q4), .val (.long q5), .second, .val (.int m9), .val (.int j9), .val (.int s1), .val (.int s2), .val (.int s3), .val (.ref y9), .val (.ref b9), .val (.int v138), .unset] [])) t
          refine XS.iload X130.here hx rfl (hb hby at_212) rfl ?_
          show Steps p.tables e below (T130.setTop (mkF m 214 #[.val (.int q0), .val (.int q1), .val (.int q2), .val (.int q3), .val (.int q4), .val (.long q5), .second, .val (.int m9), .val (.int j9), .val (.int s1), .val (.int s2), .val (.int s3), .val (.ref y9), .val (.ref b9), .val (.int v138), .unset] [(.int j9)])) t
          refine XS.iconst X130.here hx rfl (hb hby at_214) ?_
          by_cases c142 : j9 = (1 : Int32)
          · show Steps p.tables e below (T130.setTop (mkF m 215 #[.val (.int q0), .val (.int q1), .val (.int q2), .val (.int q3), .val (.int q4), .val (.long q5), .second, .val (.int m9), .val (.int j9), .val (.int s1), .val (.int s2), .val (.int s3), .val (.ref y9), .val (.ref b9), .val (.int v138), .unset] [(.int (1 : Int32)), (.int j9)])) t
            refine XS.icmpNo X130.here hx rfl (hb hby at_215) rfl (teq c142).2 ?_
            show Steps p.tables e below (T130.setTop (mkF m 218 #[.val (.int q0), .val (.int q1), .val (.int q2), .val (.int q3), .val (.int q4), .val (.long q5), .second, .val (.int m9), .val (.int j9), .val (.int s1), .val (.int s2), .val (.int s3), .val (.ref y9), .val (.ref b9), .val (.int v138), .unset] [])) t
            refine XS.iloadN X130.here hx rfl (hb hby at_218) rfl ?_
            show Steps p.tables e below (T130.setTop (mkF m 219 #[.val (.int q0), .val (.int q1), .val (.int q2), .val (.int q3), .val (.int q4), .val (.long q5), .second, .val (.int m9), .val (.int j9), .val (.int s1), .val (.int s2), .val (.int s3), .val (.ref y9), .val (.ref b9), .val (.int v138), .unset] [(.int q2)])) t
            refine XS.iload X130.here hx rfl (hb hby at_219) rfl ?_
            show Steps p.tables e below (T130.setTop (mkF m 221 #[.val (.int q0), .val (.int q1), .val (.int q2), .val (.int q3), .val (.int q4), .val (.long q5), .second, .val (.int m9), .val (.int j9), .val (.int s1), .val (.int s2), .val (.int s3), .val (.ref y9), .val (.ref b9), .val (.int v138), .unset] [(.int v138), (.int q2)])) t
            refine XS.isub X130.here hx rfl (hb hby at_221) rfl ?_
            show Steps p.tables e below (T130.setTop (mkF m 222 #[.val (.int q0), .val (.int q1), .val (.int q2), .val (.int q3), .val (.int q4), .val (.long q5), .second, .val (.int m9), .val (.int j9), .val (.int s1), .val (.int s2), .val (.int s3), .val (.ref y9), .val (.ref b9), .val (.int v138), .unset] [(.int (q2 - v138))])) t
            refine XS.istore X130.here hx rfl (hb hby at_222) rfl (l' := #[.val (.int q0), .val (.int q1), .val (.int q2), .val (.int q3), .val (.int q4), .val (.long q5), .second, .val (.int m9), .val (.int j9), .val (.int s1), .val (.int s2), .val (.int s3), .val (.ref y9), .val (.ref b9), .val (.int v138), .val (.int (q2 - v138))]) rfl ?_
            show Steps p.tables e below (T130.setTop (mkF m 224 #[.val (.int q0), .val (.int q1), .val (.int q2), .val (.int q3), .val (.int q4), .val (.long q5), .second, .val (.int m9), .val (.int j9), .val (.int s1), .val (.int s2), .val (.int s3), .val (.ref y9), .val (.ref b9), .val (.int v138), .val (.int (q2 - v138))] [])) t
            refine XS.goto X130.here hx rfl (pc0 := 224) (pc' := 249) rfl (hb hby at_224) (by decide) (by decide) ?_
            have e_v144' := e_v144
            try rw [if_neg c141] at e_v144'
            try rw [if_pos c142] at e_v144'
            subst e_v144'
            exact k
          · show Steps p.tables e below (T130.setTop (mkF m 215 #[.val (.int q0), .val (.int q1), .val (.int q2), .val (.int q3), .val (.int q4), .val (.long q5), .second, .val (.int m9), .val (.int j9), .val (.int s1), .val (.int s2), .val (.int s3), .val (.ref y9), .val (.ref b9), .val (.int v138), .unset] [(.int (1 : Int32)), (.int j9)])) t
            refine XS.icmpYes X130.here hx rfl (pc0 := 215) (pc' := 227) rfl (hb hby at_215) rfl (feq c142).2 (by decide) (by decide) ?_
            show Steps p.tables e below (T130.setTop (mkF m 227 #[.val (.int q0), .val (.int q1), .val (.int q2), .val (.int q3), .val (.int q4), .val (.long q5), .second, .val (.int m9), .val (.int j9), .val (.int s1), .val (.int s2), .val (.int s3), .val (.ref y9), .val (.ref b9), .val (.int v138), .unset] [])) t
            refine XS.iload X130.here hx rfl (hb hby at_227) rfl ?_
            show Steps p.tables e below (T130.setTop (mkF m 229 #[.val (.int q0), .val (.int q1), .val (.int q2), .val (.int q3), .val (.int q4), .val (.long q5), .second, .val (.int m9), .val (.int j9), .val (.int s1), .val (.int s2), .val (.int s3), .val (.ref y9), .val (.ref b9), .val (.int v138), .unset] [(.int j9)])) t
            refine XS.iconst X130.here hx rfl (hb hby at_229) ?_
            by_cases c143 : j9 = (2 : Int32)
            · show Steps p.tables e below (T130.setTop (mkF m 230 #[.val (.int q0), .val (.int q1), .val (.int q2), .val (.int q3), .val (.int q4), .val (.long q5), .second, .val (.int m9), .val (.int j9), .val (.int s1), .val (.int s2), .val (.int s3), .val (.ref y9), .val (.ref b9), .val (.int v138), .unset] [(.int (2 : Int32)), (.int j9)])) t
              refine XS.icmpNo X130.here hx rfl (hb hby at_230) rfl (teq c143).2 ?_
              show Steps p.tables e below (T130.setTop (mkF m 233 #[.val (.int q0), .val (.int q1), .val (.int q2), .val (.int q3), .val (.int q4), .val (.long q5), .second, .val (.int m9), .val (.int j9), .val (.int s1), .val (.int s2), .val (.int s3), .val (.ref y9), .val (.ref b9), .val (.int v138), .unset] [])) t
              refine XS.iloadN X130.here hx rfl (hb hby at_233) rfl ?_
              show Steps p.tables e below (T130.setTop (mkF m 234 #[.val (.int q0), .val (.int q1), .val (.int q2), .val (.int q3), .val (.int q4), .val (.long q5), .second, .val (.int m9), .val (.int j9), .val (.int s1), .val (.int s2), .val (.int s3), .val (.ref y9), .val (.ref b9), .val (.int v138), .unset] [(.int q3)])) t
              refine XS.iload X130.here hx rfl (hb hby at_234) rfl ?_
              show Steps p.tables e below (T130.setTop (mkF m 236 #[.val (.int q0), .val (.int q1), .val (.int q2), .val (.int q3), .val (.int q4), .val (.long q5), .second, .val (.int m9), .val (.int j9), .val (.int s1), .val (.int s2), .val (.int s3), .val (.ref y9), .val (.ref b9), .val (.int v138), .unset] [(.int v138), (.int q3)])) t
              refine XS.isub X130.here hx rfl (hb hby at_236) rfl ?_
              show Steps p.tables e below (T130.setTop (mkF m 237 #[.val (.int q0), .val (.int q1), .val (.int q2), .val (.int q3), .val (.int q4), .val (.long q5), .second, .val (.int m9), .val (.int j9), .val (.int s1), .val (.int s2), .val (.int s3), .val (.ref y9), .val (.ref b9), .val (.int v138), .unset] [(.int (q3 - v138))])) t
              refine XS.istore X130.here hx rfl (hb hby at_237) rfl (l' := #[.val (.int q0), .val (.int q1), .val (.int q2), .val (.int q3), .val (.int q4), .val (.long q5), .second, .val (.int m9), .val (.int j9), .val (.int s1), .val (.int s2), .val (.int s3), .val (.ref y9), .val (.ref b9), .val (.int v138), .val (.int (q3 - v138))]) rfl ?_
              show Steps p.tables e below (T130.setTop (mkF m 239 #[.val (.int q0), .val (.int q1), .val (.int q2), .val (.int q3), .val (.int q4), .val (.long q5), .second, .val (.int m9), .val (.int j9), .val (.int s1), .val (.int s2), .val (.int s3), .val (.ref y9), .val (.ref b9), .val (.int v138), .val (.int (q3 - v138))] [])) t
              refine XS.goto X130.here hx rfl (pc0 := 239) (pc' := 249) rfl (hb hby at_239) (by decide) (by decide) ?_
              have e_v144' := e_v144
              try rw [if_neg c141] at e_v144'
              try rw [if_neg c142] at e_v144'
              try rw [if_pos c143] at e_v144'
              subst e_v144'
              exact k
            · show Steps p.tables e below (T130.setTop (mkF m 230 #[.val (.int q0), .val (.int q1), .val (.int q2), .val (.int q3), .val (.int q4), .val (.long q5), .second, .val (.int m9), .val (.int j9), .val (.int s1), .val (.int s2), .val (.int s3), .val (.ref y9), .val (.ref b9), .val (.int v138), .unset] [(.int (2 : Int32)), (.int j9)])) t
              refine XS.icmpYes X130.here hx rfl (pc0 := 230) (pc' := 242) rfl (hb hby at_230) rfl (feq c143).2 (by decide) (by decide) ?_
              show Steps p.tables e below (T130.setTop (mkF m 242 #[.val (.int q0), .val (.int q1), .val (.int q2), .val (.int q3), .val (.int q4), .val (.long q5), .second, .val (.int m9), .val (.int j9), .val (.int s1), .val (.int s2), .val (.int s3), .val (.ref y9), .val (.ref b9), .val (.int v138), .unset] [])) t
              refine XS.iload X130.here hx rfl (hb hby at_242) rfl ?_
              show Steps p.tables e below (T130.setTop (mkF m 244 #[.val (.int q0), .val (.int q1), .val (.int q2), .val (.int q3), .val (.int q4), .val (.long q5), .second, .val (.int m9), .val (.int j9), .val (.int s1), .val (.int s2), .val (.int s3), .val (.ref y9), .val (.ref b9), .val (.int v138), .unset] [(.int q4)])) t
              refine XS.iload X130.here hx rfl (hb hby at_244) rfl ?_
              show Steps p.tables e below (T130.setTop (mkF m 246 #[.val (.int q0), .val (.int q1), .val (.int q2), .val (.int q3), .val (.int q4), .val (.long q5), .second, .val (.int m9), .val (.int j9), .val (.int s1), .val (.int s2), .val (.int s3), .val (.ref y9), .val (.ref b9), .val (.int v138), .unset] [(.int v138), (.int q4)])) t
              refine XS.isub X130.here hx rfl (hb hby at_246) rfl ?_
              show Steps p.tables e below (T130.setTop (mkF m 247 #[.val (.int q0), .val (.int q1), .val (.int q2), .val (.int q3), .val (.int q4), .val (.long q5), .second, .val (.int m9), .val (.int j9), .val (.int s1), .val (.int s2), .val (.int s3), .val (.ref y9), .val (.ref b9), .val (.int v138), .unset] [(.int (q4 - v138))])) t
              refine XS.istore X130.here hx rfl (hb hby at_247) rfl (l' := #[.val (.int q0), .val (.int q1), .val (.int q2), .val (.int q3), .val (.int q4), .val (.long q5), .second, .val (.int m9), .val (.int j9), .val (.int s1), .val (.int s2), .val (.int s3), .val (.ref y9), .val (.ref b9), .val (.int v138), .val (.int (q4 - v138))]) rfl ?_
              have e_v144' := e_v144
              try rw [if_neg c141] at e_v144'
              try rw [if_neg c142] at e_v144'
              try rw [if_neg c143] at e_v144'
              subst e_v144'
              exact k
      refine OFin.go sg146 ?_
      have sg147 : ∀ t, Steps p.tables e below (T130.setTop (mkF m 251 #[.val (.int q0), .val (.int q1), .val (.int q2), .val (.int q3), .val (.int q4), .val (.long q5), .second, .val (.int m9), .val (.int j9), .val (.int s1), .val (.int s2), .val (.int s3), .val (.ref y9), .val (.ref b9), .val (.int v138), .val (.int v144)] [(.ref b9)])) t → Steps p.tables e below (T130.setTop (mkF m 249 #[.val (.int q0), .val (.int q1), .val (.int q2), .val (.int q3), .val (.int q4), .val (.long q5), .second, .val (.int m9), .val (.int j9), .val (.int s1), .val (.int s2), .val (.int s3), .val (.ref y9), .val (.ref b9), .val (.int v138), .val (.int v144)] [])) t := by
        intro t k
        show Steps p.tables e below (T130.setTop (mkF m 249 #[.val (.int q0), .val (.int q1), .val (.int q2), .val (.int q3), .val (.int q4), .val (.long q5), .second, .val (.int m9), .val (.int j9), .val (.int s1), .val (.int s2), .val (.int s3), .val (.ref y9), .val (.ref b9), .val (.int v138), .val (.int v144)] [])) t
        refine XS.aload X130.here hx rfl (hb hby at_249) rfl rfl ?_
        exact k
      refine OFin.go sg147 ?_
      obtain ⟨cq148, kq148, q148a, q148b, q148c⟩ := isOf hZ rfl (E1.keep Kq130)
      obtain ⟨_, _, ⟨T148, L148, k148, n148⟩, -, X148, ⟨Lc148, hQ148, l148, y148, z148⟩, st148⟩ := X130.virtualBack hx (y := (⟨"com/example/rida/rida/io/LineBlock", "count", "()I"⟩ : MethodName)) (z := (⟨"com/example/rida/rida/io/LineBlock", "count", "()I"⟩ : MethodName)) hown (mvT hZ (hw _ (List.mem_of_getElem? (i := 24) rfl))) (mvT hZ (hw _ (List.mem_of_getElem? (i := 25) rfl))) (notFace_of_selects (args := #[]) (mvT hZ (hw _ (List.mem_of_getElem? (i := 27) rfl)))) (mvT hZ (hw _ (List.mem_of_getElem? (i := 27) rfl))) (mvT hZ (hw _ (List.mem_of_getElem? (i := 26) rfl))) (by decide) (backOf (W := 0) (rm4 l Z aZ hw [] b9 ((0 : Int32) + (1 : Int32)) T130.heap n0 (Nat.le_trans Z0 K130.1) P130_2) hZ (hw _ (List.mem_of_getElem? (i := 28) rfl)) (hw _ (List.mem_of_getElem? (i := 7) rfl)) (by decide) (by decide)) q148a q148c (g := (mkF m 251 #[.val (.int q0), .val (.int q1), .val (.int q2), .val (.int q3), .val (.int q4), .val (.long q5), .second, .val (.int m9), .val (.int j9), .val (.int s1), .val (.int s2), .val (.int s3), .val (.ref y9), .val (.ref b9), .val (.int v138), .val (.int v144)] [(.ref b9)])) rfl (by rw [hml]; rfl) (Steps.refl _) (argsL := []) (rest := []) (lenOf pd_1 rfl) rfl (by show 2 * 0 + _ ≤ _; exact Nat.le_of_eq rfl) (hb hby at_251) (fun _ _ => ⟨rfl, rfl, (by decide : 4 + 0 ≤ _), (by decide : 32 + 0 ≤ _)⟩)
      dsimp only [Pt.U, Pt.locs, Pt.cells, Pt.slots] at X148 l148 y148 z148 st148 hQ148
      subst l148 y148 z148
      obtain ⟨rfl, N148q, e148⟩ := hQ148
      have N148 := Fr.app N130 N148q
      refine OFin.tr st148 ?_
      have sg150 : ∀ t, Steps p.tables e below (T148.setTop (mkF m 256 #[.val (.int q0), .val (.int q1), .val (.int q2), .val (.int q3), .val (.int q4), .val (.long q5), .second, .val (.int m9), .val (.int j9), .val (.int s1), .val (.int s2), .val (.int s3), .val (.ref y9), .val (.ref b9), .val (.int v138), .val (.int v144)] [(.int j9), (.int ((0 : Int32) + (1 : Int32)))])) t → Steps p.tables e below (T148.setTop (mkF m 254 #[.val (.int q0), .val (.int q1), .val (.int q2), .val (.int q3), .val (.int q4), .val (.long q5), .second, .val (.int m9), .val (.int j9), .val (.int s1), .val (.int s2), .val (.int s3), .val (.ref y9), .val (.ref b9), .val (.int v138), .val (.int v144)] [(.int ((0 : Int32) + (1 : Int32)))])) t := by
        intro t k
        show Steps p.tables e below (T148.setTop (mkF m 254 #[.val (.int q0), .val (.int q1), .val (.int q2), .val (.int q3), .val (.int q4), .val (.long q5), .second, .val (.int m9), .val (.int j9), .val (.int s1), .val (.int s2), .val (.int s3), .val (.ref y9), .val (.ref b9), .val (.int v138), .val (.int v144)] [(.int ((0 : Int32) + (1 : Int32)))])) t
        refine XS.iload X148.here hx rfl (hb hby at_254) rfl ?_
        exact k
      refine OFin.go sg150 ?_
      have c149 : ((0 : Int32) + (1 : Int32)) = j9 := (own_e1 c103 c132)
      have sg151 : ∀ t, Steps p.tables e below (T148.setTop (mkF m 261 #[.val (.int q0), .val (.int q1), .val (.int q2), .val (.int q3), .val (.int q4), .val (.long q5), .second, .val (.int m9), .val (.int j9), .val (.int s1), .val (.int s2), .val (.int s3), .val (.ref y9), .val (.ref b9), .val (.int v138), .val (.int v144)] [(.ref b9)])) t → Steps p.tables e below (T148.setTop (mkF m 256 #[.val (.int q0), .val (.int q1), .val (.int q2), .val (.int q3), .val (.int q4), .val (.long q5), .second, .val (.int m9), .val (.int j9), .val (.int s1), .val (.int s2), .val (.int s3), .val (.ref y9), .val (.ref b9), .val (.int v138), .val (.int v144)] [(.int j9), (.int ((0 : Int32) + (1 : Int32)))])) t := by
        intro t k
        show Steps p.tables e below (T148.setTop (mkF m 256 #[.val (.int q0), .val (.int q1), .val (.int q2), .val (.int q3), .val (.int q4), .val (.long q5), .second, .val (.int m9), .val (.int j9), .val (.int s1), .val (.int s2), .val (.int s3), .val (.ref y9), .val (.ref b9), .val (.int v138), .val (.int v144)] [(.int j9), (.int ((0 : Int32) + (1 : Int32)))])) t
        refine XS.icmpNo X148.here hx rfl (hb hby at_256) rfl (teq c149).2 ?_
        show Steps p.tables e below (T148.setTop (mkF m 259 #[.val (.int q0), .val (.int q1), .val (.int q2), .val (.int q3), .val (.int q4), .val (.long q5), .second, .val (.int m9), .val (.int j9), .val (.int s1), .val (.int s2), .val (.int s3), .val (.ref y9), .val (.ref b9), .val (.int v138), .val (.int v144)] [])) t
        refine XS.aload X148.here hx rfl (hb hby at_259) rfl rfl ?_
        exact k
      refine OFin.go sg151 ?_
      obtain ⟨cq152, kq152, q152a, q152b, q152c⟩ := isOf hZ e148 (E1.keep Kq130)
      obtain ⟨_, _, ⟨T152, L152, k152, n152⟩, -, X152, ⟨Lc152, hQ152, l152, y152, z152⟩, st152⟩ := X148.virtualBack hx (y := (⟨"com/example/rida/rida/io/LineBlock", "size", "()I"⟩ : MethodName)) (z := (⟨"com/example/rida/rida/io/LineBlock", "size", "()I"⟩ : MethodName)) hown (mvT hZ (hw _ (List.mem_of_getElem? (i := 31) rfl))) (mvT hZ (hw _ (List.mem_of_getElem? (i := 32) rfl))) (notFace_of_selects (args := #[]) (mvT hZ (hw _ (List.mem_of_getElem? (i := 34) rfl)))) (mvT hZ (hw _ (List.mem_of_getElem? (i := 34) rfl))) (mvT hZ (hw _ (List.mem_of_getElem? (i := 33) rfl))) (by decide) (backOf (W := 0) (rm5 l Z aZ hw [] b9 ((0 : Int32) + (1 : Int32)) t9 o9 k9 m9 (vs9.set (0 : Int32).toNatClampNeg (.int q2)) q2 T130.heap n0 (Nat.le_trans Z0 K130.1) P130_2 P130_1 P130_3 P130_6 (Or.inr (by rw [(by decide : ((0 : Int32) + (1 : Int32)) - (1 : Int32) = (0 : Int32))]; exact ⟨by decide, (own_h0 hm1), own_got _ _ _ _ (own_in (by decide) (own_h0 hm1) hl)⟩))) hZ (hw _ (List.mem_of_getElem? (i := 35) rfl)) (hw _ (List.mem_of_getElem? (i := 7) rfl)) (by decide) (by decide)) q152a q152c (g := (mkF m 261 #[.val (.int q0), .val (.int q1), .val (.int q2), .val (.int q3), .val (.int q4), .val (.long q5), .second, .val (.int m9), .val (.int j9), .val (.int s1), .val (.int s2), .val (.int s3), .val (.ref y9), .val (.ref b9), .val (.int v138), .val (.int v144)] [(.ref b9)])) rfl (by rw [hml]; rfl) (Steps.refl _) (argsL := []) (rest := []) (lenOf pd_1 rfl) rfl (by show 2 * 0 + _ ≤ _; exact Nat.le_of_eq rfl) (hb hby at_261) (fun _ _ => ⟨rfl, e148, (by decide : 4 + 0 ≤ _), (by decide : 32 + 0 ≤ _)⟩)
      dsimp only [Pt.U, Pt.locs, Pt.cells, Pt.slots] at X152 l152 y152 z152 st152 hQ152
      subst l152 y152 z152
      obtain ⟨rfl, N152q, e152⟩ := hQ152
      have N152 := Fr.app N148 N152q
      refine OFin.tr st152 ?_
      have sg154 : ∀ t, Steps p.tables e below (T152.setTop (mkF m 266 #[.val (.int q0), .val (.int q1), .val (.int q2), .val (.int q3), .val (.int q4), .val (.long q5), .second, .val (.int m9), .val (.int j9), .val (.int s1), .val (.int s2), .val (.int s3), .val (.ref y9), .val (.ref b9), .val (.int v138), .val (.int v144)] [(.int v144), (.int (if ((0 : Int32) + (1 : Int32)) = (0 : Int32) then (0 : Int32) else (q2 - o9)))])) t → Steps p.tables e below (T152.setTop (mkF m 264 #[.val (.int q0), .val (.int q1), .val (.int q2), .val (.int q3), .val (.int q4), .val (.long q5), .second, .val (.int m9), .val (.int j9), .val (.int s1), .val (.int s2), .val (.int s3), .val (.ref y9), .val (.ref b9), .val (.int v138), .val (.int v144)] [(.int (if ((0 : Int32) + (1 : Int32)) = (0 : Int32) then (0 : Int32) else (q2 - o9)))])) t := by
        intro t k
        show Steps p.tables e below (T152.setTop (mkF m 264 #[.val (.int q0), .val (.int q1), .val (.int q2), .val (.int q3), .val (.int q4), .val (.long q5), .second, .val (.int m9), .val (.int j9), .val (.int s1), .val (.int s2), .val (.int s3), .val (.ref y9), .val (.ref b9), .val (.int v138), .val (.int v144)] [(.int (if ((0 : Int32) + (1 : Int32)) = (0 : Int32) then (0 : Int32) else (q2 - o9)))])) t
        refine XS.iload X152.here hx rfl (hb hby at_264) rfl ?_
        exact k
      refine OFin.go sg154 ?_
      have c153 : (if ((0 : Int32) + (1 : Int32)) = (0 : Int32) then (0 : Int32) else (q2 - o9)) = v144 := (by have q := (own_e1 c103 c132); simp [e_v144, e_v138, ho, ← q])
      have sg155 : ∀ t, Steps p.tables e below (T152.setTop (mkF m 274 #[.val (.int q0), .val (.int q1), .val (.int q2), .val (.int q3), .val (.int q4), .val (.long q5), .second, .val (.int m9), .val (.int j9), .val (.int s1), .val (.int s2), .val (.int s3), .val (.ref y9), .val (.ref b9), .val (.int v138), .val (.int v144)] [(.int (1 : Int32))])) t → Steps p.tables e below (T152.setTop (mkF m 266 #[.val (.int q0), .val (.int q1), .val (.int q2), .val (.int q3), .val (.int q4), .val (.long q5), .second, .val (.int m9), .val (.int j9), .val (.int s1), .val (.int s2), .val (.int s3), .val (.ref y9), .val (.ref b9), .val (.int v138), .val (.int v144)] [(.int v144), (.int (if ((0 : Int32) + (1 : Int32)) = (0 : Int32) then (0 : Int32) else (q2 - o9)))])) t := by
        intro t k
        show Steps p.tables e below (T152.setTop (mkF m 266 #[.val (.int q0), .val (.int q1), .val (.int q2), .val (.int q3), .val (.int q4), .val (.long q5), .second, .val (.int m9), .val (.int j9), .val (.int s1), .val (.int s2), .val (.int s3), .val (.ref y9), .val (.ref b9), .val (.int v138), .val (.int v144)] [(.int v144), (.int (if ((0 : Int32) + (1 : Int32)) = (0 : Int32) then (0 : Int32) else (q2 - o9)))])) t
        refine XS.icmpNo X152.here hx rfl (hb hby at_266) rfl (teq c153).2 ?_
        show Steps p.tables e below (T152.setTop (mkF m 269 #[.val (.int q0), .val (.int q1), .val (.int q2), .val (.int q3), .val (.int q4), .val (.long q5), .second, .val (.int m9), .val (.int j9), .val (.int s1), .val (.int s2), .val (.int s3), .val (.ref y9), .val (.ref b9), .val (.int v138), .val (.int v144)] [])) t
        refine XS.iconst X152.here hx rfl (hb hby at_269) ?_
        show Steps p.tables e below (T152.setTop (mkF m 270 #[.val (.int q0), .val (.int q1), .val (.int q2), .val (.int q3), .val (.int q4), .val (.long q5), .second, .val (.int m9), .val (.int j9), .val (.int s1), .val (.int s2), .val (.int s3), .val (.ref y9), .val (.ref b9), .val (.int v138), .val (.int v144)] [(.int (1 : Int32))])) t
        refine XS.goto X152.here hx rfl (pc0 := 270) (pc' := 274) rfl (hb hby at_270) (by decide) (by decide) ?_
        exact k
      refine OFin.go sg155 ?_
      exact OFin.retN X152 hx hret (by simp) hlk (hb hby at_274) rfl (by rw [e152]; exact ⟨rfl, N152⟩) (by decide) (by decide)
    · have sg156 : ∀ t, Steps p.tables e below (T130.setTop (mkF m 149 #[.val (.int q0), .val (.int q1), .val (.int q2), .val (.int q3), .val (.int q4), .val (.long q5), .second, .val (.int m9), .val (.int j9), .val (.int s1), .val (.int s2), .val (.int s3), .val (.ref y9), .val (.ref b9), .unset, .unset] [(.int q3), (.ref b9)])) t → Steps p.tables e below (T130.setTop (mkF m 143 #[.val (.int q0), .val (.int q1), .val (.int q2), .val (.int q3), .val (.int q4), .val (.long q5), .second, .val (.int m9), .val (.int j9), .val (.int s1), .val (.int s2), .val (.int s3), .val (.ref y9), .val (.ref b9), .unset, .unset] [(.int (2 : Int32)), (.int j9)])) t := by
        intro t k
        show Steps p.tables e below (T130.setTop (mkF m 143 #[.val (.int q0), .val (.int q1), .val (.int q2), .val (.int q3), .val (.int q4), .val (.long q5), .second, .val (.int m9), .val (.int j9), .val (.int s1), .val (.int s2), .val (.int s3), .val (.ref y9), .val (.ref b9), .unset, .unset] [(.int (2 : Int32)), (.int j9)])) t
        refine XS.icmpNo X130.here hx rfl (hb hby at_143) rfl (flt c132).1 ?_
        show Steps p.tables e below (T130.setTop (mkF m 146 #[.val (.int q0), .val (.int q1), .val (.int q2), .val (.int q3), .val (.int q4), .val (.long q5), .second, .val (.int m9), .val (.int j9), .val (.int s1), .val (.int s2), .val (.int s3), .val (.ref y9), .val (.ref b9), .unset, .unset] [])) t
        refine XS.aload X130.here hx rfl (hb hby at_146) rfl rfl ?_
        show Steps p.tables e below (T130.setTop (mkF m 148 #[.val (.int q0), .val (.int q1), .val (.int q2), .val (.int q3), .val (.int q4), .val (.long q5), .second, .val (.int m9), .val (.int j9), .val (.int s1), .val (.int s2), .val (.int s3), .val (.ref y9), .val (.ref b9), .unset, .unset] [(.ref b9)])) t
        refine XS.iloadN X130.here hx rfl (hb hby at_148) rfl ?_
        exact k
      refine OFin.go sg156 ?_
      obtain ⟨cq157, kq157, q157a, q157b, q157c⟩ := isOf hZ rfl (E1.keep Kq130)
      obtain ⟨_, _, ⟨T157, L157, k157, n157⟩, -, X157, ⟨Lc157, hQ157, l157, y157, z157⟩, st157⟩ := X130.virtualBack hx (y := (⟨"com/example/rida/rida/io/LineBlock", "add", "(I)V"⟩ : MethodName)) (z := (⟨"com/example/rida/rida/io/LineBlock", "add", "(I)V"⟩ : MethodName)) hown (mvT hZ (hw _ (List.mem_of_getElem? (i := 36) rfl))) (mvT hZ (hw _ (List.mem_of_getElem? (i := 37) rfl))) (notFace_of_selects (args := #[]) (mvT hZ (hw _ (List.mem_of_getElem? (i := 39) rfl)))) (mvT hZ (hw _ (List.mem_of_getElem? (i := 39) rfl))) (mvT hZ (hw _ (List.mem_of_getElem? (i := 38) rfl))) (by decide) (backOf (W := 0) (rm6 l Z aZ hw [] b9 q3 t9 k9 m9 (vs9.set (0 : Int32).toNatClampNeg (.int q2)) ((0 : Int32) + (1 : Int32)) o9 bv9 sv9 fv9 T130.heap n0 (Nat.le_trans Z0 K130.1) (E1.keep Kq130) P130_0 P130_1 P130_2 P130_3 P130_4 P130_5 P130_6 (by decide) (own_h1 c132 hjm) (own_set _ _ _ _ hl) ne_b9_t9 g_b9 g_t9) hZ (hw _ (List.mem_of_getElem? (i := 40) rfl)) (hw _ (List.mem_of_getElem? (i := 7) rfl)) (by decide) (by decide)) q157a q157c (g := (mkF m 149 #[.val (.int q0), .val (.int q1), .val (.int q2), .val (.int q3), .val (.int q4), .val (.long q5), .second, .val (.int m9), .val (.int j9), .val (.int s1), .val (.int s2), .val (.int s3), .val (.ref y9), .val (.ref b9), .unset, .unset] [(.int q3), (.ref b9)])) rfl (by rw [hml]; rfl) (Steps.refl _) (argsL := [(.int q3)]) (rest := []) (lenOf pd_2 rfl) rfl (by show 2 * 0 + _ ≤ _; exact Nat.le_of_eq rfl) (hb hby at_149) (fun _ _ => ⟨rfl, rfl, (by decide : 4 + 0 ≤ _), (by decide : 32 + 0 ≤ _)⟩)
      dsimp only [Pt.U, Pt.locs, Pt.cells, Pt.slots] at X157 l157 y157 z157 st157 hQ157
      subst l157 y157 z157
      obtain ⟨rfl, N157q, Kq157, P157_0, P157_1, P157_2, P157_3, P157_4, P157_5, P157_6⟩ := hQ157
      have N157 := Fr.app N130 N157q
      refine OFin.tr st157 ?_
      have K157 : Keep h0 T157.heap [] := K130.trans Kq157 (allS (Or.inr sz_b9) (allS (Or.inr sz_t9) all0))
      have sg158 : ∀ t, Steps p.tables e below (T157.setTop (mkF m 155 #[.val (.int q0), .val (.int q1), .val (.int q2), .val (.int q3), .val (.int q4), .val (.long q5), .second, .val (.int m9), .val (.int j9), .val (.int s1), .val (.int s2), .val (.int s3), .val (.ref y9), .val (.ref b9), .unset, .unset] [(.int (3 : Int32)), (.int j9)])) t → Steps p.tables e below (T157.setTop (mkF m 152 #[.val (.int q0), .val (.int q1), .val (.int q2), .val (.int q3), .val (.int q4), .val (.long q5), .second, .val (.int m9), .val (.int j9), .val (.int s1), .val (.int s2), .val (.int s3), .val (.ref y9), .val (.ref b9), .unset, .unset] [])) t := by
        intro t k
        show Steps p.tables e below (T157.setTop (mkF m 152 #[.val (.int q0), .val (.int q1), .val (.int q2), .val (.int q3), .val (.int q4), .val (.long q5), .second, .val (.int m9), .val (.int j9), .val (.int s1), .val (.int s2), .val (.int s3), .val (.ref y9), .val (.ref b9), .unset, .unset] [])) t
        refine XS.iload X157.here hx rfl (hb hby at_152) rfl ?_
        show Steps p.tables e below (T157.setTop (mkF m 154 #[.val (.int q0), .val (.int q1), .val (.int q2), .val (.int q3), .val (.int q4), .val (.long q5), .second, .val (.int m9), .val (.int j9), .val (.int s1), .val (.int s2), .val (.int s3), .val (.ref y9), .val (.ref b9), .unset, .unset] [(.int j9)])) t
        refine XS.iconst X157.here hx rfl (hb hby at_154) ?_
        exact k
      refine OFin.go sg158 ?_
      by_cases c159 : j9 < (3 : Int32)
      · have sg164 : ∀ t, Steps p.tables e below (T157.setTop (mkF m 167 #[.val (.int q0), .val (.int q1), .val (.int q2), .val (.int q3), .val (.int q4), .val (.long q5), .second, .val (.int m9), .val (.int j9), .val (.int s1), .val (.int s2), .val (.int s3), .val (.ref y9), .val (.ref b9), .unset, .unset] [(.int s3)])) t → Steps p.tables e below (T157.setTop (mkF m 155 #[.val (.int q0), .val (.int q1), .val (.int q2), .val (.int q3), .val (.int q4), .val (.long q5), .second, .val (.int m9), .val (.int j9), .val (.int s1), .val (.int s2), .val (.int s3), .val (.ref y9), .val (.ref b9), .unset, .unset] [(.int (3 : Int32)), (.int j9)])) t := by
          intro t k
          show Steps p.tables e below (T157.setTop (mkF m 155 #[.val (.int q0), .val (.int q1), .val (.int q2), .val (.int q3), .val (.int q4), .val (.long q5), .second, .val (.int m9), .val (.int j9), .val (.int s1), .val (.int s2), .val (.int s3), .val (.ref y9), .val (.ref b9), .unset, .unset] [(.int (3 : Int32)), (.int j9)])) t
          refine XS.icmpYes X157.here hx rfl (pc0 := 155) (pc' := 165) rfl (hb hby at_155) rfl (tlt c159).1 (by decide) (by decide) ?_
          show Steps p.tables e below (T157.setTop (mkF m 165 #[.val (.int q0), .val (.int q1), .val (.int q2), .val (.int q3), .val (.int q4), .val (.long q5), .second, .val (.int m9), .val (.int j9), .val (.int s1), .val (.int s2), .val (.int s3), .val (.ref y9), .val (.ref b9), .unset, .unset] [])) t
          refine XS.iload X157.here hx rfl (hb hby at_165) rfl ?_
          exact k
        refine OFin.go sg164 ?_
        obtain ⟨v163, e_v163⟩ : ∃ z : Int32, z = (if s3 = (0 : Int32) then (if s2 = (0 : Int32) then (if s1 = (0 : Int32) then (0 : Int32) else q1) else (0 : Int32)) else q1) := ⟨_, rfl⟩
        have sg165 : ∀ t, Steps p.tables e below (T157.setTop (mkF m 201 #[.val (.int q0), .val (.int q1), .val (.int q2), .val (.int q3), .val (.int q4), .val (.long q5), .second, .val (.int m9), .val (.int j9), .val (.int s1), .val (.int s2), .val (.int s3), .val (.ref y9), .val (.ref b9), .val (.int v163), .unset] [])) t → Steps p.tables e below (T157.setTop (mkF m 167 #[.val (.int q0), .val (.int q1), .val (.int q2), .val (.int q3), .val (.int q4), .val (.long q5), .second, .val (.int m9), .val (.int j9), .val (.int s1), .val (.int s2), .val (.int s3), .val (.ref y9), .val (.ref b9), .unset, .unset] [(.int s3)])) t := by
          intro t k
          by_cases c160 : s3 = (0 : Int32)
          · show Steps p.tables e below (T157.setTop (mkF m 167 #[.val (.int q0), .val (.int q1), .val (.int q2), .val (.int q3), .val (.int q4), .val (.long q5), .second, .val (.int m9), .val (.int j9), .val (.int s1), .val (.int s2), .val (.int s3), .val (.ref y9), .val (.ref b9), .unset, .unset] [(.int s3)])) t
            refine XS.ifYes X157.here hx rfl (pc0 := 167) (pc' := 176) rfl (hb hby at_167) rfl ((if0 _ _).trans (teq c160).1) (by decide) (by decide) ?_
            show Steps p.tables e below (T157.setTop (mkF m 176 #[.val (.int q0), .val (.int q1), .val (.int q2), .val (.int q3), .val (.int q4), .val (.long q5), .second, .val (.int m9), .val (.int j9), .val (.int s1), .val (.int s2), .val (.int s3), .val (.ref y9), .val (.ref b9), .unset, .unset] [])) t
            refine XS.iload X157.here hx rfl (hb hby at_176) rfl ?_
            by_cases c161 : s2 = (0 : Int32)
            · show Steps p.tables e below (T157.setTop (mkF m 178 #[.val (.int q0), .val (.int q1), .val (.int q2), .val (.int q3), .val (.int q4), .val (.long q5), .second, .val (.int m9), .val (.int j9), .val (.int s1), .val (.int s2), .val (.int s3), .val (.ref y9), .val (.ref b9), .unset, .unset] [(.int s2)])) t
              refine XS.ifYes X157.here hx rfl (pc0 := 178) (pc' := 187) rfl (hb hby at_178) rfl ((if0 _ _).trans (teq c161).1) (by decide) (by decide) ?_
              show Steps p.tables e below (T157.setTop (mkF m 187 #[.val (.int q0), .val (.int q1), .val (.int q2), .val (.int q3), .val (.int q4), .val (.long q5), .second, .val (.int m9), .val (.int j9), .val (.int s1), .val (.int s2), .val (.int s3), .val (.ref y9), .val (.ref b9), .unset, .unset] [])) t
              refine XS.iload X157.here hx rfl (hb hby at_187) rfl ?_
              by_cases c162 : s1 = (0 : Int32)
              · show Steps p.tables e below (T157.setTop (mkF m 189 #[.val (.int q0), .val (.int q1), .val (.int q2), .val (.int q3), .val (.int q4), .val (.long q5), .second, .val (.int m9), .val (.int j9), .val (.int s1), .val (.int s2), .val (.int s3), .val (.ref y9), .val (.ref b9), .unset, .unset] [(.int s1)])) t
                refine XS.ifYes X157.here hx rfl (pc0 := 189) (pc' := 198) rfl (hb hby at_189) rfl ((if0 _ _).trans (teq c162).1) (by decide) (by decide) ?_
                show Steps p.tables e below (T157.setTop (mkF m 198 #[.val (.int q0), .val (.int q1), .val (.int q2), .val (.int q3), .val (.int q4), .val (.long q5), .second, .val (.int m9), .val (.int j9), .val (.int s1), .val (.int s2), .val (.int s3), .val (.ref y9), .val (.ref b9), .unset, .unset] [])) t
                refine XS.iconst X157.here hx rfl (hb hby at_198) ?_
                show Steps p.tables e below (T157.setTop (mkF m 199 #[.val (.int q0), .val (.int q1), .val (.int q2), .val (.int q3), .val (.int q4), .val (.long q5), .second, .val (.int m9), .val (.int j9), .val (.int s1), .val (.int s2), .val (.int s3), .val (.ref y9), .val (.ref b9), .unset, .unset] [(.int (0 : Int32))])) t
                refine XS.istore X157.here hx rfl (hb hby at_199) rfl (l' := #[.val (.int q0), .val (.int q1), .val (.int q2), .val (.int q3), .val (.int q4), .val (.long q5), .second, .val (.int m9), .val (.int j9), .val (.int s1), .val (.int s2), .val (.int s3), .val (.ref y9), .val (.ref b9), .val (.int (0 : Int32)), .unset]) rfl ?_
                have e_v163' := e_v163
                try rw [if_pos c160] at e_v163'
                try rw [if_pos c161] at e_v163'
                try rw [if_pos c162] at e_v163'
                subst e_v163'
                exact k
              · show Steps p.tables e below (T157.setTop (mkF m 189 #[.val (.int q0), .val (.int q1), .val (.int q2), .val (.int q3), .val (.int q4), .val (.long q5), .second, .val (.int m9), .val (.int j9), .val (.int s1), .val (.int s2), .val (.int s3), .val (.ref y9), .val (.ref b9), .unset, .unset] [(.int s1)])) t
                refine XS.ifNo X157.here hx rfl (hb hby at_189) rfl ((if0 _ _).trans (feq c162).1) ?_
                show Steps p.tables e below (T157.setTop (mkF m 192 #[.val (.int q0), .val (.int q1), .val (.int q2), .val (.int q3), .val (.int q4), .val (.long q5), .second, .val (.int m9), .val (.int j9), .val (.int s1), .val (.int s2), .val (.int s3), .val (.ref y9), .val (.ref b9), .unset, .unset] [])) t
                refine XS.iloadN X157.here hx rfl (hb hby at_192) rfl ?_
                show Steps p.tables e below (T157.setTop (mkF m 193 #[.val (.int q0), .val (.int q1), .val (.int q2), .val (.int q3), .val (.int q4), .val (.long q5), .second, .val (.int m9), .val (.int j9), .val (.int s1), .val (.int s2), .val (.int s3), .val (.ref y9), .val (.ref b9), .unset, .unset] [(.int q1)])) t
                refine XS.istore X157.here hx rfl (hb hby at_193) rfl (l' := #[.val (.int q0), .val (.int q1), .val (.int q2), .val (.int q3), .val (.int q4), .val (.long q5), .second, .val (.int m9), .val (.int j9), .val (.int s1), .val (.int s2), .val (.int s3), .val (.ref y9), .val (.ref b9), .val (.int q1), .unset]) rfl ?_
                show Steps p.tables e below (T157.setTop (mkF m 195 #[.val (.int q0), .val (.int q1), .val (.int q2), .val (.int q3), .val (.int q4), .val (.long q5), .second, .val (.int m9), .val (.int j9), .val (.int s1), .val (.int s2), .val (.int s3), .val (.ref y9), .val (.ref b9), .val (.int q1), .unset] [])) t
                refine XS.goto X157.here hx rfl (pc0 := 195) (pc' := 201) rfl (hb hby at_195) (by decide) (by decide) ?_
                have e_v163' := e_v163
                try rw [if_pos c160] at e_v163'
                try rw [if_pos c161] at e_v163'
                try rw [if_neg c162] at e_v163'
                subst e_v163'
                exact k
            · show Steps p.tables e below (T157.setTop (mkF m 178 #[.val (.int q0), .val (.int q1), .val (.int q2), .val (.int q3), .val (.int q4), .val (.long q5), .second, .val (.int m9), .val (.int j9), .val (.int s1), .val (.int s2), .val (.int s3), .val (.ref y9), .val (.ref b9), .unset, .unset] [(.int s2)])) t
              refine XS.ifNo X157.here hx rfl (hb hby at_178) rfl ((if0 _ _).trans (feq c161).1) ?_
              show Steps p.tables e below (T157.setTop (mkF m 181 #[.val (.int q0), .val (.int q1), .val (.int q2), .val (.int q3), .val (.int q4), .val (.long q5), .second, .val (.int m9), .val (.int j9), .val (.int s1), .val (.int s2), .val (.int s3), .val (.ref y9), .val (.ref b9), .unset, .unset] [])) t
              refine XS.iconst X157.here hx rfl (hb hby at_181) ?_
              show Steps p.tables e below (T157.setTop (mkF m 182 #[.val (.int q0), .val (.int q1), .val (.int q2), .val (.int q3), .val (.int q4), .val (.long q5), .second, .val (.int m9), .val (.int j9), .val (.int s1), .val (.int s2), .val (.int s3), .val (.ref y9), .val (.ref b9), .unset, .unset] [(.int (0 : Int32))])) t
              refine XS.istore X157.here hx rfl (hb hby at_182) rfl (l' := #[.val (.int q0), .val (.int q1), .val (.int q2), .val (.int q3), .val (.int q4), .val (.long q5), .second, .val (.int m9), .val (.int j9), .val (.int s1), .val (.int s2), .val (.int s3), .val (.ref y9), .val (.ref b9), .val (.int (0 : Int32)), .unset]) rfl ?_
              show Steps p.tables e below (T157.setTop (mkF m 184 #[.val (.int q0), .val (.int q1), .val (.int q2), .val (.int q3), .val (.int q4), .val (.long q5), .second, .val (.int m9), .val (.int j9), .val (.int s1), .val (.int s2), .val (.int s3), .val (.ref y9), .val (.ref b9), .val (.int (0 : Int32)), .unset] [])) t
              refine XS.goto X157.here hx rfl (pc0 := 184) (pc' := 201) rfl (hb hby at_184) (by decide) (by decide) ?_
              have e_v163' := e_v163
              try rw [if_pos c160] at e_v163'
              try rw [if_neg c161] at e_v163'
              subst e_v163'
              exact k
          · show Steps p.tables e below (T157.setTop (mkF m 167 #[.val (.int q0), .val (.int q1), .val (.int q2), .val (.int q3), .val (.int q4), .val (.long q5), .second, .val (.int m9), .val (.int j9), .val (.int s1), .val (.int s2), .val (.int s3), .val (.ref y9), .val (.ref b9), .unset, .unset] [(.int s3)])) t
            refine XS.ifNo X157.here hx rfl (hb hby at_167) rfl ((if0 _ _).trans (feq c160).1) ?_
            show Steps p.tables e below (T157.setTop (mkF m 170 #[.val (.int q0), .val (.int q1), .val (.int q2), .val (.int q3), .val (.int q4), .val (.long q5), .second, .val (.int m9), .val (.int j9), .val (.int s1), .val (.int s2), .val (.int s3), .val (.ref y9), .val (.ref b9), .unset, .unset] [])) t
            refine XS.iloadN X157.here hx rfl (hb hby at_170) rfl ?_
            show Steps p.tables e below (T157.setTop (mkF m 171 #[.val (.int q0), .val (.int q1), .val (.int q2), .val (.int q3), .val (.int q4), .val (.long q5), .second, .val (.int m9), .val (.int j9), .val (.int s1), .val (.int s2), .val (.int s3), .val (.ref y9), .val (.ref b9), .unset, .unset] [(.int q1)])) t
            refine XS.istore X157.here hx rfl (hb hby at_171) rfl (l' := #[.val (.int q0), .val (.int q1), .val (.int q2), .val (.int q3), .val (.int q4), .val (.long q5), .second, .val (.int m9), .val (.int j9), .val (.int s1), .val (.int s2), .val (.int s3), .val (.ref y9), .val (.ref b9), .val (.int q1), .unset]) rfl ?_
            show Steps p.tables e below (T157.setTop (mkF m 173 #[.val (.int q0), .val (.int q1), .val (.int q2), .val (.int q3), .val (.int q4), .val (.long q5), .second, .val (.int m9), .val (.int j9), .val (.int s1), .val (.int s2), .val (.int s3), .val (.ref y9), .val (.ref b9), .val (.int q1), .unset] [])) t
            refine XS.goto X157.here hx rfl (pc0 := 173) (pc' := 201) rfl (hb hby at_173) (by decide) (by decide) ?_
            have e_v163' := e_v163
            try rw [if_neg c160] at e_v163'
            subst e_v163'
            exact k
        refine OFin.go sg165 ?_
        have sg170 : ∀ t, Steps p.tables e below (T157.setTop (mkF m 203 #[.val (.int q0), .val (.int q1), .val (.int q2), .val (.int q3), .val (.int q4), .val (.long q5), .second, .val (.int m9), .val (.int j9), .val (.int s1), .val (.int s2), .val (.int s3), .val (.ref y9), .val (.ref b9), .val (.int v163), .unset] [(.int j9)])) t → Steps p.tables e below (T157.setTop (mkF m 201 #[.val (.int q0), .val (.int q1), .val (.int q2), .val (.int q3), .val (.int q4), .val (.long q5), .second, .val (.int m9), .val (.int j9), .val (.int s1), .val (.int s2), .val (.int s3), .val (.ref y9), .val (.ref b9), .val (.int v163), .unset] [])) t := by
          intro t k
          show Steps p.tables e below (T157.setTop (mkF m 201 #[.val (.int q0), .val (.int q1), .val (.int q2), .val (.int q3), .val (.int q4), .val (.long q5), .second, .val (.int m9), .val (.int j9), .val (.int s1), .val (.int s2), .val (.int s3), .val (.ref y9), .val (.ref b9), .val (.int v163), .unset] [])) t
          refine XS.iload X157.here hx rfl (hb hby at_201) rfl ?_
          exact k
        refine OFin.go sg170 ?_
        obtain ⟨v169, e_v169⟩ : ∃ z : Int32, z = (if j9 = (0 : Int32) then (0 : Int32) else (if j9 = (1 : Int32) then (q2 - v163) else (if j9 = (2 : Int32) then (q3 - v163) else (q4 - v163)))) := ⟨_, rfl⟩
        have sg171 : ∀ t, Steps p.tables e below (T157.setTop (mkF m 249 #[.val (.int q0), .val (.int q1), .val (.int q2), .val (.int q3), .val (.int q4), .val (.long q5), .second, .val (.int m9), .val (.int j9), .val (.int s1), .val (.int s2), .val (.int s3), .val (.ref y9), .val (.ref b9), .val (.int v163), .val (.int v169)] [])) t → Steps p.tables e below (T157.setTop (mkF m 203 #[.val (.int q0), .val (.int q1), .val (.int q2), .val (.int q3), .val (.int q4), .val (.long q5), .second, .val (.int m9), .val (.int j9), .val (.int s1), .val (.int s2), .val (.int s3), .val (.ref y9), .val (.ref b9), .val (.int v163), .unset] [(.int j9)])) t := by
          intro t k
          by_cases c166 : j9 = (0 : Int32)
          · show Steps p.tables e below (T157.setTop (mkF m 203 #[.val (.int q0), .val (.int q1), .val (.int q2), .val (.int q3), .val (.int q4), .val (.long q5), .second, .val (.int m9), .val (.int j9), .val (.int s1), .val (.int s2), .val (.int s3), .val (.ref y9), .val (.ref b9), .val (.int v163), .unset] [(.int j9)])) t
            refine XS.ifNo X157.here hx rfl (hb hby at_203) rfl ((if0 _ _).trans (teq c166).2) ?_
            show Steps p.tables e below (T157.setTop (mkF m 206 #[.val (.int q0), .val (.int q1), .val (.int q2), .val (.int q3), .val (.int q4), .val (.long q5), .second, .val (.int m9), .val (.int j9), .val (.int s1), .val (.int s2), .val (.int s3), .val (.ref y9), .val (.ref b9), .val (.int v163), .unset] [])) t
            refine XS.iconst X157.here hx rfl (hb hby at_206) ?_
            show Steps p.tables e below (T157.setTop (mkF m 207 #[.val (.int q0), .val (.int q1), .val (.int q2), .val (.int q3), .val (.int q4), .val (.long q5), .second, .val (.int m9), .val (.int j9), .val (.int s1), .val (.int s2), .val (.int s3), .val (.ref y9), .val (.ref b9), .val (.int v163), .unset] [(.int (0 : Int32))])) t
            refine XS.istore X157.here hx rfl (hb hby at_207) rfl (l' := #[.val (.int q0), .val (.int q1), .val (.int q2), .val (.int q3), .val (.int q4), .val (.long q5), .second, .val (.int m9), .val (.int j9), .val (.int s1), .val (.int s2), .val (.int s3), .val (.ref y9), .val (.ref b9), .val (.int v163), .val (.int (0 : Int32))]) rfl ?_
            show Steps p.tables e below (T157.setTop (mkF m 209 #[.val (.int q0), .val (.int q1), .val (.int q2), .val (.int q3), .val (.int q4), .val (.long q5), .second, .val (.int m9), .val (.int j9), .val (.int s1), .val (.int s2), .val (.int s3), .val (.ref y9), .val (.ref b9), .val (.int v163), .val (.int (0 : Int32))] [])) t
            refine XS.goto X157.here hx rfl (pc0 := 209) (pc' := 249) rfl (hb hby at_209) (by decide) (by decide) ?_
            have e_v169' := e_v169
            try rw [if_pos c166] at e_v169'
            subst e_v169'
            exact k
          · show Steps p.tables e below (T157.setTop (mkF m 203 #[.val (.int q0), .val (.int q1), .val (.int q2), .val (.int q3), .val (.int q4), .val (.long q5), .second, .val (.int m9), .val (.int j9), .val (.int s1), .val (.int s2), .val (.int s3), .val (.ref y9), .val (.ref b9), .val (.int v163), .unset] [(.int j9)])) t
            refine XS.ifYes X157.here hx rfl (pc0 := 203) (pc' := 212) rfl (hb hby at_203) rfl ((if0 _ _).trans (feq c166).2) (by decide) (by decide) ?_
            show Steps p.tables e below (T157.setTop (mkF m 212 #[.val (.int q0), .val (.int q1), .val (.int q2), .val (.int q3), .val (.int q4), .val (.long q5), .second, .val (.int m9), .val (.int j9), .val (.int s1), .val (.int s2), .val (.int s3), .val (.ref y9), .val (.ref b9), .val (.int v163), .unset] [])) t
            refine XS.iload X157.here hx rfl (hb hby at_212) rfl ?_
            show Steps p.tables e below (T157.setTop (mkF m 214 #[.val (.int q0), .val (.int q1), .val (.int q2), .val (.int q3), .val (.int q4), .val (.long q5), .second, .val (.int m9), .val (.int j9), .val (.int s1), .val (.int s2), .val (.int s3), .val (.ref y9), .val (.ref b9), .val (.int v163), .unset] [(.int j9)])) t
            refine XS.iconst X157.here hx rfl (hb hby at_214) ?_
            by_cases c167 : j9 = (1 : Int32)
            · show Steps p.tables e below (T157.setTop (mkF m 215 #[.val (.int q0), .val (.int q1), .val (.int q2), .val (.int q3), .val (.int q4), .val (.long q5), .second, .val (.int m9), .val (.int j9), .val (.int s1), .val (.int s2), .val (.int s3), .val (.ref y9), .val (.ref b9), .val (.int v163), .unset] [(.int (1 : Int32)), (.int j9)])) t
              refine XS.icmpNo X157.here hx rfl (hb hby at_215) rfl (teq c167).2 ?_
              show Steps p.tables e below (T157.setTop (mkF m 218 #[.val (.int q0), .val (.int q1), .val (.int q2), .val (.int q3), .val (.int q4), .val (.long q5), .second, .val (.int m9), .val (.int j9), .val (.int s1), .val (.int s2), .val (.int s3), .val (.ref y9), .val (.ref b9), .val (.int v163), .unset] [])) t
              refine XS.iloadN X157.here hx rfl (hb hby at_218) rfl ?_
              show Steps p.tables e below (T157.setTop (mkF m 219 #[.val (.int q0), .val (.int q1), .val (.int q2), .val (.int q3), .val (.int q4), .val (.long q5), .second, .val (.int m9), .val (.int j9), .val (.int s1), .val (.int s2), .val (.int s3), .val (.ref y9), .val (.ref b9), .val (.int v163), .unset] [(.int q2)])) t
              refine XS.iload X157.here hx rfl (hb hby at_219) rfl ?_
              show Steps p.tables e below (T157.setTop (mkF m 221 #[.val (.int q0), .val (.int q1), .val (.int q2), .val (.int q3), .val (.int q4), .val (.long q5), .second, .val (.int m9), .val (.int j9), .val (.int s1), .val (.int s2), .val (.int s3), .val (.ref y9), .val (.ref b9), .val (.int v163), .unset] [(.int v163), (.int q2)])) t
              refine XS.isub X157.here hx rfl (hb hby at_221) rfl ?_
              show Steps p.tables e below (T157.setTop (mkF m 222 #[.val (.int q0), .val (.int q1), .val (.int q2), .val (.int q3), .val (.int q4), .val (.long q5), .second, .val (.int m9), .val (.int j9), .val (.int s1), .val (.int s2), .val (.int s3), .val (.ref y9), .val (.ref b9), .val (.int v163), .unset] [(.int (q2 - v163))])) t
              refine XS.istore X157.here hx rfl (hb hby at_222) rfl (l' := #[.val (.int q0), .val (.int q1), .val (.int q2), .val (.int q3), .val (.int q4), .val (.long q5), .second, .val (.int m9), .val (.int j9), .val (.int s1), .val (.int s2), .val (.int s3), .val (.ref y9), .val (.ref b9), .val (.int v163), .val (.int (q2 - v163))]) rfl ?_
              show Steps p.tables e below (T157.setTop (mkF m 224 #[.val (.int q0), .val (.int q1), .val (.int q2), .val (.int q3), .val (.int q4), .val (.long q5), .second, .val (.int m9), .val (.int j9), .val (.int s1), .val (.int s2), .val (.int s3), .val (.ref y9), .val (.ref b9), .val (.int v163), .val (.int (q2 - v163))] [])) t
              refine XS.goto X157.here hx rfl (pc0 := 224) (pc' := 249) rfl (hb hby at_224) (by decide) (by decide) ?_
              have e_v169' := e_v169
              try rw [if_neg c166] at e_v169'
              try rw [if_pos c167] at e_v169'
              subst e_v169'
              exact k
            · show Steps p.tables e below (T157.setTop (mkF m 215 #[.val (.int q0), .val (.int q1), .val (.int q2), .val (.int q3), .val (.int q4), .val (.long q5), .second, .val (.int m9), .val (.int j9), .val (.int s1), .val (.int s2), .val (.int s3), .val (.ref y9), .val (.ref b9), .val (.int v163), .unset] [(.int (1 : Int32)), (.int j9)])) t
              refine XS.icmpYes X157.here hx rfl (pc0 := 215) (pc' := 227) rfl (hb hby at_215) rfl (feq c167).2 (by decide) (by decide) ?_
              show Steps p.tables e below (T157.setTop (mkF m 227 #[.val (.int q0), .val (.int q1), .val (.int q2), .val (.int q3), .val (.int q4), .val (.long q5), .second, .val (.int m9), .val (.int j9), .val (.int s1), .val (.int s2), .val (.int s3), .val (.ref y9), .val (.ref b9), .val (.int v163), .unset] [])) t
              refine XS.iload X157.here hx rfl (hb hby at_227) rfl ?_
              show Steps p.tables e below (T157.setTop (mkF m 229 #[.val (.int q0), .val (.int q1), .val (.int q2), .val (.int q3), .val (.int q4), .val (.long q5), .second, .val (.int m9), .val (.int j9), .val (.int s1), .val (.int s2), .val (.int s3), .val (.ref y9), .val (.ref b9), .val (.int v163), .unset] [(.int j9)])) t
              refine XS.iconst X157.here hx rfl (hb hby at_229) ?_
              by_cases c168 : j9 = (2 : Int32)
              · show Steps p.tables e below (T157.setTop (mkF m 230 #[.val (.int q0), .val (.int q1), .val (.int q2), .val (.int q3), .val (.int q4), .val (.long q5), .second, .val (.int m9), .val (.int j9), .val (.int s1), .val (.int s2), .val (.int s3), .val (.ref y9), .val (.ref b9), .val (.int v163), .unset] [(.int (2 : Int32)), (.int j9)])) t
                refine XS.icmpNo X157.here hx rfl (hb hby at_230) rfl (teq c168).2 ?_
                show Steps p.tables e below (T157.setTop (mkF m 233 #[.val (.int q0), .val (.int q1), .val (.int q2), .val (.int q3), .val (.int q4), .val (.long q5), .second, .val (.int m9), .val (.int j9), .val (.int s1), .val (.int s2), .val (.int s3), .val (.ref y9), .val (.ref b9), .val (.int v163), .unset] [])) t
                refine XS.iloadN X157.here hx rfl (hb hby at_233) rfl ?_
                show Steps p.tables e below (T157.setTop (mkF m 234 #[.val (.int q0), .val (.int q1), .val (.int q2), .val (.int q3), .val (.int q4), .val (.long q5), .second, .val (.int m9), .val (.int j9), .val (.int s1), .val (.int s2), .val (.int s3), .val (.ref y9), .val (.ref b9), .val (.int v163), .unset] [(.int q3)])) t
                refine XS.iload X157.here hx rfl (hb hby at_234) rfl ?_
                show Steps p.tables e below (T157.setTop (mkF m 236 #[.val (.int q0), .val (.int q1), .val (.int q2), .val (.int q3), .val (.int q4), .val (.long q5), .second, .val (.int m9), .val (.int j9), .val (.int s1), .val (.int s2), .val (.int s3), .val (.ref y9), .val (.ref b9), .val (.int v163), .unset] [(.int v163), (.int q3)])) t
                refine XS.isub X157.here hx rfl (hb hby at_236) rfl ?_
                show Steps p.tables e below (T157.setTop (mkF m 237 #[.val (.int q0), .val (.int q1), .val (.int q2), .val (.int q3), .val (.int q4), .val (.long q5), .second, .val (.int m9), .val (.int j9), .val (.int s1), .val (.int s2), .val (.int s3), .val (.ref y9), .val (.ref b9), .val (.int v163), .unset] [(.int (q3 - v163))])) t
                refine XS.istore X157.here hx rfl (hb hby at_237) rfl (l' := #[.val (.int q0), .val (.int q1), .val (.int q2), .val (.int q3), .val (.int q4), .val (.long q5), .second, .val (.int m9), .val (.int j9), .val (.int s1), .val (.int s2), .val (.int s3), .val (.ref y9), .val (.ref b9), .val (.int v163), .val (.int (q3 - v163))]) rfl ?_
                show Steps p.tables e below (T157.setTop (mkF m 239 #[.val (.int q0), .val (.int q1), .val (.int q2), .val (.int q3), .val (.int q4), .val (.long q5), .second, .val (.int m9), .val (.int j9), .val (.int s1), .val (.int s2), .val (.int s3), .val (.ref y9), .val (.ref b9), .val (.int v163), .val (.int (q3 - v163))] [])) t
                refine XS.goto X157.here hx rfl (pc0 := 239) (pc' := 249) rfl (hb hby at_239) (by decide) (by decide) ?_
                have e_v169' := e_v169
                try rw [if_neg c166] at e_v169'
                try rw [if_neg c167] at e_v169'
                try rw [if_pos c168] at e_v169'
                subst e_v169'
                exact k
              · show Steps p.tables e below (T157.setTop (mkF m 230 #[.val (.int q0), .val (.int q1), .val (.int q2), .val (.int q3), .val (.int q4), .val (.long q5), .second, .val (.int m9), .val (.int j9), .val (.int s1), .val (.int s2), .val (.int s3), .val (.ref y9), .val (.ref b9), .val (.int v163), .unset] [(.int (2 : Int32)), (.int j9)])) t
                refine XS.icmpYes X157.here hx rfl (pc0 := 230) (pc' := 242) rfl (hb hby at_230) rfl (feq c168).2 (by decide) (by decide) ?_
                show Steps p.tables e below (T157.setTop (mkF m 242 #[.val (.int q0), .val (.int q1), .val (.int q2), .val (.int q3), .val (.int q4), .val (.long q5), .second, .val (.int m9), .val (.int j9), .val (.int s1), .val (.int s2), .val (.int s3), .val (.ref y9), .val (.ref b9), .val (.int v163), .unset] [])) t
                refine XS.iload X157.here hx rfl (hb hby at_242) rfl ?_
                show Steps p.tables e below (T157.setTop (mkF m 244 #[.val (.int q0), .val (.int q1), .val (.int q2), .val (.int q3), .val (.int q4), .val (.long q5), .second, .val (.int m9), .val (.int j9), .val (.int s1), .val (.int s2), .val (.int s3), .val (.ref y9), .val (.ref b9), .val (.int v163), .unset] [(.int q4)])) t
                refine XS.iload X157.here hx rfl (hb hby at_244) rfl ?_
                show Steps p.tables e below (T157.setTop (mkF m 246 #[.val (.int q0), .val (.int q1), .val (.int q2), .val (.int q3), .val (.int q4), .val (.long q5), .second, .val (.int m9), .val (.int j9), .val (.int s1), .val (.int s2), .val (.int s3), .val (.ref y9), .val (.ref b9), .val (.int v163), .unset] [(.int v163), (.int q4)])) t
                refine XS.isub X157.here hx rfl (hb hby at_246) rfl ?_
                show Steps p.tables e below (T157.setTop (mkF m 247 #[.val (.int q0), .val (.int q1), .val (.int q2), .val (.int q3), .val (.int q4), .val (.long q5), .second, .val (.int m9), .val (.int j9), .val (.int s1), .val (.int s2), .val (.int s3), .val (.ref y9), .val (.ref b9), .val (.int v163), .unset] [(.int (q4 - v163))])) t
                refine XS.istore X157.here hx rfl (hb hby at_247) rfl (l' := #[.val (.int q0), .val (.int q1), .val (.int q2), .val (.int q3), .val (.int q4), .val (.long q5), .second, .val (.int m9), .val (.int j9), .val (.int s1), .val (.int s2), .val (.int s3), .val (.ref y9), .val (.ref b9), .val (.int v163), .val (.int (q4 - v163))]) rfl ?_
                have e_v169' := e_v169
                try rw [if_neg c166] at e_v169'
                try rw [if_neg c167] at e_v169'
                try rw [if_neg c168] at e_v169'
                subst e_v169'
                exact k
        refine OFin.go sg171 ?_
        have sg172 : ∀ t, Steps p.tables e below (T157.setTop (mkF m 251 #[.val (.int q0), .val (.int q1), .val (.int q2), .val (.int q3), .val (.int q4), .val (.long q5), .second, .val (.int m9), .val (.int j9), .val (.int s1), .val (.int s2), .val (.int s3), .val (.ref y9), .val (.ref b9), .val (.int v163), .val (.int v169)] [(.ref b9)])) t → Steps p.tables e below (T157.setTop (mkF m 249 #[.val (.int q0), .val (.int q1), .val (.int q2), .val (.int q3), .val (.int q4), .val (.long q5), .second, .val (.int m9), .val (.int j9), .val (.int s1), .val (.int s2), .val (.int s3), .val (.ref y9), .val (.ref b9), .val (.int v163), .val (.int v169)] [])) t := by
          intro t k
          show Steps p.tables e below (T157.setTop (mkF m 249 #[.val (.int q0), .val (.int q1), .val (.int q2), .val (.int q3), .val (.int q4), .val (.long q5), .second, .val (.int m9), .val (.int j9), .val (.int s1), .val (.int s2), .val (.int s3), .val (.ref y9), .val (.ref b9), .val (.int v163), .val (.int v169)] [])) t
          refine XS.aload X157.here hx rfl (hb hby at_249) rfl rfl ?_
          exact k
        refine OFin.go sg172 ?_
        obtain ⟨cq173, kq173, q173a, q173b, q173c⟩ := isOf hZ rfl ((E1.keep Kq130).keep Kq157)
        obtain ⟨_, _, ⟨T173, L173, k173, n173⟩, -, X173, ⟨Lc173, hQ173, l173, y173, z173⟩, st173⟩ := X157.virtualBack hx (y := (⟨"com/example/rida/rida/io/LineBlock", "count", "()I"⟩ : MethodName)) (z := (⟨"com/example/rida/rida/io/LineBlock", "count", "()I"⟩ : MethodName)) hown (mvT hZ (hw _ (List.mem_of_getElem? (i := 24) rfl))) (mvT hZ (hw _ (List.mem_of_getElem? (i := 25) rfl))) (notFace_of_selects (args := #[]) (mvT hZ (hw _ (List.mem_of_getElem? (i := 27) rfl)))) (mvT hZ (hw _ (List.mem_of_getElem? (i := 27) rfl))) (mvT hZ (hw _ (List.mem_of_getElem? (i := 26) rfl))) (by decide) (backOf (W := 0) (rm4 l Z aZ hw [] b9 (((0 : Int32) + (1 : Int32)) + (1 : Int32)) T157.heap n0 (Nat.le_trans Z0 K157.1) P157_2) hZ (hw _ (List.mem_of_getElem? (i := 28) rfl)) (hw _ (List.mem_of_getElem? (i := 7) rfl)) (by decide) (by decide)) q173a q173c (g := (mkF m 251 #[.val (.int q0), .val (.int q1), .val (.int q2), .val (.int q3), .val (.int q4), .val (.long q5), .second, .val (.int m9), .val (.int j9), .val (.int s1), .val (.int s2), .val (.int s3), .val (.ref y9), .val (.ref b9), .val (.int v163), .val (.int v169)] [(.ref b9)])) rfl (by rw [hml]; rfl) (Steps.refl _) (argsL := []) (rest := []) (lenOf pd_1 rfl) rfl (by show 2 * 0 + _ ≤ _; exact Nat.le_of_eq rfl) (hb hby at_251) (fun _ _ => ⟨rfl, rfl, (by decide : 4 + 0 ≤ _), (by decide : 32 + 0 ≤ _)⟩)
        dsimp only [Pt.U, Pt.locs, Pt.cells, Pt.slots] at X173 l173 y173 z173 st173 hQ173
        subst l173 y173 z173
        obtain ⟨rfl, N173q, e173⟩ := hQ173
        have N173 := Fr.app N157 N173q
        refine OFin.tr st173 ?_
        have sg175 : ∀ t, Steps p.tables e below (T173.setTop (mkF m 256 #[.val (.int q0), .val (.int q1), .val (.int q2), .val (.int q3), .val (.int q4), .val (.long q5), .second, .val (.int m9), .val (.int j9), .val (.int s1), .val (.int s2), .val (.int s3), .val (.ref y9), .val (.ref b9), .val (.int v163), .val (.int v169)] [(.int j9), (.int (((0 : Int32) + (1 : Int32)) + (1 : Int32)))])) t → Steps p.tables e below (T173.setTop (mkF m 254 #[.val (.int q0), .val (.int q1), .val (.int q2), .val (.int q3), .val (.int q4), .val (.long q5), .second, .val (.int m9), .val (.int j9), .val (.int s1), .val (.int s2), .val (.int s3), .val (.ref y9), .val (.ref b9), .val (.int v163), .val (.int v169)] [(.int (((0 : Int32) + (1 : Int32)) + (1 : Int32)))])) t := by
          intro t k
          show Steps p.tables e below (T173.setTop (mkF m 254 #[.val (.int q0), .val (.int q1), .val (.int q2), .val (.int q3), .val (.int q4), .val (.long q5), .second, .val (.int m9), .val (.int j9), .val (.int s1), .val (.int s2), .val (.int s3), .val (.ref y9), .val (.ref b9), .val (.int v163), .val (.int v169)] [(.int (((0 : Int32) + (1 : Int32)) + (1 : Int32)))])) t
          refine XS.iload X173.here hx rfl (hb hby at_254) rfl ?_
          exact k
        refine OFin.go sg175 ?_
        have c174 : (((0 : Int32) + (1 : Int32)) + (1 : Int32)) = j9 := (own_e2 c132 c159)
        have sg176 : ∀ t, Steps p.tables e below (T173.setTop (mkF m 261 #[.val (.int q0), .val (.int q1), .val (.int q2), .val (.int q3), .val (.int q4), .val (.long q5), .second, .val (.int m9), .val (.int j9), .val (.int s1), .val (.int s2), .val (.int s3), .val (.ref y9), .val (.ref b9), .val (.int v163), .val (.int v169)] [(.ref b9)])) t → Steps p.tables e below (T173.setTop (mkF m 256 #[.val (.int q0), .val (.int q1), .val (.int q2), .val (.int q3), .val (.int q4), .val (.long q5), .second, .val (.int m9), .val (.int j9), .val (.int s1), .val (.int s2), .val (.int s3), .val (.ref y9), .val (.ref b9), .val (.int v163), .val (.int v169)] [(.int j9), (.int (((0 : Int32) + (1 : Int32)) + (1 : Int32)))])) t := by
          intro t k
          show Steps p.tables e below (T173.setTop (mkF m 256 #[.val (.int q0), .val (.int q1), .val (.int q2), .val (.int q3), .val (.int q4), .val (.long q5), .second, .val (.int m9), .val (.int j9), .val (.int s1), .val (.int s2), .val (.int s3), .val (.ref y9), .val (.ref b9), .val (.int v163), .val (.int v169)] [(.int j9), (.int (((0 : Int32) + (1 : Int32)) + (1 : Int32)))])) t
          refine XS.icmpNo X173.here hx rfl (hb hby at_256) rfl (teq c174).2 ?_
          show Steps p.tables e below (T173.setTop (mkF m 259 #[.val (.int q0), .val (.int q1), .val (.int q2), .val (.int q3), .val (.int q4), .val (.long q5), .second, .val (.int m9), .val (.int j9), .val (.int s1), .val (.int s2), .val (.int s3), .val (.ref y9), .val (.ref b9), .val (.int v163), .val (.int v169)] [])) t
          refine XS.aload X173.here hx rfl (hb hby at_259) rfl rfl ?_
          exact k
        refine OFin.go sg176 ?_
        obtain ⟨cq177, kq177, q177a, q177b, q177c⟩ := isOf hZ e173 ((E1.keep Kq130).keep Kq157)
        obtain ⟨_, _, ⟨T177, L177, k177, n177⟩, -, X177, ⟨Lc177, hQ177, l177, y177, z177⟩, st177⟩ := X173.virtualBack hx (y := (⟨"com/example/rida/rida/io/LineBlock", "size", "()I"⟩ : MethodName)) (z := (⟨"com/example/rida/rida/io/LineBlock", "size", "()I"⟩ : MethodName)) hown (mvT hZ (hw _ (List.mem_of_getElem? (i := 31) rfl))) (mvT hZ (hw _ (List.mem_of_getElem? (i := 32) rfl))) (notFace_of_selects (args := #[]) (mvT hZ (hw _ (List.mem_of_getElem? (i := 34) rfl)))) (mvT hZ (hw _ (List.mem_of_getElem? (i := 34) rfl))) (mvT hZ (hw _ (List.mem_of_getElem? (i := 33) rfl))) (by decide) (backOf (W := 0) (rm5 l Z aZ hw [] b9 (((0 : Int32) + (1 : Int32)) + (1 : Int32)) t9 o9 k9 m9 ((vs9.set (0 : Int32).toNatClampNeg (.int q2)).set ((0 : Int32) + (1 : Int32)).toNatClampNeg (.int q3)) q3 T157.heap n0 (Nat.le_trans Z0 K157.1) P157_2 P157_1 P157_3 P157_6 (Or.inr (by rw [(by decide : (((0 : Int32) + (1 : Int32)) + (1 : Int32)) - (1 : Int32) = ((0 : Int32) + (1 : Int32)))]; exact ⟨by decide, (own_h1 c132 hjm), own_got _ _ _ _ (own_in (by decide) (own_h1 c132 hjm) (own_set _ _ _ _ hl))⟩))) hZ (hw _ (List.mem_of_getElem? (i := 35) rfl)) (hw _ (List.mem_of_getElem? (i := 7) rfl)) (by decide) (by decide)) q177a q177c (g := (mkF m 261 #[.val (.int q0), .val (.int q1), .val (.int q2), .val (.int q3), .val (.int q4), .val (.long q5), .second, .val (.int m9), .val (.int j9), .val (.int s1), .val (.int s2), .val (.int s3), .val (.ref y9), .val (.ref b9), .val (.int v163), .val (.int v169)] [(.ref b9)])) rfl (by rw [hml]; rfl) (Steps.refl _) (argsL := []) (rest := []) (lenOf pd_1 rfl) rfl (by show 2 * 0 + _ ≤ _; exact Nat.le_of_eq rfl) (hb hby at_261) (fun _ _ => ⟨rfl, e173, (by decide : 4 + 0 ≤ _), (by decide : 32 + 0 ≤ _)⟩)
        dsimp only [Pt.U, Pt.locs, Pt.cells, Pt.slots] at X177 l177 y177 z177 st177 hQ177
        subst l177 y177 z177
        obtain ⟨rfl, N177q, e177⟩ := hQ177
        have N177 := Fr.app N173 N177q
        refine OFin.tr st177 ?_
        have sg179 : ∀ t, Steps p.tables e below (T177.setTop (mkF m 266 #[.val (.int q0), .val (.int q1), .val (.int q2), .val (.int q3), .val (.int q4), .val (.long q5), .second, .val (.int m9), .val (.int j9), .val (.int s1), .val (.int s2), .val (.int s3), .val (.ref y9), .val (.ref b9), .val (.int v163), .val (.int v169)] [(.int v169), (.int (if (((0 : Int32) + (1 : Int32)) + (1 : Int32)) = (0 : Int32) then (0 : Int32) else (q3 - o9)))])) t → Steps p.tables e below (T177.setTop (mkF m 264 #[.val (.int q0), .val (.int q1), .val (.int q2), .val (.int q3), .val (.int q4), .val (.long q5), .second, .val (.int m9), .val (.int j9), .val (.int s1), .val (.int s2), .val (.int s3), .val (.ref y9), .val (.ref b9), .val (.int v163), .val (.int v169)] [(.int (if (((0 : Int32) + (1 : Int32)) + (1 : Int32)) = (0 : Int32) then (0 : Int32) else (q3 - o9)))])) t := by
          intro t k
          show Steps p.tables e below (T177.setTop (mkF m 264 #[.val (.int q0), .val (.int q1), .val (.int q2), .val (.int q3), .val (.int q4), .val (.long q5), .second, .val (.int m9), .val (.int j9), .val (.int s1), .val (.int s2), .val (.int s3), .val (.ref y9), .val (.ref b9), .val (.int v163), .val (.int v169)] [(.int (if (((0 : Int32) + (1 : Int32)) + (1 : Int32)) = (0 : Int32) then (0 : Int32) else (q3 - o9)))])) t
          refine XS.iload X177.here hx rfl (hb hby at_264) rfl ?_
          exact k
        refine OFin.go sg179 ?_
        have c178 : (if (((0 : Int32) + (1 : Int32)) + (1 : Int32)) = (0 : Int32) then (0 : Int32) else (q3 - o9)) = v169 := (by have q := (own_e2 c132 c159); simp [e_v169, e_v163, ho, ← q])
        have sg180 : ∀ t, Steps p.tables e below (T177.setTop (mkF m 274 #[.val (.int q0), .val (.int q1), .val (.int q2), .val (.int q3), .val (.int q4), .val (.long q5), .second, .val (.int m9), .val (.int j9), .val (.int s1), .val (.int s2), .val (.int s3), .val (.ref y9), .val (.ref b9), .val (.int v163), .val (.int v169)] [(.int (1 : Int32))])) t → Steps p.tables e below (T177.setTop (mkF m 266 #[.val (.int q0), .val (.int q1), .val (.int q2), .val (.int q3), .val (.int q4), .val (.long q5), .second, .val (.int m9), .val (.int j9), .val (.int s1), .val (.int s2), .val (.int s3), .val (.ref y9), .val (.ref b9), .val (.int v163), .val (.int v169)] [(.int v169), (.int (if (((0 : Int32) + (1 : Int32)) + (1 : Int32)) = (0 : Int32) then (0 : Int32) else (q3 - o9)))])) t := by
          intro t k
          show Steps p.tables e below (T177.setTop (mkF m 266 #[.val (.int q0), .val (.int q1), .val (.int q2), .val (.int q3), .val (.int q4), .val (.long q5), .second, .val (.int m9), .val (.int j9), .val (.int s1), .val (.int s2), .val (.int s3), .val (.ref y9), .val (.ref b9), .val (.int v163), .val (.int v169)] [(.int v169), (.int (if (((0 : Int32) + (1 : Int32)) + (1 : Int32)) = (0 : Int32) then (0 : Int32) else (q3 - o9)))])) t
          refine XS.icmpNo X177.here hx rfl (hb hby at_266) rfl (teq c178).2 ?_
          show Steps p.tables e below (T177.setTop (mkF m 269 #[.val (.int q0), .val (.int q1), .val (.int q2), .val (.int q3), .val (.int q4), .val (.long q5), .second, .val (.int m9), .val (.int j9), .val (.int s1), .val (.int s2), .val (.int s3), .val (.ref y9), .val (.ref b9), .val (.int v163), .val (.int v169)] [])) t
          refine XS.iconst X177.here hx rfl (hb hby at_269) ?_
          show Steps p.tables e below (T177.setTop (mkF m 270 #[.val (.int q0), .val (.int q1), .val (.int q2), .val (.int q3), .val (.int q4), .val (.long q5), .second, .val (.int m9), .val (.int j9), .val (.int s1), .val (.int s2), .val (.int s3), .val (.ref y9), .val (.ref b9), .val (.int v163), .val (.int v169)] [(.int (1 : Int32))])) t
          refine XS.goto X177.here hx rfl (pc0 := 270) (pc' := 274) rfl (hb hby at_270) (by decide) (by decide) ?_
          exact k
        refine OFin.go sg180 ?_
        exact OFin.retN X177 hx hret (by simp) hlk (hb hby at_274) rfl (by rw [e177]; exact ⟨rfl, N177⟩) (by decide) (by decide)
      · have sg181 : ∀ t, Steps p.tables e below (T157.setTop (mkF m 162 #[.val (.int q0), .val (.int q1), .val (.int q2), .val (.int q3), .val (.int q4), .val (.long q5), .second, .val (.int m9), .val (.int j9), .val (.int s1), .val (.int s2), .val (.int s3), .val (.ref y9), .val (.ref b9), .unset, .unset] [(.int q4), (.ref b9)])) t → Steps p.tables e below (T157.setTop (mkF m 155 #[.val (.int q0), .val (.int q1), .val (.int q2), .val (.int q3), .val (.int q4), .val (.long q5), .second, .val (.int m9), .val (.int j9), .val (.int s1), .val (.int s2), .val (.int s3), .val (.ref y9), .val (.ref b9), .unset, .unset] [(.int (3 : Int32)), (.int j9)])) t := by
          intro t k
          show Steps p.tables e below (T157.setTop (mkF m 155 #[.val (.int q0), .val (.int q1), .val (.int q2), .val (.int q3), .val (.int q4), .val (.long q5), .second, .val (.int m9), .val (.int j9), .val (.int s1), .val (.int s2), .val (.int s3), .val (.ref y9), .val (.ref b9), .unset, .unset] [(.int (3 : Int32)), (.int j9)])) t
          refine XS.icmpNo X157.here hx rfl (hb hby at_155) rfl (flt c159).1 ?_
          show Steps p.tables e below (T157.setTop (mkF m 158 #[.val (.int q0), .val (.int q1), .val (.int q2), .val (.int q3), .val (.int q4), .val (.long q5), .second, .val (.int m9), .val (.int j9), .val (.int s1), .val (.int s2), .val (.int s3), .val (.ref y9), .val (.ref b9), .unset, .unset] [])) t
          refine XS.aload X157.here hx rfl (hb hby at_158) rfl rfl ?_
          show Steps p.tables e below (T157.setTop (mkF m 160 #[.val (.int q0), .val (.int q1), .val (.int q2), .val (.int q3), .val (.int q4), .val (.long q5), .second, .val (.int m9), .val (.int j9), .val (.int s1), .val (.int s2), .val (.int s3), .val (.ref y9), .val (.ref b9), .unset, .unset] [(.ref b9)])) t
          refine XS.iload X157.here hx rfl (hb hby at_160) rfl ?_
          exact k
        refine OFin.go sg181 ?_
        obtain ⟨cq182, kq182, q182a, q182b, q182c⟩ := isOf hZ rfl ((E1.keep Kq130).keep Kq157)
        obtain ⟨_, _, ⟨T182, L182, k182, n182⟩, -, X182, ⟨Lc182, hQ182, l182, y182, z182⟩, st182⟩ := X157.virtualBack hx (y := (⟨"com/example/rida/rida/io/LineBlock", "add", "(I)V"⟩ : MethodName)) (z := (⟨"com/example/rida/rida/io/LineBlock", "add", "(I)V"⟩ : MethodName)) hown (mvT hZ (hw _ (List.mem_of_getElem? (i := 36) rfl))) (mvT hZ (hw _ (List.mem_of_getElem? (i := 37) rfl))) (notFace_of_selects (args := #[]) (mvT hZ (hw _ (List.mem_of_getElem? (i := 39) rfl)))) (mvT hZ (hw _ (List.mem_of_getElem? (i := 39) rfl))) (mvT hZ (hw _ (List.mem_of_getElem? (i := 38) rfl))) (by decide) (backOf (W := 0) (rm6 l Z aZ hw [] b9 q4 t9 k9 m9 ((vs9.set (0 : Int32).toNatClampNeg (.int q2)).set ((0 : Int32) + (1 : Int32)).toNatClampNeg (.int q3)) (((0 : Int32) + (1 : Int32)) + (1 : Int32)) o9 bv9 sv9 fv9 T157.heap n0 (Nat.le_trans Z0 K157.1) ((E1.keep Kq130).keep Kq157) P157_0 P157_1 P157_2 P157_3 P157_4 P157_5 P157_6 (by decide) (own_h2 c159 hjm) (own_set _ _ _ _ (own_set _ _ _ _ hl)) ne_b9_t9 g_b9 g_t9) hZ (hw _ (List.mem_of_getElem? (i := 40) rfl)) (hw _ (List.mem_of_getElem? (i := 7) rfl)) (by decide) (by decide)) q182a q182c (g := (mkF m 162 #[.val (.int q0), .val (.int q1), .val (.int q2), .val (.int q3), .val (.int q4), .val (.long q5), .second, .val (.int m9), .val (.int j9), .val (.int s1), .val (.int s2), .val (.int s3), .val (.ref y9), .val (.ref b9), .unset, .unset] [(.int q4), (.ref b9)])) rfl (by rw [hml]; rfl) (Steps.refl _) (argsL := [(.int q4)]) (rest := []) (lenOf pd_2 rfl) rfl (by show 2 * 0 + _ ≤ _; exact Nat.le_of_eq rfl) (hb hby at_162) (fun _ _ => ⟨rfl, rfl, (by decide : 4 + 0 ≤ _), (by decide : 32 + 0 ≤ _)⟩)
        dsimp only [Pt.U, Pt.locs, Pt.cells, Pt.slots] at X182 l182 y182 z182 st182 hQ182
        subst l182 y182 z182
        obtain ⟨rfl, N182q, Kq182, P182_0, P182_1, P182_2, P182_3, P182_4, P182_5, P182_6⟩ := hQ182
        have N182 := Fr.app N157 N182q
        refine OFin.tr st182 ?_
        have K182 : Keep h0 T182.heap [] := K157.trans Kq182 (allS (Or.inr sz_b9) (allS (Or.inr sz_t9) all0))
        have sg187 : ∀ t, Steps p.tables e below (T182.setTop (mkF m 167 #[.val (.int q0), .val (.int q1), .val (.int q2), .val (.int q3), .val (.int q4), .val (.long q5), .second, .val (.int m9), .val (.int j9), .val (.int s1), .val (.int s2), .val (.int s3), .val (.ref y9), .val (.ref b9), .unset, .unset] [(.int s3)])) t → Steps p.tables e below (T182.setTop (mkF m 165 #[.val (.int q0), .val (.int q1), .val (.int q2), .val (.int q3), .val (.int q4), .val (.long q5), .second, .val (.int m9), .val (.int j9), .val (.int s1), .val (.int s2), .val (.int s3), .val (.ref y9), .val (.ref b9), .unset, .unset] [])) t := by
          intro t k
          show Steps p.tables e below (T182.setTop (mkF m 165 #[.val (.int q0), .val (.int q1), .val (.int q2), .val (.int q3), .val (.int q4), .val (.long q5), .second, .val (.int m9), .val (.int j9), .val (.int s1), .val (.int s2), .val (.int s3), .val (.ref y9), .val (.ref b9), .unset, .unset] [])) t
          refine XS.iload X182.here hx rfl (hb hby at_165) rfl ?_
          exact k
        refine OFin.go sg187 ?_
        obtain ⟨v186, e_v186⟩ : ∃ z : Int32, z = (if s3 = (0 : Int32) then (if s2 = (0 : Int32) then (if s1 = (0 : Int32) then (0 : Int32) else q1) else (0 : Int32)) else q1) := ⟨_, rfl⟩
        have sg188 : ∀ t, Steps p.tables e below (T182.setTop (mkF m 201 #[.val (.int q0), .val (.int q1), .val (.int q2), .val (.int q3), .val (.int q4), .val (.long q5), .second, .val (.int m9), .val (.int j9), .val (.int s1), .val (.int s2), .val (.int s3), .val (.ref y9), .val (.ref b9), .val (.int v186), .unset] [])) t → Steps p.tables e below (T182.setTop (mkF m 167 #[.val (.int q0), .val (.int q1), .val (.int q2), .val (.int q3), .val (.int q4), .val (.long q5), .second, .val (.int m9), .val (.int j9), .val (.int s1), .val (.int s2), .val (.int s3), .val (.ref y9), .val (.ref b9), .unset, .unset] [(.int s3)])) t := by
          intro t k
          by_cases c183 : s3 = (0 : Int32)
          · show Steps p.tables e below (T182.setTop (mkF m 167 #[.val (.int q0), .val (.int q1), .val (.int q2), .val (.int q3), .val (.int q4), .val (.long q5), .second, .val (.int m9), .val (.int j9), .val (.int s1), .val (.int s2), .val (.int s3), .val (.ref y9), .val (.ref b9), .unset, .unset] [(.int s3)])) t
            refine XS.ifYes X182.here hx rfl (pc0 := 167) (pc' := 176) rfl (hb hby at_167) rfl ((if0 _ _).trans (teq c183).1) (by decide) (by decide) ?_
            show Steps p.tables e below (T182.setTop (mkF m 176 #[.val (.int q0), .val (.int q1), .val (.int q2), .val (.int q3), .val (.int q4), .val (.long q5), .second, .val (.int m9), .val (.int j9), .val (.int s1), .val (.int s2), .val (.int s3), .val (.ref y9), .val (.ref b9), .unset, .unset] [])) t
            refine XS.iload X182.here hx rfl (hb hby at_176) rfl ?_
            by_cases c184 : s2 = (0 : Int32)
            · show Steps p.tables e below (T182.setTop (mkF m 178 #[.val (.int q0), .val (.int q1), .val (.int q2), .val (.int q3), .val (.int q4), .val (.long q5), .second, .val (.int m9), .val (.int j9), .val (.int s1), .val (.int s2), .val (.int s3), .val (.ref y9), .val (.ref b9), .unset, .unset] [(.int s2)])) t
              refine XS.ifYes X182.here hx rfl (pc0 := 178) (pc' := 187) rfl (hb hby at_178) rfl ((if0 _ _).trans (teq c184).1) (by decide) (by decide) ?_
              show Steps p.tables e below (T182.setTop (mkF m 187 #[.val (.int q0), .val (.int q1), .val (.int q2), .val (.int q3), .val (.int q4), .val (.long q5), .second, .val (.int m9), .val (.int j9), .val (.int s1), .val (.int s2), .val (.int s3), .val (.ref y9), .val (.ref b9), .unset, .unset] [])) t
              refine XS.iload X182.here hx rfl (hb hby at_187) rfl ?_
              by_cases c185 : s1 = (0 : Int32)
              · show Steps p.tables e below (T182.setTop (mkF m 189 #[.val (.int q0), .val (.int q1), .val (.int q2), .val (.int q3), .val (.int q4), .val (.long q5), .second, .val (.int m9), .val (.int j9), .val (.int s1), .val (.int s2), .val (.int s3), .val (.ref y9), .val (.ref b9), .unset, .unset] [(.int s1)])) t
                refine XS.ifYes X182.here hx rfl (pc0 := 189) (pc' := 198) rfl (hb hby at_189) rfl ((if0 _ _).trans (teq c185).1) (by decide) (by decide) ?_
                show Steps p.tables e below (T182.setTop (mkF m 198 #[.val (.int q0), .val (.int q1), .val (.int q2), .val (.int q3), .val (.int q4), .val (.long q5), .second, .val (.int m9), .val (.int j9), .val (.int s1), .val (.int s2), .val (.int s3), .val (.ref y9), .val (.ref b9), .unset, .unset] [])) t
                refine XS.iconst X182.here hx rfl (hb hby at_198) ?_
                show Steps p.tables e below (T182.setTop (mkF m 199 #[.val (.int q0), .val (.int q1), .val (.int q2), .val (.int q3), .val (.int q4), .val (.long q5), .second, .val (.int m9), .val (.int j9), .val (.int s1), .val (.int s2), .val (.int s3), .val (.ref y9), .val (.ref b9), .unset, .unset] [(.int (0 : Int32))])) t
                refine XS.istore X182.here hx rfl (hb hby at_199) rfl (l' := #[.val (.int q0), .val (.int q1), .val (.int q2), .val (.int q3), .val (.int q4), .val (.long q5), .second, .val (.int m9), .val (.int j9), .val (.int s1), .val (.int s2), .val (.int s3), .val (.ref y9), .val (.ref b9), .val (.int (0 : Int32)), .unset]) rfl ?_
                have e_v186' := e_v186
                try rw [if_pos c183] at e_v186'
                try rw [if_pos c184] at e_v186'
                try rw [if_pos c185] at e_v186'
                subst e_v186'
                exact k
              · show Steps p.tables e below (T182.setTop (mkF m 189 #[.val (.int q0), .val (.int q1), .val (.int q2), .val (.int q3), .val (.int q4), .val (.long q5), .second, .val (.int m9), .val (.int j9), .val (.int s1), .val (.int s2), .val (.int s3), .val (.ref y9), .val (.ref b9), .unset, .unset] [(.int s1)])) t
                refine XS.ifNo X182.here hx rfl (hb hby at_189) rfl ((if0 _ _).trans (feq c185).1) ?_
                show Steps p.tables e below (T182.setTop (mkF m 192 #[.val (.int q0), .val (.int q1), .val (.int q2), .val (.int q3), .val (.int q4), .val (.long q5), .second, .val (.int m9), .val (.int j9), .val (.int s1), .val (.int s2), .val (.int s3), .val (.ref y9), .val (.ref b9), .unset, .unset] [])) t
                refine XS.iloadN X182.here hx rfl (hb hby at_192) rfl ?_
                show Steps p.tables e below (T182.setTop (mkF m 193 #[.val (.int q0), .val (.int q1), .val (.int q2), .val (.int q3), .val (.int q4), .val (.long q5), .second, .val (.int m9), .val (.int j9), .val (.int s1), .val (.int s2), .val (.int s3), .val (.ref y9), .val (.ref b9), .unset, .unset] [(.int q1)])) t
                refine XS.istore X182.here hx rfl (hb hby at_193) rfl (l' := #[.val (.int q0), .val (.int q1), .val (.int q2), .val (.int q3), .val (.int q4), .val (.long q5), .second, .val (.int m9), .val (.int j9), .val (.int s1), .val (.int s2), .val (.int s3), .val (.ref y9), .val (.ref b9), .val (.int q1), .unset]) rfl ?_
                show Steps p.tables e below (T182.setTop (mkF m 195 #[.val (.int q0), .val (.int q1), .val (.int q2), .val (.int q3), .val (.int q4), .val (.long q5), .second, .val (.int m9), .val (.int j9), .val (.int s1), .val (.int s2), .val (.int s3), .val (.ref y9), .val (.ref b9), .val (.int q1), .unset] [])) t
                refine XS.goto X182.here hx rfl (pc0 := 195) (pc' := 201) rfl (hb hby at_195) (by decide) (by decide) ?_
                have e_v186' := e_v186
                try rw [if_pos c183] at e_v186'
                try rw [if_pos c184] at e_v186'
                try rw [if_neg c185] at e_v186'
                subst e_v186'
                exact k
            · show Steps p.tables e below (T182.setTop (mkF m 178 #[.val (.int q0), .val (.int q1), .val (.int q2), .val (.int q3), .val (.int q4), .val (.long q5), .second, .val (.int m9), .val (.int j9), .val (.int s1), .val (.int s2), .val (.int s3), .val (.ref y9), .val (.ref b9), .unset, .unset] [(.int s2)])) t
              refine XS.ifNo X182.here hx rfl (hb hby at_178) rfl ((if0 _ _).trans (feq c184).1) ?_
              show Steps p.tables e below (T182.setTop (mkF m 181 #[.val (.int q0), .val (.int q1), .val (.int q2), .val (.int q3), .val (.int q4), .val (.long q5), .second, .val (.int m9), .val (.int j9), .val (.int s1), .val (.int s2), .val (.int s3), .val (.ref y9), .val (.ref b9), .unset, .unset] [])) t
              refine XS.iconst X182.here hx rfl (hb hby at_181) ?_
              show Steps p.tables e below (T182.setTop (mkF m 182 #[.val (.int q0), .val (.int q1), .val (.int q2), .val (.int q3), .val (.int q4), .val (.long q5), .second, .val (.int m9), .val (.int j9), .val (.int s1), .val (.int s2), .val (.int s3), .val (.ref y9), .val (.ref b9), .unset, .unset] [(.int (0 : Int32))])) t
              refine XS.istore X182.here hx rfl (hb hby at_182) rfl (l' := #[.val (.int q0), .val (.int q1), .val (.int q2), .val (.int q3), .val (.int q4), .val (.long q5), .second, .val (.int m9), .val (.int j9), .val (.int s1), .val (.int s2), .val (.int s3), .val (.ref y9), .val (.ref b9), .val (.int (0 : Int32)), .unset]) rfl ?_
              show Steps p.tables e below (T182.setTop (mkF m 184 #[.val (.int q0), .val (.int q1), .val (.int q2), .val (.int q3), .val (.int q4), .val (.long q5), .second, .val (.int m9), .val (.int j9), .val (.int s1), .val (.int s2), .val (.int s3), .val (.ref y9), .val (.ref b9), .val (.int (0 : Int32)), .unset] [])) t
              refine XS.goto X182.here hx rfl (pc0 := 184) (pc' := 201) rfl (hb hby at_184) (by decide) (by decide) ?_
              have e_v186' := e_v186
              try rw [if_pos c183] at e_v186'
              try rw [if_neg c184] at e_v186'
              subst e_v186'
              exact k
          · show Steps p.tables e below (T182.setTop (mkF m 167 #[.val (.int q0), .val (.int q1), .val (.int q2), .val (.int q3), .val (.int q4), .val (.long q5), .second, .val (.int m9), .val (.int j9), .val (.int s1), .val (.int s2), .val (.int s3), .val (.ref y9), .val (.ref b9), .unset, .unset] [(.int s3)])) t
            refine XS.ifNo X182.here hx rfl (hb hby at_167) rfl ((if0 _ _).trans (feq c183).1) ?_
            show Steps p.tables e below (T182.setTop (mkF m 170 #[.val (.int q0), .val (.int q1), .val (.int q2), .val (.int q3), .val (.int q4), .val (.long q5), .second, .val (.int m9), .val (.int j9), .val (.int s1), .val (.int s2), .val (.int s3), .val (.ref y9), .val (.ref b9), .unset, .unset] [])) t
            refine XS.iloadN X182.here hx rfl (hb hby at_170) rfl ?_
            show Steps p.tables e below (T182.setTop (mkF m 171 #[.val (.int q0), .val (.int q1), .val (.int q2), .val (.int q3), .val (.int q4), .val (.long q5), .second, .val (.int m9), .val (.int j9), .val (.int s1), .val (.int s2), .val (.int s3), .val (.ref y9), .val (.ref b9), .unset, .unset] [(.int q1)])) t
            refine XS.istore X182.here hx rfl (hb hby at_171) rfl (l' := #[.val (.int q0), .val (.int q1), .val (.int q2), .val (.int q3), .val (.int q4), .val (.long q5), .second, .val (.int m9), .val (.int j9), .val (.int s1), .val (.int s2), .val (.int s3), .val (.ref y9), .val (.ref b9), .val (.int q1), .unset]) rfl ?_
            show Steps p.tables e below (T182.setTop (mkF m 173 #[.val (.int q0), .val (.int q1), .val (.int q2), .val (.int q3), .val (.int q4), .val (.long q5), .second, .val (.int m9), .val (.int j9), .val (.int s1), .val (.int s2), .val (.int s3), .val (.ref y9), .val (.ref b9), .val (.int q1), .unset] [])) t
            refine XS.goto X182.here hx rfl (pc0 := 173) (pc' := 201) rfl (hb hby at_173) (by decide) (by decide) ?_
            have e_v186' := e_v186
            try rw [if_neg c183] at e_v186'
            subst e_v186'
            exact k
        refine OFin.go sg188 ?_
        have sg193 : ∀ t, Steps p.tables e below (T182.setTop (mkF m 203 #[.val (.int q0), .val (.int q1), .val (.int q2), .val (.int q3), .val (.int q4), .val (.long q5), .second, .val (.int m9), .val (.int j9), .val (.int s1), .val (.int s2), .val (.int s3), .val (.ref y9), .val (.ref b9), .val (.int v186), .unset] [(.int j9)])) t → Steps p.tables e below (T182.setTop (mkF m 201 #[.val (.int q0), .val (.int q1), .val (.int q2), .val (.int q3), .val (.int q4), .val (.long q5), .second, .val (.int m9), .val (.int j9), .val (.int s1), .val (.int s2), .val (.int s3), .val (.ref y9), .val (.ref b9), .val (.int v186), .unset] [])) t := by
          intro t k
          show Steps p.tables e below (T182.setTop (mkF m 201 #[.val (.int q0), .val (.int q1), .val (.int q2), .val (.int q3), .val (.int q4), .val (.long q5), .second, .val (.int m9), .val (.int j9), .val (.int s1), .val (.int s2), .val (.int s3), .val (.ref y9), .val (.ref b9), .val (.int v186), .unset] [])) t
          refine XS.iload X182.here hx rfl (hb hby at_201) rfl ?_
          exact k
        refine OFin.go sg193 ?_
        obtain ⟨v192, e_v192⟩ : ∃ z : Int32, z = (if j9 = (0 : Int32) then (0 : Int32) else (if j9 = (1 : Int32) then (q2 - v186) else (if j9 = (2 : Int32) then (q3 - v186) else (q4 - v186)))) := ⟨_, rfl⟩
        have sg194 : ∀ t, Steps p.tables e below (T182.setTop (mkF m 249 #[.val (.int q0), .val (.int q1), .val (.int q2), .val (.int q3), .val (.int q4), .val (.long q5), .second, .val (.int m9), .val (.int j9), .val (.int s1), .val (.int s2), .val (.int s3), .val (.ref y9), .val (.ref b9), .val (.int v186), .val (.int v192)] [])) t → Steps p.tables e below (T182.setTop (mkF m 203 #[.val (.int q0), .val (.int q1), .val (.int q2), .val (.int q3), .val (.int q4), .val (.long q5), .second, .val (.int m9), .val (.int j9), .val (.int s1), .val (.int s2), .val (.int s3), .val (.ref y9), .val (.ref b9), .val (.int v186), .unset] [(.int j9)])) t := by
          intro t k
          by_cases c189 : j9 = (0 : Int32)
          · show Steps p.tables e below (T182.setTop (mkF m 203 #[.val (.int q0), .val (.int q1), .val (.int q2), .val (.int q3), .val (.int q4), .val (.long q5), .second, .val (.int m9), .val (.int j9), .val (.int s1), .val (.int s2), .val (.int s3), .val (.ref y9), .val (.ref b9), .val (.int v186), .unset] [(.int j9)])) t
            refine XS.ifNo X182.here hx rfl (hb hby at_203) rfl ((if0 _ _).trans (teq c189).2) ?_
            show Steps p.tables e below (T182.setTop (mkF m 206 #[.val (.int q0), .val (.int q1), .val (.int q2), .val (.int q3), .val (.int q4), .val (.long q5), .second, .val (.int m9), .val (.int j9), .val (.int s1), .val (.int s2), .val (.int s3), .val (.ref y9), .val (.ref b9), .val (.int v186), .unset] [])) t
            refine XS.iconst X182.here hx rfl (hb hby at_206) ?_
            show Steps p.tables e below (T182.setTop (mkF m 207 #[.val (.int q0), .val (.int q1), .val (.int q2), .val (.int q3), .val (.int q4), .val (.long q5), .second, .val (.int m9), .val (.int j9), .val (.int s1), .val (.int s2), .val (.int s3), .val (.ref y9), .val (.ref b9), .val (.int v186), .unset] [(.int (0 : Int32))])) t
            refine XS.istore X182.here hx rfl (hb hby at_207) rfl (l' := #[.val (.int q0), .val (.int q1), .val (.int q2), .val (.int q3), .val (.int q4), .val (.long q5), .second, .val (.int m9), .val (.int j9), .val (.int s1), .val (.int s2), .val (.int s3), .val (.ref y9), .val (.ref b9), .val (.int v186), .val (.int (0 : Int32))]) rfl ?_
            show Steps p.tables e below (T182.setTop (mkF m 209 #[.val (.int q0), .val (.int q1), .val (.int q2), .val (.int q3), .val (.int q4), .val (.long q5), .second, .val (.int m9), .val (.int j9), .val (.int s1), .val (.int s2), .val (.int s3), .val (.ref y9), .val (.ref b9), .val (.int v186), .val (.int (0 : Int32))] [])) t
            refine XS.goto X182.here hx rfl (pc0 := 209) (pc' := 249) rfl (hb hby at_209) (by decide) (by decide) ?_
            have e_v192' := e_v192
            try rw [if_pos c189] at e_v192'
            subst e_v192'
            exact k
          · show Steps p.tables e below (T182.setTop (mkF m 203 #[.val (.int q0), .val (.int q1), .val (.int q2), .val (.int q3), .val (.int q4), .val (.long q5), .second, .val (.int m9), .val (.int j9), .val (.int s1), .val (.int s2), .val (.int s3), .val (.ref y9), .val (.ref b9), .val (.int v186), .unset] [(.int j9)])) t
            refine XS.ifYes X182.here hx rfl (pc0 := 203) (pc' := 212) rfl (hb hby at_203) rfl ((if0 _ _).trans (feq c189).2) (by decide) (by decide) ?_
            show Steps p.tables e below (T182.setTop (mkF m 212 #[.val (.int q0), .val (.int q1), .val (.int q2), .val (.int q3), .val (.int q4), .val (.long q5), .second, .val (.int m9), .val (.int j9), .val (.int s1), .val (.int s2), .val (.int s3), .val (.ref y9), .val (.ref b9), .val (.int v186), .unset] [])) t
            refine XS.iload X182.here hx rfl (hb hby at_212) rfl ?_
            show Steps p.tables e below (T182.setTop (mkF m 214 #[.val (.int q0), .val (.int q1), .val (.int q2), .val (.int q3), .val (.int q4), .val (.long q5), .second, .val (.int m9), .val (.int j9), .val (.int s1), .val (.int s2), .val (.int s3), .val (.ref y9), .val (.ref b9), .val (.int v186), .unset] [(.int j9)])) t
            refine XS.iconst X182.here hx rfl (hb hby at_214) ?_
            by_cases c190 : j9 = (1 : Int32)
            · show Steps p.tables e below (T182.setTop (mkF m 215 #[.val (.int q0), .val (.int q1), .val (.int q2), .val (.int q3), .val (.int q4), .val (.long q5), .second, .val (.int m9), .val (.int j9), .val (.int s1), .val (.int s2), .val (.int s3), .val (.ref y9), .val (.ref b9), .val (.int v186), .unset] [(.int (1 : Int32)), (.int j9)])) t
              refine XS.icmpNo X182.here hx rfl (hb hby at_215) rfl (teq c190).2 ?_
              show Steps p.tables e below (T182.setTop (mkF m 218 #[.val (.int q0), .val (.int q1), .val (.int q2), .val (.int q3), .val (.int q4), .val (.long q5), .second, .val (.int m9), .val (.int j9), .val (.int s1), .val (.int s2), .val (.int s3), .val (.ref y9), .val (.ref b9), .val (.int v186), .unset] [])) t
              refine XS.iloadN X182.here hx rfl (hb hby at_218) rfl ?_
              show Steps p.tables e below (T182.setTop (mkF m 219 #[.val (.int q0), .val (.int q1), .val (.int q2), .val (.int q3), .val (.int q4), .val (.long q5), .second, .val (.int m9), .val (.int j9), .val (.int s1), .val (.int s2), .val (.int s3), .val (.ref y9), .val (.ref b9), .val (.int v186), .unset] [(.int q2)])) t
              refine XS.iload X182.here hx rfl (hb hby at_219) rfl ?_
              show Steps p.tables e below (T182.setTop (mkF m 221 #[.val (.int q0), .val (.int q1), .val (.int q2), .val (.int q3), .val (.int q4), .val (.long q5), .second, .val (.int m9), .val (.int j9), .val (.int s1), .val (.int s2), .val (.int s3), .val (.ref y9), .val (.ref b9), .val (.int v186), .unset] [(.int v186), (.int q2)])) t
              refine XS.isub X182.here hx rfl (hb hby at_221) rfl ?_
              show Steps p.tables e below (T182.setTop (mkF m 222 #[.val (.int q0), .val (.int q1), .val (.int q2), .val (.int q3), .val (.int q4), .val (.long q5), .second, .val (.int m9), .val (.int j9), .val (.int s1), .val (.int s2), .val (.int s3), .val (.ref y9), .val (.ref b9), .val (.int v186), .unset] [(.int (q2 - v186))])) t
              refine XS.istore X182.here hx rfl (hb hby at_222) rfl (l' := #[.val (.int q0), .val (.int q1), .val (.int q2), .val (.int q3), .val (.int q4), .val (.long q5), .second, .val (.int m9), .val (.int j9), .val (.int s1), .val (.int s2), .val (.int s3), .val (.ref y9), .val (.ref b9), .val (.int v186), .val (.int (q2 - v186))]) rfl ?_
              show Steps p.tables e below (T182.setTop (mkF m 224 #[.val (.int q0), .val (.int q1), .val (.int q2), .val (.int q3), .val (.int q4), .val (.long q5), .second, .val (.int m9), .val (.int j9), .val (.int s1), .val (.int s2), .val (.int s3), .val (.ref y9), .val (.ref b9), .val (.int v186), .val (.int (q2 - v186))] [])) t
              refine XS.goto X182.here hx rfl (pc0 := 224) (pc' := 249) rfl (hb hby at_224) (by decide) (by decide) ?_
              have e_v192' := e_v192
              try rw [if_neg c189] at e_v192'
              try rw [if_pos c190] at e_v192'
              subst e_v192'
              exact k
            · show Steps p.tables e below (T182.setTop (mkF m 215 #[.val (.int q0), .val (.int q1), .val (.int q2), .val (.int q3), .val (.int q4), .val (.long q5), .second, .val (.int m9), .val (.int j9), .val (.int s1), .val (.int s2), .val (.int s3), .val (.ref y9), .val (.ref b9), .val (.int v186), .unset] [(.int (1 : Int32)), (.int j9)])) t
              refine XS.icmpYes X182.here hx rfl (pc0 := 215) (pc' := 227) rfl (hb hby at_215) rfl (feq c190).2 (by decide) (by decide) ?_
              show Steps p.tables e below (T182.setTop (mkF m 227 #[.val (.int q0), .val (.int q1), .val (.int q2), .val (.int q3), .val (.int q4), .val (.long q5), .second, .val (.int m9), .val (.int j9), .val (.int s1), .val (.int s2), .val (.int s3), .val (.ref y9), .val (.ref b9), .val (.int v186), .unset] [])) t
              refine XS.iload X182.here hx rfl (hb hby at_227) rfl ?_
              show Steps p.tables e below (T182.setTop (mkF m 229 #[.val (.int q0), .val (.int q1), .val (.int q2), .val (.int q3), .val (.int q4), .val (.long q5), .second, .val (.int m9), .val (.int j9), .val (.int s1), .val (.int s2), .val (.int s3), .val (.ref y9), .val (.ref b9), .val (.int v186), .unset] [(.int j9)])) t
              refine XS.iconst X182.here hx rfl (hb hby at_229) ?_
              by_cases c191 : j9 = (2 : Int32)
              · show Steps p.tables e below (T182.setTop (mkF m 230 #[.val (.int q0), .val (.int q1), .val (.int q2), .val (.int q3), .val (.int q4), .val (.long q5), .second, .val (.int m9), .val (.int j9), .val (.int s1), .val (.int s2), .val (.int s3), .val (.ref y9), .val (.ref b9), .val (.int v186), .unset] [(.int (2 : Int32)), (.int j9)])) t
                refine XS.icmpNo X182.here hx rfl (hb hby at_230) rfl (teq c191).2 ?_
                show Steps p.tables e below (T182.setTop (mkF m 233 #[.val (.int q0), .val (.int q1), .val (.int q2), .val (.int q3), .val (.int q4), .val (.long q5), .second, .val (.int m9), .val (.int j9), .val (.int s1), .val (.int s2), .val (.int s3), .val (.ref y9), .val (.ref b9), .val (.int v186), .unset] [])) t
                refine XS.iloadN X182.here hx rfl (hb hby at_233) rfl ?_
                show Steps p.tables e below (T182.setTop (mkF m 234 #[.val (.int q0), .val (.int q1), .val (.int q2), .val (.int q3), .val (.int q4), .val (.long q5), .second, .val (.int m9), .val (.int j9), .val (.int s1), .val (.int s2), .val (.int s3), .val (.ref y9), .val (.ref b9), .val (.int v186), .unset] [(.int q3)])) t
                refine XS.iload X182.here hx rfl (hb hby at_234) rfl ?_
                show Steps p.tables e below (T182.setTop (mkF m 236 #[.val (.int q0), .val (.int q1), .val (.int q2), .val (.int q3), .val (.int q4), .val (.long q5), .second, .val (.int m9), .val (.int j9), .val (.int s1), .val (.int s2), .val (.int s3), .val (.ref y9), .val (.ref b9), .val (.int v186), .unset] [(.int v186), (.int q3)])) t
                refine XS.isub X182.here hx rfl (hb hby at_236) rfl ?_
                show Steps p.tables e below (T182.setTop (mkF m 237 #[.val (.int q0), .val (.int q1), .val (.int q2), .val (.int q3), .val (.int q4), .val (.long q5), .second, .val (.int m9), .val (.int j9), .val (.int s1), .val (.int s2), .val (.int s3), .val (.ref y9), .val (.ref b9), .val (.int v186), .unset] [(.int (q3 - v186))])) t
                refine XS.istore X182.here hx rfl (hb hby at_237) rfl (l' := #[.val (.int q0), .val (.int q1), .val (.int q2), .val (.int q3), .val (.int q4), .val (.long q5), .second, .val (.int m9), .val (.int j9), .val (.int s1), .val (.int s2), .val (.int s3), .val (.ref y9), .val (.ref b9), .val (.int v186), .val (.int (q3 - v186))]) rfl ?_
                show Steps p.tables e below (T182.setTop (mkF m 239 #[.val (.int q0), .val (.int q1), .val (.int q2), .val (.int q3), .val (.int q4), .val (.long q5), .second, .val (.int m9), .val (.int j9), .val (.int s1), .val (.int s2), .val (.int s3), .val (.ref y9), .val (.ref b9), .val (.int v186), .val (.int (q3 - v186))] [])) t
                refine XS.goto X182.here hx rfl (pc0 := 239) (pc' := 249) rfl (hb hby at_239) (by decide) (by decide) ?_
                have e_v192' := e_v192
                try rw [if_neg c189] at e_v192'
                try rw [if_neg c190] at e_v192'
                try rw [if_pos c191] at e_v192'
                subst e_v192'
                exact k
              · show Steps p.tables e below (T182.setTop (mkF m 230 #[.val (.int q0), .val (.int q1), .val (.int q2), .val (.int q3), .val (.int q4), .val (.long q5), .second, .val (.int m9), .val (.int j9), .val (.int s1), .val (.int s2), .val (.int s3), .val (.ref y9), .val (.ref b9), .val (.int v186), .unset] [(.int (2 : Int32)), (.int j9)])) t
                refine XS.icmpYes X182.here hx rfl (pc0 := 230) (pc' := 242) rfl (hb hby at_230) rfl (feq c191).2 (by decide) (by decide) ?_
                show Steps p.tables e below (T182.setTop (mkF m 242 #[.val (.int q0), .val (.int q1), .val (.int q2), .val (.int q3), .val (.int q4), .val (.long q5), .second, .val (.int m9), .val (.int j9), .val (.int s1), .val (.int s2), .val (.int s3), .val (.ref y9), .val (.ref b9), .val (.int v186), .unset] [])) t
                refine XS.iload X182.here hx rfl (hb hby at_242) rfl ?_
                show Steps p.tables e below (T182.setTop (mkF m 244 #[.val (.int q0), .val (.int q1), .val (.int q2), .val (.int q3), .val (.int q4), .val (.long q5), .second, .val (.int m9), .val (.int j9), .val (.int s1), .val (.int s2), .val (.int s3), .val (.ref y9), .val (.ref b9), .val (.int v186), .unset] [(.int q4)])) t
                refine XS.iload X182.here hx rfl (hb hby at_244) rfl ?_
                show Steps p.tables e below (T182.setTop (mkF m 246 #[.val (.int q0), .val (.int q1), .val (.int q2), .val (.int q3), .val (.int q4), .val (.long q5), .second, .val (.int m9), .val (.int j9), .val (.int s1), .val (.int s2), .val (.int s3), .val (.ref y9), .val (.ref b9), .val (.int v186), .unset] [(.int v186), (.int q4)])) t
                refine XS.isub X182.here hx rfl (hb hby at_246) rfl ?_
                show Steps p.tables e below (T182.setTop (mkF m 247 #[.val (.int q0), .val (.int q1), .val (.int q2), .val (.int q3), .val (.int q4), .val (.long q5), .second, .val (.int m9), .val (.int j9), .val (.int s1), .val (.int s2), .val (.int s3), .val (.ref y9), .val (.ref b9), .val (.int v186), .unset] [(.int (q4 - v186))])) t
                refine XS.istore X182.here hx rfl (hb hby at_247) rfl (l' := #[.val (.int q0), .val (.int q1), .val (.int q2), .val (.int q3), .val (.int q4), .val (.long q5), .second, .val (.int m9), .val (.int j9), .val (.int s1), .val (.int s2), .val (.int s3), .val (.ref y9), .val (.ref b9), .val (.int v186), .val (.int (q4 - v186))]) rfl ?_
                have e_v192' := e_v192
                try rw [if_neg c189] at e_v192'
                try rw [if_neg c190] at e_v192'
                try rw [if_neg c191] at e_v192'
                subst e_v192'
                exact k
        refine OFin.go sg194 ?_
        have sg195 : ∀ t, Steps p.tables e below (T182.setTop (mkF m 251 #[.val (.int q0), .val (.int q1), .val (.int q2), .val (.int q3), .val (.int q4), .val (.long q5), .second, .val (.int m9), .val (.int j9), .val (.int s1), .val (.int s2), .val (.int s3), .val (.ref y9), .val (.ref b9), .val (.int v186), .val (.int v192)] [(.ref b9)])) t → Steps p.tables e below (T182.setTop (mkF m 249 #[.val (.int q0), .val (.int q1), .val (.int q2), .val (.int q3), .val (.int q4), .val (.long q5), .second, .val (.int m9), .val (.int j9), .val (.int s1), .val (.int s2), .val (.int s3), .val (.ref y9), .val (.ref b9), .val (.int v186), .val (.int v192)] [])) t := by
          intro t k
          show Steps p.tables e below (T182.setTop (mkF m 249 #[.val (.int q0), .val (.int q1), .val (.int q2), .val (.int q3), .val (.int q4), .val (.long q5), .second, .val (.int m9), .val (.int j9), .val (.int s1), .val (.int s2), .val (.int s3), .val (.ref y9), .val (.ref b9), .val (.int v186), .val (.int v192)] [])) t
          refine XS.aload X182.here hx rfl (hb hby at_249) rfl rfl ?_
          exact k
        refine OFin.go sg195 ?_
        obtain ⟨cq196, kq196, q196a, q196b, q196c⟩ := isOf hZ rfl (((E1.keep Kq130).keep Kq157).keep Kq182)
        obtain ⟨_, _, ⟨T196, L196, k196, n196⟩, -, X196, ⟨Lc196, hQ196, l196, y196, z196⟩, st196⟩ := X182.virtualBack hx (y := (⟨"com/example/rida/rida/io/LineBlock", "count", "()I"⟩ : MethodName)) (z := (⟨"com/example/rida/rida/io/LineBlock", "count", "()I"⟩ : MethodName)) hown (mvT hZ (hw _ (List.mem_of_getElem? (i := 24) rfl))) (mvT hZ (hw _ (List.mem_of_getElem? (i := 25) rfl))) (notFace_of_selects (args := #[]) (mvT hZ (hw _ (List.mem_of_getElem? (i := 27) rfl)))) (mvT hZ (hw _ (List.mem_of_getElem? (i := 27) rfl))) (mvT hZ (hw _ (List.mem_of_getElem? (i := 26) rfl))) (by decide) (backOf (W := 0) (rm4 l Z aZ hw [] b9 ((((0 : Int32) + (1 : Int32)) + (1 : Int32)) + (1 : Int32)) T182.heap n0 (Nat.le_trans Z0 K182.1) P182_2) hZ (hw _ (List.mem_of_getElem? (i := 28) rfl)) (hw _ (List.mem_of_getElem? (i := 7) rfl)) (by decide) (by decide)) q196a q196c (g := (mkF m 251 #[.val (.int q0), .val (.int q1), .val (.int q2), .val (.int q3), .val (.int q4), .val (.long q5), .second, .val (.int m9), .val (.int j9), .val (.int s1), .val (.int s2), .val (.int s3), .val (.ref y9), .val (.ref b9), .val (.int v186), .val (.int v192)] [(.ref b9)])) rfl (by rw [hml]; rfl) (Steps.refl _) (argsL := []) (rest := []) (lenOf pd_1 rfl) rfl (by show 2 * 0 + _ ≤ _; exact Nat.le_of_eq rfl) (hb hby at_251) (fun _ _ => ⟨rfl, rfl, (by decide : 4 + 0 ≤ _), (by decide : 32 + 0 ≤ _)⟩)
        dsimp only [Pt.U, Pt.locs, Pt.cells, Pt.slots] at X196 l196 y196 z196 st196 hQ196
        subst l196 y196 z196
        obtain ⟨rfl, N196q, e196⟩ := hQ196
        have N196 := Fr.app N182 N196q
        refine OFin.tr st196 ?_
        have sg198 : ∀ t, Steps p.tables e below (T196.setTop (mkF m 256 #[.val (.int q0), .val (.int q1), .val (.int q2), .val (.int q3), .val (.int q4), .val (.long q5), .second, .val (.int m9), .val (.int j9), .val (.int s1), .val (.int s2), .val (.int s3), .val (.ref y9), .val (.ref b9), .val (.int v186), .val (.int v192)] [(.int j9), (.int ((((0 : Int32) + (1 : Int32)) + (1 : Int32)) + (1 : Int32)))])) t → Steps p.tables e below (T196.setTop (mkF m 254 #[.val (.int q0), .val (.int q1), .val (.int q2), .val (.int q3), .val (.int q4), .val (.long q5), .second, .val (.int m9), .val (.int j9), .val (.int s1), .val (.int s2), .val (.int s3), .val (.ref y9), .val (.ref b9), .val (.int v186), .val (.int v192)] [(.int ((((0 : Int32) + (1 : Int32)) + (1 : Int32)) + (1 : Int32)))])) t := by
          intro t k
          show Steps p.tables e below (T196.setTop (mkF m 254 #[.val (.int q0), .val (.int q1), .val (.int q2), .val (.int q3), .val (.int q4), .val (.long q5), .second, .val (.int m9), .val (.int j9), .val (.int s1), .val (.int s2), .val (.int s3), .val (.ref y9), .val (.ref b9), .val (.int v186), .val (.int v192)] [(.int ((((0 : Int32) + (1 : Int32)) + (1 : Int32)) + (1 : Int32)))])) t
          refine XS.iload X196.here hx rfl (hb hby at_254) rfl ?_
          exact k
        refine OFin.go sg198 ?_
        have c197 : ((((0 : Int32) + (1 : Int32)) + (1 : Int32)) + (1 : Int32)) = j9 := (own_e3 c159 hj3)
        have sg199 : ∀ t, Steps p.tables e below (T196.setTop (mkF m 261 #[.val (.int q0), .val (.int q1), .val (.int q2), .val (.int q3), .val (.int q4), .val (.long q5), .second, .val (.int m9), .val (.int j9), .val (.int s1), .val (.int s2), .val (.int s3), .val (.ref y9), .val (.ref b9), .val (.int v186), .val (.int v192)] [(.ref b9)])) t → Steps p.tables e below (T196.setTop (mkF m 256 #[.val (.int q0), .val (.int q1), .val (.int q2), .val (.int q3), .val (.int q4), .val (.long q5), .second, .val (.int m9), .val (.int j9), .val (.int s1), .val (.int s2), .val (.int s3), .val (.ref y9), .val (.ref b9), .val (.int v186), .val (.int v192)] [(.int j9), (.int ((((0 : Int32) + (1 : Int32)) + (1 : Int32)) + (1 : Int32)))])) t := by
          intro t k
          show Steps p.tables e below (T196.setTop (mkF m 256 #[.val (.int q0), .val (.int q1), .val (.int q2), .val (.int q3), .val (.int q4), .val (.long q5), .second, .val (.int m9), .val (.int j9), .val (.int s1), .val (.int s2), .val (.int s3), .val (.ref y9), .val (.ref b9), .val (.int v186), .val (.int v192)] [(.int j9), (.int ((((0 : Int32) + (1 : Int32)) + (1 : Int32)) + (1 : Int32)))])) t
          refine XS.icmpNo X196.here hx rfl (hb hby at_256) rfl (teq c197).2 ?_
          show Steps p.tables e below (T196.setTop (mkF m 259 #[.val (.int q0), .val (.int q1), .val (.int q2), .val (.int q3), .val (.int q4), .val (.long q5), .second, .val (.int m9), .val (.int j9), .val (.int s1), .val (.int s2), .val (.int s3), .val (.ref y9), .val (.ref b9), .val (.int v186), .val (.int v192)] [])) t
          refine XS.aload X196.here hx rfl (hb hby at_259) rfl rfl ?_
          exact k
        refine OFin.go sg199 ?_
        obtain ⟨cq200, kq200, q200a, q200b, q200c⟩ := isOf hZ e196 (((E1.keep Kq130).keep Kq157).keep Kq182)
        obtain ⟨_, _, ⟨T200, L200, k200, n200⟩, -, X200, ⟨Lc200, hQ200, l200, y200, z200⟩, st200⟩ := X196.virtualBack hx (y := (⟨"com/example/rida/rida/io/LineBlock", "size", "()I"⟩ : MethodName)) (z := (⟨"com/example/rida/rida/io/LineBlock", "size", "()I"⟩ : MethodName)) hown (mvT hZ (hw _ (List.mem_of_getElem? (i := 31) rfl))) (mvT hZ (hw _ (List.mem_of_getElem? (i := 32) rfl))) (notFace_of_selects (args := #[]) (mvT hZ (hw _ (List.mem_of_getElem? (i := 34) rfl)))) (mvT hZ (hw _ (List.mem_of_getElem? (i := 34) rfl))) (mvT hZ (hw _ (List.mem_of_getElem? (i := 33) rfl))) (by decide) (backOf (W := 0) (rm5 l Z aZ hw [] b9 ((((0 : Int32) + (1 : Int32)) + (1 : Int32)) + (1 : Int32)) t9 o9 k9 m9 (((vs9.set (0 : Int32).toNatClampNeg (.int q2)).set ((0 : Int32) + (1 : Int32)).toNatClampNeg (.int q3)).set (((0 : Int32) + (1 : Int32)) + (1 : Int32)).toNatClampNeg (.int q4)) q4 T182.heap n0 (Nat.le_trans Z0 K182.1) P182_2 P182_1 P182_3 P182_6 (Or.inr (by rw [(by decide : ((((0 : Int32) + (1 : Int32)) + (1 : Int32)) + (1 : Int32)) - (1 : Int32) = (((0 : Int32) + (1 : Int32)) + (1 : Int32)))]; exact ⟨by decide, (own_h2 c159 hjm), own_got _ _ _ _ (own_in (by decide) (own_h2 c159 hjm) (own_set _ _ _ _ (own_set _ _ _ _ hl)))⟩))) hZ (hw _ (List.mem_of_getElem? (i := 35) rfl)) (hw _ (List.mem_of_getElem? (i := 7) rfl)) (by decide) (by decide)) q200a q200c (g := (mkF m 261 #[.val (.int q0), .val (.int q1), .val (.int q2), .val (.int q3), .val (.int q4), .val (.long q5), .second, .val (.int m9), .val (.int j9), .val (.int s1), .val (.int s2), .val (.int s3), .val (.ref y9), .val (.ref b9), .val (.int v186), .val (.int v192)] [(.ref b9)])) rfl (by rw [hml]; rfl) (Steps.refl _) (argsL := []) (rest := []) (lenOf pd_1 rfl) rfl (by show 2 * 0 + _ ≤ _; exact Nat.le_of_eq rfl) (hb hby at_261) (fun _ _ => ⟨rfl, e196, (by decide : 4 + 0 ≤ _), (by decide : 32 + 0 ≤ _)⟩)
        dsimp only [Pt.U, Pt.locs, Pt.cells, Pt.slots] at X200 l200 y200 z200 st200 hQ200
        subst l200 y200 z200
        obtain ⟨rfl, N200q, e200⟩ := hQ200
        have N200 := Fr.app N196 N200q
        refine OFin.tr st200 ?_
        have sg202 : ∀ t, Steps p.tables e below (T200.setTop (mkF m 266 #[.val (.int q0), .val (.int q1), .val (.int q2), .val (.int q3), .val (.int q4), .val (.long q5), .second, .val (.int m9), .val (.int j9), .val (.int s1), .val (.int s2), .val (.int s3), .val (.ref y9), .val (.ref b9), .val (.int v186), .val (.int v192)] [(.int v192), (.int (if ((((0 : Int32) + (1 : Int32)) + (1 : Int32)) + (1 : Int32)) = (0 : Int32) then (0 : Int32) else (q4 - o9)))])) t → Steps p.tables e below (T200.setTop (mkF m 264 #[.val (.int q0), .val (.int q1), .val (.int q2), .val (.int q3), .val (.int q4), .val (.long q5), .second, .val (.int m9), .val (.int j9), .val (.int s1), .val (.int s2), .val (.int s3), .val (.ref y9), .val (.ref b9), .val (.int v186), .val (.int v192)] [(.int (if ((((0 : Int32) + (1 : Int32)) + (1 : Int32)) + (1 : Int32)) = (0 : Int32) then (0 : Int32) else (q4 - o9)))])) t := by
          intro t k
          show Steps p.tables e below (T200.setTop (mkF m 264 #[.val (.int q0), .val (.int q1), .val (.int q2), .val (.int q3), .val (.int q4), .val (.long q5), .second, .val (.int m9), .val (.int j9), .val (.int s1), .val (.int s2), .val (.int s3), .val (.ref y9), .val (.ref b9), .val (.int v186), .val (.int v192)] [(.int (if ((((0 : Int32) + (1 : Int32)) + (1 : Int32)) + (1 : Int32)) = (0 : Int32) then (0 : Int32) else (q4 - o9)))])) t
          refine XS.iload X200.here hx rfl (hb hby at_264) rfl ?_
          exact k
        refine OFin.go sg202 ?_
        have c201 : (if ((((0 : Int32) + (1 : Int32)) + (1 : Int32)) + (1 : Int32)) = (0 : Int32) then (0 : Int32) else (q4 - o9)) = v192 := (by have q := (own_e3 c159 hj3); simp [e_v192, e_v186, ho, ← q])
        have sg203 : ∀ t, Steps p.tables e below (T200.setTop (mkF m 274 #[.val (.int q0), .val (.int q1), .val (.int q2), .val (.int q3), .val (.int q4), .val (.long q5), .second, .val (.int m9), .val (.int j9), .val (.int s1), .val (.int s2), .val (.int s3), .val (.ref y9), .val (.ref b9), .val (.int v186), .val (.int v192)] [(.int (1 : Int32))])) t → Steps p.tables e below (T200.setTop (mkF m 266 #[.val (.int q0), .val (.int q1), .val (.int q2), .val (.int q3), .val (.int q4), .val (.long q5), .second, .val (.int m9), .val (.int j9), .val (.int s1), .val (.int s2), .val (.int s3), .val (.ref y9), .val (.ref b9), .val (.int v186), .val (.int v192)] [(.int v192), (.int (if ((((0 : Int32) + (1 : Int32)) + (1 : Int32)) + (1 : Int32)) = (0 : Int32) then (0 : Int32) else (q4 - o9)))])) t := by
          intro t k
          show Steps p.tables e below (T200.setTop (mkF m 266 #[.val (.int q0), .val (.int q1), .val (.int q2), .val (.int q3), .val (.int q4), .val (.long q5), .second, .val (.int m9), .val (.int j9), .val (.int s1), .val (.int s2), .val (.int s3), .val (.ref y9), .val (.ref b9), .val (.int v186), .val (.int v192)] [(.int v192), (.int (if ((((0 : Int32) + (1 : Int32)) + (1 : Int32)) + (1 : Int32)) = (0 : Int32) then (0 : Int32) else (q4 - o9)))])) t
          refine XS.icmpNo X200.here hx rfl (hb hby at_266) rfl (teq c201).2 ?_
          show Steps p.tables e below (T200.setTop (mkF m 269 #[.val (.int q0), .val (.int q1), .val (.int q2), .val (.int q3), .val (.int q4), .val (.long q5), .second, .val (.int m9), .val (.int j9), .val (.int s1), .val (.int s2), .val (.int s3), .val (.ref y9), .val (.ref b9), .val (.int v186), .val (.int v192)] [])) t
          refine XS.iconst X200.here hx rfl (hb hby at_269) ?_
          show Steps p.tables e below (T200.setTop (mkF m 270 #[.val (.int q0), .val (.int q1), .val (.int q2), .val (.int q3), .val (.int q4), .val (.long q5), .second, .val (.int m9), .val (.int j9), .val (.int s1), .val (.int s2), .val (.int s3), .val (.ref y9), .val (.ref b9), .val (.int v186), .val (.int v192)] [(.int (1 : Int32))])) t
          refine XS.goto X200.here hx rfl (pc0 := 270) (pc' := 274) rfl (hb hby at_270) (by decide) (by decide) ?_
          exact k
        refine OFin.go sg203 ?_
        exact OFin.retN X200 hx hret (by simp) hlk (hb hby at_274) rfl (by rw [e200]; exact ⟨rfl, N200⟩) (by decide) (by decide)
theorem pd_3 : parseMethodDescriptor "([BI)V" = some ⟨[(.array .byte), .int], none⟩ := by decide +kernel
set_option maxHeartbeats 40000000 in
theorem pt0_115 {p : Program} {l : Launch} {e : Env} {s : State} {m : MethodId} {below : List Frame} {meth : Method} {c : Code} {T0 : State} {locs : List Loc} (Z : State) (aZ : Array Value) (hw : ∀ d ∈ tables_1, d.before aZ Z = true) (q0 : Int32) (q1 : Int32) (q2 : Int32) (q3 : Int32) (q4 : Int32) (q5 : Int64) (h0 : Heap) (n0 : Nat) (Z0 : n0 ≤ h0.size) (b9 : Addr) (y9 : Addr) (m9 : Int32) (j9 : Int32) (s1 : Int32) (s2 : Int32) (s3 : Int32) (t9 : Addr) (k9 : ClassId) (vs9 : List Value) (o9 : Int32) (bv9 : Value) (sv9 : Value) (fv9 : Value) (hC : Heap)
    (X0 : Stand p l e room_1 s m #[(.int q0), (.int q1), (.int q2), (.int q3), (.int q4), (.long q5)] below meth c T0 locs 4 32) (hx : p.tables.exec = Jvm.exec) (hZ : Z.Warmed39 s.vm) (hby : c.code = code) (hml : c.maxLocals = 16) (hown : s.vm.findClass "com/example/rida/rida/io/LineBlockSizePinLaw" = some m.cls) (hnm : meth.name = "law") (hret : meth.sig.returnType = some .boolean) (hlk : meth.locks = false) (e0 : T0.heap = hC) (K0 : Keep h0 hC []) (N0 : Fr n0 locs) (OC : Old Z n0 hC) (g_b9 : n0 ≤ b9) (sz_b9 : h0.size ≤ b9) (g_t9 : n0 ≤ t9) (sz_t9 : h0.size ≤ t9) (ne_b9_t9 : b9 ≠ t9) (E1 : Exa Z hC b9 "com/example/rida/rida/io/LineBlock") (F3 : Fld Z hC b9 "com/example/rida/rida/io/LineBlock" "bytes" "[B" bv9) (F4 : Fld Z hC b9 "com/example/rida/rida/io/LineBlock" "ends" "[I" (.ref t9)) (F5 : Fld Z hC b9 "com/example/rida/rida/io/LineBlock" "count" "I" (.int (0 : Int32))) (F6 : Fld Z hC b9 "com/example/rida/rida/io/LineBlock" "origin" "I" (.int o9)) (F7 : Fld Z hC b9 "com/example/rida/rida/io/LineBlock" "firstNumber" "J" fv9) (F8 : Fld Z hC b9 "com/example/rida/rida/io/LineBlock" "sees" "Z" sv9) (V1 : Arv Z hC t9 k9 .int m9 vs9 (.int (0 : Int32))) (hm1 : ¬ (m9 < (1 : Int32))) (hm4 : ¬ ((4 : Int32) < m9)) (hj0 : ¬ (j9 < (0 : Int32))) (hj3 : ¬ ((3 : Int32) < j9)) (hjm : ¬ (m9 < j9)) (hl : vs9.length = m9.toNatClampNeg) (ho : o9 = (if s2 = (0 : Int32) then (if s1 = (0 : Int32) then (0 : Int32) else q1) else (0 : Int32))) :
    OFin p e below s (Q0 Z q0 q1 q2 q3 q4 q5 h0 n0) room_1.cells room_1.slots (T0.setTop (mkF m 115 #[.val (.int q0), .val (.int q1), .val (.int q2), .val (.int q3), .val (.int q4), .val (.long q5), .second, .val (.int m9), .val (.int j9), .val (.int s1), .val (.int s2), .val (.int s3), .val (.ref y9), .val (.ref b9), .unset, .unset] [])) := by
  have sg102 : ∀ t, Steps p.tables e below (T0.setTop (mkF m 117 #[.val (.int q0), .val (.int q1), .val (.int q2), .val (.int q3), .val (.int q4), .val (.long q5), .second, .val (.int m9), .val (.int j9), .val (.int s1), .val (.int s2), .val (.int s3), .val (.ref y9), .val (.ref b9), .unset, .unset] [(.int s3)])) t → Steps p.tables e below (T0.setTop (mkF m 115 #[.val (.int q0), .val (.int q1), .val (.int q2), .val (.int q3), .val (.int q4), .val (.long q5), .second, .val (.int m9), .val (.int j9), .val (.int s1), .val (.int s2), .val (.int s3), .val (.ref y9), .val (.ref b9), .unset, .unset] [])) t := by
    intro t k
    show Steps p.tables e below (T0.setTop (mkF m 115 #[.val (.int q0), .val (.int q1), .val (.int q2), .val (.int q3), .val (.int q4), .val (.long q5), .second, .val (.int m9), .val (.int j9), .val (.int s1), .val (.int s2), .val (.int s3), .val (.ref y9), .val (.ref b9), .unset, .unset] [])) t
    refine XS.iload X0.here hx rfl (hb hby at_115) rfl ?_
    exact k
  refine OFin.go sg102 ?_
  by_cases c103 : s3 = (0 : Int32)
  · have sg104 : ∀ t, Steps p.tables e below (T0.setTop (mkF m 128 #[.val (.int q0), .val (.int q1), .val (.int q2), .val (.int q3), .val (.int q4), .val (.long q5), .second, .val (.int m9), .val (.int j9), .val (.int s1), .val (.int s2), .val (.int s3), .val (.ref y9), .val (.ref b9), .unset, .unset] [])) t → Steps p.tables e below (T0.setTop (mkF m 117 #[.val (.int q0), .val (.int q1), .val (.int q2), .val (.int q3), .val (.int q4), .val (.long q5), .second, .val (.int m9), .val (.int j9), .val (.int s1), .val (.int s2), .val (.int s3), .val (.ref y9), .val (.ref b9), .unset, .unset] [(.int s3)])) t := by
      intro t k
      show Steps p.tables e below (T0.setTop (mkF m 117 #[.val (.int q0), .val (.int q1), .val (.int q2), .val (.int q3), .val (.int q4), .val (.long q5), .second, .val (.int m9), .val (.int j9), .val (.int s1), .val (.int s2), .val (.int s3), .val (.ref y9), .val (.ref b9), .unset, .unset] [(.int s3)])) t
      refine XS.ifYes X0.here hx rfl (pc0 := 117) (pc' := 128) rfl (hb hby at_117) rfl ((if0 _ _).trans (teq c103).1) (by decide) (by decide) ?_
      exact k
    refine OFin.go sg104 ?_
    exact pt0_128 Z aZ hw q0 q1 q2 q3 q4 q5 h0 n0 Z0  b9 y9 m9 j9 s1 s2 s3 t9 k9 vs9 o9 bv9 sv9 fv9 hC X0 hx hZ hby hml hown hnm hret hlk e0 K0 N0 OC g_b9 sz_b9 g_t9 sz_t9 ne_b9_t9 E1 F3 F4 F5 F6 F7 F8 V1 hm1 hm4 hj0 hj3 hjm hl (ho.trans (if_pos c103).symm)
  · have sg105 : ∀ t, Steps p.tables e below (T0.setTop (mkF m 125 #[.val (.int q0), .val (.int q1), .val (.int q2), .val (.int q3), .val (.int q4), .val (.long q5), .second, .val (.int m9), .val (.int j9), .val (.int s1), .val (.int s2), .val (.int s3), .val (.ref y9), .val (.ref b9), .unset, .unset] [(.int q1), (.ref y9), (.ref b9)])) t → Steps p.tables e below (T0.setTop (mkF m 117 #[.val (.int q0), .val (.int q1), .val (.int q2), .val (.int q3), .val (.int q4), .val (.long q5), .second, .val (.int m9), .val (.int j9), .val (.int s1), .val (.int s2), .val (.int s3), .val (.ref y9), .val (.ref b9), .unset, .unset] [(.int s3)])) t := by
      intro t k
      show Steps p.tables e below (T0.setTop (mkF m 117 #[.val (.int q0), .val (.int q1), .val (.int q2), .val (.int q3), .val (.int q4), .val (.long q5), .second, .val (.int m9), .val (.int j9), .val (.int s1), .val (.int s2), .val (.int s3), .val (.ref y9), .val (.ref b9), .unset, .unset] [(.int s3)])) t
      refine XS.ifNo X0.here hx rfl (hb hby at_117) rfl ((if0 _ _).trans (feq c103).1) ?_
      show Steps p.tables e below (T0.setTop (mkF m 120 #[.val (.int q0), .val (.int q1), .val (.int q2), .val (.int q3), .val (.int q4), .val (.long q5), .second, .val (.int m9), .val (.int j9), .val (.int s1), .val (.int s2), .val (.int s3), .val (.ref y9), .val (.ref b9), .unset, .unset] [])) t
      refine XS.aload X0.here hx rfl (hb hby at_120) rfl rfl ?_
      show Steps p.tables e below (T0.setTop (mkF m 122 #[.val (.int q0), .val (.int q1), .val (.int q2), .val (.int q3), .val (.int q4), .val (.long q5), .second, .val (.int m9), .val (.int j9), .val (.int s1), .val (.int s2), .val (.int s3), .val (.ref y9), .val (.ref b9), .unset, .unset] [(.ref b9)])) t
      refine XS.aload X0.here hx rfl (hb hby at_122) rfl rfl ?_
      show Steps p.tables e below (T0.setTop (mkF m 124 #[.val (.int q0), .val (.int q1), .val (.int q2), .val (.int q3), .val (.int q4), .val (.long q5), .second, .val (.int m9), .val (.int j9), .val (.int s1), .val (.int s2), .val (.int s3), .val (.ref y9), .val (.ref b9), .unset, .unset] [(.ref y9), (.ref b9)])) t
      refine XS.iloadN X0.here hx rfl (hb hby at_124) rfl ?_
      exact k
    refine OFin.go sg105 ?_
    obtain ⟨cq106, kq106, q106a, q106b, q106c⟩ := isOf hZ e0 E1
    obtain ⟨_, _, ⟨T106, L106, k106, n106⟩, -, X106, ⟨Lc106, hQ106, l106, y106, z106⟩, st106⟩ := X0.virtualBack hx (y := (⟨"com/example/rida/rida/io/LineBlock", "see", "([BI)V"⟩ : MethodName)) (z := (⟨"com/example/rida/rida/io/LineBlock", "see", "([BI)V"⟩ : MethodName)) hown (mvT hZ (hw _ (List.mem_of_getElem? (i := 50) rfl))) (mvT hZ (hw _ (List.mem_of_getElem? (i := 51) rfl))) (notFace_of_selects (args := #[]) (mvT hZ (hw _ (List.mem_of_getElem? (i := 53) rfl)))) (mvT hZ (hw _ (List.mem_of_getElem? (i := 53) rfl))) (mvT hZ (hw _ (List.mem_of_getElem? (i := 52) rfl))) (by decide) (backOf (W := 0) (rm8 l Z aZ hw [] b9 y9 q1 t9 k9 m9 vs9 (0 : Int32) o9 bv9 sv9 fv9 hC n0 (Nat.le_trans Z0 K0.1) E1 F3 F4 F5 F6 F7 F8 V1 ne_b9_t9 g_b9) hZ (hw _ (List.mem_of_getElem? (i := 54) rfl)) (hw _ (List.mem_of_getElem? (i := 7) rfl)) (by decide) (by decide)) q106a q106c (g := (mkF m 125 #[.val (.int q0), .val (.int q1), .val (.int q2), .val (.int q3), .val (.int q4), .val (.long q5), .second, .val (.int m9), .val (.int j9), .val (.int s1), .val (.int s2), .val (.int s3), .val (.ref y9), .val (.ref b9), .unset, .unset] [(.int q1), (.ref y9), (.ref b9)])) rfl (by rw [hml]; rfl) (Steps.refl _) (argsL := [(.ref y9), (.int q1)]) (rest := []) (lenOf pd_3 rfl) rfl (by show 2 * 0 + _ ≤ _; exact Nat.le_of_eq rfl) (hb hby at_125) (fun _ _ => ⟨rfl, e0, (by decide : 4 + 0 ≤ _), (by decide : 32 + 0 ≤ _)⟩)
    dsimp only [Pt.U, Pt.locs, Pt.cells, Pt.slots] at X106 l106 y106 z106 st106 hQ106
    subst l106 y106 z106
    obtain ⟨rfl, N106q, Kq106, P106_0, P106_1, P106_2, P106_3, P106_4, P106_5⟩ := hQ106
    have N106 := Fr.app N0 N106q
    refine OFin.tr st106 ?_
    have K106 : Keep h0 T106.heap [] := K0.trans Kq106 (allS (Or.inr sz_b9) all0)
    exact pt0_128 Z aZ hw q0 q1 q2 q3 q4 q5 h0 n0 Z0  b9 y9 m9 j9 s1 s2 s3 t9 k9 vs9 q1 (.ref y9) (.int (1 : Int32)) fv9 T106.heap X106 hx hZ hby hml hown hnm hret hlk rfl K106 N106 (OC.keep Kq106 (allS g_b9 all0)) g_b9 sz_b9 g_t9 sz_t9 ne_b9_t9 (E1.keep Kq106) P106_0 P106_1 P106_2 P106_3 P106_4 P106_5 (V1.keep Kq106 (ninS (Ne.symm ne_b9_t9) nin0)) hm1 hm4 hj0 hj3 hjm hl (if_neg c103).symm
theorem pd_4 : parseMethodDescriptor "(J)V" = some ⟨[.long], none⟩ := by decide +kernel
set_option maxHeartbeats 40000000 in
theorem pt0_96 {p : Program} {l : Launch} {e : Env} {s : State} {m : MethodId} {below : List Frame} {meth : Method} {c : Code} {T0 : State} {locs : List Loc} (Z : State) (aZ : Array Value) (hw : ∀ d ∈ tables_1, d.before aZ Z = true) (q0 : Int32) (q1 : Int32) (q2 : Int32) (q3 : Int32) (q4 : Int32) (q5 : Int64) (h0 : Heap) (n0 : Nat) (Z0 : n0 ≤ h0.size) (b9 : Addr) (y9 : Addr) (m9 : Int32) (j9 : Int32) (s1 : Int32) (s2 : Int32) (s3 : Int32) (t9 : Addr) (k9 : ClassId) (vs9 : List Value) (o9 : Int32) (bv9 : Value) (sv9 : Value) (fv9 : Value) (hC : Heap)
    (X0 : Stand p l e room_1 s m #[(.int q0), (.int q1), (.int q2), (.int q3), (.int q4), (.long q5)] below meth c T0 locs 4 32) (hx : p.tables.exec = Jvm.exec) (hZ : Z.Warmed39 s.vm) (hby : c.code = code) (hml : c.maxLocals = 16) (hown : s.vm.findClass "com/example/rida/rida/io/LineBlockSizePinLaw" = some m.cls) (hnm : meth.name = "law") (hret : meth.sig.returnType = some .boolean) (hlk : meth.locks = false) (e0 : T0.heap = hC) (K0 : Keep h0 hC []) (N0 : Fr n0 locs) (OC : Old Z n0 hC) (g_b9 : n0 ≤ b9) (sz_b9 : h0.size ≤ b9) (g_t9 : n0 ≤ t9) (sz_t9 : h0.size ≤ t9) (ne_b9_t9 : b9 ≠ t9) (E1 : Exa Z hC b9 "com/example/rida/rida/io/LineBlock") (F3 : Fld Z hC b9 "com/example/rida/rida/io/LineBlock" "bytes" "[B" bv9) (F4 : Fld Z hC b9 "com/example/rida/rida/io/LineBlock" "ends" "[I" (.ref t9)) (F5 : Fld Z hC b9 "com/example/rida/rida/io/LineBlock" "count" "I" (.int (0 : Int32))) (F6 : Fld Z hC b9 "com/example/rida/rida/io/LineBlock" "origin" "I" (.int o9)) (F7 : Fld Z hC b9 "com/example/rida/rida/io/LineBlock" "firstNumber" "J" fv9) (F8 : Fld Z hC b9 "com/example/rida/rida/io/LineBlock" "sees" "Z" sv9) (V1 : Arv Z hC t9 k9 .int m9 vs9 (.int (0 : Int32))) (hm1 : ¬ (m9 < (1 : Int32))) (hm4 : ¬ ((4 : Int32) < m9)) (hj0 : ¬ (j9 < (0 : Int32))) (hj3 : ¬ ((3 : Int32) < j9)) (hjm : ¬ (m9 < j9)) (hl : vs9.length = m9.toNatClampNeg) (ho : o9 = (if s1 = (0 : Int32) then (0 : Int32) else q1)) :
    OFin p e below s (Q0 Z q0 q1 q2 q3 q4 q5 h0 n0) room_1.cells room_1.slots (T0.setTop (mkF m 96 #[.val (.int q0), .val (.int q1), .val (.int q2), .val (.int q3), .val (.int q4), .val (.long q5), .second, .val (.int m9), .val (.int j9), .val (.int s1), .val (.int s2), .val (.int s3), .val (.ref y9), .val (.ref b9), .unset, .unset] [])) := by
  have sg102 : ∀ t, Steps p.tables e below (T0.setTop (mkF m 98 #[.val (.int q0), .val (.int q1), .val (.int q2), .val (.int q3), .val (.int q4), .val (.long q5), .second, .val (.int m9), .val (.int j9), .val (.int s1), .val (.int s2), .val (.int s3), .val (.ref y9), .val (.ref b9), .unset, .unset] [(.int s2)])) t → Steps p.tables e below (T0.setTop (mkF m 96 #[.val (.int q0), .val (.int q1), .val (.int q2), .val (.int q3), .val (.int q4), .val (.long q5), .second, .val (.int m9), .val (.int j9), .val (.int s1), .val (.int s2), .val (.int s3), .val (.ref y9), .val (.ref b9), .unset, .unset] [])) t := by
    intro t k
    show Steps p.tables e below (T0.setTop (mkF m 96 #[.val (.int q0), .val (.int q1), .val (.int q2), .val (.int q3), .val (.int q4), .val (.long q5), .second, .val (.int m9), .val (.int j9), .val (.int s1), .val (.int s2), .val (.int s3), .val (.ref y9), .val (.ref b9), .unset, .unset] [])) t
    refine XS.iload X0.here hx rfl (hb hby at_96) rfl ?_
    exact k
  refine OFin.go sg102 ?_
  by_cases c103 : s2 = (0 : Int32)
  · have sg104 : ∀ t, Steps p.tables e below (T0.setTop (mkF m 115 #[.val (.int q0), .val (.int q1), .val (.int q2), .val (.int q3), .val (.int q4), .val (.long q5), .second, .val (.int m9), .val (.int j9), .val (.int s1), .val (.int s2), .val (.int s3), .val (.ref y9), .val (.ref b9), .unset, .unset] [])) t → Steps p.tables e below (T0.setTop (mkF m 98 #[.val (.int q0), .val (.int q1), .val (.int q2), .val (.int q3), .val (.int q4), .val (.long q5), .second, .val (.int m9), .val (.int j9), .val (.int s1), .val (.int s2), .val (.int s3), .val (.ref y9), .val (.ref b9), .unset, .unset] [(.int s2)])) t := by
      intro t k
      show Steps p.tables e below (T0.setTop (mkF m 98 #[.val (.int q0), .val (.int q1), .val (.int q2), .val (.int q3), .val (.int q4), .val (.long q5), .second, .val (.int m9), .val (.int j9), .val (.int s1), .val (.int s2), .val (.int s3), .val (.ref y9), .val (.ref b9), .unset, .unset] [(.int s2)])) t
      refine XS.ifYes X0.here hx rfl (pc0 := 98) (pc' := 115) rfl (hb hby at_98) rfl ((if0 _ _).trans (teq c103).1) (by decide) (by decide) ?_
      exact k
    refine OFin.go sg104 ?_
    exact pt0_115 Z aZ hw q0 q1 q2 q3 q4 q5 h0 n0 Z0  b9 y9 m9 j9 s1 s2 s3 t9 k9 vs9 o9 bv9 sv9 fv9 hC X0 hx hZ hby hml hown hnm hret hlk e0 K0 N0 OC g_b9 sz_b9 g_t9 sz_t9 ne_b9_t9 E1 F3 F4 F5 F6 F7 F8 V1 hm1 hm4 hj0 hj3 hjm hl (ho.trans (if_pos c103).symm)
  · have sg105 : ∀ t, Steps p.tables e below (T0.setTop (mkF m 105 #[.val (.int q0), .val (.int q1), .val (.int q2), .val (.int q3), .val (.int q4), .val (.long q5), .second, .val (.int m9), .val (.int j9), .val (.int s1), .val (.int s2), .val (.int s3), .val (.ref y9), .val (.ref b9), .unset, .unset] [(.int q4), (.ref b9)])) t → Steps p.tables e below (T0.setTop (mkF m 98 #[.val (.int q0), .val (.int q1), .val (.int q2), .val (.int q3), .val (.int q4), .val (.long q5), .second, .val (.int m9), .val (.int j9), .val (.int s1), .val (.int s2), .val (.int s3), .val (.ref y9), .val (.ref b9), .unset, .unset] [(.int s2)])) t := by
      intro t k
      show Steps p.tables e below (T0.setTop (mkF m 98 #[.val (.int q0), .val (.int q1), .val (.int q2), .val (.int q3), .val (.int q4), .val (.long q5), .second, .val (.int m9), .val (.int j9), .val (.int s1), .val (.int s2), .val (.int s3), .val (.ref y9), .val (.ref b9), .unset, .unset] [(.int s2)])) t
      refine XS.ifNo X0.here hx rfl (hb hby at_98) rfl ((if0 _ _).trans (feq c103).1) ?_
      show Steps p.tables e below (T0.setTop (mkF m 101 #[.val (.int q0), .val (.int q1), .val (.int q2), .val (.int q3), .val (.int q4), .val (.long q5), .second, .val (.int m9), .val (.int j9), .val (.int s1), .val (.int s2), .val (.int s3), .val (.ref y9), .val (.ref b9), .unset, .unset] [])) t
      refine XS.aload X0.here hx rfl (hb hby at_101) rfl rfl ?_
      show Steps p.tables e below (T0.setTop (mkF m 103 #[.val (.int q0), .val (.int q1), .val (.int q2), .val (.int q3), .val (.int q4), .val (.long q5), .second, .val (.int m9), .val (.int j9), .val (.int s1), .val (.int s2), .val (.int s3), .val (.ref y9), .val (.ref b9), .unset, .unset] [(.ref b9)])) t
      refine XS.iload X0.here hx rfl (hb hby at_103) rfl ?_
      exact k
    refine OFin.go sg105 ?_
    obtain ⟨cq106, kq106, q106a, q106b, q106c⟩ := isOf hZ e0 E1
    obtain ⟨_, _, ⟨T106, L106, k106, n106⟩, -, X106, ⟨Lc106, hQ106, l106, y106, z106⟩, st106⟩ := X0.virtualBack hx (y := (⟨"com/example/rida/rida/io/LineBlock", "add", "(I)V"⟩ : MethodName)) (z := (⟨"com/example/rida/rida/io/LineBlock", "add", "(I)V"⟩ : MethodName)) hown (mvT hZ (hw _ (List.mem_of_getElem? (i := 36) rfl))) (mvT hZ (hw _ (List.mem_of_getElem? (i := 37) rfl))) (notFace_of_selects (args := #[]) (mvT hZ (hw _ (List.mem_of_getElem? (i := 39) rfl)))) (mvT hZ (hw _ (List.mem_of_getElem? (i := 39) rfl))) (mvT hZ (hw _ (List.mem_of_getElem? (i := 38) rfl))) (by decide) (backOf (W := 0) (rm6 l Z aZ hw [] b9 q4 t9 k9 m9 vs9 (0 : Int32) o9 bv9 sv9 fv9 hC n0 (Nat.le_trans Z0 K0.1) E1 F3 F4 F5 F6 F7 F8 V1 (by decide) (own_h0 hm1) hl ne_b9_t9 g_b9 g_t9) hZ (hw _ (List.mem_of_getElem? (i := 40) rfl)) (hw _ (List.mem_of_getElem? (i := 7) rfl)) (by decide) (by decide)) q106a q106c (g := (mkF m 105 #[.val (.int q0), .val (.int q1), .val (.int q2), .val (.int q3), .val (.int q4), .val (.long q5), .second, .val (.int m9), .val (.int j9), .val (.int s1), .val (.int s2), .val (.int s3), .val (.ref y9), .val (.ref b9), .unset, .unset] [(.int q4), (.ref b9)])) rfl (by rw [hml]; rfl) (Steps.refl _) (argsL := [(.int q4)]) (rest := []) (lenOf pd_2 rfl) rfl (by show 2 * 0 + _ ≤ _; exact Nat.le_of_eq rfl) (hb hby at_105) (fun _ _ => ⟨rfl, e0, (by decide : 4 + 0 ≤ _), (by decide : 32 + 0 ≤ _)⟩)
    dsimp only [Pt.U, Pt.locs, Pt.cells, Pt.slots] at X106 l106 y106 z106 st106 hQ106
    subst l106 y106 z106
    obtain ⟨rfl, N106q, Kq106, P106_0, P106_1, P106_2, P106_3, P106_4, P106_5, P106_6⟩ := hQ106
    have N106 := Fr.app N0 N106q
    refine OFin.tr st106 ?_
    have K106 : Keep h0 T106.heap [] := K0.trans Kq106 (allS (Or.inr sz_b9) (allS (Or.inr sz_t9) all0))
    have sg107 : ∀ t, Steps p.tables e below (T106.setTop (mkF m 112 #[.val (.int q0), .val (.int q1), .val (.int q2), .val (.int q3), .val (.int q4), .val (.long q5), .second, .val (.int m9), .val (.int j9), .val (.int s1), .val (.int s2), .val (.int s3), .val (.ref y9), .val (.ref b9), .unset, .unset] [(.long q5), (.ref b9)])) t → Steps p.tables e below (T106.setTop (mkF m 108 #[.val (.int q0), .val (.int q1), .val (.int q2), .val (.int q3), .val (.int q4), .val (.long q5), .second, .val (.int m9), .val (.int j9), .val (.int s1), .val (.int s2), .val (.int s3), .val (.ref y9), .val (.ref b9), .unset, .unset] [])) t := by
      intro t k
      show Steps p.tables e below (T106.setTop (mkF m 108 #[.val (.int q0), .val (.int q1), .val (.int q2), .val (.int q3), .val (.int q4), .val (.long q5), .second, .val (.int m9), .val (.int j9), .val (.int s1), .val (.int s2), .val (.int s3), .val (.ref y9), .val (.ref b9), .unset, .unset] [])) t
      refine XS.aload X106.here hx rfl (hb hby at_108) rfl rfl ?_
      show Steps p.tables e below (T106.setTop (mkF m 110 #[.val (.int q0), .val (.int q1), .val (.int q2), .val (.int q3), .val (.int q4), .val (.long q5), .second, .val (.int m9), .val (.int j9), .val (.int s1), .val (.int s2), .val (.int s3), .val (.ref y9), .val (.ref b9), .unset, .unset] [(.ref b9)])) t
      refine XS.lload X106.here hx rfl (hb hby at_110) rfl ?_
      exact k
    refine OFin.go sg107 ?_
    obtain ⟨cq108, kq108, q108a, q108b, q108c⟩ := isOf hZ rfl (E1.keep Kq106)
    obtain ⟨_, _, ⟨T108, L108, k108, n108⟩, -, X108, ⟨Lc108, hQ108, l108, y108, z108⟩, st108⟩ := X106.virtualBack hx (y := (⟨"com/example/rida/rida/io/LineBlock", "clear", "(J)V"⟩ : MethodName)) (z := (⟨"com/example/rida/rida/io/LineBlock", "clear", "(J)V"⟩ : MethodName)) hown (mvT hZ (hw _ (List.mem_of_getElem? (i := 43) rfl))) (mvT hZ (hw _ (List.mem_of_getElem? (i := 44) rfl))) (notFace_of_selects (args := #[]) (mvT hZ (hw _ (List.mem_of_getElem? (i := 46) rfl)))) (mvT hZ (hw _ (List.mem_of_getElem? (i := 46) rfl))) (mvT hZ (hw _ (List.mem_of_getElem? (i := 45) rfl))) (by decide) (backOf (W := 0) (rm7 l Z aZ hw [] b9 q5 t9 k9 m9 (vs9.set (0 : Int32).toNatClampNeg (.int q4)) ((0 : Int32) + (1 : Int32)) o9 bv9 sv9 fv9 T106.heap n0 (Nat.le_trans Z0 K106.1) (E1.keep Kq106) P106_0 P106_1 P106_2 P106_3 P106_4 P106_5 P106_6 ne_b9_t9 g_b9) hZ (hw _ (List.mem_of_getElem? (i := 47) rfl)) (hw _ (List.mem_of_getElem? (i := 7) rfl)) (by decide) (by decide)) q108a q108c (g := (mkF m 112 #[.val (.int q0), .val (.int q1), .val (.int q2), .val (.int q3), .val (.int q4), .val (.long q5), .second, .val (.int m9), .val (.int j9), .val (.int s1), .val (.int s2), .val (.int s3), .val (.ref y9), .val (.ref b9), .unset, .unset] [(.long q5), (.ref b9)])) rfl (by rw [hml]; rfl) (Steps.refl _) (argsL := [(.long q5)]) (rest := []) (lenOf pd_4 rfl) rfl (by show 2 * 0 + _ ≤ _; exact Nat.le_of_eq rfl) (hb hby at_112) (fun _ _ => ⟨rfl, rfl, (by decide : 4 + 0 ≤ _), (by decide : 32 + 0 ≤ _)⟩)
    dsimp only [Pt.U, Pt.locs, Pt.cells, Pt.slots] at X108 l108 y108 z108 st108 hQ108
    subst l108 y108 z108
    obtain ⟨rfl, N108q, Kq108, P108_0, P108_1, P108_2, P108_3, P108_4, P108_5⟩ := hQ108
    have N108 := Fr.app N106 N108q
    refine OFin.tr st108 ?_
    have K108 : Keep h0 T108.heap [] := K106.trans Kq108 (allS (Or.inr sz_b9) all0)
    exact pt0_115 Z aZ hw q0 q1 q2 q3 q4 q5 h0 n0 Z0  b9 y9 m9 j9 s1 s2 s3 t9 k9 (vs9.set (0 : Int32).toNatClampNeg (.int q4)) (0 : Int32) bv9 sv9 (.long (q5 + (1 : Int64))) T108.heap X108 hx hZ hby hml hown hnm hret hlk rfl K108 N108 ((OC.keep Kq106 (allS g_b9 (allS g_t9 all0))).keep Kq108 (allS g_b9 all0)) g_b9 sz_b9 g_t9 sz_t9 ne_b9_t9 ((E1.keep Kq106).keep Kq108) P108_0 P108_1 P108_2 P108_3 P108_4 P108_5 (P106_6.keep Kq108 (ninS (Ne.symm ne_b9_t9) nin0)) hm1 hm4 hj0 hj3 hjm (own_set _ _ _ _ hl) (if_neg c103).symm
theorem pn_1 : plainName "com/example/rida/rida/io/LineBlockSizePinLaw" = true := by first | (simp [plainName, overriddenIn]; done) | decide +kernel
theorem pd_5 : parseMethodDescriptor "(II)V" = some ⟨[.int, .int], none⟩ := by decide +kernel
set_option maxHeartbeats 40000000 in
theorem rm0 (l : Launch) (Z : State) (aZ : Array Value) (hw : ∀ d ∈ tables_1, d.before aZ Z = true) (ws : List Jvm.Cond) (q0 : Int32) (q1 : Int32) (q2 : Int32) (q3 : Int32) (q4 : Int32) (q5 : Int64) (h0 : Heap) (n0 : Nat) (Z0 : n0 ≤ h0.size) (O0 : Old Z n0 h0) :
    MetFree l x (head1 (Jvm.Cond.code x code maxLocals ret :: ws) room_1) (fun a U => a = #[(.int q0), (.int q1), (.int q2), (.int q3), (.int q4), (.long q5)] ∧ Z.Warmed39 U.vm ∧ U.heap = h0) (fun _ _ _ _ _ => True) (fun _ U o U' => ∃ v L, o = .returned v ∧ Q0 Z q0 q1 q2 q3 q4 q5 h0 n0 v U'.heap L ∧ FrameEnd U o U' L room_1.cells room_1.slots) := by
  refine MetFree.of_bodySF (plainFor_of_name pn_1) hisR ?_
  intro p e s m args below meth c s₁ Bd hml0 hP hK
  obtain ⟨rfl, hZ, hh⟩ := hP
  have hx := Bd.exec
  have hby := Bd.bytes
  have hret := Bd.returns
  have hlk : meth.locks = false := BodyLoose.notSynchronized Bd
  have hml : c.maxLocals = 16 := hml0
  have hown : s.vm.findClass "com/example/rida/rida/io/LineBlockSizePinLaw" = some m.cls := findClass_of_methodNamed Bd.named
  have hnm := (name_of_methodNamed Bd.named Bd.method).1
  have X0 : Stand p l e room_1 s m #[(.int q0), (.int q1), (.int q2), (.int q3), (.int q4), (.long q5)] below meth c s₁ [] 0 0 := Stand.of_body Bd
  have e0 : s₁.heap = h0 := by rw [← hh, Bd.state]; rfl
  have N0 := Fr.nil n0
  have K0 : Keep h0 h0 [] := Keep.refl _ _
  have pre0 : ∀ t, Steps p.tables e below (s₁.setTop (mkF m 0 #[.val (.int q0), .val (.int q1), .val (.int q2), .val (.int q3), .val (.int q4), .val (.long q5), .second, .unset, .unset, .unset, .unset, .unset, .unset, .unset, .unset, .unset] [])) t → Steps p.tables e below (s₁.setTop (entryFrame m #[(.int q0), (.int q1), (.int q2), (.int q3), (.int q4), (.long q5)] maxLocals)) t := fun t k => castTop (ef_0 m q0 q1 q2 q3 q4 q5) k
  show OFin p e below s (Q0 Z q0 q1 q2 q3 q4 q5 h0 n0) room_1.cells room_1.slots _
  refine OFin.go pre0 ?_
  have sg101 : ∀ t, Steps p.tables e below (s₁.setTop (mkF m 14 #[.val (.int q0), .val (.int q1), .val (.int q2), .val (.int q3), .val (.int q4), .val (.long q5), .second, .val (.int ((1 : Int32) + (q0 &&& (3 : Int32)))), .unset, .unset, .unset, .unset, .unset, .unset, .unset, .unset] [(.int ((1 : Int32) + (q0 &&& (3 : Int32)))), (.int (((q0.toUInt32 >>> ((2 : Int32) &&& 31).toUInt32).toInt32) &&& (3 : Int32)))])) t → Steps p.tables e below (s₁.setTop (mkF m 0 #[.val (.int q0), .val (.int q1), .val (.int q2), .val (.int q3), .val (.int q4), .val (.long q5), .second, .unset, .unset, .unset, .unset, .unset, .unset, .unset, .unset, .unset] [])) t := by
    intro t k
    show Steps p.tables e below (s₁.setTop (mkF m 0 #[.val (.int q0), .val (.int q1), .val (.int q2), .val (.int q3), .val (.int q4), .val (.long q5), .second, .unset, .unset, .unset, .unset, .unset, .unset, .unset, .unset, .unset] [])) t
    refine XS.iconst X0.here hx rfl (hb hby at_0) ?_
    show Steps p.tables e below (s₁.setTop (mkF m 1 #[.val (.int q0), .val (.int q1), .val (.int q2), .val (.int q3), .val (.int q4), .val (.long q5), .second, .unset, .unset, .unset, .unset, .unset, .unset, .unset, .unset, .unset] [(.int (1 : Int32))])) t
    refine XS.iloadN X0.here hx rfl (hb hby at_1) rfl ?_
    show Steps p.tables e below (s₁.setTop (mkF m 2 #[.val (.int q0), .val (.int q1), .val (.int q2), .val (.int q3), .val (.int q4), .val (.long q5), .second, .unset, .unset, .unset, .unset, .unset, .unset, .unset, .unset, .unset] [(.int q0), (.int (1 : Int32))])) t
    refine XS.iconst X0.here hx rfl (hb hby at_2) ?_
    show Steps p.tables e below (s₁.setTop (mkF m 3 #[.val (.int q0), .val (.int q1), .val (.int q2), .val (.int q3), .val (.int q4), .val (.long q5), .second, .unset, .unset, .unset, .unset, .unset, .unset, .unset, .unset, .unset] [(.int (3 : Int32)), (.int q0), (.int (1 : Int32))])) t
    refine XS.iand X0.here hx rfl (hb hby at_3) rfl ?_
    show Steps p.tables e below (s₁.setTop (mkF m 4 #[.val (.int q0), .val (.int q1), .val (.int q2), .val (.int q3), .val (.int q4), .val (.long q5), .second, .unset, .unset, .unset, .unset, .unset, .unset, .unset, .unset, .unset] [(.int (q0 &&& (3 : Int32))), (.int (1 : Int32))])) t
    refine XS.iadd X0.here hx rfl (hb hby at_4) rfl ?_
    show Steps p.tables e below (s₁.setTop (mkF m 5 #[.val (.int q0), .val (.int q1), .val (.int q2), .val (.int q3), .val (.int q4), .val (.long q5), .second, .unset, .unset, .unset, .unset, .unset, .unset, .unset, .unset, .unset] [(.int ((1 : Int32) + (q0 &&& (3 : Int32))))])) t
    refine XS.istore X0.here hx rfl (hb hby at_5) rfl (l' := #[.val (.int q0), .val (.int q1), .val (.int q2), .val (.int q3), .val (.int q4), .val (.long q5), .second, .val (.int ((1 : Int32) + (q0 &&& (3 : Int32)))), .unset, .unset, .unset, .unset, .unset, .unset, .unset, .unset]) rfl ?_
    show Steps p.tables e below (s₁.setTop (mkF m 7 #[.val (.int q0), .val (.int q1), .val (.int q2), .val (.int q3), .val (.int q4), .val (.long q5), .second, .val (.int ((1 : Int32) + (q0 &&& (3 : Int32)))), .unset, .unset, .unset, .unset, .unset, .unset, .unset, .unset] [])) t
    refine XS.iloadN X0.here hx rfl (hb hby at_7) rfl ?_
    show Steps p.tables e below (s₁.setTop (mkF m 8 #[.val (.int q0), .val (.int q1), .val (.int q2), .val (.int q3), .val (.int q4), .val (.long q5), .second, .val (.int ((1 : Int32) + (q0 &&& (3 : Int32)))), .unset, .unset, .unset, .unset, .unset, .unset, .unset, .unset] [(.int q0)])) t
    refine XS.iconst X0.here hx rfl (hb hby at_8) ?_
    show Steps p.tables e below (s₁.setTop (mkF m 9 #[.val (.int q0), .val (.int q1), .val (.int q2), .val (.int q3), .val (.int q4), .val (.long q5), .second, .val (.int ((1 : Int32) + (q0 &&& (3 : Int32)))), .unset, .unset, .unset, .unset, .unset, .unset, .unset, .unset] [(.int (2 : Int32)), (.int q0)])) t
    refine XS.iushr X0.here hx rfl (hb hby at_9) rfl ?_
    show Steps p.tables e below (s₁.setTop (mkF m 10 #[.val (.int q0), .val (.int q1), .val (.int q2), .val (.int q3), .val (.int q4), .val (.long q5), .second, .val (.int ((1 : Int32) + (q0 &&& (3 : Int32)))), .unset, .unset, .unset, .unset, .unset, .unset, .unset, .unset] [(.int ((q0.toUInt32 >>> ((2 : Int32) &&& 31).toUInt32).toInt32))])) t
    refine XS.iconst X0.here hx rfl (hb hby at_10) ?_
    show Steps p.tables e below (s₁.setTop (mkF m 11 #[.val (.int q0), .val (.int q1), .val (.int q2), .val (.int q3), .val (.int q4), .val (.long q5), .second, .val (.int ((1 : Int32) + (q0 &&& (3 : Int32)))), .unset, .unset, .unset, .unset, .unset, .unset, .unset, .unset] [(.int (3 : Int32)), (.int ((q0.toUInt32 >>> ((2 : Int32) &&& 31).toUInt32).toInt32))])) t
    refine XS.iand X0.here hx rfl (hb hby at_11) rfl ?_
    show Steps p.tables e below (s₁.setTop (mkF m 12 #[.val (.int q0), .val (.int q1), .val (.int q2), .val (.int q3), .val (.int q4), .val (.long q5), .second, .val (.int ((1 : Int32) + (q0 &&& (3 : Int32)))), .unset, .unset, .unset, .unset, .unset, .unset, .unset, .unset] [(.int (((q0.toUInt32 >>> ((2 : Int32) &&& 31).toUInt32).toInt32) &&& (3 : Int32)))])) t
    refine XS.iload X0.here hx rfl (hb hby at_12) rfl ?_
    exact k
  refine OFin.go sg101 ?_
  obtain ⟨_, _, ⟨T102, L102, k102, n102⟩, -, X102, ⟨Lc102, hQ102, l102, y102, z102⟩, st102⟩ := Jvm.LawKit.callS X0 hx (y := (⟨"java/lang/Math", "min", "(II)I"⟩ : MethodName)) hown (mvT hZ (hw _ (List.mem_of_getElem? (i := 0) rfl))) (mvT hZ (hw _ (List.mem_of_getElem? (i := 1) rfl))) (mvT hZ (hw _ (List.mem_of_getElem? (i := 2) rfl))) (mvT hZ (hw _ (List.mem_of_getElem? (i := 3) rfl))) (by decide) (backOf (W := 0) (rm1 l Z aZ hw [] (((q0.toUInt32 >>> ((2 : Int32) &&& 31).toUInt32).toInt32) &&& (3 : Int32)) ((1 : Int32) + (q0 &&& (3 : Int32))) h0 n0 (Nat.le_trans Z0 K0.1) ) hZ (hw _ (List.mem_of_getElem? (i := 3) rfl)) (hw _ (List.mem_of_getElem? (i := 2) rfl)) (by decide) (by decide)) (g := (mkF m 14 #[.val (.int q0), .val (.int q1), .val (.int q2), .val (.int q3), .val (.int q4), .val (.long q5), .second, .val (.int ((1 : Int32) + (q0 &&& (3 : Int32)))), .unset, .unset, .unset, .unset, .unset, .unset, .unset, .unset] [(.int ((1 : Int32) + (q0 &&& (3 : Int32)))), (.int (((q0.toUInt32 >>> ((2 : Int32) &&& 31).toUInt32).toInt32) &&& (3 : Int32)))])) rfl (by rw [hml]; rfl) (argsL := [(.int (((q0.toUInt32 >>> ((2 : Int32) &&& 31).toUInt32).toInt32) &&& (3 : Int32))), (.int ((1 : Int32) + (q0 &&& (3 : Int32))))]) (rest := []) (lenOf pd_0 rfl) rfl (by show 2 * 0 + _ ≤ _; exact Nat.le_of_eq rfl) (hb hby at_14) (fun _ _ => ⟨rfl, e0, (by decide : 0 + 0 ≤ _), (by decide : 0 + 0 ≤ _)⟩)
  dsimp only [Pt.U, Pt.locs, Pt.cells, Pt.slots] at X102 l102 y102 z102 st102 hQ102
  subst l102 y102 z102
  obtain ⟨rfl, N102q, e102⟩ := hQ102
  have N102 := Fr.app N0 N102q
  refine OFin.go st102 ?_
  have sg105 : ∀ t, Steps p.tables e below (T102.setTop (mkF m 24 #[.val (.int q0), .val (.int q1), .val (.int q2), .val (.int q3), .val (.int q4), .val (.long q5), .second, .val (.int ((1 : Int32) + (q0 &&& (3 : Int32)))), .val (.int (own_f1 (((q0.toUInt32 >>> ((2 : Int32) &&& 31).toUInt32).toInt32) &&& (3 : Int32)) ((1 : Int32) + (q0 &&& (3 : Int32))))), .unset, .unset, .unset, .unset, .unset, .unset, .unset] [(.int (((q0.toUInt32 >>> ((4 : Int32) &&& 31).toUInt32).toInt32) &&& (1 : Int32)))])) t → Steps p.tables e below (T102.setTop (mkF m 17 #[.val (.int q0), .val (.int q1), .val (.int q2), .val (.int q3), .val (.int q4), .val (.long q5), .second, .val (.int ((1 : Int32) + (q0 &&& (3 : Int32)))), .unset, .unset, .unset, .unset, .unset, .unset, .unset, .unset] [(.int (own_f1 (((q0.toUInt32 >>> ((2 : Int32) &&& 31).toUInt32).toInt32) &&& (3 : Int32)) ((1 : Int32) + (q0 &&& (3 : Int32)))))])) t := by
    intro t k
    show Steps p.tables e below (T102.setTop (mkF m 17 #[.val (.int q0), .val (.int q1), .val (.int q2), .val (.int q3), .val (.int q4), .val (.long q5), .second, .val (.int ((1 : Int32) + (q0 &&& (3 : Int32)))), .unset, .unset, .unset, .unset, .unset, .unset, .unset, .unset] [(.int (own_f1 (((q0.toUInt32 >>> ((2 : Int32) &&& 31).toUInt32).toInt32) &&& (3 : Int32)) ((1 : Int32) + (q0 &&& (3 : Int32)))))])) t
    refine XS.istore X102.here hx rfl (hb hby at_17) rfl (l' := #[.val (.int q0), .val (.int q1), .val (.int q2), .val (.int q3), .val (.int q4), .val (.long q5), .second, .val (.int ((1 : Int32) + (q0 &&& (3 : Int32)))), .val (.int (own_f1 (((q0.toUInt32 >>> ((2 : Int32) &&& 31).toUInt32).toInt32) &&& (3 : Int32)) ((1 : Int32) + (q0 &&& (3 : Int32))))), .unset, .unset, .unset, .unset, .unset, .unset, .unset]) rfl ?_
    show Steps p.tables e below (T102.setTop (mkF m 19 #[.val (.int q0), .val (.int q1), .val (.int q2), .val (.int q3), .val (.int q4), .val (.long q5), .second, .val (.int ((1 : Int32) + (q0 &&& (3 : Int32)))), .val (.int (own_f1 (((q0.toUInt32 >>> ((2 : Int32) &&& 31).toUInt32).toInt32) &&& (3 : Int32)) ((1 : Int32) + (q0 &&& (3 : Int32))))), .unset, .unset, .unset, .unset, .unset, .unset, .unset] [])) t
    refine XS.iloadN X102.here hx rfl (hb hby at_19) rfl ?_
    show Steps p.tables e below (T102.setTop (mkF m 20 #[.val (.int q0), .val (.int q1), .val (.int q2), .val (.int q3), .val (.int q4), .val (.long q5), .second, .val (.int ((1 : Int32) + (q0 &&& (3 : Int32)))), .val (.int (own_f1 (((q0.toUInt32 >>> ((2 : Int32) &&& 31).toUInt32).toInt32) &&& (3 : Int32)) ((1 : Int32) + (q0 &&& (3 : Int32))))), .unset, .unset, .unset, .unset, .unset, .unset, .unset] [(.int q0)])) t
    refine XS.iconst X102.here hx rfl (hb hby at_20) ?_
    show Steps p.tables e below (T102.setTop (mkF m 21 #[.val (.int q0), .val (.int q1), .val (.int q2), .val (.int q3), .val (.int q4), .val (.long q5), .second, .val (.int ((1 : Int32) + (q0 &&& (3 : Int32)))), .val (.int (own_f1 (((q0.toUInt32 >>> ((2 : Int32) &&& 31).toUInt32).toInt32) &&& (3 : Int32)) ((1 : Int32) + (q0 &&& (3 : Int32))))), .unset, .unset, .unset, .unset, .unset, .unset, .unset] [(.int (4 : Int32)), (.int q0)])) t
    refine XS.iushr X102.here hx rfl (hb hby at_21) rfl ?_
    show Steps p.tables e below (T102.setTop (mkF m 22 #[.val (.int q0), .val (.int q1), .val (.int q2), .val (.int q3), .val (.int q4), .val (.long q5), .second, .val (.int ((1 : Int32) + (q0 &&& (3 : Int32)))), .val (.int (own_f1 (((q0.toUInt32 >>> ((2 : Int32) &&& 31).toUInt32).toInt32) &&& (3 : Int32)) ((1 : Int32) + (q0 &&& (3 : Int32))))), .unset, .unset, .unset, .unset, .unset, .unset, .unset] [(.int ((q0.toUInt32 >>> ((4 : Int32) &&& 31).toUInt32).toInt32))])) t
    refine XS.iconst X102.here hx rfl (hb hby at_22) ?_
    show Steps p.tables e below (T102.setTop (mkF m 23 #[.val (.int q0), .val (.int q1), .val (.int q2), .val (.int q3), .val (.int q4), .val (.long q5), .second, .val (.int ((1 : Int32) + (q0 &&& (3 : Int32)))), .val (.int (own_f1 (((q0.toUInt32 >>> ((2 : Int32) &&& 31).toUInt32).toInt32) &&& (3 : Int32)) ((1 : Int32) + (q0 &&& (3 : Int32))))), .unset, .unset, .unset, .unset, .unset, .unset, .unset] [(.int (1 : Int32)), (.int ((q0.toUInt32 >>> ((4 : Int32) &&& 31).toUInt32).toInt32))])) t
    refine XS.iand X102.here hx rfl (hb hby at_23) rfl ?_
    exact k
  refine OFin.go sg105 ?_
  obtain ⟨v104, e_v104⟩ : ∃ z : Int32, z = (if (((q0.toUInt32 >>> ((4 : Int32) &&& 31).toUInt32).toInt32) &&& (1 : Int32)) = (0 : Int32) then (0 : Int32) else (1 : Int32)) := ⟨_, rfl⟩
  have sg106 : ∀ t, Steps p.tables e below (T102.setTop (mkF m 32 #[.val (.int q0), .val (.int q1), .val (.int q2), .val (.int q3), .val (.int q4), .val (.long q5), .second, .val (.int ((1 : Int32) + (q0 &&& (3 : Int32)))), .val (.int (own_f1 (((q0.toUInt32 >>> ((2 : Int32) &&& 31).toUInt32).toInt32) &&& (3 : Int32)) ((1 : Int32) + (q0 &&& (3 : Int32))))), .unset, .unset, .unset, .unset, .unset, .unset, .unset] [(.int v104)])) t → Steps p.tables e below (T102.setTop (mkF m 24 #[.val (.int q0), .val (.int q1), .val (.int q2), .val (.int q3), .val (.int q4), .val (.long q5), .second, .val (.int ((1 : Int32) + (q0 &&& (3 : Int32)))), .val (.int (own_f1 (((q0.toUInt32 >>> ((2 : Int32) &&& 31).toUInt32).toInt32) &&& (3 : Int32)) ((1 : Int32) + (q0 &&& (3 : Int32))))), .unset, .unset, .unset, .unset, .unset, .unset, .unset] [(.int (((q0.toUInt32 >>> ((4 : Int32) &&& 31).toUInt32).toInt32) &&& (1 : Int32)))])) t := by
    intro t k
    by_cases c103 : (((q0.toUInt32 >>> ((4 : Int32) &&& 31).toUInt32).toInt32) &&& (1 : Int32)) = (0 : Int32)
    · show Steps p.tables e below (T102.setTop (mkF m 24 #[.val (.int q0), .val (.int q1), .val (.int q2), .val (.int q3), .val (.int q4), .val (.long q5), .second, .val (.int ((1 : Int32) + (q0 &&& (3 : Int32)))), .val (.int (own_f1 (((q0.toUInt32 >>> ((2 : Int32) &&& 31).toUInt32).toInt32) &&& (3 : Int32)) ((1 : Int32) + (q0 &&& (3 : Int32))))), .unset, .unset, .unset, .unset, .unset, .unset, .unset] [(.int (((q0.toUInt32 >>> ((4 : Int32) &&& 31).toUInt32).toInt32) &&& (1 : Int32)))])) t
      refine XS.ifYes X102.here hx rfl (pc0 := 24) (pc' := 31) rfl (hb hby at_24) rfl ((if0 _ _).trans (teq c103).1) (by decide) (by decide) ?_
      show Steps p.tables e below (T102.setTop (mkF m 31 #[.val (.int q0), .val (.int q1), .val (.int q2), .val (.int q3), .val (.int q4), .val (.long q5), .second, .val (.int ((1 : Int32) + (q0 &&& (3 : Int32)))), .val (.int (own_f1 (((q0.toUInt32 >>> ((2 : Int32) &&& 31).toUInt32).toInt32) &&& (3 : Int32)) ((1 : Int32) + (q0 &&& (3 : Int32))))), .unset, .unset, .unset, .unset, .unset, .unset, .unset] [])) t
      refine XS.iconst X102.here hx rfl (hb hby at_31) ?_
      have e_v104' := e_v104
      try rw [if_pos c103] at e_v104'
      subst e_v104'
      exact k
    · show Steps p.tables e below (T102.setTop (mkF m 24 #[.val (.int q0), .val (.int q1), .val (.int q2), .val (.int q3), .val (.int q4), .val (.long q5), .second, .val (.int ((1 : Int32) + (q0 &&& (3 : Int32)))), .val (.int (own_f1 (((q0.toUInt32 >>> ((2 : Int32) &&& 31).toUInt32).toInt32) &&& (3 : Int32)) ((1 : Int32) + (q0 &&& (3 : Int32))))), .unset, .unset, .unset, .unset, .unset, .unset, .unset] [(.int (((q0.toUInt32 >>> ((4 : Int32) &&& 31).toUInt32).toInt32) &&& (1 : Int32)))])) t
      refine XS.ifNo X102.here hx rfl (hb hby at_24) rfl ((if0 _ _).trans (feq c103).1) ?_
      show Steps p.tables e below (T102.setTop (mkF m 27 #[.val (.int q0), .val (.int q1), .val (.int q2), .val (.int q3), .val (.int q4), .val (.long q5), .second, .val (.int ((1 : Int32) + (q0 &&& (3 : Int32)))), .val (.int (own_f1 (((q0.toUInt32 >>> ((2 : Int32) &&& 31).toUInt32).toInt32) &&& (3 : Int32)) ((1 : Int32) + (q0 &&& (3 : Int32))))), .unset, .unset, .unset, .unset, .unset, .unset, .unset] [])) t
      refine XS.iconst X102.here hx rfl (hb hby at_27) ?_
      show Steps p.tables e below (T102.setTop (mkF m 28 #[.val (.int q0), .val (.int q1), .val (.int q2), .val (.int q3), .val (.int q4), .val (.long q5), .second, .val (.int ((1 : Int32) + (q0 &&& (3 : Int32)))), .val (.int (own_f1 (((q0.toUInt32 >>> ((2 : Int32) &&& 31).toUInt32).toInt32) &&& (3 : Int32)) ((1 : Int32) + (q0 &&& (3 : Int32))))), .unset, .unset, .unset, .unset, .unset, .unset, .unset] [(.int (1 : Int32))])) t
      refine XS.goto X102.here hx rfl (pc0 := 28) (pc' := 32) rfl (hb hby at_28) (by decide) (by decide) ?_
      have e_v104' := e_v104
      try rw [if_neg c103] at e_v104'
      subst e_v104'
      exact k
  refine OFin.go sg106 ?_
  have sg109 : ∀ t, Steps p.tables e below (T102.setTop (mkF m 39 #[.val (.int q0), .val (.int q1), .val (.int q2), .val (.int q3), .val (.int q4), .val (.long q5), .second, .val (.int ((1 : Int32) + (q0 &&& (3 : Int32)))), .val (.int (own_f1 (((q0.toUInt32 >>> ((2 : Int32) &&& 31).toUInt32).toInt32) &&& (3 : Int32)) ((1 : Int32) + (q0 &&& (3 : Int32))))), .val (.int v104), .unset, .unset, .unset, .unset, .unset, .unset] [(.int (((q0.toUInt32 >>> ((5 : Int32) &&& 31).toUInt32).toInt32) &&& (1 : Int32)))])) t → Steps p.tables e below (T102.setTop (mkF m 32 #[.val (.int q0), .val (.int q1), .val (.int q2), .val (.int q3), .val (.int q4), .val (.long q5), .second, .val (.int ((1 : Int32) + (q0 &&& (3 : Int32)))), .val (.int (own_f1 (((q0.toUInt32 >>> ((2 : Int32) &&& 31).toUInt32).toInt32) &&& (3 : Int32)) ((1 : Int32) + (q0 &&& (3 : Int32))))), .unset, .unset, .unset, .unset, .unset, .unset, .unset] [(.int v104)])) t := by
    intro t k
    show Steps p.tables e below (T102.setTop (mkF m 32 #[.val (.int q0), .val (.int q1), .val (.int q2), .val (.int q3), .val (.int q4), .val (.long q5), .second, .val (.int ((1 : Int32) + (q0 &&& (3 : Int32)))), .val (.int (own_f1 (((q0.toUInt32 >>> ((2 : Int32) &&& 31).toUInt32).toInt32) &&& (3 : Int32)) ((1 : Int32) + (q0 &&& (3 : Int32))))), .unset, .unset, .unset, .unset, .unset, .unset, .unset] [(.int v104)])) t
    refine XS.istore X102.here hx rfl (hb hby at_32) rfl (l' := #[.val (.int q0), .val (.int q1), .val (.int q2), .val (.int q3), .val (.int q4), .val (.long q5), .second, .val (.int ((1 : Int32) + (q0 &&& (3 : Int32)))), .val (.int (own_f1 (((q0.toUInt32 >>> ((2 : Int32) &&& 31).toUInt32).toInt32) &&& (3 : Int32)) ((1 : Int32) + (q0 &&& (3 : Int32))))), .val (.int v104), .unset, .unset, .unset, .unset, .unset, .unset]) rfl ?_
    show Steps p.tables e below (T102.setTop (mkF m 34 #[.val (.int q0), .val (.int q1), .val (.int q2), .val (.int q3), .val (.int q4), .val (.long q5), .second, .val (.int ((1 : Int32) + (q0 &&& (3 : Int32)))), .val (.int (own_f1 (((q0.toUInt32 >>> ((2 : Int32) &&& 31).toUInt32).toInt32) &&& (3 : Int32)) ((1 : Int32) + (q0 &&& (3 : Int32))))), .val (.int v104), .unset, .unset, .unset, .unset, .unset, .unset] [])) t
    refine XS.iloadN X102.here hx rfl (hb hby at_34) rfl ?_
    show Steps p.tables e below (T102.setTop (mkF m 35 #[.val (.int q0), .val (.int q1), .val (.int q2), .val (.int q3), .val (.int q4), .val (.long q5), .second, .val (.int ((1 : Int32) + (q0 &&& (3 : Int32)))), .val (.int (own_f1 (((q0.toUInt32 >>> ((2 : Int32) &&& 31).toUInt32).toInt32) &&& (3 : Int32)) ((1 : Int32) + (q0 &&& (3 : Int32))))), .val (.int v104), .unset, .unset, .unset, .unset, .unset, .unset] [(.int q0)])) t
    refine XS.iconst X102.here hx rfl (hb hby at_35) ?_
    show Steps p.tables e below (T102.setTop (mkF m 36 #[.val (.int q0), .val (.int q1), .val (.int q2), .val (.int q3), .val (.int q4), .val (.long q5), .second, .val (.int ((1 : Int32) + (q0 &&& (3 : Int32)))), .val (.int (own_f1 (((q0.toUInt32 >>> ((2 : Int32) &&& 31).toUInt32).toInt32) &&& (3 : Int32)) ((1 : Int32) + (q0 &&& (3 : Int32))))), .val (.int v104), .unset, .unset, .unset, .unset, .unset, .unset] [(.int (5 : Int32)), (.int q0)])) t
    refine XS.iushr X102.here hx rfl (hb hby at_36) rfl ?_
    show Steps p.tables e below (T102.setTop (mkF m 37 #[.val (.int q0), .val (.int q1), .val (.int q2), .val (.int q3), .val (.int q4), .val (.long q5), .second, .val (.int ((1 : Int32) + (q0 &&& (3 : Int32)))), .val (.int (own_f1 (((q0.toUInt32 >>> ((2 : Int32) &&& 31).toUInt32).toInt32) &&& (3 : Int32)) ((1 : Int32) + (q0 &&& (3 : Int32))))), .val (.int v104), .unset, .unset, .unset, .unset, .unset, .unset] [(.int ((q0.toUInt32 >>> ((5 : Int32) &&& 31).toUInt32).toInt32))])) t
    refine XS.iconst X102.here hx rfl (hb hby at_37) ?_
    show Steps p.tables e below (T102.setTop (mkF m 38 #[.val (.int q0), .val (.int q1), .val (.int q2), .val (.int q3), .val (.int q4), .val (.long q5), .second, .val (.int ((1 : Int32) + (q0 &&& (3 : Int32)))), .val (.int (own_f1 (((q0.toUInt32 >>> ((2 : Int32) &&& 31).toUInt32).toInt32) &&& (3 : Int32)) ((1 : Int32) + (q0 &&& (3 : Int32))))), .val (.int v104), .unset, .unset, .unset, .unset, .unset, .unset] [(.int (1 : Int32)), (.int ((q0.toUInt32 >>> ((5 : Int32) &&& 31).toUInt32).toInt32))])) t
    refine XS.iand X102.here hx rfl (hb hby at_38) rfl ?_
    exact k
  refine OFin.go sg109 ?_
  obtain ⟨v108, e_v108⟩ : ∃ z : Int32, z = (if (((q0.toUInt32 >>> ((5 : Int32) &&& 31).toUInt32).toInt32) &&& (1 : Int32)) = (0 : Int32) then (0 : Int32) else (1 : Int32)) := ⟨_, rfl⟩
  have sg110 : ∀ t, Steps p.tables e below (T102.setTop (mkF m 47 #[.val (.int q0), .val (.int q1), .val (.int q2), .val (.int q3), .val (.int q4), .val (.long q5), .second, .val (.int ((1 : Int32) + (q0 &&& (3 : Int32)))), .val (.int (own_f1 (((q0.toUInt32 >>> ((2 : Int32) &&& 31).toUInt32).toInt32) &&& (3 : Int32)) ((1 : Int32) + (q0 &&& (3 : Int32))))), .val (.int v104), .unset, .unset, .unset, .unset, .unset, .unset] [(.int v108)])) t → Steps p.tables e below (T102.setTop (mkF m 39 #[.val (.int q0), .val (.int q1), .val (.int q2), .val (.int q3), .val (.int q4), .val (.long q5), .second, .val (.int ((1 : Int32) + (q0 &&& (3 : Int32)))), .val (.int (own_f1 (((q0.toUInt32 >>> ((2 : Int32) &&& 31).toUInt32).toInt32) &&& (3 : Int32)) ((1 : Int32) + (q0 &&& (3 : Int32))))), .val (.int v104), .unset, .unset, .unset, .unset, .unset, .unset] [(.int (((q0.toUInt32 >>> ((5 : Int32) &&& 31).toUInt32).toInt32) &&& (1 : Int32)))])) t := by
    intro t k
    by_cases c107 : (((q0.toUInt32 >>> ((5 : Int32) &&& 31).toUInt32).toInt32) &&& (1 : Int32)) = (0 : Int32)
    · show Steps p.tables e below (T102.setTop (mkF m 39 #[.val (.int q0), .val (.int q1), .val (.int q2), .val (.int q3), .val (.int q4), .val (.long q5), .second, .val (.int ((1 : Int32) + (q0 &&& (3 : Int32)))), .val (.int (own_f1 (((q0.toUInt32 >>> ((2 : Int32) &&& 31).toUInt32).toInt32) &&& (3 : Int32)) ((1 : Int32) + (q0 &&& (3 : Int32))))), .val (.int v104), .unset, .unset, .unset, .unset, .unset, .unset] [(.int (((q0.toUInt32 >>> ((5 : Int32) &&& 31).toUInt32).toInt32) &&& (1 : Int32)))])) t
      refine XS.ifYes X102.here hx rfl (pc0 := 39) (pc' := 46) rfl (hb hby at_39) rfl ((if0 _ _).trans (teq c107).1) (by decide) (by decide) ?_
      show Steps p.tables e below (T102.setTop (mkF m 46 #[.val (.int q0), .val (.int q1), .val (.int q2), .val (.int q3), .val (.int q4), .val (.long q5), .second, .val (.int ((1 : Int32) + (q0 &&& (3 : Int32)))), .val (.int (own_f1 (((q0.toUInt32 >>> ((2 : Int32) &&& 31).toUInt32).toInt32) &&& (3 : Int32)) ((1 : Int32) + (q0 &&& (3 : Int32))))), .val (.int v104), .unset, .unset, .unset, .unset, .unset, .unset] [])) t
      refine XS.iconst X102.here hx rfl (hb hby at_46) ?_
      have e_v108' := e_v108
      try rw [if_pos c107] at e_v108'
      subst e_v108'
      exact k
    · show Steps p.tables e below (T102.setTop (mkF m 39 #[.val (.int q0), .val (.int q1), .val (.int q2), .val (.int q3), .val (.int q4), .val (.long q5), .second, .val (.int ((1 : Int32) + (q0 &&& (3 : Int32)))), .val (.int (own_f1 (((q0.toUInt32 >>> ((2 : Int32) &&& 31).toUInt32).toInt32) &&& (3 : Int32)) ((1 : Int32) + (q0 &&& (3 : Int32))))), .val (.int v104), .unset, .unset, .unset, .unset, .unset, .unset] [(.int (((q0.toUInt32 >>> ((5 : Int32) &&& 31).toUInt32).toInt32) &&& (1 : Int32)))])) t
      refine XS.ifNo X102.here hx rfl (hb hby at_39) rfl ((if0 _ _).trans (feq c107).1) ?_
      show Steps p.tables e below (T102.setTop (mkF m 42 #[.val (.int q0), .val (.int q1), .val (.int q2), .val (.int q3), .val (.int q4), .val (.long q5), .second, .val (.int ((1 : Int32) + (q0 &&& (3 : Int32)))), .val (.int (own_f1 (((q0.toUInt32 >>> ((2 : Int32) &&& 31).toUInt32).toInt32) &&& (3 : Int32)) ((1 : Int32) + (q0 &&& (3 : Int32))))), .val (.int v104), .unset, .unset, .unset, .unset, .unset, .unset] [])) t
      refine XS.iconst X102.here hx rfl (hb hby at_42) ?_
      show Steps p.tables e below (T102.setTop (mkF m 43 #[.val (.int q0), .val (.int q1), .val (.int q2), .val (.int q3), .val (.int q4), .val (.long q5), .second, .val (.int ((1 : Int32) + (q0 &&& (3 : Int32)))), .val (.int (own_f1 (((q0.toUInt32 >>> ((2 : Int32) &&& 31).toUInt32).toInt32) &&& (3 : Int32)) ((1 : Int32) + (q0 &&& (3 : Int32))))), .val (.int v104), .unset, .unset, .unset, .unset, .unset, .unset] [(.int (1 : Int32))])) t
      refine XS.goto X102.here hx rfl (pc0 := 43) (pc' := 47) rfl (hb hby at_43) (by decide) (by decide) ?_
      have e_v108' := e_v108
      try rw [if_neg c107] at e_v108'
      subst e_v108'
      exact k
  refine OFin.go sg110 ?_
  have sg113 : ∀ t, Steps p.tables e below (T102.setTop (mkF m 55 #[.val (.int q0), .val (.int q1), .val (.int q2), .val (.int q3), .val (.int q4), .val (.long q5), .second, .val (.int ((1 : Int32) + (q0 &&& (3 : Int32)))), .val (.int (own_f1 (((q0.toUInt32 >>> ((2 : Int32) &&& 31).toUInt32).toInt32) &&& (3 : Int32)) ((1 : Int32) + (q0 &&& (3 : Int32))))), .val (.int v104), .val (.int v108), .unset, .unset, .unset, .unset, .unset] [(.int (((q0.toUInt32 >>> ((6 : Int32) &&& 31).toUInt32).toInt32) &&& (1 : Int32)))])) t → Steps p.tables e below (T102.setTop (mkF m 47 #[.val (.int q0), .val (.int q1), .val (.int q2), .val (.int q3), .val (.int q4), .val (.long q5), .second, .val (.int ((1 : Int32) + (q0 &&& (3 : Int32)))), .val (.int (own_f1 (((q0.toUInt32 >>> ((2 : Int32) &&& 31).toUInt32).toInt32) &&& (3 : Int32)) ((1 : Int32) + (q0 &&& (3 : Int32))))), .val (.int v104), .unset, .unset, .unset, .unset, .unset, .unset] [(.int v108)])) t := by
    intro t k
    show Steps p.tables e below (T102.setTop (mkF m 47 #[.val (.int q0), .val (.int q1), .val (.int q2), .val (.int q3), .val (.int q4), .val (.long q5), .second, .val (.int ((1 : Int32) + (q0 &&& (3 : Int32)))), .val (.int (own_f1 (((q0.toUInt32 >>> ((2 : Int32) &&& 31).toUInt32).toInt32) &&& (3 : Int32)) ((1 : Int32) + (q0 &&& (3 : Int32))))), .val (.int v104), .unset, .unset, .unset, .unset, .unset, .unset] [(.int v108)])) t
    refine XS.istore X102.here hx rfl (hb hby at_47) rfl (l' := #[.val (.int q0), .val (.int q1), .val (.int q2), .val (.int q3), .val (.int q4), .val (.long q5), .second, .val (.int ((1 : Int32) + (q0 &&& (3 : Int32)))), .val (.int (own_f1 (((q0.toUInt32 >>> ((2 : Int32) &&& 31).toUInt32).toInt32) &&& (3 : Int32)) ((1 : Int32) + (q0 &&& (3 : Int32))))), .val (.int v104), .val (.int v108), .unset, .unset, .unset, .unset, .unset]) rfl ?_
    show Steps p.tables e below (T102.setTop (mkF m 49 #[.val (.int q0), .val (.int q1), .val (.int q2), .val (.int q3), .val (.int q4), .val (.long q5), .second, .val (.int ((1 : Int32) + (q0 &&& (3 : Int32)))), .val (.int (own_f1 (((q0.toUInt32 >>> ((2 : Int32) &&& 31).toUInt32).toInt32) &&& (3 : Int32)) ((1 : Int32) + (q0 &&& (3 : Int32))))), .val (.int v104), .val (.int v108), .unset, .unset, .unset, .unset, .unset] [])) t
    refine XS.iloadN X102.here hx rfl (hb hby at_49) rfl ?_
    show Steps p.tables e below (T102.setTop (mkF m 50 #[.val (.int q0), .val (.int q1), .val (.int q2), .val (.int q3), .val (.int q4), .val (.long q5), .second, .val (.int ((1 : Int32) + (q0 &&& (3 : Int32)))), .val (.int (own_f1 (((q0.toUInt32 >>> ((2 : Int32) &&& 31).toUInt32).toInt32) &&& (3 : Int32)) ((1 : Int32) + (q0 &&& (3 : Int32))))), .val (.int v104), .val (.int v108), .unset, .unset, .unset, .unset, .unset] [(.int q0)])) t
    refine XS.bipush X102.here hx rfl (hb hby at_50) ?_
    show Steps p.tables e below (T102.setTop (mkF m 52 #[.val (.int q0), .val (.int q1), .val (.int q2), .val (.int q3), .val (.int q4), .val (.long q5), .second, .val (.int ((1 : Int32) + (q0 &&& (3 : Int32)))), .val (.int (own_f1 (((q0.toUInt32 >>> ((2 : Int32) &&& 31).toUInt32).toInt32) &&& (3 : Int32)) ((1 : Int32) + (q0 &&& (3 : Int32))))), .val (.int v104), .val (.int v108), .unset, .unset, .unset, .unset, .unset] [(.int (6 : Int32)), (.int q0)])) t
    refine XS.iushr X102.here hx rfl (hb hby at_52) rfl ?_
    show Steps p.tables e below (T102.setTop (mkF m 53 #[.val (.int q0), .val (.int q1), .val (.int q2), .val (.int q3), .val (.int q4), .val (.long q5), .second, .val (.int ((1 : Int32) + (q0 &&& (3 : Int32)))), .val (.int (own_f1 (((q0.toUInt32 >>> ((2 : Int32) &&& 31).toUInt32).toInt32) &&& (3 : Int32)) ((1 : Int32) + (q0 &&& (3 : Int32))))), .val (.int v104), .val (.int v108), .unset, .unset, .unset, .unset, .unset] [(.int ((q0.toUInt32 >>> ((6 : Int32) &&& 31).toUInt32).toInt32))])) t
    refine XS.iconst X102.here hx rfl (hb hby at_53) ?_
    show Steps p.tables e below (T102.setTop (mkF m 54 #[.val (.int q0), .val (.int q1), .val (.int q2), .val (.int q3), .val (.int q4), .val (.long q5), .second, .val (.int ((1 : Int32) + (q0 &&& (3 : Int32)))), .val (.int (own_f1 (((q0.toUInt32 >>> ((2 : Int32) &&& 31).toUInt32).toInt32) &&& (3 : Int32)) ((1 : Int32) + (q0 &&& (3 : Int32))))), .val (.int v104), .val (.int v108), .unset, .unset, .unset, .unset, .unset] [(.int (1 : Int32)), (.int ((q0.toUInt32 >>> ((6 : Int32) &&& 31).toUInt32).toInt32))])) t
    refine XS.iand X102.here hx rfl (hb hby at_54) rfl ?_
    exact k
  refine OFin.go sg113 ?_
  obtain ⟨v112, e_v112⟩ : ∃ z : Int32, z = (if (((q0.toUInt32 >>> ((6 : Int32) &&& 31).toUInt32).toInt32) &&& (1 : Int32)) = (0 : Int32) then (0 : Int32) else (1 : Int32)) := ⟨_, rfl⟩
  have sg114 : ∀ t, Steps p.tables e below (T102.setTop (mkF m 63 #[.val (.int q0), .val (.int q1), .val (.int q2), .val (.int q3), .val (.int q4), .val (.long q5), .second, .val (.int ((1 : Int32) + (q0 &&& (3 : Int32)))), .val (.int (own_f1 (((q0.toUInt32 >>> ((2 : Int32) &&& 31).toUInt32).toInt32) &&& (3 : Int32)) ((1 : Int32) + (q0 &&& (3 : Int32))))), .val (.int v104), .val (.int v108), .unset, .unset, .unset, .unset, .unset] [(.int v112)])) t → Steps p.tables e below (T102.setTop (mkF m 55 #[.val (.int q0), .val (.int q1), .val (.int q2), .val (.int q3), .val (.int q4), .val (.long q5), .second, .val (.int ((1 : Int32) + (q0 &&& (3 : Int32)))), .val (.int (own_f1 (((q0.toUInt32 >>> ((2 : Int32) &&& 31).toUInt32).toInt32) &&& (3 : Int32)) ((1 : Int32) + (q0 &&& (3 : Int32))))), .val (.int v104), .val (.int v108), .unset, .unset, .unset, .unset, .unset] [(.int (((q0.toUInt32 >>> ((6 : Int32) &&& 31).toUInt32).toInt32) &&& (1 : Int32)))])) t := by
    intro t k
    by_cases c111 : (((q0.toUInt32 >>> ((6 : Int32) &&& 31).toUInt32).toInt32) &&& (1 : Int32)) = (0 : Int32)
    · show Steps p.tables e below (T102.setTop (mkF m 55 #[.val (.int q0), .val (.int q1), .val (.int q2), .val (.int q3), .val (.int q4), .val (.long q5), .second, .val (.int ((1 : Int32) + (q0 &&& (3 : Int32)))), .val (.int (own_f1 (((q0.toUInt32 >>> ((2 : Int32) &&& 31).toUInt32).toInt32) &&& (3 : Int32)) ((1 : Int32) + (q0 &&& (3 : Int32))))), .val (.int v104), .val (.int v108), .unset, .unset, .unset, .unset, .unset] [(.int (((q0.toUInt32 >>> ((6 : Int32) &&& 31).toUInt32).toInt32) &&& (1 : Int32)))])) t
      refine XS.ifYes X102.here hx rfl (pc0 := 55) (pc' := 62) rfl (hb hby at_55) rfl ((if0 _ _).trans (teq c111).1) (by decide) (by decide) ?_
      show Steps p.tables e below (T102.setTop (mkF m 62 #[.val (.int q0), .val (.int q1), .val (.int q2), .val (.int q3), .val (.int q4), .val (.long q5), .second, .val (.int ((1 : Int32) + (q0 &&& (3 : Int32)))), .val (.int (own_f1 (((q0.toUInt32 >>> ((2 : Int32) &&& 31).toUInt32).toInt32) &&& (3 : Int32)) ((1 : Int32) + (q0 &&& (3 : Int32))))), .val (.int v104), .val (.int v108), .unset, .unset, .unset, .unset, .unset] [])) t
      refine XS.iconst X102.here hx rfl (hb hby at_62) ?_
      have e_v112' := e_v112
      try rw [if_pos c111] at e_v112'
      subst e_v112'
      exact k
    · show Steps p.tables e below (T102.setTop (mkF m 55 #[.val (.int q0), .val (.int q1), .val (.int q2), .val (.int q3), .val (.int q4), .val (.long q5), .second, .val (.int ((1 : Int32) + (q0 &&& (3 : Int32)))), .val (.int (own_f1 (((q0.toUInt32 >>> ((2 : Int32) &&& 31).toUInt32).toInt32) &&& (3 : Int32)) ((1 : Int32) + (q0 &&& (3 : Int32))))), .val (.int v104), .val (.int v108), .unset, .unset, .unset, .unset, .unset] [(.int (((q0.toUInt32 >>> ((6 : Int32) &&& 31).toUInt32).toInt32) &&& (1 : Int32)))])) t
      refine XS.ifNo X102.here hx rfl (hb hby at_55) rfl ((if0 _ _).trans (feq c111).1) ?_
      show Steps p.tables e below (T102.setTop (mkF m 58 #[.val (.int q0), .val (.int q1), .val (.int q2), .val (.int q3), .val (.int q4), .val (.long q5), .second, .val (.int ((1 : Int32) + (q0 &&& (3 : Int32)))), .val (.int (own_f1 (((q0.toUInt32 >>> ((2 : Int32) &&& 31).toUInt32).toInt32) &&& (3 : Int32)) ((1 : Int32) + (q0 &&& (3 : Int32))))), .val (.int v104), .val (.int v108), .unset, .unset, .unset, .unset, .unset] [])) t
      refine XS.iconst X102.here hx rfl (hb hby at_58) ?_
      show Steps p.tables e below (T102.setTop (mkF m 59 #[.val (.int q0), .val (.int q1), .val (.int q2), .val (.int q3), .val (.int q4), .val (.long q5), .second, .val (.int ((1 : Int32) + (q0 &&& (3 : Int32)))), .val (.int (own_f1 (((q0.toUInt32 >>> ((2 : Int32) &&& 31).toUInt32).toInt32) &&& (3 : Int32)) ((1 : Int32) + (q0 &&& (3 : Int32))))), .val (.int v104), .val (.int v108), .unset, .unset, .unset, .unset, .unset] [(.int (1 : Int32))])) t
      refine XS.goto X102.here hx rfl (pc0 := 59) (pc' := 63) rfl (hb hby at_59) (by decide) (by decide) ?_
      have e_v112' := e_v112
      try rw [if_neg c111] at e_v112'
      subst e_v112'
      exact k
  refine OFin.go sg114 ?_
  have sg115 : ∀ t, Steps p.tables e below (T102.setTop (mkF m 66 #[.val (.int q0), .val (.int q1), .val (.int q2), .val (.int q3), .val (.int q4), .val (.long q5), .second, .val (.int ((1 : Int32) + (q0 &&& (3 : Int32)))), .val (.int (own_f1 (((q0.toUInt32 >>> ((2 : Int32) &&& 31).toUInt32).toInt32) &&& (3 : Int32)) ((1 : Int32) + (q0 &&& (3 : Int32))))), .val (.int v104), .val (.int v108), .val (.int v112), .unset, .unset, .unset, .unset] [(.int (4 : Int32))])) t → Steps p.tables e below (T102.setTop (mkF m 63 #[.val (.int q0), .val (.int q1), .val (.int q2), .val (.int q3), .val (.int q4), .val (.long q5), .second, .val (.int ((1 : Int32) + (q0 &&& (3 : Int32)))), .val (.int (own_f1 (((q0.toUInt32 >>> ((2 : Int32) &&& 31).toUInt32).toInt32) &&& (3 : Int32)) ((1 : Int32) + (q0 &&& (3 : Int32))))), .val (.int v104), .val (.int v108), .unset, .unset, .unset, .unset, .unset] [(.int v112)])) t := by
    intro t k
    show Steps p.tables e below (T102.setTop (mkF m 63 #[.val (.int q0), .val (.int q1), .val (.int q2), .val (.int q3), .val (.int q4), .val (.long q5), .second, .val (.int ((1 : Int32) + (q0 &&& (3 : Int32)))), .val (.int (own_f1 (((q0.toUInt32 >>> ((2 : Int32) &&& 31).toUInt32).toInt32) &&& (3 : Int32)) ((1 : Int32) + (q0 &&& (3 : Int32))))), .val (.int v104), .val (.int v108), .unset, .unset, .unset, .unset, .unset] [(.int v112)])) t
    refine XS.istore X102.here hx rfl (hb hby at_63) rfl (l' := #[.val (.int q0), .val (.int q1), .val (.int q2), .val (.int q3), .val (.int q4), .val (.long q5), .second, .val (.int ((1 : Int32) + (q0 &&& (3 : Int32)))), .val (.int (own_f1 (((q0.toUInt32 >>> ((2 : Int32) &&& 31).toUInt32).toInt32) &&& (3 : Int32)) ((1 : Int32) + (q0 &&& (3 : Int32))))), .val (.int v104), .val (.int v108), .val (.int v112), .unset, .unset, .unset, .unset]) rfl ?_
    show Steps p.tables e below (T102.setTop (mkF m 65 #[.val (.int q0), .val (.int q1), .val (.int q2), .val (.int q3), .val (.int q4), .val (.long q5), .second, .val (.int ((1 : Int32) + (q0 &&& (3 : Int32)))), .val (.int (own_f1 (((q0.toUInt32 >>> ((2 : Int32) &&& 31).toUInt32).toInt32) &&& (3 : Int32)) ((1 : Int32) + (q0 &&& (3 : Int32))))), .val (.int v104), .val (.int v108), .val (.int v112), .unset, .unset, .unset, .unset] [])) t
    refine XS.iconst X102.here hx rfl (hb hby at_65) ?_
    exact k
  refine OFin.go sg115 ?_
  obtain ⟨T116, h116, k116, X116, e116, E116, A116, st116⟩ := newP X102 hx hZ (hw _ (List.mem_of_getElem? (i := 4) rfl)) e102 (g := (mkF m 66 #[.val (.int q0), .val (.int q1), .val (.int q2), .val (.int q3), .val (.int q4), .val (.long q5), .second, .val (.int ((1 : Int32) + (q0 &&& (3 : Int32)))), .val (.int (own_f1 (((q0.toUInt32 >>> ((2 : Int32) &&& 31).toUInt32).toInt32) &&& (3 : Int32)) ((1 : Int32) + (q0 &&& (3 : Int32))))), .val (.int v104), .val (.int v108), .val (.int v112), .unset, .unset, .unset, .unset] [(.int (4 : Int32))])) rfl (hb hby at_66) rfl (by decide) (cap := 4) (by decide) (by decide) (by decide) (by decide)
  obtain ⟨b116, g116⟩ : ∃ z, z = h0.size := ⟨_, rfl⟩
  rw [← g116] at A116 st116
  refine OFin.go st116 ?_
  have g_b116 : n0 ≤ b116 := Nat.le_trans (Nat.le_trans Z0 K0.1) (Nat.le_of_eq g116.symm)
  have sz_b116 : h0.size ≤ b116 := Nat.le_trans K0.1 (Nat.le_of_eq g116.symm)
  have K116 : Keep h0 h116 [] := K0.ext E116
  have V116 : Arv Z h116 b116 k116 .byte (4 : Int32) [(.int (0 : Int32)), (.int (0 : Int32)), (.int (0 : Int32)), (.int (0 : Int32))] (.int (0 : Int32)) := (Arv.new A116 (by decide)).pad (pad_rep [] (.int (0 : Int32)) 4)
  have sg117 : ∀ t, Steps p.tables e below (T116.setTop (mkF m 70 #[.val (.int q0), .val (.int q1), .val (.int q2), .val (.int q3), .val (.int q4), .val (.long q5), .second, .val (.int ((1 : Int32) + (q0 &&& (3 : Int32)))), .val (.int (own_f1 (((q0.toUInt32 >>> ((2 : Int32) &&& 31).toUInt32).toInt32) &&& (3 : Int32)) ((1 : Int32) + (q0 &&& (3 : Int32))))), .val (.int v104), .val (.int v108), .val (.int v112), .val (.ref b116), .unset, .unset, .unset] [])) t → Steps p.tables e below (T116.setTop (mkF m 68 #[.val (.int q0), .val (.int q1), .val (.int q2), .val (.int q3), .val (.int q4), .val (.long q5), .second, .val (.int ((1 : Int32) + (q0 &&& (3 : Int32)))), .val (.int (own_f1 (((q0.toUInt32 >>> ((2 : Int32) &&& 31).toUInt32).toInt32) &&& (3 : Int32)) ((1 : Int32) + (q0 &&& (3 : Int32))))), .val (.int v104), .val (.int v108), .val (.int v112), .unset, .unset, .unset, .unset] [(.ref b116)])) t := by
    intro t k
    show Steps p.tables e below (T116.setTop (mkF m 68 #[.val (.int q0), .val (.int q1), .val (.int q2), .val (.int q3), .val (.int q4), .val (.long q5), .second, .val (.int ((1 : Int32) + (q0 &&& (3 : Int32)))), .val (.int (own_f1 (((q0.toUInt32 >>> ((2 : Int32) &&& 31).toUInt32).toInt32) &&& (3 : Int32)) ((1 : Int32) + (q0 &&& (3 : Int32))))), .val (.int v104), .val (.int v108), .val (.int v112), .unset, .unset, .unset, .unset] [(.ref b116)])) t
    refine XS.astore X116.here hx rfl (hb hby at_68) rfl rfl (l' := #[.val (.int q0), .val (.int q1), .val (.int q2), .val (.int q3), .val (.int q4), .val (.long q5), .second, .val (.int ((1 : Int32) + (q0 &&& (3 : Int32)))), .val (.int (own_f1 (((q0.toUInt32 >>> ((2 : Int32) &&& 31).toUInt32).toInt32) &&& (3 : Int32)) ((1 : Int32) + (q0 &&& (3 : Int32))))), .val (.int v104), .val (.int v108), .val (.int v112), .val (.ref b116), .unset, .unset, .unset]) rfl ?_
    exact k
  refine OFin.go sg117 ?_
  obtain ⟨T118, h118, X118, e118, E118, A118, D118, -, st118⟩ := newO X116 hx hZ hown (hw _ (List.mem_of_getElem? (i := 5) rfl)) (hw _ (List.mem_of_getElem? (i := 6) rfl)) (hw _ (List.mem_of_getElem? (i := 7) rfl)) e116 (g := (mkF m 70 #[.val (.int q0), .val (.int q1), .val (.int q2), .val (.int q3), .val (.int q4), .val (.long q5), .second, .val (.int ((1 : Int32) + (q0 &&& (3 : Int32)))), .val (.int (own_f1 (((q0.toUInt32 >>> ((2 : Int32) &&& 31).toUInt32).toInt32) &&& (3 : Int32)) ((1 : Int32) + (q0 &&& (3 : Int32))))), .val (.int v104), .val (.int v108), .val (.int v112), .val (.ref b116), .unset, .unset, .unset] [])) rfl (hb hby at_70) (by decide) (by decide)
  obtain ⟨b118, g118⟩ : ∃ z, z = h116.size := ⟨_, rfl⟩
  rw [← g118] at A118 D118 st118
  refine OFin.go st118 ?_
  have g_b118 : n0 ≤ b118 := Nat.le_trans (Nat.le_trans Z0 K116.1) (Nat.le_of_eq g118.symm)
  have sz_b118 : h0.size ≤ b118 := Nat.le_trans K116.1 (Nat.le_of_eq g118.symm)
  have K118 : Keep h0 h118 [] := K116.ext E118
  have F118_capacity : Fld Z h118 b118 "com/example/rida/rida/io/LineBlock" "capacity" "I" (.int (0 : Int32)) := D118 (Or.inr (hw _ (List.mem_of_getElem? (i := 15) rfl))) (ty := .int) (by decide)
  have F118_maxLines : Fld Z h118 b118 "com/example/rida/rida/io/LineBlock" "maxLines" "I" (.int (0 : Int32)) := D118 (Or.inr (hw _ (List.mem_of_getElem? (i := 17) rfl))) (ty := .int) (by decide)
  have F118_bytes : Fld Z h118 b118 "com/example/rida/rida/io/LineBlock" "bytes" "[B" .null := D118 (Or.inl (hw _ (List.mem_of_getElem? (i := 20) rfl))) (ty := (.array .byte)) (by decide)
  have F118_ends : Fld Z h118 b118 "com/example/rida/rida/io/LineBlock" "ends" "[I" .null := D118 (Or.inl (hw _ (List.mem_of_getElem? (i := 23) rfl))) (ty := (.array .int)) (by decide)
  have F118_count : Fld Z h118 b118 "com/example/rida/rida/io/LineBlock" "count" "I" (.int (0 : Int32)) := D118 (Or.inl (hw _ (List.mem_of_getElem? (i := 30) rfl))) (ty := .int) (by decide)
  have F118_origin : Fld Z h118 b118 "com/example/rida/rida/io/LineBlock" "origin" "I" (.int (0 : Int32)) := D118 (Or.inl (hw _ (List.mem_of_getElem? (i := 42) rfl))) (ty := .int) (by decide)
  have F118_firstNumber : Fld Z h118 b118 "com/example/rida/rida/io/LineBlock" "firstNumber" "J" (.long (0 : Int64)) := D118 (Or.inl (hw _ (List.mem_of_getElem? (i := 49) rfl))) (ty := .long) (by decide)
  have F118_sees : Fld Z h118 b118 "com/example/rida/rida/io/LineBlock" "sees" "Z" (.int (0 : Int32)) := D118 (Or.inl (hw _ (List.mem_of_getElem? (i := 56) rfl))) (ty := .boolean) (by decide)
  have sg119 : ∀ t, Steps p.tables e below (T118.setTop (mkF m 78 #[.val (.int q0), .val (.int q1), .val (.int q2), .val (.int q3), .val (.int q4), .val (.long q5), .second, .val (.int ((1 : Int32) + (q0 &&& (3 : Int32)))), .val (.int (own_f1 (((q0.toUInt32 >>> ((2 : Int32) &&& 31).toUInt32).toInt32) &&& (3 : Int32)) ((1 : Int32) + (q0 &&& (3 : Int32))))), .val (.int v104), .val (.int v108), .val (.int v112), .val (.ref b116), .unset, .unset, .unset] [(.int ((1 : Int32) + (q0 &&& (3 : Int32)))), (.int (16 : Int32)), (.ref b118), (.ref b118)])) t → Steps p.tables e below (T118.setTop (mkF m 73 #[.val (.int q0), .val (.int q1), .val (.int q2), .val (.int q3), .val (.int q4), .val (.long q5), .second, .val (.int ((1 : Int32) + (q0 &&& (3 : Int32)))), .val (.int (own_f1 (((q0.toUInt32 >>> ((2 : Int32) &&& 31).toUInt32).toInt32) &&& (3 : Int32)) ((1 : Int32) + (q0 &&& (3 : Int32))))), .val (.int v104), .val (.int v108), .val (.int v112), .val (.ref b116), .unset, .unset, .unset] [(.ref b118)])) t := by
    intro t k
    show Steps p.tables e below (T118.setTop (mkF m 73 #[.val (.int q0), .val (.int q1), .val (.int q2), .val (.int q3), .val (.int q4), .val (.long q5), .second, .val (.int ((1 : Int32) + (q0 &&& (3 : Int32)))), .val (.int (own_f1 (((q0.toUInt32 >>> ((2 : Int32) &&& 31).toUInt32).toInt32) &&& (3 : Int32)) ((1 : Int32) + (q0 &&& (3 : Int32))))), .val (.int v104), .val (.int v108), .val (.int v112), .val (.ref b116), .unset, .unset, .unset] [(.ref b118)])) t
    refine XS.dup X118.here hx rfl (hb hby at_73) rfl rfl ?_
    show Steps p.tables e below (T118.setTop (mkF m 74 #[.val (.int q0), .val (.int q1), .val (.int q2), .val (.int q3), .val (.int q4), .val (.long q5), .second, .val (.int ((1 : Int32) + (q0 &&& (3 : Int32)))), .val (.int (own_f1 (((q0.toUInt32 >>> ((2 : Int32) &&& 31).toUInt32).toInt32) &&& (3 : Int32)) ((1 : Int32) + (q0 &&& (3 : Int32))))), .val (.int v104), .val (.int v108), .val (.int v112), .val (.ref b116), .unset, .unset, .unset] [(.ref b118), (.ref b118)])) t
    refine XS.bipush X118.here hx rfl (hb hby at_74) ?_
    show Steps p.tables e below (T118.setTop (mkF m 76 #[.val (.int q0), .val (.int q1), .val (.int q2), .val (.int q3), .val (.int q4), .val (.long q5), .second, .val (.int ((1 : Int32) + (q0 &&& (3 : Int32)))), .val (.int (own_f1 (((q0.toUInt32 >>> ((2 : Int32) &&& 31).toUInt32).toInt32) &&& (3 : Int32)) ((1 : Int32) + (q0 &&& (3 : Int32))))), .val (.int v104), .val (.int v108), .val (.int v112), .val (.ref b116), .unset, .unset, .unset] [(.int (16 : Int32)), (.ref b118), (.ref b118)])) t
    refine XS.iload X118.here hx rfl (hb hby at_76) rfl ?_
    exact k
  refine OFin.go sg119 ?_
  obtain ⟨_, _, ⟨T120, L120, k120, n120⟩, -, X120, ⟨Lc120, hQ120, l120, y120, z120⟩, st120⟩ := X118.specialBack hx (y := (⟨"com/example/rida/rida/io/LineBlock", "<init>", "(II)V"⟩ : MethodName)) rfl hown (mvT hZ (hw _ (List.mem_of_getElem? (i := 8) rfl))) (mvT hZ (hw _ (List.mem_of_getElem? (i := 9) rfl))) (mvT hZ (hw _ (List.mem_of_getElem? (i := 10) rfl))) (by decide) (backOf (W := 1) (rm2 l Z aZ hw [] b118 (16 : Int32) ((1 : Int32) + (q0 &&& (3 : Int32))) h118 n0 (Nat.le_trans Z0 K118.1) A118 F118_capacity F118_maxLines F118_bytes F118_ends F118_count F118_origin F118_firstNumber F118_sees rfl (own_ml _).1 (own_ml _).2 g_b118) hZ (hw _ (List.mem_of_getElem? (i := 10) rfl)) (hw _ (List.mem_of_getElem? (i := 7) rfl)) (by decide) (by decide)) (g := (mkF m 78 #[.val (.int q0), .val (.int q1), .val (.int q2), .val (.int q3), .val (.int q4), .val (.long q5), .second, .val (.int ((1 : Int32) + (q0 &&& (3 : Int32)))), .val (.int (own_f1 (((q0.toUInt32 >>> ((2 : Int32) &&& 31).toUInt32).toInt32) &&& (3 : Int32)) ((1 : Int32) + (q0 &&& (3 : Int32))))), .val (.int v104), .val (.int v108), .val (.int v112), .val (.ref b116), .unset, .unset, .unset] [(.int ((1 : Int32) + (q0 &&& (3 : Int32)))), (.int (16 : Int32)), (.ref b118), (.ref b118)])) rfl (by rw [hml]; rfl) (Steps.refl _) (a := b118) (argsL := [(.int (16 : Int32)), (.int ((1 : Int32) + (q0 &&& (3 : Int32))))]) (rest := [(.ref b118)]) (lenOf pd_5 rfl) rfl (by show 2 * 0 + _ ≤ _; exact Nat.le_of_eq rfl) (hb hby at_78) (fun _ _ => ⟨rfl, e118, (by decide : 2 + 2 ≤ _), (by decide : 12 + 20 ≤ _)⟩)
  dsimp only [Pt.U, Pt.locs, Pt.cells, Pt.slots] at X120 l120 y120 z120 st120 hQ120
  subst l120 y120 z120
  obtain ⟨bv120, t9120, k9120, rfl, N120q, Kq120, P120_0, P120_1, P120_2, P120_3, P120_4, P120_5, P120_6, R120_0⟩ := hQ120
  have N120 := Fr.app N102 N120q
  refine OFin.tr st120 ?_
  have K120 : Keep h0 T120.heap [] := K118.trans Kq120 (allS (Or.inr sz_b118) all0)
  have g_t9120 : n0 ≤ t9120 := Nat.le_trans (Nat.le_trans Z0 K118.1) R120_0
  have sz_t9120 : h0.size ≤ t9120 := Nat.le_trans K118.1 R120_0
  have sg122 : ∀ t, Steps p.tables e below (T120.setTop (mkF m 85 #[.val (.int q0), .val (.int q1), .val (.int q2), .val (.int q3), .val (.int q4), .val (.long q5), .second, .val (.int ((1 : Int32) + (q0 &&& (3 : Int32)))), .val (.int (own_f1 (((q0.toUInt32 >>> ((2 : Int32) &&& 31).toUInt32).toInt32) &&& (3 : Int32)) ((1 : Int32) + (q0 &&& (3 : Int32))))), .val (.int v104), .val (.int v108), .val (.int v112), .val (.ref b116), .val (.ref b118), .unset, .unset] [(.int v104)])) t → Steps p.tables e below (T120.setTop (mkF m 81 #[.val (.int q0), .val (.int q1), .val (.int q2), .val (.int q3), .val (.int q4), .val (.long q5), .second, .val (.int ((1 : Int32) + (q0 &&& (3 : Int32)))), .val (.int (own_f1 (((q0.toUInt32 >>> ((2 : Int32) &&& 31).toUInt32).toInt32) &&& (3 : Int32)) ((1 : Int32) + (q0 &&& (3 : Int32))))), .val (.int v104), .val (.int v108), .val (.int v112), .val (.ref b116), .unset, .unset, .unset] [(.ref b118)])) t := by
    intro t k
    show Steps p.tables e below (T120.setTop (mkF m 81 #[.val (.int q0), .val (.int q1), .val (.int q2), .val (.int q3), .val (.int q4), .val (.long q5), .second, .val (.int ((1 : Int32) + (q0 &&& (3 : Int32)))), .val (.int (own_f1 (((q0.toUInt32 >>> ((2 : Int32) &&& 31).toUInt32).toInt32) &&& (3 : Int32)) ((1 : Int32) + (q0 &&& (3 : Int32))))), .val (.int v104), .val (.int v108), .val (.int v112), .val (.ref b116), .unset, .unset, .unset] [(.ref b118)])) t
    refine XS.astore X120.here hx rfl (hb hby at_81) rfl rfl (l' := #[.val (.int q0), .val (.int q1), .val (.int q2), .val (.int q3), .val (.int q4), .val (.long q5), .second, .val (.int ((1 : Int32) + (q0 &&& (3 : Int32)))), .val (.int (own_f1 (((q0.toUInt32 >>> ((2 : Int32) &&& 31).toUInt32).toInt32) &&& (3 : Int32)) ((1 : Int32) + (q0 &&& (3 : Int32))))), .val (.int v104), .val (.int v108), .val (.int v112), .val (.ref b116), .val (.ref b118), .unset, .unset]) rfl ?_
    show Steps p.tables e below (T120.setTop (mkF m 83 #[.val (.int q0), .val (.int q1), .val (.int q2), .val (.int q3), .val (.int q4), .val (.long q5), .second, .val (.int ((1 : Int32) + (q0 &&& (3 : Int32)))), .val (.int (own_f1 (((q0.toUInt32 >>> ((2 : Int32) &&& 31).toUInt32).toInt32) &&& (3 : Int32)) ((1 : Int32) + (q0 &&& (3 : Int32))))), .val (.int v104), .val (.int v108), .val (.int v112), .val (.ref b116), .val (.ref b118), .unset, .unset] [])) t
    refine XS.iload X120.here hx rfl (hb hby at_83) rfl ?_
    exact k
  refine OFin.go sg122 ?_
  by_cases c123 : v104 = (0 : Int32)
  · have sg124 : ∀ t, Steps p.tables e below (T120.setTop (mkF m 96 #[.val (.int q0), .val (.int q1), .val (.int q2), .val (.int q3), .val (.int q4), .val (.long q5), .second, .val (.int ((1 : Int32) + (q0 &&& (3 : Int32)))), .val (.int (own_f1 (((q0.toUInt32 >>> ((2 : Int32) &&& 31).toUInt32).toInt32) &&& (3 : Int32)) ((1 : Int32) + (q0 &&& (3 : Int32))))), .val (.int v104), .val (.int v108), .val (.int v112), .val (.ref b116), .val (.ref b118), .unset, .unset] [])) t → Steps p.tables e below (T120.setTop (mkF m 85 #[.val (.int q0), .val (.int q1), .val (.int q2), .val (.int q3), .val (.int q4), .val (.long q5), .second, .val (.int ((1 : Int32) + (q0 &&& (3 : Int32)))), .val (.int (own_f1 (((q0.toUInt32 >>> ((2 : Int32) &&& 31).toUInt32).toInt32) &&& (3 : Int32)) ((1 : Int32) + (q0 &&& (3 : Int32))))), .val (.int v104), .val (.int v108), .val (.int v112), .val (.ref b116), .val (.ref b118), .unset, .unset] [(.int v104)])) t := by
      intro t k
      show Steps p.tables e below (T120.setTop (mkF m 85 #[.val (.int q0), .val (.int q1), .val (.int q2), .val (.int q3), .val (.int q4), .val (.long q5), .second, .val (.int ((1 : Int32) + (q0 &&& (3 : Int32)))), .val (.int (own_f1 (((q0.toUInt32 >>> ((2 : Int32) &&& 31).toUInt32).toInt32) &&& (3 : Int32)) ((1 : Int32) + (q0 &&& (3 : Int32))))), .val (.int v104), .val (.int v108), .val (.int v112), .val (.ref b116), .val (.ref b118), .unset, .unset] [(.int v104)])) t
      refine XS.ifYes X120.here hx rfl (pc0 := 85) (pc' := 96) rfl (hb hby at_85) rfl ((if0 _ _).trans (teq c123).1) (by decide) (by decide) ?_
      exact k
    refine OFin.go sg124 ?_
    exact pt0_96 Z aZ hw q0 q1 q2 q3 q4 q5 h0 n0 Z0  b118 b116 ((1 : Int32) + (q0 &&& (3 : Int32))) (own_f1 (((q0.toUInt32 >>> ((2 : Int32) &&& 31).toUInt32).toInt32) &&& (3 : Int32)) ((1 : Int32) + (q0 &&& (3 : Int32)))) v104 v108 v112 t9120 k9120 (List.replicate ((1 : Int32) + (q0 &&& (3 : Int32))).toNatClampNeg (.int (0 : Int32))) (0 : Int32) (.ref bv120) (.int (0 : Int32)) (.long (0 : Int64)) T120.heap X120 hx hZ hby hml hown hnm hret hlk rfl K120 N120 (((O0.ext E116).ext E118).keep Kq120 (allS g_b118 all0)) g_b118 sz_b118 g_t9120 sz_t9120 (Nat.ne_of_lt (Nat.lt_of_lt_of_le A118.lt R120_0)) (A118.keep Kq120) P120_0 P120_1 P120_2 P120_3 P120_4 P120_5 P120_6 (own_ml _).1 (own_ml _).2 (own_kk _ _ (own_ml _).1).1 (own_kk _ _ (own_ml _).1).2.1 (own_kk _ _ (own_ml _).1).2.2 List.length_replicate (if_pos c123).symm
  · have sg125 : ∀ t, Steps p.tables e below (T120.setTop (mkF m 93 #[.val (.int q0), .val (.int q1), .val (.int q2), .val (.int q3), .val (.int q4), .val (.long q5), .second, .val (.int ((1 : Int32) + (q0 &&& (3 : Int32)))), .val (.int (own_f1 (((q0.toUInt32 >>> ((2 : Int32) &&& 31).toUInt32).toInt32) &&& (3 : Int32)) ((1 : Int32) + (q0 &&& (3 : Int32))))), .val (.int v104), .val (.int v108), .val (.int v112), .val (.ref b116), .val (.ref b118), .unset, .unset] [(.int q1), (.ref b116), (.ref b118)])) t → Steps p.tables e below (T120.setTop (mkF m 85 #[.val (.int q0), .val (.int q1), .val (.int q2), .val (.int q3), .val (.int q4), .val (.long q5), .second, .val (.int ((1 : Int32) + (q0 &&& (3 : Int32)))), .val (.int (own_f1 (((q0.toUInt32 >>> ((2 : Int32) &&& 31).toUInt32).toInt32) &&& (3 : Int32)) ((1 : Int32) + (q0 &&& (3 : Int32))))), .val (.int v104), .val (.int v108), .val (.int v112), .val (.ref b116), .val (.ref b118), .unset, .unset] [(.int v104)])) t := by
      intro t k
      show Steps p.tables e below (T120.setTop (mkF m 85 #[.val (.int q0), .val (.int q1), .val (.int q2), .val (.int q3), .val (.int q4), .val (.long q5), .second, .val (.int ((1 : Int32) + (q0 &&& (3 : Int32)))), .val (.int (own_f1 (((q0.toUInt32 >>> ((2 : Int32) &&& 31).toUInt32).toInt32) &&& (3 : Int32)) ((1 : Int32) + (q0 &&& (3 : Int32))))), .val (.int v104), .val (.int v108), .val (.int v112), .val (.ref b116), .val (.ref b118), .unset, .unset] [(.int v104)])) t
      refine XS.ifNo X120.here hx rfl (hb hby at_85) rfl ((if0 _ _).trans (feq c123).1) ?_
      show Steps p.tables e below (T120.setTop (mkF m 88 #[.val (.int q0), .val (.int q1), .val (.int q2), .val (.int q3), .val (.int q4), .val (.long q5), .second, .val (.int ((1 : Int32) + (q0 &&& (3 : Int32)))), .val (.int (own_f1 (((q0.toUInt32 >>> ((2 : Int32) &&& 31).toUInt32).toInt32) &&& (3 : Int32)) ((1 : Int32) + (q0 &&& (3 : Int32))))), .val (.int v104), .val (.int v108), .val (.int v112), .val (.ref b116), .val (.ref b118), .unset, .unset] [])) t
      refine XS.aload X120.here hx rfl (hb hby at_88) rfl rfl ?_
      show Steps p.tables e below (T120.setTop (mkF m 90 #[.val (.int q0), .val (.int q1), .val (.int q2), .val (.int q3), .val (.int q4), .val (.long q5), .second, .val (.int ((1 : Int32) + (q0 &&& (3 : Int32)))), .val (.int (own_f1 (((q0.toUInt32 >>> ((2 : Int32) &&& 31).toUInt32).toInt32) &&& (3 : Int32)) ((1 : Int32) + (q0 &&& (3 : Int32))))), .val (.int v104), .val (.int v108), .val (.int v112), .val (.ref b116), .val (.ref b118), .unset, .unset] [(.ref b118)])) t
      refine XS.aload X120.here hx rfl (hb hby at_90) rfl rfl ?_
      show Steps p.tables e below (T120.setTop (mkF m 92 #[.val (.int q0), .val (.int q1), .val (.int q2), .val (.int q3), .val (.int q4), .val (.long q5), .second, .val (.int ((1 : Int32) + (q0 &&& (3 : Int32)))), .val (.int (own_f1 (((q0.toUInt32 >>> ((2 : Int32) &&& 31).toUInt32).toInt32) &&& (3 : Int32)) ((1 : Int32) + (q0 &&& (3 : Int32))))), .val (.int v104), .val (.int v108), .val (.int v112), .val (.ref b116), .val (.ref b118), .unset, .unset] [(.ref b116), (.ref b118)])) t
      refine XS.iloadN X120.here hx rfl (hb hby at_92) rfl ?_
      exact k
    refine OFin.go sg125 ?_
    obtain ⟨cq126, kq126, q126a, q126b, q126c⟩ := isOf hZ rfl (A118.keep Kq120)
    obtain ⟨_, _, ⟨T126, L126, k126, n126⟩, -, X126, ⟨Lc126, hQ126, l126, y126, z126⟩, st126⟩ := X120.virtualBack hx (y := (⟨"com/example/rida/rida/io/LineBlock", "see", "([BI)V"⟩ : MethodName)) (z := (⟨"com/example/rida/rida/io/LineBlock", "see", "([BI)V"⟩ : MethodName)) hown (mvT hZ (hw _ (List.mem_of_getElem? (i := 50) rfl))) (mvT hZ (hw _ (List.mem_of_getElem? (i := 51) rfl))) (notFace_of_selects (args := #[]) (mvT hZ (hw _ (List.mem_of_getElem? (i := 53) rfl)))) (mvT hZ (hw _ (List.mem_of_getElem? (i := 53) rfl))) (mvT hZ (hw _ (List.mem_of_getElem? (i := 52) rfl))) (by decide) (backOf (W := 0) (rm8 l Z aZ hw [] b118 b116 q1 t9120 k9120 ((1 : Int32) + (q0 &&& (3 : Int32))) (List.replicate ((1 : Int32) + (q0 &&& (3 : Int32))).toNatClampNeg (.int (0 : Int32))) (0 : Int32) (0 : Int32) (.ref bv120) (.int (0 : Int32)) (.long (0 : Int64)) T120.heap n0 (Nat.le_trans Z0 K120.1) (A118.keep Kq120) P120_0 P120_1 P120_2 P120_3 P120_4 P120_5 P120_6 (Nat.ne_of_lt (Nat.lt_of_lt_of_le A118.lt R120_0)) g_b118) hZ (hw _ (List.mem_of_getElem? (i := 54) rfl)) (hw _ (List.mem_of_getElem? (i := 7) rfl)) (by decide) (by decide)) q126a q126c (g := (mkF m 93 #[.val (.int q0), .val (.int q1), .val (.int q2), .val (.int q3), .val (.int q4), .val (.long q5), .second, .val (.int ((1 : Int32) + (q0 &&& (3 : Int32)))), .val (.int (own_f1 (((q0.toUInt32 >>> ((2 : Int32) &&& 31).toUInt32).toInt32) &&& (3 : Int32)) ((1 : Int32) + (q0 &&& (3 : Int32))))), .val (.int v104), .val (.int v108), .val (.int v112), .val (.ref b116), .val (.ref b118), .unset, .unset] [(.int q1), (.ref b116), (.ref b118)])) rfl (by rw [hml]; rfl) (Steps.refl _) (argsL := [(.ref b116), (.int q1)]) (rest := []) (lenOf pd_3 rfl) rfl (by show 2 * 0 + _ ≤ _; exact Nat.le_of_eq rfl) (hb hby at_93) (fun _ _ => ⟨rfl, rfl, (by decide : 4 + 0 ≤ _), (by decide : 32 + 0 ≤ _)⟩)
    dsimp only [Pt.U, Pt.locs, Pt.cells, Pt.slots] at X126 l126 y126 z126 st126 hQ126
    subst l126 y126 z126
    obtain ⟨rfl, N126q, Kq126, P126_0, P126_1, P126_2, P126_3, P126_4, P126_5⟩ := hQ126
    have N126 := Fr.app N120 N126q
    refine OFin.tr st126 ?_
    have K126 : Keep h0 T126.heap [] := K120.trans Kq126 (allS (Or.inr sz_b118) all0)
    exact pt0_96 Z aZ hw q0 q1 q2 q3 q4 q5 h0 n0 Z0  b118 b116 ((1 : Int32) + (q0 &&& (3 : Int32))) (own_f1 (((q0.toUInt32 >>> ((2 : Int32) &&& 31).toUInt32).toInt32) &&& (3 : Int32)) ((1 : Int32) + (q0 &&& (3 : Int32)))) v104 v108 v112 t9120 k9120 (List.replicate ((1 : Int32) + (q0 &&& (3 : Int32))).toNatClampNeg (.int (0 : Int32))) q1 (.ref b116) (.int (1 : Int32)) (.long (0 : Int64)) T126.heap X126 hx hZ hby hml hown hnm hret hlk rfl K126 N126 ((((O0.ext E116).ext E118).keep Kq120 (allS g_b118 all0)).keep Kq126 (allS g_b118 all0)) g_b118 sz_b118 g_t9120 sz_t9120 (Nat.ne_of_lt (Nat.lt_of_lt_of_le A118.lt R120_0)) ((A118.keep Kq120).keep Kq126) P126_0 P126_1 P126_2 P126_3 P126_4 P126_5 (P120_6.keep Kq126 (ninS (Ne.symm (Nat.ne_of_lt (Nat.lt_of_lt_of_le A118.lt R120_0))) nin0)) (own_ml _).1 (own_ml _).2 (own_kk _ _ (own_ml _).1).1 (own_kk _ _ (own_ml _).1).2.1 (own_kk _ _ (own_ml _).1).2.2 List.length_replicate (if_neg c123).symm
set_option maxHeartbeats 40000000 in
theorem comes_1 {Post : Tables → Env → Array Value → State → Outcome → State → Prop} (hpost : ∀ tb e args s v u, (limb_1_1.after args s (.returned v) u = true ∧ limb_1_2.after args s (.returned v) u = true ∧ True) → FrameEnd s (.returned v) u (Jvm.fieldLocs frame_1_writes args s ++ Jvm.arrayLocs frame_1_arrays args s ++ Jvm.staticLocs frame_1_statics s) 16 128 → Post tb e args s (.returned v) u) :
    ArmFor flags0 classFile x code maxLocals ret World_1 tables_1 room_1 Calls_1 rest_1 Pre_1 Post := by
  intro l hfl _ _ p e ha hc hk s m args below hf hA hF happ hP
  obtain ⟨hcalls, hrest, hpre⟩ := hP
  obtain ⟨-, -, -, hnamed, -, -, -, hat⟩ := (Spec.applies_iff hf).mp happ
  obtain ⟨hg, hn⟩ := and_e (Cond.before_iff.mp (show (Jvm.Cond.and given_1 narrow_1).before args s = true from hpre))
  obtain ⟨gg1, gg2⟩ := and_e hg
  obtain ⟨gg3, gg4⟩ := and_e gg2
  obtain ⟨gg5, gg6⟩ := and_e gg4
  obtain ⟨gg7, gg8⟩ := and_e gg6
  obtain ⟨gg9, gg10⟩ := and_e gg8
  obtain ⟨gg11, gg12⟩ := and_e gg10
  obtain ⟨w0, w1, w2, w3, w4, w5, rfl⟩ : ∃ w0 w1 w2 w3 w4 w5 : Value, args = #[w0, w1, w2, w3, w4, w5] := by
    have hs : args.size = 6 := by simpa [Cond.value, given_1] using gg1
    obtain ⟨L⟩ := args
    match L, hs with
    | [w0, w1, w2, w3, w4, w5], _ => exact ⟨w0, w1, w2, w3, w4, w5, rfl⟩
  have hw := fun d (hd : d ∈ tables_1) => atoms_spec (ws := Jvm.Cond.code x code maxLocals ret :: tables_1) hat d (List.mem_cons_of_mem _ hd)
  have hfit : Fit s := fun {y c} hc i hi => by
    obtain ⟨ha, rfl⟩ := Array.getElem?_eq_some_iff.mp hc
    have q := List.all_eq_true.mp ((Array.all_eq_true_iff_forall_mem.mp hF) _ (Array.getElem_mem ha)) i (List.mem_range.mpr hi)
    simpa [Array.getElem?_eq_getElem hi] using q
  obtain ⟨i0, ei0⟩ := is_v gg3
  obtain rfl : w0 = (.int i0) := Option.some.inj ei0
  obtain ⟨i1, ei1⟩ := is_v gg5
  obtain rfl : w1 = (.int i1) := Option.some.inj ei1
  obtain ⟨i2, ei2⟩ := is_v gg7
  obtain rfl : w2 = (.int i2) := Option.some.inj ei2
  obtain ⟨i3, ei3⟩ := is_v gg9
  obtain rfl : w3 = (.int i3) := Option.some.inj ei3
  obtain ⟨i4, ei4⟩ := is_v gg11
  obtain rfl : w4 = (.int i4) := Option.some.inj ei4
  obtain ⟨i5, ei5⟩ := isL_v gg12
  obtain rfl : w5 = (.long i5) := Option.some.inj ei5
  obtain ⟨n, o, h1, h2, h3, _, L, rfl, ⟨rfl, N⟩, hq⟩ := rm0 l s _ hw tables_1 i0 i1 i2 i3 i4 i5 s.heap s.heap.size (Nat.le_refl _) (Old.start s)  p e ha hc hk s m _ below hf ((Spec.applies_iff_loose hf).mp happ).1 ⟨rfl, State.Warmed39.refl s, rfl⟩ trivial
  refine ⟨n, _, h1, h2, h3, hpost _ _ _ _ _ _ ⟨Cond.after_iff.mpr rfl, Cond.after_iff.mpr (eq_i res_at (Term.int_eval (1)) rfl), trivial⟩ ⟨hq.1, hq.2.1, (hq.2.2.sift fun y hy => Or.inr (N y hy)).mono (by decide) (by decide)⟩⟩
theorem main_1_1 : Claimed_1_1 := comes_1 fun _ _ _ _ _ _ h hF => ⟨h.1, hF⟩
theorem main_1_2 : Claimed_1_2 := comes_1 fun _ _ _ _ _ _ h hF => ⟨h.2.1, hF⟩
end Jvm.Pilot.@@N@@
namespace Jvm.Pilot.@@N@@
open Jvm Jvm.ClassFile Sem Op Lib Jvm.Free Jvm.Stand Jvm.Pilot.@@N@@.Jvm.D
/-! MADE BY PROGRAM (witnessworld.py) out of the Statement's table words and the real class files: 10 classes; the members and pool entries that the words name. The judged class is class 1, her method 1. -/
namespace start1
open Jvm.ClassFile
def u (s : String) : CpInfo := .utf8 (stringToUtf16 s)
/-- a pool by its gaps: so many unusable entries, then the entry; so many at the end -/
def gap : Nat → List CpInfo → List CpInfo
  | 0, r => r
  | n + 1, r => .unusable :: gap n r
def poolList (es : List (Nat × CpInfo)) (last : Nat) : List CpInfo := es.foldr (fun e r => gap e.1 (e.2 :: r)) (gap last [])
def pool (es : List (Nat × CpInfo)) (last : Nat) : Array CpInfo := ⟨poolList es last⟩
def fileOf (pool : Array CpInfo) (this : Nat) (attrs : Array Attribute := #[]) (ms : Array MethodInfo := #[]) (fl : Nat := 33) (sup : Nat := 0) (ifs : Array Nat := #[]) (fds : Array FieldInfo := #[]) : ClassFile where
  minorVersion := 0
  majorVersion := 65
  constantPool := pool
  accessFlags := fl
  thisClass := this
  superClass := sup
  interfaces := ifs
  fields := fds
  methods := ms
  attributes := attrs
def plain (name : String) (sup : Option ClassId) : Class where
  name := name
  kind := .ordinary
  loader := none
  accessFlags := 33
  super := sup
  interfaces := #[]
  cf := none
  fields := #[]
  methods := #[]
  instanceTypes := #[]
  staticTypes := #[]
  resolved := #[]
  callSites := []
  init := .initialized
  statics := none
  mirror := none

def pool0 : Array CpInfo := pool [(5, u "<init>"), (0, u "()V"), (1, .class_ 10), (1, u "java/lang/Object")] 113

def k0c0 : Code := { maxStack := 0, maxLocals := 1, code := object_method_1_code, exceptionTable := #[], attributes := #[] }
def k0m0 : Method := { name := "<init>", desc := "()V", sig := { parameters := [], returnType := none }, accessFlags := 1, code := some k0c0 }
/-- java/lang/Object -/
def k0 : Class := { plain "java/lang/Object" none with
  accessFlags := 33
  interfaces := #[]
  cf := some (fileOf pool0 8 #[] #[{ accessFlags := 1, nameIndex := 5, descriptorIndex := 6, attributes := #[] }] 33 0 #[] #[])
  fields := #[]
  methods := #[k0m0]
  instanceTypes := #[]
  staticTypes := #[]
  resolved := Array.replicate 124 none
  statics := none }

def pool1 : Array CpInfo := pool [(2, .class_ 4), (1, u "java/lang/Object"), (0, u "<init>"), (0, u "()V"), (0, .methodref 8 9), (0, .class_ 10), (0, .nameAndType 11 12), (0, u "java/lang/Math"), (0, u "min"), (0, u "(II)I"), (0, .class_ 14), (0, u "com/example/rida/rida/io/LineBlock"), (0, .methodref 13 16), (0, .nameAndType 5 17), (0, u "(II)V"), (0, .methodref 13 19), (0, .nameAndType 20 21), (0, u "see"), (0, u "([BI)V"), (0, .methodref 13 23), (0, .nameAndType 24 25), (0, u "add"), (0, u "(I)V"), (0, .methodref 13 27), (0, .nameAndType 28 29), (0, u "clear"), (0, u "(J)V"), (0, .methodref 13 31), (0, .nameAndType 32 33), (0, u "count"), (0, u "()I"), (0, .methodref 13 35), (0, .nameAndType 36 33), (0, u "size"), (0, .class_ 38), (0, u "com/example/rida/rida/io/LineBlockSizePinLaw"), (2, u "law"), (0, u "(IIIIIJ)Z")] 5

def k1m0 : Method := { name := "<init>", desc := "()V", sig := { parameters := [], returnType := none }, accessFlags := 1, code := none }
def k1c1 : Code := { maxStack := 4, maxLocals := 16, code := code, exceptionTable := #[], attributes := #[] }
def k1m1 : Method := { name := "law", desc := "(IIIIIJ)Z", sig := { parameters := [.int, .int, .int, .int, .int, .long], returnType := some .boolean }, accessFlags := 9, code := some k1c1 }
/-- com/example/rida/rida/io/LineBlockSizePinLaw -/
def k1 : Class := { plain "com/example/rida/rida/io/LineBlockSizePinLaw" (some 0) with
  accessFlags := 49
  interfaces := #[]
  cf := some (fileOf pool1 37 #[] #[{ accessFlags := 1, nameIndex := 5, descriptorIndex := 6, attributes := #[] }, { accessFlags := 9, nameIndex := 41, descriptorIndex := 42, attributes := #[] }] 49 2 #[] #[])
  fields := #[]
  methods := #[k1m0, k1m1]
  instanceTypes := #[]
  staticTypes := #[]
  resolved := Array.replicate 48 none
  statics := none }

def pool2 : Array CpInfo := pool [(1, .class_ 2), (0, u "java/lang/Math"), (1, .class_ 6), (1, u "java/lang/Object"), (0, u "<init>"), (0, u "()V"), (89, .class_ 100), (1, u "java/lang/Math$RandomNumberGeneratorHolder"), (71, u "negativeZeroFloatBits"), (0, u "J"), (2, u "negativeZeroDoubleBits"), (24, u "min"), (43, u "$assertionsDisabled"), (0, u "Z"), (88, u "(II)I"), (2, u "twoToTheDoubleScaleDown"), (0, u "D"), (4, u "twoToTheDoubleScaleUp"), (9, u "E"), (3, u "PI"), (2, u "TAU"), (2, u "DEGREES_TO_RADIANS"), (0, u "RADIANS_TO_DEGREES")] 94

def k2m0 : Method := { name := "<init>", desc := "()V", sig := { parameters := [], returnType := none }, accessFlags := 2, code := none }
def k2c1 : Code := { maxStack := 2, maxLocals := 2, code := jdk_29_method_69_code, exceptionTable := #[], attributes := #[] }
def k2m1 : Method := { name := "min", desc := "(II)I", sig := { parameters := [.int, .int], returnType := some .int }, accessFlags := 9, code := some k2c1 }
/-- java/lang/Math -/
def k2 : Class := { plain "java/lang/Math" (some 0) with
  accessFlags := 49
  interfaces := #[]
  cf := some (fileOf pool2 1 #[.nestMembers #[98]] #[{ accessFlags := 2, nameIndex := 7, descriptorIndex := 8, attributes := #[] }, { accessFlags := 9, nameIndex := 201, descriptorIndex := 335, attributes := #[] }] 49 4 #[] #[{ accessFlags := 25, nameIndex := 354, descriptorIndex := 339, attributes := #[] }, { accessFlags := 25, nameIndex := 358, descriptorIndex := 339, attributes := #[] }, { accessFlags := 25, nameIndex := 361, descriptorIndex := 339, attributes := #[] }, { accessFlags := 26, nameIndex := 364, descriptorIndex := 339, attributes := #[] }, { accessFlags := 26, nameIndex := 365, descriptorIndex := 339, attributes := #[] }, { accessFlags := 26, nameIndex := 172, descriptorIndex := 173, attributes := #[] }, { accessFlags := 26, nameIndex := 176, descriptorIndex := 173, attributes := #[] }, { accessFlags := 8, nameIndex := 344, descriptorIndex := 339, attributes := #[] }, { accessFlags := 8, nameIndex := 338, descriptorIndex := 339, attributes := #[] }, { accessFlags := 4120, nameIndex := 245, descriptorIndex := 246, attributes := #[] }])
  fields := #[{ name := "E", type := .double, accessFlags := 25, slot := 0, constantValue := 0 }, { name := "PI", type := .double, accessFlags := 25, slot := 1, constantValue := 0 }, { name := "TAU", type := .double, accessFlags := 25, slot := 2, constantValue := 0 }, { name := "DEGREES_TO_RADIANS", type := .double, accessFlags := 26, slot := 3, constantValue := 0 }, { name := "RADIANS_TO_DEGREES", type := .double, accessFlags := 26, slot := 4, constantValue := 0 }, { name := "negativeZeroFloatBits", type := .long, accessFlags := 26, slot := 5, constantValue := 0 }, { name := "negativeZeroDoubleBits", type := .long, accessFlags := 26, slot := 6, constantValue := 0 }, { name := "twoToTheDoubleScaleUp", type := .double, accessFlags := 8, slot := 7, constantValue := 0 }, { name := "twoToTheDoubleScaleDown", type := .double, accessFlags := 8, slot := 8, constantValue := 0 }, { name := "$assertionsDisabled", type := .boolean, accessFlags := 4120, slot := 9, constantValue := 0 }]
  methods := #[k2m0, k2m1]
  instanceTypes := #[]
  staticTypes := #[.double, .double, .double, .double, .double, .long, .long, .double, .double, .boolean]
  resolved := Array.replicate 460 none
  statics := none }

def pool3 : Array CpInfo := pool [(1, .methodref 2 3), (0, .class_ 4), (0, .nameAndType 5 6), (0, u "java/lang/Object"), (0, u "<init>"), (0, u "()V"), (7, .fieldref 15 16), (0, .class_ 17), (0, .nameAndType 18 19), (0, u "com/example/rida/rida/io/LineBlock"), (0, u "capacity"), (0, u "I"), (0, .fieldref 15 21), (0, .nameAndType 22 19), (0, u "maxLines"), (0, .methodref 24 25), (0, .class_ 26), (0, .nameAndType 27 28), (0, u "java/lang/Math"), (0, u "min"), (0, u "(II)I"), (0, .fieldref 15 30), (0, .nameAndType 31 32), (0, u "bytes"), (0, u "[B"), (0, .fieldref 15 34), (0, .nameAndType 35 36), (0, u "ends"), (0, u "[I"), (0, .fieldref 15 38), (0, .nameAndType 39 19), (0, u "count"), (5, .fieldref 15 46), (0, .nameAndType 47 19), (0, u "origin"), (0, .fieldref 15 49), (0, .nameAndType 50 51), (0, u "firstNumber"), (0, u "J"), (0, .fieldref 15 53), (0, .nameAndType 54 55), (0, u "sees"), (0, u "Z"), (0, .long 2), (13, u "FIRST_CAPACITY"), (2, u "FIRST_MAX_LINES"), (1, u "(II)V"), (3, u "()I"), (6, u "size"), (0, u "clear"), (0, u "(J)V"), (0, u "see"), (0, u "([BI)V"), (2, u "add"), (0, u "(I)V")] 4

def k3c0 : Code := { maxStack := 3, maxLocals := 3, code := prog_26_method_1_code, exceptionTable := #[], attributes := #[] }
def k3m0 : Method := { name := "<init>", desc := "(II)V", sig := { parameters := [.int, .int], returnType := none }, accessFlags := 1, code := some k3c0 }
def k3c1 : Code := { maxStack := 1, maxLocals := 1, code := prog_26_method_2_code, exceptionTable := #[], attributes := #[] }
def k3m1 : Method := { name := "count", desc := "()I", sig := { parameters := [], returnType := some .int }, accessFlags := 1, code := some k3c1 }
def k3c2 : Code := { maxStack := 3, maxLocals := 1, code := prog_26_method_8_code, exceptionTable := #[], attributes := #[] }
def k3m2 : Method := { name := "size", desc := "()I", sig := { parameters := [], returnType := some .int }, accessFlags := 1, code := some k3c2 }
def k3c3 : Code := { maxStack := 5, maxLocals := 3, code := prog_26_method_9_code, exceptionTable := #[], attributes := #[] }
def k3m3 : Method := { name := "clear", desc := "(J)V", sig := { parameters := [.long], returnType := none }, accessFlags := 0, code := some k3c3 }
def k3c4 : Code := { maxStack := 2, maxLocals := 3, code := prog_26_method_10_code, exceptionTable := #[], attributes := #[] }
def k3m4 : Method := { name := "see", desc := "([BI)V", sig := { parameters := [(.array .byte), .int], returnType := none }, accessFlags := 0, code := some k3c4 }
def k3c5 : Code := { maxStack := 6, maxLocals := 2, code := prog_26_method_12_code, exceptionTable := #[], attributes := #[] }
def k3m5 : Method := { name := "add", desc := "(I)V", sig := { parameters := [.int], returnType := none }, accessFlags := 0, code := some k3c5 }
/-- com/example/rida/rida/io/LineBlock -/
def k3 : Class := { plain "com/example/rida/rida/io/LineBlock" (some 0) with
  accessFlags := 49
  interfaces := #[]
  cf := some (fileOf pool3 15 #[] #[{ accessFlags := 1, nameIndex := 5, descriptorIndex := 75, attributes := #[] }, { accessFlags := 1, nameIndex := 39, descriptorIndex := 79, attributes := #[] }, { accessFlags := 1, nameIndex := 86, descriptorIndex := 79, attributes := #[] }, { accessFlags := 0, nameIndex := 87, descriptorIndex := 88, attributes := #[] }, { accessFlags := 0, nameIndex := 89, descriptorIndex := 90, attributes := #[] }, { accessFlags := 0, nameIndex := 93, descriptorIndex := 94, attributes := #[] }] 49 2 #[] #[{ accessFlags := 26, nameIndex := 70, descriptorIndex := 19, attributes := #[] }, { accessFlags := 26, nameIndex := 73, descriptorIndex := 19, attributes := #[] }, { accessFlags := 18, nameIndex := 18, descriptorIndex := 19, attributes := #[] }, { accessFlags := 18, nameIndex := 22, descriptorIndex := 19, attributes := #[] }, { accessFlags := 2, nameIndex := 31, descriptorIndex := 32, attributes := #[] }, { accessFlags := 2, nameIndex := 54, descriptorIndex := 55, attributes := #[] }, { accessFlags := 2, nameIndex := 47, descriptorIndex := 19, attributes := #[] }, { accessFlags := 2, nameIndex := 35, descriptorIndex := 36, attributes := #[] }, { accessFlags := 2, nameIndex := 39, descriptorIndex := 19, attributes := #[] }, { accessFlags := 2, nameIndex := 50, descriptorIndex := 51, attributes := #[] }])
  fields := #[{ name := "FIRST_CAPACITY", type := .int, accessFlags := 26, slot := 0, constantValue := 0 }, { name := "FIRST_MAX_LINES", type := .int, accessFlags := 26, slot := 1, constantValue := 0 }, { name := "capacity", type := .int, accessFlags := 18, slot := 0, constantValue := 0 }, { name := "maxLines", type := .int, accessFlags := 18, slot := 1, constantValue := 0 }, { name := "bytes", type := (.array .byte), accessFlags := 2, slot := 2, constantValue := 0 }, { name := "sees", type := .boolean, accessFlags := 2, slot := 3, constantValue := 0 }, { name := "origin", type := .int, accessFlags := 2, slot := 4, constantValue := 0 }, { name := "ends", type := (.array .int), accessFlags := 2, slot := 5, constantValue := 0 }, { name := "count", type := .int, accessFlags := 2, slot := 6, constantValue := 0 }, { name := "firstNumber", type := .long, accessFlags := 2, slot := 7, constantValue := 0 }]
  methods := #[k3m0, k3m1, k3m2, k3m3, k3m4, k3m5]
  instanceTypes := #[.int, .int, (.array .byte), .boolean, .int, (.array .int), .int, .long]
  staticTypes := #[.int, .int]
  resolved := Array.replicate 99 none
  statics := none }

def pool4 : Array CpInfo := pool [(1, u "java/lang/Cloneable"), (0, .class_ 1), (0, u "java/lang/Object"), (0, .class_ 3)] 3

/-- java/lang/Cloneable -/
def k4 : Class := { plain "java/lang/Cloneable" (some 0) with
  accessFlags := 1537
  interfaces := #[]
  cf := some (fileOf pool4 2 #[] #[] 1537 4 #[] #[])
  fields := #[]
  methods := #[]
  instanceTypes := #[]
  staticTypes := #[]
  resolved := Array.replicate 8 none
  statics := none }

def pool5 : Array CpInfo := pool [(1, u "java/io/Serializable"), (0, .class_ 1), (0, u "java/lang/Object"), (0, .class_ 3)] 3

/-- java/io/Serializable -/
def k5 : Class := { plain "java/io/Serializable" (some 0) with
  accessFlags := 1537
  interfaces := #[]
  cf := some (fileOf pool5 2 #[] #[] 1537 4 #[] #[])
  fields := #[]
  methods := #[]
  instanceTypes := #[]
  staticTypes := #[]
  resolved := Array.replicate 8 none
  statics := none }

/-- the primitive byte -/
def k6 : Class := { plain "byte" none with kind := .primitive 'B', accessFlags := 0x411 }
/-- [B -/
def k7 : Class := { plain "[B" (some 0) with kind := .array 6 .byte, interfaces := #[4, 5], accessFlags := 1041 }

/-- the primitive int -/
def k8 : Class := { plain "int" none with kind := .primitive 'I', accessFlags := 0x411 }
/-- [I -/
def k9 : Class := { plain "[I" (some 0) with kind := .array 8 .int, interfaces := #[4, 5], accessFlags := 1041 }

def heap : Heap := #[]
def classes : Array Class := #[k0, k1, k2, k3, k4, k5, k6, k7, k8, k9]
def interned : List (Array UInt16 × Addr) := []
def slotsUsed : Nat := 0
def theMethod : MethodId := ⟨1, 1⟩
def args0 : Array Value := #[.int 5, .int 3, .int 7, .int 8, .int 9, .long 10]
def aboutOver (below : List Frame) : State where
  vm := { classes := classes, interned := interned.toArray }
  heap := heap
  slotsUsed := slotsUsed
  threads := #[{ frames := .invoking theMethod args0 :: below }]
def below0 : List Frame := [.native { method := ⟨0, 0⟩, args := #[] }]
def about1 : State := aboutOver below0
def p0 : Program := .bare "" "" ""
def e0 : Env := launch0.env 0 0 0
theorem w_frames : about1.frames = Frame.invoking theMethod args0 :: below0 := rfl
set_option maxRecDepth 65536 in
theorem w_args : argsFit about1.vm theMethod args0 = true := by decide +kernel
set_option maxRecDepth 65536 in
theorem w_heap : heapFits about1 = true := by decide +kernel
set_option maxRecDepth 65536 in
theorem w_runnable : about1.curStatus? = some .runnable := by decide +kernel
set_option maxRecDepth 65536 in
theorem w_alone : about1.alone = true := by decide +kernel
set_option maxRecDepth 65536 in
theorem w_named : about1.methodNamed? x = some theMethod := by decide +kernel
set_option maxRecDepth 65536 in
theorem w_hears : about1.hears theMethod below0 = true := by decide +kernel
set_option maxRecDepth 65536 in
theorem w_ripe : about1.ripe theMethod args0 below0 = true := by decide +kernel
theorem w_running : about1.status = .running := rfl
set_option maxRecDepth 65536 in
theorem w_room : about1.hasRoom e0.platform room_1 = true :=
  launch0.hasRoom_least _ room_1 (by decide +kernel) (by decide +kernel) (by decide +kernel) (by decide +kernel) (by decide +kernel) (by decide +kernel)
theorem allAtoms_all (ts : List Jvm.Cond) (a : Array Jvm.Value) (st : Jvm.State) : (allAtoms ts).before a st = ts.all (fun c => c.before a st) := by
  induction ts with
  | nil => rfl
  | cons c t ih =>
    show (Jvm.Cond.and c (allAtoms t)).before a st = _
    rw [Jvm.Cond.before_and, ih, List.all_cons]
def words1 : List Jvm.Cond := Jvm.Cond.code x code maxLocals ret :: tables_1
/-- a 'code' word, met by the world's own term for the bytes: nothing is compared byte by byte -/
theorem code_word {y : MethodName} {bytes : ByteArray} {mx : Nat} {rt : Option FieldType} {a : Array Value} {s : State} {m : MethodId} {meth : Method} {c : Code} (h1 : s.methodNamed? y = some m) (h2 : s.vm.method? m = some meth) (h3 : meth.code = some c) (h4 : c.code = bytes)
    (h5 : (c.maxLocals == mx && c.exceptionTable.isEmpty && decide (c.maxStack ≤ mostOperands) && decide (meth.sig.returnType = rt) && !meth.locks && decide (parseMethodDescriptor y.desc = some meth.sig)) = true) : (Jvm.Cond.code y bytes mx rt).before a s = true := by
  simp only [Bool.and_eq_true, beq_iff_eq, Bool.not_eq_true', decide_eq_true_eq] at h5
  obtain ⟨⟨⟨⟨⟨g1, g2⟩, g3⟩, g4⟩, g5⟩, g6⟩ := h5
  simp [Cond.before, Cond.holds, Cond.value, h1, h2, h3, h4, g1, g2, g3, g4, g5, g6]
def isCode : Jvm.Cond → Bool
  | .code _ _ _ _ => true
  | _ => false
theorem all_split {L : List Jvm.Cond} {P : Jvm.Cond → Bool} (h1 : L.all (fun c => isCode c || P c) = true) (h2 : ∀ c ∈ L.filter isCode, P c = true) : L.all P = true := by
  refine List.all_eq_true.mpr fun c hc => ?_
  have h := List.all_eq_true.mp h1 c hc
  rcases Bool.eq_false_or_eq_true (isCode c) with hi | hi
  · exact h2 c (List.mem_filter.mpr ⟨hc, hi⟩)
  · simpa [hi] using h
set_option maxRecDepth 65536 in
theorem w_c0 : (Jvm.Cond.code x code maxLocals ret).before args0 about1 = true := code_word (m := ⟨1, 1⟩) (meth := k1m1) (c := k1c1) (by decide +kernel) rfl rfl rfl (by decide +kernel)
set_option maxRecDepth 65536 in
theorem w_c1 : (Jvm.Cond.code ({ cls := "java/lang/Math", name := "min", desc := "(II)I" } : Jvm.MethodName) jdk_29_method_69_code (2 : Nat) (Option.some Jvm.ClassFile.FieldType.int)).before args0 about1 = true := code_word (m := ⟨2, 1⟩) (meth := k2m1) (c := k2c1) (by decide +kernel) rfl rfl rfl (by decide +kernel)
set_option maxRecDepth 65536 in
theorem w_c2 : (Jvm.Cond.code ({ cls := "com/example/rida/rida/io/LineBlock", name := "<init>", desc := "(II)V" } : Jvm.MethodName) prog_26_method_1_code (3 : Nat) (Option.none : Option Jvm.ClassFile.FieldType)).before args0 about1 = true := code_word (m := ⟨3, 0⟩) (meth := k3m0) (c := k3c0) (by decide +kernel) rfl rfl rfl (by decide +kernel)
set_option maxRecDepth 65536 in
theorem w_c3 : (Jvm.Cond.code ({ cls := "java/lang/Object", name := "<init>", desc := "()V" } : Jvm.MethodName) object_method_1_code (1 : Nat) (Option.none : Option Jvm.ClassFile.FieldType)).before args0 about1 = true := code_word (m := ⟨0, 0⟩) (meth := k0m0) (c := k0c0) (by decide +kernel) rfl rfl rfl (by decide +kernel)
set_option maxRecDepth 65536 in
theorem w_c4 : (Jvm.Cond.code ({ cls := "com/example/rida/rida/io/LineBlock", name := "count", desc := "()I" } : Jvm.MethodName) prog_26_method_2_code (1 : Nat) (Option.some Jvm.ClassFile.FieldType.int)).before args0 about1 = true := code_word (m := ⟨3, 1⟩) (meth := k3m1) (c := k3c1) (by decide +kernel) rfl rfl rfl (by decide +kernel)
set_option maxRecDepth 65536 in
theorem w_c5 : (Jvm.Cond.code ({ cls := "com/example/rida/rida/io/LineBlock", name := "size", desc := "()I" } : Jvm.MethodName) prog_26_method_8_code (1 : Nat) (Option.some Jvm.ClassFile.FieldType.int)).before args0 about1 = true := code_word (m := ⟨3, 2⟩) (meth := k3m2) (c := k3c2) (by decide +kernel) rfl rfl rfl (by decide +kernel)
set_option maxRecDepth 65536 in
theorem w_c6 : (Jvm.Cond.code ({ cls := "com/example/rida/rida/io/LineBlock", name := "add", desc := "(I)V" } : Jvm.MethodName) prog_26_method_12_code (2 : Nat) (Option.none : Option Jvm.ClassFile.FieldType)).before args0 about1 = true := code_word (m := ⟨3, 5⟩) (meth := k3m5) (c := k3c5) (by decide +kernel) rfl rfl rfl (by decide +kernel)
set_option maxRecDepth 65536 in
theorem w_c7 : (Jvm.Cond.code ({ cls := "com/example/rida/rida/io/LineBlock", name := "clear", desc := "(J)V" } : Jvm.MethodName) prog_26_method_9_code (3 : Nat) (Option.none : Option Jvm.ClassFile.FieldType)).before args0 about1 = true := code_word (m := ⟨3, 3⟩) (meth := k3m3) (c := k3c3) (by decide +kernel) rfl rfl rfl (by decide +kernel)
set_option maxRecDepth 65536 in
theorem w_c8 : (Jvm.Cond.code ({ cls := "com/example/rida/rida/io/LineBlock", name := "see", desc := "([BI)V" } : Jvm.MethodName) prog_26_method_10_code (3 : Nat) (Option.none : Option Jvm.ClassFile.FieldType)).before args0 about1 = true := code_word (m := ⟨3, 4⟩) (meth := k3m4) (c := k3c4) (by decide +kernel) rfl rfl rfl (by decide +kernel)
def codes1 : List Jvm.Cond := [Jvm.Cond.code x code maxLocals ret, Jvm.Cond.code ({ cls := "java/lang/Math", name := "min", desc := "(II)I" } : Jvm.MethodName) jdk_29_method_69_code (2 : Nat) (Option.some Jvm.ClassFile.FieldType.int), Jvm.Cond.code ({ cls := "com/example/rida/rida/io/LineBlock", name := "<init>", desc := "(II)V" } : Jvm.MethodName) prog_26_method_1_code (3 : Nat) (Option.none : Option Jvm.ClassFile.FieldType), Jvm.Cond.code ({ cls := "java/lang/Object", name := "<init>", desc := "()V" } : Jvm.MethodName) object_method_1_code (1 : Nat) (Option.none : Option Jvm.ClassFile.FieldType), Jvm.Cond.code ({ cls := "com/example/rida/rida/io/LineBlock", name := "count", desc := "()I" } : Jvm.MethodName) prog_26_method_2_code (1 : Nat) (Option.some Jvm.ClassFile.FieldType.int), Jvm.Cond.code ({ cls := "com/example/rida/rida/io/LineBlock", name := "size", desc := "()I" } : Jvm.MethodName) prog_26_method_8_code (1 : Nat) (Option.some Jvm.ClassFile.FieldType.int), Jvm.Cond.code ({ cls := "com/example/rida/rida/io/LineBlock", name := "add", desc := "(I)V" } : Jvm.MethodName) prog_26_method_12_code (2 : Nat) (Option.none : Option Jvm.ClassFile.FieldType), Jvm.Cond.code ({ cls := "com/example/rida/rida/io/LineBlock", name := "clear", desc := "(J)V" } : Jvm.MethodName) prog_26_method_9_code (3 : Nat) (Option.none : Option Jvm.ClassFile.FieldType), Jvm.Cond.code ({ cls := "com/example/rida/rida/io/LineBlock", name := "see", desc := "([BI)V" } : Jvm.MethodName) prog_26_method_10_code (3 : Nat) (Option.none : Option Jvm.ClassFile.FieldType)]
set_option maxRecDepth 65536 in
theorem codes_eq : words1.filter isCode = codes1 := rfl
theorem w_codes : ∀ c ∈ words1.filter isCode, c.before args0 about1 = true := by
  rw [codes_eq]
  intro c hc
  simp only [codes1, List.mem_cons, List.not_mem_nil, or_false] at hc
  rcases hc with rfl | rfl | rfl | rfl | rfl | rfl | rfl | rfl | rfl
  · exact w_c0
  · exact w_c1
  · exact w_c2
  · exact w_c3
  · exact w_c4
  · exact w_c5
  · exact w_c6
  · exact w_c7
  · exact w_c8
set_option maxRecDepth 65536 in
theorem w_t1 : (words1.take 24).all (fun c => isCode c || c.before args0 about1) = true := by decide +kernel
set_option maxRecDepth 65536 in
theorem w_t2 : ((words1.drop 24).take 24).all (fun c => isCode c || c.before args0 about1) = true := by decide +kernel
set_option maxRecDepth 65536 in
theorem w_t3 : ((words1.drop 24).drop 24).all (fun c => isCode c || c.before args0 about1) = true := by decide +kernel
theorem w_tables : (allAtoms (Jvm.Cond.code x code maxLocals ret :: tables_1)).before args0 about1 = true := by
  rw [allAtoms_all]
  show words1.all (fun c => c.before args0 about1) = true
  refine all_split ?_ w_codes
  rw [← List.take_append_drop 24 words1, List.all_append, w_t1, ← List.take_append_drop 24 (words1.drop 24), List.all_append, w_t2, w_t3]
  rfl
set_option maxRecDepth 65536 in
theorem w_case : (Jvm.Cond.and given_1 narrow_1).before args0 about1 = true := by decide +kernel
theorem w_applies : (headSpec (Jvm.Cond.code x code maxLocals ret :: tables_1) room_1).applies x e0.platform about1 = true :=
  (Spec.applies_iff w_frames).mpr ⟨w_running, w_runnable, w_alone, w_named, w_hears, w_ripe, w_room, w_tables⟩
theorem atStart : AtStart classFile x code maxLocals ret World_1 tables_1 room_1 Calls_1 rest_1 Pre_1 launch0 p0 e0 about1 theMethod args0 below0 :=
  ⟨lists_1, trivial, launch0.admits_env _ _ _, launch0.least_env, fairChoices_fair.cas, fairChoices_fair.clock, w_frames, w_args, w_heap, w_applies, trivial, trivial, w_case⟩
end start1
theorem witness_1 : WitnessClaimed_1 := ⟨start1.p0, start1.e0, start1.about1, start1.theMethod, start1.args0, start1.below0, start1.atStart⟩
end Jvm.Pilot.@@N@@
