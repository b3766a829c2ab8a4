import JvmDerived
import JvmDerived.Pilot.@@N@@Statement
import JvmDerived.Pilot.@@N@@Code
set_option linter.unusedVariables false
set_option linter.unusedSimpArgs false
set_option maxRecDepth 65536
namespace Jvm.Pilot.@@N@@
open Jvm Jvm.ClassFile Sem Op Lib Jvm.Free Jvm.Stand Jvm.LawKit Jvm.RoadKit Bundle Jvm.Pilot.@@N@@.Jvm.D
/-- the run goes on from S to a return that Q says, within so many new cells and slots -/
def OFin (p : Program) (e : Env) (below : List Frame) (s : State) (Q : Option Value → Heap → List Loc → Prop) (cells slots : Nat) (S : State) : Prop :=
  ∃ s₂ o, Steps p.tables e below S s₂ ∧ s₂.status = .running ∧ Ended s₂ below o ∧ ∃ v L, o = .returned v ∧ Q v s₂.heap L ∧ FrameEnd s o s₂ L cells slots
section Own
variable {p : Program} {l : Launch} {e : Env} {R : Room} {s : State} {m : MethodId} {args : Array Value} {below : List Frame} {meth : Method} {c : Code} {T S S' : State} {locs : List Loc} {cells slots k n : Nat} {Q : Option Value → Heap → List Loc → Prop} {pc : Nat} {Ls : Array Slot} {rest : List Value}
theorem OFin.go (st : ∀ t, Steps p.tables e below S' t → Steps p.tables e below S t) (F : OFin p e below s Q cells slots S') : OFin p e below s Q cells slots S := by
  obtain ⟨s₂, o, h, r⟩ := F
  exact ⟨s₂, o, st _ h, r⟩
theorem OFin.tr (st : Steps p.tables e below S S') (F : OFin p e below s Q cells slots S') : OFin p e below s Q cells slots S := by
  obtain ⟨s₂, o, h, r⟩ := F
  exact ⟨s₂, o, st.trans h, r⟩
theorem OFin.ends (X : Stand p l e R s m args below meth c T locs k n) {v : Option Value} (hv : meth.sig.returnType = none → v = none) (hlk : meth.locks = false) (hq : Q v T.heap locs) (hk : k ≤ cells) (hn : n ≤ slots)
    (st : ∀ fs, (∀ (f : JFrame) (acts : List Action), f.method = m → f.locked = none → f.entered = [] → (doReturn e (T.setTop f) acts v).1 = T.setFrames fs) → Steps p.tables e below S (T.setFrames fs)) : OFin p e below s Q cells slots S := by
  obtain ⟨fs, hr, hrun, hended, hW, hsame⟩ := X.leave (v := v) hv hlk
  exact ⟨_, _, st fs hr, hrun, hended, _, _, rfl, hq, ⟨_, rfl⟩, hW, hsame.mono hk hn⟩
theorem OFin.retN (X : Stand p l e R s m args below meth c T locs k n) (hx : p.tables.exec = Jvm.exec) {z w : Int32} {t : FieldType} (hret : meth.sig.returnType = some t) (ht : t = .boolean ∨ t = .byte ∨ t = .char ∨ t = .short) (hlk : meth.locks = false)
    (hd : decode c.code pc = .ok (.ireturn, 1)) (hz : nar t z = w) (hq : Q (some (.int w)) T.heap locs) (hk : k ≤ cells) (hn : n ≤ slots) : OFin p e below s Q cells slots (T.setTop (mkF m pc Ls (.int z :: rest))) :=
  OFin.ends X (v := some (.int w)) (fun h => by rw [hret] at h; cases h) hlk hq hk hn fun fs hr => Jvm.RoadKit.retN X hx hret ht hd (by rw [hz]; exact hr)
theorem OFin.retI (X : Stand p l e R s m args below meth c T locs k n) (hx : p.tables.exec = Jvm.exec) {z : Int32} (hret : meth.sig.returnType = some .int) (hlk : meth.locks = false)
    (hd : decode c.code pc = .ok (.ireturn, 1)) (hq : Q (some (.int z)) T.heap locs) (hk : k ≤ cells) (hn : n ≤ slots) : OFin p e below s Q cells slots (T.setTop (mkF m pc Ls (.int z :: rest))) :=
  OFin.ends X (v := some (.int z)) (fun h => by rw [hret] at h; cases h) hlk hq hk hn fun fs hr => retOut X hx hret rfl (Or.inl ⟨rfl, Or.inl rfl, z, rfl⟩) hd hr
theorem OFin.retL (X : Stand p l e R s m args below meth c T locs k n) (hx : p.tables.exec = Jvm.exec) {z : Int64} (hret : meth.sig.returnType = some .long) (hlk : meth.locks = false)
    (hd : decode c.code pc = .ok (.lreturn, 1)) (hq : Q (some (.long z)) T.heap locs) (hk : k ≤ cells) (hn : n ≤ slots) : OFin p e below s Q cells slots (T.setTop (mkF m pc Ls (.long z :: rest))) :=
  OFin.ends X (v := some (.long z)) (fun h => by rw [hret] at h; cases h) hlk hq hk hn fun fs hr => retOut X hx hret rfl (Or.inr (Or.inl ⟨rfl, rfl, z, rfl⟩)) hd hr
theorem OFin.retA (X : Stand p l e R s m args below meth c T locs k n) (hx : p.tables.exec = Jvm.exec) {w : Value} {t : FieldType} (hret : meth.sig.returnType = some t) (ht : t.isReference = true) (hw : w.isRef = true) (hnr : narrow t w = w) (hlk : meth.locks = false)
    (hd : decode c.code pc = .ok (.areturn, 1)) (hq : Q (some w) T.heap locs) (hk : k ≤ cells) (hn : n ≤ slots) : OFin p e below s Q cells slots (T.setTop (mkF m pc Ls (w :: rest))) :=
  OFin.ends X (v := some w) (fun h => by rw [hret] at h; cases h) hlk hq hk hn fun fs hr => retOut X hx hret hnr (Or.inr (Or.inr (Or.inr (Or.inr ⟨rfl, ht, hw⟩)))) hd hr
theorem OFin.retV (X : Stand p l e R s m args below meth c T locs k n) (hx : p.tables.exec = Jvm.exec) (hret : meth.sig.returnType = none) (hlk : meth.locks = false)
    (hd : decode c.code pc = .ok (.return_, 1)) (hq : Q none T.heap locs) (hk : k ≤ cells) (hn : n ≤ slots) : OFin p e below s Q cells slots (T.setTop (mkF m pc Ls [])) :=
  OFin.ends X (v := none) (fun _ => rfl) hlk hq hk hn fun fs hr => X.returnOut hx hret hd hr
end Own
theorem d9_0 : decode method_2_code 0 = .ok (.iload_n 0, 1) := by decide +kernel
theorem d9_1 : decode method_2_code 1 = .ok (.ifCond .ne 5, 3) := by decide +kernel
theorem d9_4 : decode method_2_code 4 = .ok (.iload_n 1, 1) := by decide +kernel
theorem d9_5 : decode method_2_code 5 = .ok (.ireturn, 1) := by decide +kernel
theorem d9_6 : decode method_2_code 6 = .ok (.iload_n 0, 1) := by decide +kernel
theorem d9_7 : decode method_2_code 7 = .ok (.iconst 1, 1) := by decide +kernel
theorem d9_8 : decode method_2_code 8 = .ok (.if_icmp .ne 5, 3) := by decide +kernel
theorem d9_11 : decode method_2_code 11 = .ok (.iload_n 2, 1) := by decide +kernel
theorem d9_12 : decode method_2_code 12 = .ok (.ireturn, 1) := by decide +kernel
theorem d9_13 : decode method_2_code 13 = .ok (.iload_n 0, 1) := by decide +kernel
theorem d9_14 : decode method_2_code 14 = .ok (.iconst 2, 1) := by decide +kernel
theorem d9_15 : decode method_2_code 15 = .ok (.if_icmp .ne 5, 3) := by decide +kernel
theorem d9_18 : decode method_2_code 18 = .ok (.iload_n 3, 1) := by decide +kernel
theorem d9_19 : decode method_2_code 19 = .ok (.ireturn, 1) := by decide +kernel
theorem d9_20 : decode method_2_code 20 = .ok (.iload 4, 2) := by decide +kernel
theorem d9_22 : decode method_2_code 22 = .ok (.ireturn, 1) := by decide +kernel
theorem pn_0 : plainName "com/example/epistemic_accord/epistemicaccord/programs/AgentInPinLaw" = true := by first | (simp [plainName, overriddenIn]; done) | decide +kernel
theorem ef_9 (m : MethodId) (x0 : Int32) (x1 : Int32) (x2 : Int32) (x3 : Int32) (x4 : Int32) : entryFrame m #[(.int x0), (.int x1), (.int x2), (.int x3), (.int x4)] 5 = mkF m 0 #[.val (.int x0), .val (.int x1), .val (.int x2), .val (.int x3), .val (.int x4)] [] := by first | (simp [entryFrame, mkF, argsToLocals, Value.category]; done) | rfl
def own_f9 (q0 : Int32) (q1 : Int32) (q2 : Int32) (q3 : Int32) (q4 : Int32) : Int32 := (if q0 = (0 : Int32) then q1 else (if q0 = (1 : Int32) then q2 else (if q0 = (2 : Int32) then q3 else q4)))
def Q9 (Z : State) (q0 : Int32) (q1 : Int32) (q2 : Int32) (q3 : Int32) (q4 : Int32) (h0 : Heap) (n0 : Nat) (v : Option Value) (h : Heap) (L : List Loc) : Prop := v = some (.int (own_f9 q0 q1 q2 q3 q4)) ∧ Fr n0 L ∧ h = h0
set_option maxHeartbeats 40000000 in
theorem rm9 (l : Launch) (Z : State) (aZ : Array Value) (hw : ∀ d ∈ tables_1, d.before aZ Z = true) (ws : List Jvm.Cond) (q0 : Int32) (q1 : Int32) (q2 : Int32) (q3 : Int32) (q4 : Int32) (h0 : Heap) (n0 : Nat) (Z0 : n0 ≤ h0.size) :
    MetFree l (⟨"com/example/epistemic_accord/epistemicaccord/programs/AgentInPinLaw", "pick", "(IIIII)I"⟩ : MethodName) (head1 (Jvm.Cond.code (⟨"com/example/epistemic_accord/epistemicaccord/programs/AgentInPinLaw", "pick", "(IIIII)I"⟩ : MethodName) method_2_code 5 (some .int) :: ws) ({ frames := 0, cells := 0, slots := 0, locals := 0 } : Room)) (fun a U => a = #[(.int q0), (.int q1), (.int q2), (.int q3), (.int q4)] ∧ Z.Warmed39 U.vm ∧ U.heap = h0) (fun _ _ _ _ _ => True) (fun _ U o U' => ∃ v L, o = .returned v ∧ Q9 Z q0 q1 q2 q3 q4 h0 n0 v U'.heap L ∧ FrameEnd U o U' L ({ frames := 0, cells := 0, slots := 0, locals := 0 } : Room).cells ({ frames := 0, cells := 0, slots := 0, locals := 0 } : Room).slots) := by
  refine MetFree.of_bodySF (plainFor_of_name pn_0) hisR ?_
  intro p e s m args below meth c s₁ Bd hml0 hP hK
  obtain ⟨rfl, hZ, hh⟩ := hP
  have hx := Bd.exec
  have hby := Bd.bytes
  have hret := Bd.returns
  have hlk : meth.locks = false := BodyLoose.notSynchronized Bd
  have hml : c.maxLocals = 5 := hml0
  have hown : s.vm.findClass "com/example/epistemic_accord/epistemicaccord/programs/AgentInPinLaw" = some m.cls := findClass_of_methodNamed Bd.named
  have hnm := (name_of_methodNamed Bd.named Bd.method).1
  have X0 : Stand p l e ({ frames := 0, cells := 0, slots := 0, locals := 0 } : Room) s m #[(.int q0), (.int q1), (.int q2), (.int q3), (.int q4)] below meth c s₁ [] 0 0 := Stand.of_body Bd
  have e0 : s₁.heap = h0 := by rw [← hh, Bd.state]; rfl
  have N0 := Fr.nil n0
  have K0 : Keep h0 h0 [] := Keep.refl _ _
  have pre0 : ∀ t, Steps p.tables e below (s₁.setTop (mkF m 0 #[.val (.int q0), .val (.int q1), .val (.int q2), .val (.int q3), .val (.int q4)] [])) t → Steps p.tables e below (s₁.setTop (entryFrame m #[(.int q0), (.int q1), (.int q2), (.int q3), (.int q4)] 5)) t := fun t k => castTop (ef_9 m q0 q1 q2 q3 q4) k
  show OFin p e below s (Q9 Z q0 q1 q2 q3 q4 h0 n0) ({ frames := 0, cells := 0, slots := 0, locals := 0 } : Room).cells ({ frames := 0, cells := 0, slots := 0, locals := 0 } : Room).slots _
  refine OFin.go pre0 ?_
  have sg101 : ∀ t, Steps p.tables e below (s₁.setTop (mkF m 1 #[.val (.int q0), .val (.int q1), .val (.int q2), .val (.int q3), .val (.int q4)] [(.int q0)])) t → Steps p.tables e below (s₁.setTop (mkF m 0 #[.val (.int q0), .val (.int q1), .val (.int q2), .val (.int q3), .val (.int q4)] [])) t := by
    intro t k
    show Steps p.tables e below (s₁.setTop (mkF m 0 #[.val (.int q0), .val (.int q1), .val (.int q2), .val (.int q3), .val (.int q4)] [])) t
    refine XS.iloadN X0.here hx rfl (hb hby d9_0) rfl ?_
    exact k
  refine OFin.go sg101 ?_
  by_cases c102 : q0 = (0 : Int32)
  · have sg103 : ∀ t, Steps p.tables e below (s₁.setTop (mkF m 5 #[.val (.int q0), .val (.int q1), .val (.int q2), .val (.int q3), .val (.int q4)] [(.int q1)])) t → Steps p.tables e below (s₁.setTop (mkF m 1 #[.val (.int q0), .val (.int q1), .val (.int q2), .val (.int q3), .val (.int q4)] [(.int q0)])) t := by
      intro t k
      show Steps p.tables e below (s₁.setTop (mkF m 1 #[.val (.int q0), .val (.int q1), .val (.int q2), .val (.int q3), .val (.int q4)] [(.int q0)])) t
      refine XS.ifNo X0.here hx rfl (hb hby d9_1) rfl ((if0 _ _).trans (teq c102).2) ?_
      show Steps p.tables e below (s₁.setTop (mkF m 4 #[.val (.int q0), .val (.int q1), .val (.int q2), .val (.int q3), .val (.int q4)] [])) t
      refine XS.iloadN X0.here hx rfl (hb hby d9_4) rfl ?_
      exact k
    refine OFin.go sg103 ?_
    exact OFin.retI X0 hx hret hlk (hb hby d9_5) (by rw [e0]; exact ⟨(congrArg (fun z => some (Value.int z)) (show q1 = own_f9 q0 q1 q2 q3 q4 from (by rw [own_f9, if_pos c102]))), N0, rfl⟩) (by decide) (by decide)
  · have sg104 : ∀ t, Steps p.tables e below (s₁.setTop (mkF m 8 #[.val (.int q0), .val (.int q1), .val (.int q2), .val (.int q3), .val (.int q4)] [(.int (1 : Int32)), (.int q0)])) t → Steps p.tables e below (s₁.setTop (mkF m 1 #[.val (.int q0), .val (.int q1), .val (.int q2), .val (.int q3), .val (.int q4)] [(.int q0)])) t := by
      intro t k
      show Steps p.tables e below (s₁.setTop (mkF m 1 #[.val (.int q0), .val (.int q1), .val (.int q2), .val (.int q3), .val (.int q4)] [(.int q0)])) t
      refine XS.ifYes X0.here hx rfl (pc0 := 1) (pc' := 6) rfl (hb hby d9_1) rfl ((if0 _ _).trans (feq c102).2) (by decide) (by decide) ?_
      show Steps p.tables e below (s₁.setTop (mkF m 6 #[.val (.int q0), .val (.int q1), .val (.int q2), .val (.int q3), .val (.int q4)] [])) t
      refine XS.iloadN X0.here hx rfl (hb hby d9_6) rfl ?_
      show Steps p.tables e below (s₁.setTop (mkF m 7 #[.val (.int q0), .val (.int q1), .val (.int q2), .val (.int q3), .val (.int q4)] [(.int q0)])) t
      refine XS.iconst X0.here hx rfl (hb hby d9_7) ?_
      exact k
    refine OFin.go sg104 ?_
    by_cases c105 : q0 = (1 : Int32)
    · have sg106 : ∀ t, Steps p.tables e below (s₁.setTop (mkF m 12 #[.val (.int q0), .val (.int q1), .val (.int q2), .val (.int q3), .val (.int q4)] [(.int q2)])) t → Steps p.tables e below (s₁.setTop (mkF m 8 #[.val (.int q0), .val (.int q1), .val (.int q2), .val (.int q3), .val (.int q4)] [(.int (1 : Int32)), (.int q0)])) t := by
        intro t k
        show Steps p.tables e below (s₁.setTop (mkF m 8 #[.val (.int q0), .val (.int q1), .val (.int q2), .val (.int q3), .val (.int q4)] [(.int (1 : Int32)), (.int q0)])) t
        refine XS.icmpNo X0.here hx rfl (hb hby d9_8) rfl (teq c105).2 ?_
        show Steps p.tables e below (s₁.setTop (mkF m 11 #[.val (.int q0), .val (.int q1), .val (.int q2), .val (.int q3), .val (.int q4)] [])) t
        refine XS.iloadN X0.here hx rfl (hb hby d9_11) rfl ?_
        exact k
      refine OFin.go sg106 ?_
      exact OFin.retI X0 hx hret hlk (hb hby d9_12) (by rw [e0]; exact ⟨(congrArg (fun z => some (Value.int z)) (show q2 = own_f9 q0 q1 q2 q3 q4 from (by rw [own_f9, if_neg c102, if_pos c105]))), N0, rfl⟩) (by decide) (by decide)
    · have sg107 : ∀ t, Steps p.tables e below (s₁.setTop (mkF m 15 #[.val (.int q0), .val (.int q1), .val (.int q2), .val (.int q3), .val (.int q4)] [(.int (2 : Int32)), (.int q0)])) t → Steps p.tables e below (s₁.setTop (mkF m 8 #[.val (.int q0), .val (.int q1), .val (.int q2), .val (.int q3), .val (.int q4)] [(.int (1 : Int32)), (.int q0)])) t := by
        intro t k
        show Steps p.tables e below (s₁.setTop (mkF m 8 #[.val (.int q0), .val (.int q1), .val (.int q2), .val (.int q3), .val (.int q4)] [(.int (1 : Int32)), (.int q0)])) t
        refine XS.icmpYes X0.here hx rfl (pc0 := 8) (pc' := 13) rfl (hb hby d9_8) rfl (feq c105).2 (by decide) (by decide) ?_
        show Steps p.tables e below (s₁.setTop (mkF m 13 #[.val (.int q0), .val (.int q1), .val (.int q2), .val (.int q3), .val (.int q4)] [])) t
        refine XS.iloadN X0.here hx rfl (hb hby d9_13) rfl ?_
        show Steps p.tables e below (s₁.setTop (mkF m 14 #[.val (.int q0), .val (.int q1), .val (.int q2), .val (.int q3), .val (.int q4)] [(.int q0)])) t
        refine XS.iconst X0.here hx rfl (hb hby d9_14) ?_
        exact k
      refine OFin.go sg107 ?_
      by_cases c108 : q0 = (2 : Int32)
      · have sg109 : ∀ t, Steps p.tables e below (s₁.setTop (mkF m 19 #[.val (.int q0), .val (.int q1), .val (.int q2), .val (.int q3), .val (.int q4)] [(.int q3)])) t → Steps p.tables e below (s₁.setTop (mkF m 15 #[.val (.int q0), .val (.int q1), .val (.int q2), .val (.int q3), .val (.int q4)] [(.int (2 : Int32)), (.int q0)])) t := by
          intro t k
          show Steps p.tables e below (s₁.setTop (mkF m 15 #[.val (.int q0), .val (.int q1), .val (.int q2), .val (.int q3), .val (.int q4)] [(.int (2 : Int32)), (.int q0)])) t
          refine XS.icmpNo X0.here hx rfl (hb hby d9_15) rfl (teq c108).2 ?_
          show Steps p.tables e below (s₁.setTop (mkF m 18 #[.val (.int q0), .val (.int q1), .val (.int q2), .val (.int q3), .val (.int q4)] [])) t
          refine XS.iloadN X0.here hx rfl (hb hby d9_18) rfl ?_
          exact k
        refine OFin.go sg109 ?_
        exact OFin.retI X0 hx hret hlk (hb hby d9_19) (by rw [e0]; exact ⟨(congrArg (fun z => some (Value.int z)) (show q3 = own_f9 q0 q1 q2 q3 q4 from (by rw [own_f9, if_neg c102, if_neg c105, if_pos c108]))), N0, rfl⟩) (by decide) (by decide)
      · have sg110 : ∀ t, Steps p.tables e below (s₁.setTop (mkF m 22 #[.val (.int q0), .val (.int q1), .val (.int q2), .val (.int q3), .val (.int q4)] [(.int q4)])) t → Steps p.tables e below (s₁.setTop (mkF m 15 #[.val (.int q0), .val (.int q1), .val (.int q2), .val (.int q3), .val (.int q4)] [(.int (2 : Int32)), (.int q0)])) t := by
          intro t k
          show Steps p.tables e below (s₁.setTop (mkF m 15 #[.val (.int q0), .val (.int q1), .val (.int q2), .val (.int q3), .val (.int q4)] [(.int (2 : Int32)), (.int q0)])) t
          refine XS.icmpYes X0.here hx rfl (pc0 := 15) (pc' := 20) rfl (hb hby d9_15) rfl (feq c108).2 (by decide) (by decide) ?_
          show Steps p.tables e below (s₁.setTop (mkF m 20 #[.val (.int q0), .val (.int q1), .val (.int q2), .val (.int q3), .val (.int q4)] [])) t
          refine XS.iload X0.here hx rfl (hb hby d9_20) rfl ?_
          exact k
        refine OFin.go sg110 ?_
        exact OFin.retI X0 hx hret hlk (hb hby d9_22) (by rw [e0]; exact ⟨(congrArg (fun z => some (Value.int z)) (show q4 = own_f9 q0 q1 q2 q3 q4 from (by rw [own_f9, if_neg c102, if_neg c105, if_neg c108]))), N0, rfl⟩) (by decide) (by decide)
theorem d2_0 : decode jdk_43_method_3_code 0 = .ok (.iload_n 0, 1) := by decide +kernel
theorem d2_1 : decode jdk_43_method_3_code 1 = .ok (.sipush 255, 3) := by decide +kernel
theorem d2_4 : decode jdk_43_method_3_code 4 = .ok (.if_icmp .gt 7, 3) := by decide +kernel
theorem d2_7 : decode jdk_43_method_3_code 7 = .ok (.iconst 1, 1) := by decide +kernel
theorem d2_8 : decode jdk_43_method_3_code 8 = .ok (.goto 4, 3) := by decide +kernel
theorem d2_11 : decode jdk_43_method_3_code 11 = .ok (.iconst 0, 1) := by decide +kernel
theorem d2_12 : decode jdk_43_method_3_code 12 = .ok (.ireturn, 1) := by decide +kernel
theorem pn_1 : plainName "java/lang/StringLatin1" = true := by first | (simp [plainName, overriddenIn]; done) | decide +kernel
theorem ef_2 (m : MethodId) (x0 : Int32) : entryFrame m #[(.int x0)] 1 = mkF m 0 #[.val (.int x0)] [] := by first | (simp [entryFrame, mkF, argsToLocals, Value.category]; done) | rfl
def own_f2 (q0 : Int32) : Int32 := (if (255 : Int32) < q0 then (0 : Int32) else (1 : Int32))
def Q2 (Z : State) (q0 : Int32) (h0 : Heap) (n0 : Nat) (v : Option Value) (h : Heap) (L : List Loc) : Prop := v = some (.int (own_f2 q0)) ∧ Fr n0 L ∧ h = h0
set_option maxHeartbeats 40000000 in
theorem rm2 (l : Launch) (Z : State) (aZ : Array Value) (hw : ∀ d ∈ tables_1, d.before aZ Z = true) (ws : List Jvm.Cond) (q0 : Int32) (h0 : Heap) (n0 : Nat) (Z0 : n0 ≤ h0.size) :
    MetFree l (⟨"java/lang/StringLatin1", "canEncode", "(C)Z"⟩ : MethodName) (head1 (Jvm.Cond.code (⟨"java/lang/StringLatin1", "canEncode", "(C)Z"⟩ : MethodName) jdk_43_method_3_code 1 (some .boolean) :: ws) ({ frames := 0, cells := 0, slots := 0, locals := 0 } : Room)) (fun a U => a = #[(.int q0)] ∧ Z.Warmed39 U.vm ∧ U.heap = h0) (fun _ _ _ _ _ => True) (fun _ U o U' => ∃ v L, o = .returned v ∧ Q2 Z q0 h0 n0 v U'.heap L ∧ FrameEnd U o U' L ({ frames := 0, cells := 0, slots := 0, locals := 0 } : Room).cells ({ frames := 0, cells := 0, slots := 0, locals := 0 } : Room).slots) := by
  refine MetFree.of_bodySF (plainFor_of_name pn_1) hisR ?_
  intro p e s m args below meth c s₁ Bd hml0 hP hK
  obtain ⟨rfl, hZ, hh⟩ := hP
  have hx := Bd.exec
  have hby := Bd.bytes
  have hret := Bd.returns
  have hlk : meth.locks = false := BodyLoose.notSynchronized Bd
  have hml : c.maxLocals = 1 := hml0
  have hown : s.vm.findClass "java/lang/StringLatin1" = some m.cls := findClass_of_methodNamed Bd.named
  have hnm := (name_of_methodNamed Bd.named Bd.method).1
  have X0 : Stand p l e ({ frames := 0, cells := 0, slots := 0, locals := 0 } : Room) s m #[(.int q0)] below meth c s₁ [] 0 0 := Stand.of_body Bd
  have e0 : s₁.heap = h0 := by rw [← hh, Bd.state]; rfl
  have N0 := Fr.nil n0
  have K0 : Keep h0 h0 [] := Keep.refl _ _
  have pre0 : ∀ t, Steps p.tables e below (s₁.setTop (mkF m 0 #[.val (.int q0)] [])) t → Steps p.tables e below (s₁.setTop (entryFrame m #[(.int q0)] 1)) t := fun t k => castTop (ef_2 m q0) k
  show OFin p e below s (Q2 Z q0 h0 n0) ({ frames := 0, cells := 0, slots := 0, locals := 0 } : Room).cells ({ frames := 0, cells := 0, slots := 0, locals := 0 } : Room).slots _
  refine OFin.go pre0 ?_
  have sg101 : ∀ t, Steps p.tables e below (s₁.setTop (mkF m 4 #[.val (.int q0)] [(.int (255 : Int32)), (.int q0)])) t → Steps p.tables e below (s₁.setTop (mkF m 0 #[.val (.int q0)] [])) t := by
    intro t k
    show Steps p.tables e below (s₁.setTop (mkF m 0 #[.val (.int q0)] [])) t
    refine XS.iloadN X0.here hx rfl (hb hby d2_0) rfl ?_
    show Steps p.tables e below (s₁.setTop (mkF m 1 #[.val (.int q0)] [(.int q0)])) t
    refine XS.sipush X0.here hx rfl (hb hby d2_1) ?_
    exact k
  refine OFin.go sg101 ?_
  by_cases c102 : (255 : Int32) < q0
  · have sg103 : ∀ t, Steps p.tables e below (s₁.setTop (mkF m 12 #[.val (.int q0)] [(.int (0 : Int32))])) t → Steps p.tables e below (s₁.setTop (mkF m 4 #[.val (.int q0)] [(.int (255 : Int32)), (.int q0)])) t := by
      intro t k
      show Steps p.tables e below (s₁.setTop (mkF m 4 #[.val (.int q0)] [(.int (255 : Int32)), (.int q0)])) t
      refine XS.icmpYes X0.here hx rfl (pc0 := 4) (pc' := 11) rfl (hb hby d2_4) rfl (tlt c102).2.2.1 (by decide) (by decide) ?_
      show Steps p.tables e below (s₁.setTop (mkF m 11 #[.val (.int q0)] [])) t
      refine XS.iconst X0.here hx rfl (hb hby d2_11) ?_
      exact k
    refine OFin.go sg103 ?_
    exact OFin.retN X0 hx hret (by simp) hlk (hb hby d2_12) rfl (by rw [e0]; exact ⟨(congrArg (fun z => some (Value.int z)) (show (0 : Int32) = own_f2 q0 from (by rw [own_f2, if_pos c102]))), N0, rfl⟩) (by decide) (by decide)
  · have sg104 : ∀ t, Steps p.tables e below (s₁.setTop (mkF m 12 #[.val (.int q0)] [(.int (1 : Int32))])) t → Steps p.tables e below (s₁.setTop (mkF m 4 #[.val (.int q0)] [(.int (255 : Int32)), (.int q0)])) t := by
      intro t k
      show Steps p.tables e below (s₁.setTop (mkF m 4 #[.val (.int q0)] [(.int (255 : Int32)), (.int q0)])) t
      refine XS.icmpNo X0.here hx rfl (hb hby d2_4) rfl (flt c102).2.2.1 ?_
      show Steps p.tables e below (s₁.setTop (mkF m 7 #[.val (.int q0)] [])) t
      refine XS.iconst X0.here hx rfl (hb hby d2_7) ?_
      show Steps p.tables e below (s₁.setTop (mkF m 8 #[.val (.int q0)] [(.int (1 : Int32))])) t
      refine XS.goto X0.here hx rfl (pc0 := 8) (pc' := 12) rfl (hb hby d2_8) (by decide) (by decide) ?_
      exact k
    refine OFin.go sg104 ?_
    exact OFin.retN X0 hx hret (by simp) hlk (hb hby d2_12) rfl (by rw [e0]; exact ⟨(congrArg (fun z => some (Value.int z)) (show (1 : Int32) = own_f2 q0 from (by rw [own_f2, if_neg c102]))), N0, rfl⟩) (by decide) (by decide)
theorem d3_0 : decode jdk_43_method_46_code 0 = .ok (.iconst 1, 1) := by decide +kernel
theorem d3_1 : decode jdk_43_method_46_code 1 = .ok (.newarray .byte, 2) := by decide +kernel
theorem d3_3 : decode jdk_43_method_46_code 3 = .ok (.dup, 1) := by decide +kernel
theorem d3_4 : decode jdk_43_method_46_code 4 = .ok (.iconst 0, 1) := by decide +kernel
theorem d3_5 : decode jdk_43_method_46_code 5 = .ok (.iload_n 0, 1) := by decide +kernel
theorem d3_6 : decode jdk_43_method_46_code 6 = .ok (.i2b, 1) := by decide +kernel
theorem d3_7 : decode jdk_43_method_46_code 7 = .ok (.bastore, 1) := by decide +kernel
theorem d3_8 : decode jdk_43_method_46_code 8 = .ok (.areturn, 1) := by decide +kernel
theorem ef_3 (m : MethodId) (x0 : Int32) : entryFrame m #[(.int x0)] 1 = mkF m 0 #[.val (.int x0)] [] := by first | (simp [entryFrame, mkF, argsToLocals, Value.category]; done) | rfl
def Q3 (Z : State) (q0 : Int32) (h0 : Heap) (n0 : Nat) (v : Option Value) (h : Heap) (L : List Loc) : Prop := ∃ (b9 : Addr), v = some (.ref b9) ∧ Fr n0 L ∧ Keep h0 h [] ∧ h0.size ≤ b9
set_option maxHeartbeats 40000000 in
theorem rm3 (l : Launch) (Z : State) (aZ : Array Value) (hw : ∀ d ∈ tables_1, d.before aZ Z = true) (ws : List Jvm.Cond) (q0 : Int32) (h0 : Heap) (n0 : Nat) (Z0 : n0 ≤ h0.size) :
    MetFree l (⟨"java/lang/StringLatin1", "toBytes", "(C)[B"⟩ : MethodName) (head1 (Jvm.Cond.code (⟨"java/lang/StringLatin1", "toBytes", "(C)[B"⟩ : MethodName) jdk_43_method_46_code 1 (some (.array .byte)) :: ws) ({ frames := 0, cells := 1, slots := 1, locals := 0 } : Room)) (fun a U => a = #[(.int q0)] ∧ Z.Warmed39 U.vm ∧ U.heap = h0) (fun _ _ _ _ _ => True) (fun _ U o U' => ∃ v L, o = .returned v ∧ Q3 Z q0 h0 n0 v U'.heap L ∧ FrameEnd U o U' L ({ frames := 0, cells := 1, slots := 1, locals := 0 } : Room).cells ({ frames := 0, cells := 1, slots := 1, locals := 0 } : Room).slots) := by
  refine MetFree.of_bodySF (plainFor_of_name pn_1) hisR ?_
  intro p e s m args below meth c s₁ Bd hml0 hP hK
  obtain ⟨rfl, hZ, hh⟩ := hP
  have hx := Bd.exec
  have hby := Bd.bytes
  have hret := Bd.returns
  have hlk : meth.locks = false := BodyLoose.notSynchronized Bd
  have hml : c.maxLocals = 1 := hml0
  have hown : s.vm.findClass "java/lang/StringLatin1" = some m.cls := findClass_of_methodNamed Bd.named
  have hnm := (name_of_methodNamed Bd.named Bd.method).1
  have X0 : Stand p l e ({ frames := 0, cells := 1, slots := 1, locals := 0 } : Room) s m #[(.int q0)] below meth c s₁ [] 0 0 := Stand.of_body Bd
  have e0 : s₁.heap = h0 := by rw [← hh, Bd.state]; rfl
  have N0 := Fr.nil n0
  have K0 : Keep h0 h0 [] := Keep.refl _ _
  have pre0 : ∀ t, Steps p.tables e below (s₁.setTop (mkF m 0 #[.val (.int q0)] [])) t → Steps p.tables e below (s₁.setTop (entryFrame m #[(.int q0)] 1)) t := fun t k => castTop (ef_3 m q0) k
  show OFin p e below s (Q3 Z q0 h0 n0) ({ frames := 0, cells := 1, slots := 1, locals := 0 } : Room).cells ({ frames := 0, cells := 1, slots := 1, locals := 0 } : Room).slots _
  refine OFin.go pre0 ?_
  have sg101 : ∀ t, Steps p.tables e below (s₁.setTop (mkF m 1 #[.val (.int q0)] [(.int (1 : Int32))])) t → Steps p.tables e below (s₁.setTop (mkF m 0 #[.val (.int q0)] [])) t := by
    intro t k
    show Steps p.tables e below (s₁.setTop (mkF m 0 #[.val (.int q0)] [])) t
    refine XS.iconst X0.here hx rfl (hb hby d3_0) ?_
    exact k
  refine OFin.go sg101 ?_
  obtain ⟨T102, h102, k102, X102, e102, E102, A102, st102⟩ := newP X0 hx hZ (hw _ (List.mem_of_getElem? (i := 17) rfl)) e0 (g := (mkF m 1 #[.val (.int q0)] [(.int (1 : Int32))])) rfl (hb hby d3_1) rfl (by decide) (cap := 1) (by decide) (by decide) (by decide) (by decide)
  obtain ⟨b102, g102⟩ : ∃ z, z = h0.size := ⟨_, rfl⟩
  rw [← g102] at A102 st102
  refine OFin.go st102 ?_
  have g_b102 : n0 ≤ b102 := Nat.le_trans (Nat.le_trans Z0 K0.1) (Nat.le_of_eq g102.symm)
  have sz_b102 : h0.size ≤ b102 := Nat.le_trans K0.1 (Nat.le_of_eq g102.symm)
  have K102 : Keep h0 h102 [] := K0.ext E102
  have V102 : Arv Z h102 b102 k102 .byte (1 : Int32) [(.int (0 : Int32))] (.int (0 : Int32)) := (Arv.new A102 (by decide)).pad (pad_rep [] (.int (0 : Int32)) 1)
  have sg103 : ∀ t, Steps p.tables e below (T102.setTop (mkF m 7 #[.val (.int q0)] [(.int (q0.toInt8.toInt32)), (.int (0 : Int32)), (.ref b102), (.ref b102)])) t → Steps p.tables e below (T102.setTop (mkF m 3 #[.val (.int q0)] [(.ref b102)])) t := by
    intro t k
    show Steps p.tables e below (T102.setTop (mkF m 3 #[.val (.int q0)] [(.ref b102)])) t
    refine XS.dup X102.here hx rfl (hb hby d3_3) rfl rfl ?_
    show Steps p.tables e below (T102.setTop (mkF m 4 #[.val (.int q0)] [(.ref b102), (.ref b102)])) t
    refine XS.iconst X102.here hx rfl (hb hby d3_4) ?_
    show Steps p.tables e below (T102.setTop (mkF m 5 #[.val (.int q0)] [(.int (0 : Int32)), (.ref b102), (.ref b102)])) t
    refine XS.iloadN X102.here hx rfl (hb hby d3_5) rfl ?_
    show Steps p.tables e below (T102.setTop (mkF m 6 #[.val (.int q0)] [(.int q0), (.int (0 : Int32)), (.ref b102), (.ref b102)])) t
    refine XS.i2b X102.here hx rfl (hb hby d3_6) rfl ?_
    exact k
  refine OFin.go sg103 ?_
  obtain ⟨cl104, Ar104, q104, S104, M104, H104, G104⟩ := id V102
  have hin104 : ¬ ((0 : Int32) < 0 ∨ cl104.slots.size ≤ ((0 : Int32)).toNatClampNeg) := inb_of S104 ⟨by decide, by decide⟩
  obtain ⟨T104, h104, X104, e104, W104, st104⟩ := stB X102 hx hZ e102 Ar104 (j := (0 : Int32)) hin104 (g := (mkF m 7 #[.val (.int q0)] [(.int (q0.toInt8.toInt32)), (.int (0 : Int32)), (.ref b102), (.ref b102)])) rfl rfl (hb hby d3_7)
  refine OFin.go st104 ?_
  have V104 : Arv Z h104 b102 k102 .byte (1 : Int32) [(.int ((q0.toInt8.toInt32).toInt8.toInt32))] (.int (0 : Int32)) := Arv.set Ar104 q104 S104 M104 H104 G104 (fits_nar_byte _) W104 0 rfl (Nat.le_of_ble_eq_true rfl)
  have K104 : Keep h0 h104 [] := K102.wr W104 (Or.inr sz_b102)
  have N104 := Fr.snoc X104 N0 g_b102
  exact OFin.retA X104 hx hret rfl rfl rfl hlk (hb hby d3_8) (by rw [e104]; exact ⟨b102, rfl, N104, K104, sz_b102⟩) (by decide) (by decide)
theorem d4_0 : decode jdk_42_method_151_code 0 = .ok (.aload_n 0, 1) := by decide +kernel
theorem d4_1 : decode jdk_42_method_151_code 1 = .ok (.invokespecial 1, 3) := by decide +kernel
theorem d4_4 : decode jdk_42_method_151_code 4 = .ok (.aload_n 0, 1) := by decide +kernel
theorem d4_5 : decode jdk_42_method_151_code 5 = .ok (.aload_n 1, 1) := by decide +kernel
theorem d4_6 : decode jdk_42_method_151_code 6 = .ok (.putfield 9, 3) := by decide +kernel
theorem d4_9 : decode jdk_42_method_151_code 9 = .ok (.aload_n 0, 1) := by decide +kernel
theorem d4_10 : decode jdk_42_method_151_code 10 = .ok (.iload_n 2, 1) := by decide +kernel
theorem d4_11 : decode jdk_42_method_151_code 11 = .ok (.putfield 15, 3) := by decide +kernel
theorem d4_14 : decode jdk_42_method_151_code 14 = .ok (.return_, 1) := by decide +kernel
theorem pn_2 : plainName "java/lang/String" = true := by first | (simp [plainName, overriddenIn]; done) | decide +kernel
theorem ef_4 (m : MethodId) (x0 : Addr) (x1 : Addr) (x2 : Int32) : entryFrame m #[(.ref x0), (.ref x1), (.int x2)] 3 = mkF m 0 #[.val (.ref x0), .val (.ref x1), .val (.int x2)] [] := by first | (simp [entryFrame, mkF, argsToLocals, Value.category]; done) | rfl
def Q4 (Z : State) (a0 : Addr) (a1 : Addr) (q2 : Int32) (h0 : Heap) (n0 : Nat) (v : Option Value) (h : Heap) (L : List Loc) : Prop := v = none ∧ Fr n0 L ∧ Keep h0 h [a0]
set_option maxHeartbeats 40000000 in
theorem rm4 (l : Launch) (Z : State) (aZ : Array Value) (hw : ∀ d ∈ tables_1, d.before aZ Z = true) (ws : List Jvm.Cond) (a0 : Addr) (a1 : Addr) (q2 : Int32) (h0 : Heap) (n0 : Nat) (Z0 : n0 ≤ h0.size) (E1 : Exa Z h0 a0 "java/lang/String") (F1 : Fld Z h0 a0 "java/lang/String" "value" "[B" .null) (F2 : Fld Z h0 a0 "java/lang/String" "coder" "B" (.int (0 : Int32))) (g_a0 : n0 ≤ a0) :
    MetFree l (⟨"java/lang/String", "<init>", "([BB)V"⟩ : MethodName) (head1 (Jvm.Cond.code (⟨"java/lang/String", "<init>", "([BB)V"⟩ : MethodName) jdk_42_method_151_code 3 none :: ws) ({ frames := 1, cells := 0, slots := 0, locals := 12 } : Room)) (fun a U => a = #[(.ref a0), (.ref a1), (.int q2)] ∧ Z.Warmed39 U.vm ∧ U.heap = h0) (fun _ _ _ _ _ => True) (fun _ U o U' => ∃ v L, o = .returned v ∧ Q4 Z a0 a1 q2 h0 n0 v U'.heap L ∧ FrameEnd U o U' L ({ frames := 1, cells := 0, slots := 0, locals := 12 } : Room).cells ({ frames := 1, cells := 0, slots := 0, locals := 12 } : Room).slots) := by
  refine MetFree.of_bodySF (plainFor_of_name pn_2) hisR ?_
  intro p e s m args below meth c s₁ Bd hml0 hP hK
  obtain ⟨rfl, hZ, hh⟩ := hP
  have hx := Bd.exec
  have hby := Bd.bytes
  have hret := Bd.returns
  have hlk : meth.locks = false := BodyLoose.notSynchronized Bd
  have hml : c.maxLocals = 3 := hml0
  have hown : s.vm.findClass "java/lang/String" = some m.cls := findClass_of_methodNamed Bd.named
  have hnm := (name_of_methodNamed Bd.named Bd.method).1
  have X0 : Stand p l e ({ frames := 1, cells := 0, slots := 0, locals := 12 } : Room) s m #[(.ref a0), (.ref a1), (.int q2)] below meth c s₁ [] 0 0 := Stand.of_body Bd
  have e0 : s₁.heap = h0 := by rw [← hh, Bd.state]; rfl
  have N0 := Fr.nil n0
  have K0 : Keep h0 h0 [a0] := Keep.refl _ _
  have pre0 : ∀ t, Steps p.tables e below (s₁.setTop (mkF m 0 #[.val (.ref a0), .val (.ref a1), .val (.int q2)] [])) t → Steps p.tables e below (s₁.setTop (entryFrame m #[(.ref a0), (.ref a1), (.int q2)] 3)) t := fun t k => castTop (ef_4 m a0 a1 q2) k
  show OFin p e below s (Q4 Z a0 a1 q2 h0 n0) ({ frames := 1, cells := 0, slots := 0, locals := 12 } : Room).cells ({ frames := 1, cells := 0, slots := 0, locals := 12 } : Room).slots _
  refine OFin.go pre0 ?_
  have sg101 : ∀ t, Steps p.tables e below (s₁.setTop (mkF m 1 #[.val (.ref a0), .val (.ref a1), .val (.int q2)] [(.ref a0)])) t → Steps p.tables e below (s₁.setTop (mkF m 0 #[.val (.ref a0), .val (.ref a1), .val (.int q2)] [])) t := by
    intro t k
    show Steps p.tables e below (s₁.setTop (mkF m 0 #[.val (.ref a0), .val (.ref a1), .val (.int q2)] [])) t
    refine XS.aloadN X0.here hx rfl (hb hby d4_0) rfl rfl ?_
    exact k
  refine OFin.go sg101 ?_
  obtain ⟨T102, X102, e102, st102⟩ := initO X0 hx hZ hown (hw _ (List.mem_of_getElem? (i := 22) rfl)) (hw _ (List.mem_of_getElem? (i := 23) rfl)) (hw _ (List.mem_of_getElem? (i := 24) rfl)) e0 (g := (mkF m 1 #[.val (.ref a0), .val (.ref a1), .val (.int q2)] [(.ref a0)])) rfl (by rw [hml]; rfl) rfl (hb hby d4_1) (by decide) (W := 0) (by show 2 * 0 + _ ≤ _; exact Nat.le_of_eq rfl) (by decide)
  refine OFin.go st102 ?_
  have sg103 : ∀ t, Steps p.tables e below (T102.setTop (mkF m 6 #[.val (.ref a0), .val (.ref a1), .val (.int q2)] [(.ref a1), (.ref a0)])) t → Steps p.tables e below (T102.setTop (mkF m 4 #[.val (.ref a0), .val (.ref a1), .val (.int q2)] [])) t := by
    intro t k
    show Steps p.tables e below (T102.setTop (mkF m 4 #[.val (.ref a0), .val (.ref a1), .val (.int q2)] [])) t
    refine XS.aloadN X102.here hx rfl (hb hby d4_4) rfl rfl ?_
    show Steps p.tables e below (T102.setTop (mkF m 5 #[.val (.ref a0), .val (.ref a1), .val (.int q2)] [(.ref a0)])) t
    refine XS.aloadN X102.here hx rfl (hb hby d4_5) rfl rfl ?_
    exact k
  refine OFin.go sg103 ?_
  obtain ⟨T104, h104, X104, e104, W104, st104⟩ := putF X102 hx hZ hown (host := "") (Or.inl (hw _ (List.mem_of_getElem? (i := 25) rfl))) Via.refl e102 F1 E1 (Or.inr ⟨(hw _ (List.mem_of_getElem? (i := 26) rfl)), rfl, hnm⟩) (hw _ (List.mem_of_getElem? (i := 13) rfl)) (ty := (.array .byte)) (by decide) rfl rfl (g := (mkF m 6 #[.val (.ref a0), .val (.ref a1), .val (.int q2)] [(.ref a1), (.ref a0)])) rfl rfl (hb hby d4_6)
  refine OFin.go st104 ?_
  have F104 := F1.same W104
  have K104 : Keep h0 h104 [a0] := K0.wr W104 (Or.inl (List.mem_of_getElem? (i := 0) rfl))
  have N104 := Fr.snoc X104 N0 g_a0
  have sg105 : ∀ t, Steps p.tables e below (T104.setTop (mkF m 11 #[.val (.ref a0), .val (.ref a1), .val (.int q2)] [(.int q2), (.ref a0)])) t → Steps p.tables e below (T104.setTop (mkF m 9 #[.val (.ref a0), .val (.ref a1), .val (.int q2)] [])) t := by
    intro t k
    show Steps p.tables e below (T104.setTop (mkF m 9 #[.val (.ref a0), .val (.ref a1), .val (.int q2)] [])) t
    refine XS.aloadN X104.here hx rfl (hb hby d4_9) rfl rfl ?_
    show Steps p.tables e below (T104.setTop (mkF m 10 #[.val (.ref a0), .val (.ref a1), .val (.int q2)] [(.ref a0)])) t
    refine XS.iloadN X104.here hx rfl (hb hby d4_10) rfl ?_
    exact k
  refine OFin.go sg105 ?_
  obtain ⟨T106, h106, X106, e106, W106, st106⟩ := putFN X104 hx hZ hown (hw _ (List.mem_of_getElem? (i := 27) rfl)) Via.refl e104 (F2.other W104 (Or.inr (slot_ne (Or.inr (hw _ (List.mem_of_getElem? (i := 28) rfl))) (Or.inr (hw _ (List.mem_of_getElem? (i := 26) rfl))) (by decide) (t := .byte) (t' := (.array .byte)) (by decide) (by decide)))) (E1.wr W104) (Or.inr ⟨(hw _ (List.mem_of_getElem? (i := 28) rfl)), rfl, hnm⟩) (hw _ (List.mem_of_getElem? (i := 13) rfl)) (ty := .byte) (v' := (.int (q2.toInt8.toInt32))) (by decide) rfl (fits_nar_byte _) (g := (mkF m 11 #[.val (.ref a0), .val (.ref a1), .val (.int q2)] [(.int q2), (.ref a0)])) rfl rfl (hb hby d4_11)
  refine OFin.go st106 ?_
  have F106 := (F2.other W104 (Or.inr (slot_ne (Or.inr (hw _ (List.mem_of_getElem? (i := 28) rfl))) (Or.inr (hw _ (List.mem_of_getElem? (i := 26) rfl))) (by decide) (t := .byte) (t' := (.array .byte)) (by decide) (by decide)))).same W106
  have K106 : Keep h0 h106 [a0] := K104.wr W106 (Or.inl (List.mem_of_getElem? (i := 0) rfl))
  have N106 := Fr.snoc X106 N104 g_a0
  exact OFin.retV X106 hx hret hlk (hb hby d4_14) (by rw [e106]; exact ⟨rfl, N106, K106⟩) (by decide) (by decide)
theorem d1_0 : decode jdk_42_method_139_code 0 = .ok (.getstatic 38, 3) := by decide +kernel
theorem d1_3 : decode jdk_42_method_139_code 3 = .ok (.ifCond .eq 23, 3) := by decide +kernel
theorem d1_6 : decode jdk_42_method_139_code 6 = .ok (.iload_n 0, 1) := by decide +kernel
theorem d1_7 : decode jdk_42_method_139_code 7 = .ok (.invokestatic 1015, 3) := by decide +kernel
theorem d1_10 : decode jdk_42_method_139_code 10 = .ok (.ifCond .eq 16, 3) := by decide +kernel
theorem d1_13 : decode jdk_42_method_139_code 13 = .ok (.new 10, 3) := by decide +kernel
theorem d1_16 : decode jdk_42_method_139_code 16 = .ok (.dup, 1) := by decide +kernel
theorem d1_17 : decode jdk_42_method_139_code 17 = .ok (.iload_n 0, 1) := by decide +kernel
theorem d1_18 : decode jdk_42_method_139_code 18 = .ok (.invokestatic 1018, 3) := by decide +kernel
theorem d1_21 : decode jdk_42_method_139_code 21 = .ok (.iconst 0, 1) := by decide +kernel
theorem d1_22 : decode jdk_42_method_139_code 22 = .ok (.invokespecial 209, 3) := by decide +kernel
theorem d1_25 : decode jdk_42_method_139_code 25 = .ok (.areturn, 1) := by decide +kernel
theorem d1_26 : decode jdk_42_method_139_code 26 = .ok (.new 10, 3) := by decide +kernel
theorem d1_29 : decode jdk_42_method_139_code 29 = .ok (.dup, 1) := by decide +kernel
theorem d1_30 : decode jdk_42_method_139_code 30 = .ok (.iload_n 0, 1) := by decide +kernel
theorem d1_31 : decode jdk_42_method_139_code 31 = .ok (.invokestatic 1021, 3) := by decide +kernel
theorem d1_34 : decode jdk_42_method_139_code 34 = .ok (.iconst 1, 1) := by decide +kernel
theorem d1_35 : decode jdk_42_method_139_code 35 = .ok (.invokespecial 209, 3) := by decide +kernel
theorem d1_38 : decode jdk_42_method_139_code 38 = .ok (.areturn, 1) := by decide +kernel
theorem pd_0 : parseMethodDescriptor "(C)Z" = some ⟨[.char], some .boolean⟩ := by decide +kernel
theorem pd_1 : parseMethodDescriptor "(C)[B" = some ⟨[.char], some (.array .byte)⟩ := by decide +kernel
theorem pd_2 : parseMethodDescriptor "([BB)V" = some ⟨[(.array .byte), .byte], none⟩ := by decide +kernel
theorem ef_1 (m : MethodId) (x0 : Int32) : entryFrame m #[(.int x0)] 1 = mkF m 0 #[.val (.int x0)] [] := by first | (simp [entryFrame, mkF, argsToLocals, Value.category]; done) | rfl
def Q1 (Z : State) (q0 : Int32) (w1 : Int32) (h0 : Heap) (n0 : Nat) (v : Option Value) (h : Heap) (L : List Loc) : Prop := ∃ (b9 : Addr), v = some (.ref b9) ∧ Fr n0 L ∧ Keep h0 h [] ∧ h0.size ≤ b9
set_option maxHeartbeats 40000000 in
theorem rm1 (l : Launch) (Z : State) (aZ : Array Value) (hw : ∀ d ∈ tables_1, d.before aZ Z = true) (ws : List Jvm.Cond) (q0 : Int32) (w1 : Int32) (h0 : Heap) (n0 : Nat) (Z0 : n0 ≤ h0.size) (O0 : Old Z n0 h0) (S1 : Sta Z Z.heap "java/lang/String" "COMPACT_STRINGS" "Z" (.int w1)) (hcs : ¬ (w1 = (0 : Int32))) (hq : ¬ ((255 : Int32) < q0)) :
    MetFree l (⟨"java/lang/String", "valueOf", "(C)Ljava/lang/String;"⟩ : MethodName) (head1 (Jvm.Cond.code (⟨"java/lang/String", "valueOf", "(C)Ljava/lang/String;"⟩ : MethodName) jdk_42_method_139_code 1 (some (.object "java/lang/String")) :: ws) ({ frames := 2, cells := 2, slots := 5, locals := 27 } : Room)) (fun a U => a = #[(.int q0)] ∧ Z.Warmed39 U.vm ∧ U.heap = h0) (fun _ _ _ _ _ => True) (fun _ U o U' => ∃ v L, o = .returned v ∧ Q1 Z q0 w1 h0 n0 v U'.heap L ∧ FrameEnd U o U' L ({ frames := 2, cells := 2, slots := 5, locals := 27 } : Room).cells ({ frames := 2, cells := 2, slots := 5, locals := 27 } : Room).slots) := by
  refine MetFree.of_bodySF (plainFor_of_name pn_2) hisR ?_
  intro p e s m args below meth c s₁ Bd hml0 hP hK
  obtain ⟨rfl, hZ, hh⟩ := hP
  have hx := Bd.exec
  have hby := Bd.bytes
  have hret := Bd.returns
  have hlk : meth.locks = false := BodyLoose.notSynchronized Bd
  have hml : c.maxLocals = 1 := hml0
  have hown : s.vm.findClass "java/lang/String" = some m.cls := findClass_of_methodNamed Bd.named
  have hnm := (name_of_methodNamed Bd.named Bd.method).1
  have X0 : Stand p l e ({ frames := 2, cells := 2, slots := 5, locals := 27 } : Room) s m #[(.int q0)] below meth c s₁ [] 0 0 := Stand.of_body Bd
  have e0 : s₁.heap = h0 := by rw [← hh, Bd.state]; rfl
  have N0 := Fr.nil n0
  have K0 : Keep h0 h0 [] := Keep.refl _ _
  have pre0 : ∀ t, Steps p.tables e below (s₁.setTop (mkF m 0 #[.val (.int q0)] [])) t → Steps p.tables e below (s₁.setTop (entryFrame m #[(.int q0)] 1)) t := fun t k => castTop (ef_1 m q0) k
  show OFin p e below s (Q1 Z q0 w1 h0 n0) ({ frames := 2, cells := 2, slots := 5, locals := 27 } : Room).cells ({ frames := 2, cells := 2, slots := 5, locals := 27 } : Room).slots _
  refine OFin.go pre0 ?_
  obtain ⟨T101, X101, e101, st101⟩ := getS2 X0 hx hZ hown (host := "") (Or.inl (hw _ (List.mem_of_getElem? (i := 7) rfl))) Via.refl e0 (S1.ext O0.2) (g := (mkF m 0 #[.val (.int q0)] [])) rfl (hb hby d1_0)
  refine OFin.go st101 ?_
  have c102 : ¬ (w1 = (0 : Int32)) := hcs
  have sg103 : ∀ t, Steps p.tables e below (T101.setTop (mkF m 7 #[.val (.int q0)] [(.int q0)])) t → Steps p.tables e below (T101.setTop (mkF m 3 #[.val (.int q0)] [(.int w1)])) t := by
    intro t k
    show Steps p.tables e below (T101.setTop (mkF m 3 #[.val (.int q0)] [(.int w1)])) t
    refine XS.ifNo X101.here hx rfl (hb hby d1_3) rfl ((if0 _ _).trans (feq c102).1) ?_
    show Steps p.tables e below (T101.setTop (mkF m 6 #[.val (.int q0)] [])) t
    refine XS.iloadN X101.here hx rfl (hb hby d1_6) rfl ?_
    exact k
  refine OFin.go sg103 ?_
  obtain ⟨_, _, ⟨T104, L104, k104, n104⟩, -, X104, ⟨Lc104, hQ104, l104, y104, z104⟩, st104⟩ := Jvm.LawKit.callS X101 hx (y := (⟨"java/lang/StringLatin1", "canEncode", "(C)Z"⟩ : MethodName)) hown (mvT hZ (hw _ (List.mem_of_getElem? (i := 8) rfl))) (mvT hZ (hw _ (List.mem_of_getElem? (i := 9) rfl))) (mvT hZ (hw _ (List.mem_of_getElem? (i := 10) rfl))) (mvT hZ (hw _ (List.mem_of_getElem? (i := 11) rfl))) (by decide) (backOf (W := 0) (rm2 l Z aZ hw [] q0 h0 n0 (Nat.le_trans Z0 K0.1) ) hZ (hw _ (List.mem_of_getElem? (i := 11) rfl)) (hw _ (List.mem_of_getElem? (i := 10) rfl)) (by decide) (by decide)) (g := (mkF m 7 #[.val (.int q0)] [(.int q0)])) rfl (by rw [hml]; rfl) (argsL := [(.int q0)]) (rest := []) (lenOf pd_0 rfl) rfl (by show 2 * 0 + _ ≤ _; exact Nat.le_of_eq rfl) (hb hby d1_7) (fun _ _ => ⟨rfl, e101, (by decide : 0 + 0 ≤ _), (by decide : 0 + 0 ≤ _)⟩)
  dsimp only [Pt.U, Pt.locs, Pt.cells, Pt.slots] at X104 l104 y104 z104 st104 hQ104
  subst l104 y104 z104
  obtain ⟨rfl, N104q, e104⟩ := hQ104
  have N104 := Fr.app N0 N104q
  refine OFin.go st104 ?_
  have c105 : ¬ ((own_f2 q0) = (0 : Int32)) := (by rw [show own_f2 q0 = 1 from (by unfold own_f2; rw [if_neg hq])]; decide)
  have sg106 : ∀ t, Steps p.tables e below (T104.setTop (mkF m 13 #[.val (.int q0)] [])) t → Steps p.tables e below (T104.setTop (mkF m 10 #[.val (.int q0)] [(.int (own_f2 q0))])) t := by
    intro t k
    show Steps p.tables e below (T104.setTop (mkF m 10 #[.val (.int q0)] [(.int (own_f2 q0))])) t
    refine XS.ifNo X104.here hx rfl (hb hby d1_10) rfl ((if0 _ _).trans (feq c105).1) ?_
    exact k
  refine OFin.go sg106 ?_
  obtain ⟨T107, h107, X107, e107, E107, A107, D107, -, st107⟩ := newO X104 hx hZ hown (hw _ (List.mem_of_getElem? (i := 12) rfl)) (hw _ (List.mem_of_getElem? (i := 13) rfl)) (hw _ (List.mem_of_getElem? (i := 5) rfl)) e104 (g := (mkF m 13 #[.val (.int q0)] [])) rfl (hb hby d1_13) (by decide) (by decide)
  obtain ⟨b107, g107⟩ : ∃ z, z = h0.size := ⟨_, rfl⟩
  rw [← g107] at A107 D107 st107
  refine OFin.go st107 ?_
  have g_b107 : n0 ≤ b107 := Nat.le_trans (Nat.le_trans Z0 K0.1) (Nat.le_of_eq g107.symm)
  have sz_b107 : h0.size ≤ b107 := Nat.le_trans K0.1 (Nat.le_of_eq g107.symm)
  have K107 : Keep h0 h107 [] := K0.ext E107
  have F107_value : Fld Z h107 b107 "java/lang/String" "value" "[B" .null := D107 (Or.inr (hw _ (List.mem_of_getElem? (i := 26) rfl))) (ty := (.array .byte)) (by decide)
  have F107_coder : Fld Z h107 b107 "java/lang/String" "coder" "B" (.int (0 : Int32)) := D107 (Or.inr (hw _ (List.mem_of_getElem? (i := 28) rfl))) (ty := .byte) (by decide)
  have sg108 : ∀ t, Steps p.tables e below (T107.setTop (mkF m 18 #[.val (.int q0)] [(.int q0), (.ref b107), (.ref b107)])) t → Steps p.tables e below (T107.setTop (mkF m 16 #[.val (.int q0)] [(.ref b107)])) t := by
    intro t k
    show Steps p.tables e below (T107.setTop (mkF m 16 #[.val (.int q0)] [(.ref b107)])) t
    refine XS.dup X107.here hx rfl (hb hby d1_16) rfl rfl ?_
    show Steps p.tables e below (T107.setTop (mkF m 17 #[.val (.int q0)] [(.ref b107), (.ref b107)])) t
    refine XS.iloadN X107.here hx rfl (hb hby d1_17) rfl ?_
    exact k
  refine OFin.go sg108 ?_
  obtain ⟨_, _, ⟨T109, L109, k109, n109⟩, -, X109, ⟨Lc109, hQ109, l109, y109, z109⟩, st109⟩ := Jvm.LawKit.callS X107 hx (y := (⟨"java/lang/StringLatin1", "toBytes", "(C)[B"⟩ : MethodName)) hown (mvT hZ (hw _ (List.mem_of_getElem? (i := 14) rfl))) (mvT hZ (hw _ (List.mem_of_getElem? (i := 15) rfl))) (mvT hZ (hw _ (List.mem_of_getElem? (i := 10) rfl))) (mvT hZ (hw _ (List.mem_of_getElem? (i := 16) rfl))) (by decide) (backOf (W := 2) (rm3 l Z aZ hw [] q0 h107 n0 (Nat.le_trans Z0 K107.1) ) hZ (hw _ (List.mem_of_getElem? (i := 16) rfl)) (hw _ (List.mem_of_getElem? (i := 10) rfl)) (by decide) (by decide)) (g := (mkF m 18 #[.val (.int q0)] [(.int q0), (.ref b107), (.ref b107)])) rfl (by rw [hml]; rfl) (argsL := [(.int q0)]) (rest := [(.ref b107), (.ref b107)]) (lenOf pd_1 rfl) rfl (by show 2 * 0 + _ ≤ _; exact Nat.le_of_eq rfl) (hb hby d1_18) (fun _ _ => ⟨rfl, e107, (by decide : 1 + 1 ≤ _), (by decide : 4 + 1 ≤ _)⟩)
  dsimp only [Pt.U, Pt.locs, Pt.cells, Pt.slots] at X109 l109 y109 z109 st109 hQ109
  subst l109 y109 z109
  obtain ⟨b9109, rfl, N109q, Kq109, R109_0⟩ := hQ109
  have N109 := Fr.app N104 N109q
  refine OFin.go st109 ?_
  have K109 : Keep h0 T109.heap [] := K107.trans Kq109 all0
  have g_b9109 : n0 ≤ b9109 := Nat.le_trans (Nat.le_trans Z0 K107.1) R109_0
  have sz_b9109 : h0.size ≤ b9109 := Nat.le_trans K107.1 R109_0
  have sg110 : ∀ t, Steps p.tables e below (T109.setTop (mkF m 22 #[.val (.int q0)] [(.int (0 : Int32)), (.ref b9109), (.ref b107), (.ref b107)])) t → Steps p.tables e below (T109.setTop (mkF m 21 #[.val (.int q0)] [(.ref b9109), (.ref b107), (.ref b107)])) t := by
    intro t k
    show Steps p.tables e below (T109.setTop (mkF m 21 #[.val (.int q0)] [(.ref b9109), (.ref b107), (.ref b107)])) t
    refine XS.iconst X109.here hx rfl (hb hby d1_21) ?_
    exact k
  refine OFin.go sg110 ?_
  obtain ⟨_, _, ⟨T111, L111, k111, n111⟩, -, X111, ⟨Lc111, hQ111, l111, y111, z111⟩, st111⟩ := X109.specialBack hx (y := (⟨"java/lang/String", "<init>", "([BB)V"⟩ : MethodName)) rfl hown (mvT hZ (hw _ (List.mem_of_getElem? (i := 18) rfl))) (mvT hZ (hw _ (List.mem_of_getElem? (i := 19) rfl))) (mvT hZ (hw _ (List.mem_of_getElem? (i := 21) rfl))) (by decide) (backOf (W := 1) (rm4 l Z aZ hw [] b107 b9109 (0 : Int32) T109.heap n0 (Nat.le_trans Z0 K109.1) (A107.keep Kq109) (F107_value.keep Kq109 nin0) (F107_coder.keep Kq109 nin0) g_b107) hZ (hw _ (List.mem_of_getElem? (i := 21) rfl)) (hw _ (List.mem_of_getElem? (i := 5) rfl)) (by decide) (by decide)) (g := (mkF m 22 #[.val (.int q0)] [(.int (0 : Int32)), (.ref b9109), (.ref b107), (.ref b107)])) rfl (by rw [hml]; rfl) (Steps.refl _) (a := b107) (argsL := [(.ref b9109), (.int (0 : Int32))]) (rest := [(.ref b107)]) (lenOf pd_2 rfl) rfl (by show 2 * 0 + _ ≤ _; exact Nat.le_of_eq rfl) (hb hby d1_22) (fun _ _ => ⟨rfl, rfl, (by decide : 2 + 0 ≤ _), (by decide : 5 + 0 ≤ _)⟩)
  dsimp only [Pt.U, Pt.locs, Pt.cells, Pt.slots] at X111 l111 y111 z111 st111 hQ111
  subst l111 y111 z111
  obtain ⟨rfl, N111q, Kq111⟩ := hQ111
  have N111 := Fr.app N109 N111q
  refine OFin.tr st111 ?_
  have K111 : Keep h0 T111.heap [] := K109.trans Kq111 (allS (Or.inr sz_b107) all0)
  exact OFin.retA X111 hx hret rfl rfl rfl hlk (hb hby d1_25) ⟨b107, rfl, N111, K111, sz_b107⟩ (by decide) (by decide)
theorem d7_0 : decode jdk_30_method_1_code 0 = .ok (.aload_n 0, 1) := by decide +kernel
theorem d7_1 : decode jdk_30_method_1_code 1 = .ok (.invokespecial 1, 3) := by decide +kernel
theorem d7_4 : decode jdk_30_method_1_code 4 = .ok (.return_, 1) := by decide +kernel
theorem pn_3 : plainName "java/lang/Record" = true := by first | (simp [plainName, overriddenIn]; done) | decide +kernel
theorem ef_7 (m : MethodId) (x0 : Addr) : entryFrame m #[(.ref x0)] 1 = mkF m 0 #[.val (.ref x0)] [] := by first | (simp [entryFrame, mkF, argsToLocals, Value.category]; done) | rfl
def Q7 (Z : State) (a0 : Addr) (h0 : Heap) (n0 : Nat) (v : Option Value) (h : Heap) (L : List Loc) : Prop := v = none ∧ Fr n0 L ∧ h = h0
set_option maxHeartbeats 40000000 in
theorem rm7 (l : Launch) (Z : State) (aZ : Array Value) (hw : ∀ d ∈ tables_1, d.before aZ Z = true) (ws : List Jvm.Cond) (a0 : Addr) (h0 : Heap) (n0 : Nat) (Z0 : n0 ≤ h0.size) :
    MetFree l (⟨"java/lang/Record", "<init>", "()V"⟩ : MethodName) (head1 (Jvm.Cond.code (⟨"java/lang/Record", "<init>", "()V"⟩ : MethodName) jdk_30_method_1_code 1 none :: ws) ({ frames := 1, cells := 0, slots := 0, locals := 12 } : Room)) (fun a U => a = #[(.ref a0)] ∧ Z.Warmed39 U.vm ∧ U.heap = h0) (fun _ _ _ _ _ => True) (fun _ U o U' => ∃ v L, o = .returned v ∧ Q7 Z a0 h0 n0 v U'.heap L ∧ FrameEnd U o U' L ({ frames := 1, cells := 0, slots := 0, locals := 12 } : Room).cells ({ frames := 1, cells := 0, slots := 0, locals := 12 } : Room).slots) := by
  refine MetFree.of_bodySF (plainFor_of_name pn_3) hisR ?_
  intro p e s m args below meth c s₁ Bd hml0 hP hK
  obtain ⟨rfl, hZ, hh⟩ := hP
  have hx := Bd.exec
  have hby := Bd.bytes
  have hret := Bd.returns
  have hlk : meth.locks = false := BodyLoose.notSynchronized Bd
  have hml : c.maxLocals = 1 := hml0
  have hown : s.vm.findClass "java/lang/Record" = some m.cls := findClass_of_methodNamed Bd.named
  have hnm := (name_of_methodNamed Bd.named Bd.method).1
  have X0 : Stand p l e ({ frames := 1, cells := 0, slots := 0, locals := 12 } : Room) s m #[(.ref a0)] below meth c s₁ [] 0 0 := Stand.of_body Bd
  have e0 : s₁.heap = h0 := by rw [← hh, Bd.state]; rfl
  have N0 := Fr.nil n0
  have K0 : Keep h0 h0 [] := Keep.refl _ _
  have pre0 : ∀ t, Steps p.tables e below (s₁.setTop (mkF m 0 #[.val (.ref a0)] [])) t → Steps p.tables e below (s₁.setTop (entryFrame m #[(.ref a0)] 1)) t := fun t k => castTop (ef_7 m a0) k
  show OFin p e below s (Q7 Z a0 h0 n0) ({ frames := 1, cells := 0, slots := 0, locals := 12 } : Room).cells ({ frames := 1, cells := 0, slots := 0, locals := 12 } : Room).slots _
  refine OFin.go pre0 ?_
  have sg101 : ∀ t, Steps p.tables e below (s₁.setTop (mkF m 1 #[.val (.ref a0)] [(.ref a0)])) t → Steps p.tables e below (s₁.setTop (mkF m 0 #[.val (.ref a0)] [])) t := by
    intro t k
    show Steps p.tables e below (s₁.setTop (mkF m 0 #[.val (.ref a0)] [])) t
    refine XS.aloadN X0.here hx rfl (hb hby d7_0) rfl rfl ?_
    exact k
  refine OFin.go sg101 ?_
  obtain ⟨T102, X102, e102, st102⟩ := initO X0 hx hZ hown (hw _ (List.mem_of_getElem? (i := 37) rfl)) (hw _ (List.mem_of_getElem? (i := 23) rfl)) (hw _ (List.mem_of_getElem? (i := 24) rfl)) e0 (g := (mkF m 1 #[.val (.ref a0)] [(.ref a0)])) rfl (by rw [hml]; rfl) rfl (hb hby d7_1) (by decide) (W := 0) (by show 2 * 0 + _ ≤ _; exact Nat.le_of_eq rfl) (by decide)
  refine OFin.go st102 ?_
  exact OFin.retV X102 hx hret hlk (hb hby d7_4) (by rw [e102]; exact ⟨rfl, N0, rfl⟩) (by decide) (by decide)
theorem d6_0 : decode prog_100_method_1_code 0 = .ok (.aload_n 0, 1) := by decide +kernel
theorem d6_1 : decode prog_100_method_1_code 1 = .ok (.invokespecial 1, 3) := by decide +kernel
theorem d6_4 : decode prog_100_method_1_code 4 = .ok (.aload_n 0, 1) := by decide +kernel
theorem d6_5 : decode prog_100_method_1_code 5 = .ok (.iload_n 1, 1) := by decide +kernel
theorem d6_6 : decode prog_100_method_1_code 6 = .ok (.putfield 7, 3) := by decide +kernel
theorem d6_9 : decode prog_100_method_1_code 9 = .ok (.aload_n 0, 1) := by decide +kernel
theorem d6_10 : decode prog_100_method_1_code 10 = .ok (.iload_n 2, 1) := by decide +kernel
theorem d6_11 : decode prog_100_method_1_code 11 = .ok (.putfield 13, 3) := by decide +kernel
theorem d6_14 : decode prog_100_method_1_code 14 = .ok (.aload_n 0, 1) := by decide +kernel
theorem d6_15 : decode prog_100_method_1_code 15 = .ok (.aload_n 3, 1) := by decide +kernel
theorem d6_16 : decode prog_100_method_1_code 16 = .ok (.putfield 16, 3) := by decide +kernel
theorem d6_19 : decode prog_100_method_1_code 19 = .ok (.return_, 1) := by decide +kernel
theorem pn_4 : plainName "com/example/epistemic_accord/epistemicaccord/programs/Formula$Agent" = true := by first | (simp [plainName, overriddenIn]; done) | decide +kernel
theorem pd_3 : parseMethodDescriptor "()V" = some ⟨[], none⟩ := by decide +kernel
theorem ef_6 (m : MethodId) (x0 : Addr) (x1 : Int32) (x2 : Int32) (x3 : Addr) : entryFrame m #[(.ref x0), (.int x1), (.int x2), (.ref x3)] 4 = mkF m 0 #[.val (.ref x0), .val (.int x1), .val (.int x2), .val (.ref x3)] [] := by first | (simp [entryFrame, mkF, argsToLocals, Value.category]; done) | rfl
def Q6 (Z : State) (a0 : Addr) (q1 : Int32) (q2 : Int32) (a3 : Addr) (h0 : Heap) (n0 : Nat) (v : Option Value) (h : Heap) (L : List Loc) : Prop := v = none ∧ Fr n0 L ∧ Keep h0 h [a0] ∧ Fld Z h a0 "com/example/epistemic_accord/epistemicaccord/programs/Formula$Agent" "number" "I" (.int q1) ∧ Fld Z h a0 "com/example/epistemic_accord/epistemicaccord/programs/Formula$Agent" "slot" "I" (.int q2)
set_option maxHeartbeats 40000000 in
theorem rm6 (l : Launch) (Z : State) (aZ : Array Value) (hw : ∀ d ∈ tables_1, d.before aZ Z = true) (ws : List Jvm.Cond) (a0 : Addr) (q1 : Int32) (q2 : Int32) (a3 : Addr) (h0 : Heap) (n0 : Nat) (Z0 : n0 ≤ h0.size) (E1 : Exa Z h0 a0 "com/example/epistemic_accord/epistemicaccord/programs/Formula$Agent") (F1 : Fld Z h0 a0 "com/example/epistemic_accord/epistemicaccord/programs/Formula$Agent" "number" "I" (.int (0 : Int32))) (F2 : Fld Z h0 a0 "com/example/epistemic_accord/epistemicaccord/programs/Formula$Agent" "slot" "I" (.int (0 : Int32))) (F3 : Fld Z h0 a0 "com/example/epistemic_accord/epistemicaccord/programs/Formula$Agent" "text" "Ljava/lang/String;" .null) (g_a0 : n0 ≤ a0) :
    MetFree l (⟨"com/example/epistemic_accord/epistemicaccord/programs/Formula$Agent", "<init>", "(IILjava/lang/String;)V"⟩ : MethodName) (head1 (Jvm.Cond.code (⟨"com/example/epistemic_accord/epistemicaccord/programs/Formula$Agent", "<init>", "(IILjava/lang/String;)V"⟩ : MethodName) prog_100_method_1_code 4 none :: ws) ({ frames := 2, cells := 0, slots := 0, locals := 24 } : Room)) (fun a U => a = #[(.ref a0), (.int q1), (.int q2), (.ref a3)] ∧ Z.Warmed39 U.vm ∧ U.heap = h0) (fun _ _ _ _ _ => True) (fun _ U o U' => ∃ v L, o = .returned v ∧ Q6 Z a0 q1 q2 a3 h0 n0 v U'.heap L ∧ FrameEnd U o U' L ({ frames := 2, cells := 0, slots := 0, locals := 24 } : Room).cells ({ frames := 2, cells := 0, slots := 0, locals := 24 } : Room).slots) := by
  refine MetFree.of_bodySF (plainFor_of_name pn_4) hisR ?_
  intro p e s m args below meth c s₁ Bd hml0 hP hK
  obtain ⟨rfl, hZ, hh⟩ := hP
  have hx := Bd.exec
  have hby := Bd.bytes
  have hret := Bd.returns
  have hlk : meth.locks = false := BodyLoose.notSynchronized Bd
  have hml : c.maxLocals = 4 := hml0
  have hown : s.vm.findClass "com/example/epistemic_accord/epistemicaccord/programs/Formula$Agent" = some m.cls := findClass_of_methodNamed Bd.named
  have hnm := (name_of_methodNamed Bd.named Bd.method).1
  have X0 : Stand p l e ({ frames := 2, cells := 0, slots := 0, locals := 24 } : Room) s m #[(.ref a0), (.int q1), (.int q2), (.ref a3)] below meth c s₁ [] 0 0 := Stand.of_body Bd
  have e0 : s₁.heap = h0 := by rw [← hh, Bd.state]; rfl
  have N0 := Fr.nil n0
  have K0 : Keep h0 h0 [a0] := Keep.refl _ _
  have pre0 : ∀ t, Steps p.tables e below (s₁.setTop (mkF m 0 #[.val (.ref a0), .val (.int q1), .val (.int q2), .val (.ref a3)] [])) t → Steps p.tables e below (s₁.setTop (entryFrame m #[(.ref a0), (.int q1), (.int q2), (.ref a3)] 4)) t := fun t k => castTop (ef_6 m a0 q1 q2 a3) k
  show OFin p e below s (Q6 Z a0 q1 q2 a3 h0 n0) ({ frames := 2, cells := 0, slots := 0, locals := 24 } : Room).cells ({ frames := 2, cells := 0, slots := 0, locals := 24 } : Room).slots _
  refine OFin.go pre0 ?_
  have sg101 : ∀ t, Steps p.tables e below (s₁.setTop (mkF m 1 #[.val (.ref a0), .val (.int q1), .val (.int q2), .val (.ref a3)] [(.ref a0)])) t → Steps p.tables e below (s₁.setTop (mkF m 0 #[.val (.ref a0), .val (.int q1), .val (.int q2), .val (.ref a3)] [])) t := by
    intro t k
    show Steps p.tables e below (s₁.setTop (mkF m 0 #[.val (.ref a0), .val (.int q1), .val (.int q2), .val (.ref a3)] [])) t
    refine XS.aloadN X0.here hx rfl (hb hby d6_0) rfl rfl ?_
    exact k
  refine OFin.go sg101 ?_
  obtain ⟨_, _, ⟨T102, L102, k102, n102⟩, -, X102, ⟨Lc102, hQ102, l102, y102, z102⟩, st102⟩ := X0.specialBack hx (y := (⟨"java/lang/Record", "<init>", "()V"⟩ : MethodName)) rfl hown (mvT hZ (hw _ (List.mem_of_getElem? (i := 32) rfl))) (mvT hZ (hw _ (List.mem_of_getElem? (i := 33) rfl))) (mvT hZ (hw _ (List.mem_of_getElem? (i := 36) rfl))) (by decide) (backOf (W := 0) (rm7 l Z aZ hw [] a0 h0 n0 (Nat.le_trans Z0 K0.1) ) hZ (hw _ (List.mem_of_getElem? (i := 36) rfl)) (hw _ (List.mem_of_getElem? (i := 35) rfl)) (by decide) (by decide)) (g := (mkF m 1 #[.val (.ref a0), .val (.int q1), .val (.int q2), .val (.ref a3)] [(.ref a0)])) rfl (by rw [hml]; rfl) (Steps.refl _) (a := a0) (argsL := []) (rest := []) (lenOf pd_3 rfl) rfl (by show 2 * 0 + _ ≤ _; exact Nat.le_of_eq rfl) (hb hby d6_1) (fun _ _ => ⟨rfl, e0, (by decide : 0 + 0 ≤ _), (by decide : 0 + 0 ≤ _)⟩)
  dsimp only [Pt.U, Pt.locs, Pt.cells, Pt.slots] at X102 l102 y102 z102 st102 hQ102
  subst l102 y102 z102
  obtain ⟨rfl, N102q, e102⟩ := hQ102
  have N102 := Fr.app N0 N102q
  refine OFin.tr st102 ?_
  have sg103 : ∀ t, Steps p.tables e below (T102.setTop (mkF m 6 #[.val (.ref a0), .val (.int q1), .val (.int q2), .val (.ref a3)] [(.int q1), (.ref a0)])) t → Steps p.tables e below (T102.setTop (mkF m 4 #[.val (.ref a0), .val (.int q1), .val (.int q2), .val (.ref a3)] [])) t := by
    intro t k
    show Steps p.tables e below (T102.setTop (mkF m 4 #[.val (.ref a0), .val (.int q1), .val (.int q2), .val (.ref a3)] [])) t
    refine XS.aloadN X102.here hx rfl (hb hby d6_4) rfl rfl ?_
    show Steps p.tables e below (T102.setTop (mkF m 5 #[.val (.ref a0), .val (.int q1), .val (.int q2), .val (.ref a3)] [(.ref a0)])) t
    refine XS.iloadN X102.here hx rfl (hb hby d6_5) rfl ?_
    exact k
  refine OFin.go sg103 ?_
  obtain ⟨T104, h104, X104, e104, W104, st104⟩ := putF X102 hx hZ hown (host := "") (Or.inl (hw _ (List.mem_of_getElem? (i := 38) rfl))) Via.refl e102 F1 E1 (Or.inr ⟨(hw _ (List.mem_of_getElem? (i := 39) rfl)), rfl, hnm⟩) (hw _ (List.mem_of_getElem? (i := 1) rfl)) (ty := .int) (by decide) rfl rfl (g := (mkF m 6 #[.val (.ref a0), .val (.int q1), .val (.int q2), .val (.ref a3)] [(.int q1), (.ref a0)])) rfl rfl (hb hby d6_6)
  refine OFin.go st104 ?_
  have F104 := F1.same W104
  have K104 : Keep h0 h104 [a0] := K0.wr W104 (Or.inl (List.mem_of_getElem? (i := 0) rfl))
  have N104 := Fr.snoc X104 N102 g_a0
  have sg105 : ∀ t, Steps p.tables e below (T104.setTop (mkF m 11 #[.val (.ref a0), .val (.int q1), .val (.int q2), .val (.ref a3)] [(.int q2), (.ref a0)])) t → Steps p.tables e below (T104.setTop (mkF m 9 #[.val (.ref a0), .val (.int q1), .val (.int q2), .val (.ref a3)] [])) t := by
    intro t k
    show Steps p.tables e below (T104.setTop (mkF m 9 #[.val (.ref a0), .val (.int q1), .val (.int q2), .val (.ref a3)] [])) t
    refine XS.aloadN X104.here hx rfl (hb hby d6_9) rfl rfl ?_
    show Steps p.tables e below (T104.setTop (mkF m 10 #[.val (.ref a0), .val (.int q1), .val (.int q2), .val (.ref a3)] [(.ref a0)])) t
    refine XS.iloadN X104.here hx rfl (hb hby d6_10) rfl ?_
    exact k
  refine OFin.go sg105 ?_
  obtain ⟨T106, h106, X106, e106, W106, st106⟩ := putF X104 hx hZ hown (host := "") (Or.inl (hw _ (List.mem_of_getElem? (i := 40) rfl))) Via.refl e104 (F2.other W104 (Or.inr (slot_ne (Or.inr (hw _ (List.mem_of_getElem? (i := 41) rfl))) (Or.inr (hw _ (List.mem_of_getElem? (i := 39) rfl))) (by decide) (t := .int) (t' := .int) (by decide) (by decide)))) (E1.wr W104) (Or.inr ⟨(hw _ (List.mem_of_getElem? (i := 41) rfl)), rfl, hnm⟩) (hw _ (List.mem_of_getElem? (i := 1) rfl)) (ty := .int) (by decide) rfl rfl (g := (mkF m 11 #[.val (.ref a0), .val (.int q1), .val (.int q2), .val (.ref a3)] [(.int q2), (.ref a0)])) rfl rfl (hb hby d6_11)
  refine OFin.go st106 ?_
  have F106 := (F2.other W104 (Or.inr (slot_ne (Or.inr (hw _ (List.mem_of_getElem? (i := 41) rfl))) (Or.inr (hw _ (List.mem_of_getElem? (i := 39) rfl))) (by decide) (t := .int) (t' := .int) (by decide) (by decide)))).same W106
  have K106 : Keep h0 h106 [a0] := K104.wr W106 (Or.inl (List.mem_of_getElem? (i := 0) rfl))
  have N106 := Fr.snoc X106 N104 g_a0
  have sg107 : ∀ t, Steps p.tables e below (T106.setTop (mkF m 16 #[.val (.ref a0), .val (.int q1), .val (.int q2), .val (.ref a3)] [(.ref a3), (.ref a0)])) t → Steps p.tables e below (T106.setTop (mkF m 14 #[.val (.ref a0), .val (.int q1), .val (.int q2), .val (.ref a3)] [])) t := by
    intro t k
    show Steps p.tables e below (T106.setTop (mkF m 14 #[.val (.ref a0), .val (.int q1), .val (.int q2), .val (.ref a3)] [])) t
    refine XS.aloadN X106.here hx rfl (hb hby d6_14) rfl rfl ?_
    show Steps p.tables e below (T106.setTop (mkF m 15 #[.val (.ref a0), .val (.int q1), .val (.int q2), .val (.ref a3)] [(.ref a0)])) t
    refine XS.aloadN X106.here hx rfl (hb hby d6_15) rfl rfl ?_
    exact k
  refine OFin.go sg107 ?_
  obtain ⟨T108, h108, X108, e108, W108, st108⟩ := putF X106 hx hZ hown (host := "") (Or.inl (hw _ (List.mem_of_getElem? (i := 42) rfl))) Via.refl e106 ((F3.other W104 (Or.inr (slot_ne (Or.inr (hw _ (List.mem_of_getElem? (i := 43) rfl))) (Or.inr (hw _ (List.mem_of_getElem? (i := 39) rfl))) (by decide) (t := (.object "java/lang/String")) (t' := .int) (by decide) (by decide)))).other W106 (Or.inr (slot_ne (Or.inr (hw _ (List.mem_of_getElem? (i := 43) rfl))) (Or.inr (hw _ (List.mem_of_getElem? (i := 41) rfl))) (by decide) (t := (.object "java/lang/String")) (t' := .int) (by decide) (by decide)))) ((E1.wr W104).wr W106) (Or.inr ⟨(hw _ (List.mem_of_getElem? (i := 43) rfl)), rfl, hnm⟩) (hw _ (List.mem_of_getElem? (i := 1) rfl)) (ty := (.object "java/lang/String")) (by decide) rfl rfl (g := (mkF m 16 #[.val (.ref a0), .val (.int q1), .val (.int q2), .val (.ref a3)] [(.ref a3), (.ref a0)])) rfl rfl (hb hby d6_16)
  refine OFin.go st108 ?_
  have F108 := ((F3.other W104 (Or.inr (slot_ne (Or.inr (hw _ (List.mem_of_getElem? (i := 43) rfl))) (Or.inr (hw _ (List.mem_of_getElem? (i := 39) rfl))) (by decide) (t := (.object "java/lang/String")) (t' := .int) (by decide) (by decide)))).other W106 (Or.inr (slot_ne (Or.inr (hw _ (List.mem_of_getElem? (i := 43) rfl))) (Or.inr (hw _ (List.mem_of_getElem? (i := 41) rfl))) (by decide) (t := (.object "java/lang/String")) (t' := .int) (by decide) (by decide)))).same W108
  have K108 : Keep h0 h108 [a0] := K106.wr W108 (Or.inl (List.mem_of_getElem? (i := 0) rfl))
  have N108 := Fr.snoc X108 N106 g_a0
  exact OFin.retV X108 hx hret hlk (hb hby d6_19) (by rw [e108]; exact ⟨rfl, N108, K108, ((F104.other W106 (Or.inr (slot_ne (Or.inr (hw _ (List.mem_of_getElem? (i := 39) rfl))) (Or.inr (hw _ (List.mem_of_getElem? (i := 41) rfl))) (by decide) (t := .int) (t' := .int) (by decide) (by decide)))).other W108 (Or.inr (slot_ne (Or.inr (hw _ (List.mem_of_getElem? (i := 39) rfl))) (Or.inr (hw _ (List.mem_of_getElem? (i := 43) rfl))) (by decide) (t := .int) (t' := (.object "java/lang/String")) (by decide) (by decide)))), (F106.other W108 (Or.inr (slot_ne (Or.inr (hw _ (List.mem_of_getElem? (i := 41) rfl))) (Or.inr (hw _ (List.mem_of_getElem? (i := 43) rfl))) (by decide) (t := .int) (t' := (.object "java/lang/String")) (by decide) (by decide))))⟩) (by decide) (by decide)
theorem own_at (w e0 e1 e2 e3 : Int32) (h : ¬ w < 0 ∧ w < (4 : Int32)) : ([(.int e0), (.int e1), (.int e2), (.int e3)] : List Value).getD (w).toNatClampNeg (.int (0 : Int32)) = .int (own_f9 w e0 e1 e2 e3) := by
  obtain ⟨h1, h2⟩ := h
  rw [Int32.lt_iff_toInt_lt] at h1 h2
  simp only [show (0 : Int32).toInt = 0 from rfl, show (4 : Int32).toInt = 4 from rfl] at h1 h2
  have e : w.toInt = 0 ∨ w.toInt = 1 ∨ w.toInt = 2 ∨ w.toInt = 3 := by omega
  have k : ∀ z : Int32, w.toInt = z.toInt → w = z := fun z q => Int32.toInt_inj.mp q
  rcases e with q | q | q | q
  · rw [k 0 q]; rfl
  · rw [k 1 q]; rfl
  · rw [k 2 q]; rfl
  · rw [k 3 q]; rfl
theorem own_slot (x : Int32) : ¬ (x &&& (3 : Int32)) < 0 ∧ (x &&& (3 : Int32)) < (4 : Int32) := by
  have a := c_and x 3 (by decide)
  simp only [show (3 : Int32).toInt = 3 from rfl] at a
  rw [Int32.lt_iff_toInt_lt, Int32.lt_iff_toInt_lt]
  simp only [show (0 : Int32).toInt = 0 from rfl, show (4 : Int32).toInt = 4 from rfl]
  omega
theorem own_char (x : Int32) : ¬ ((255 : Int32) < (x &&& (255 : Int32)).toUInt32.toUInt16.toUInt32.toInt32) := by
  rw [i2c_mask]
  have a := c_and x 255 (by decide)
  simp only [show (255 : Int32).toInt = 255 from rfl] at a
  rw [Int32.lt_iff_toInt_lt]
  simp only [show (255 : Int32).toInt = 255 from rfl]
  omega
theorem own_pos (x : Int32) : ¬ x < (1 : Int32) ↔ (0 : Int32) < x := by
  rw [Int32.lt_iff_toInt_lt, Int32.lt_iff_toInt_lt]
  simp only [show (0 : Int32).toInt = 0 from rfl, show (1 : Int32).toInt = 1 from rfl]
  omega
theorem d8_0 : decode prog_100_method_2_code 0 = .ok (.aload_n 0, 1) := by decide +kernel
theorem d8_1 : decode prog_100_method_2_code 1 = .ok (.getfield 7, 3) := by decide +kernel
theorem d8_4 : decode prog_100_method_2_code 4 = .ok (.ifCond .le 10, 3) := by decide +kernel
theorem d8_7 : decode prog_100_method_2_code 7 = .ok (.aload_n 0, 1) := by decide +kernel
theorem d8_8 : decode prog_100_method_2_code 8 = .ok (.getfield 7, 3) := by decide +kernel
theorem d8_11 : decode prog_100_method_2_code 11 = .ok (.goto 9, 3) := by decide +kernel
theorem d8_14 : decode prog_100_method_2_code 14 = .ok (.aload_n 1, 1) := by decide +kernel
theorem d8_15 : decode prog_100_method_2_code 15 = .ok (.aload_n 0, 1) := by decide +kernel
theorem d8_16 : decode prog_100_method_2_code 16 = .ok (.getfield 13, 3) := by decide +kernel
theorem d8_19 : decode prog_100_method_2_code 19 = .ok (.iaload, 1) := by decide +kernel
theorem d8_20 : decode prog_100_method_2_code 20 = .ok (.ireturn, 1) := by decide +kernel
theorem ef_8 (m : MethodId) (x0 : Addr) (x1 : Addr) : entryFrame m #[(.ref x0), (.ref x1)] 2 = mkF m 0 #[.val (.ref x0), .val (.ref x1)] [] := by first | (simp [entryFrame, mkF, argsToLocals, Value.category]; done) | rfl
def own_f8 (a0 : Addr) (a1 : Addr) (w1 : Int32) (w2 : Int32) (k3 : ClassId) (y0 : Int32) (y1 : Int32) (y2 : Int32) (y3 : Int32) : Int32 := (if (0 : Int32) < w1 then w1 else (own_f9 w2 y0 y1 y2 y3))
def Q8 (Z : State) (a0 : Addr) (a1 : Addr) (w1 : Int32) (w2 : Int32) (k3 : ClassId) (y0 : Int32) (y1 : Int32) (y2 : Int32) (y3 : Int32) (h0 : Heap) (n0 : Nat) (v : Option Value) (h : Heap) (L : List Loc) : Prop := v = some (.int (own_f8 a0 a1 w1 w2 k3 y0 y1 y2 y3)) ∧ Fr n0 L ∧ h = h0
set_option maxHeartbeats 40000000 in
theorem rm8 (l : Launch) (Z : State) (aZ : Array Value) (hw : ∀ d ∈ tables_1, d.before aZ Z = true) (ws : List Jvm.Cond) (a0 : Addr) (a1 : Addr) (w1 : Int32) (w2 : Int32) (k3 : ClassId) (y0 : Int32) (y1 : Int32) (y2 : Int32) (y3 : Int32) (h0 : Heap) (n0 : Nat) (Z0 : n0 ≤ h0.size) (F1 : Fld Z h0 a0 "com/example/epistemic_accord/epistemicaccord/programs/Formula$Agent" "number" "I" (.int w1)) (F2 : Fld Z h0 a0 "com/example/epistemic_accord/epistemicaccord/programs/Formula$Agent" "slot" "I" (.int w2)) (V1 : Arv Z h0 a1 k3 .int (4 : Int32) [(.int y0), (.int y1), (.int y2), (.int y3)] (.int (0 : Int32))) (hs : ¬ w2 < 0 ∧ w2 < (4 : Int32)) :
    MetFree l (⟨"com/example/epistemic_accord/epistemicaccord/programs/Formula$Agent", "in", "([I)I"⟩ : MethodName) (head1 (Jvm.Cond.code (⟨"com/example/epistemic_accord/epistemicaccord/programs/Formula$Agent", "in", "([I)I"⟩ : MethodName) prog_100_method_2_code 2 (some .int) :: ws) ({ frames := 0, cells := 0, slots := 0, locals := 0 } : Room)) (fun a U => a = #[(.ref a0), (.ref a1)] ∧ Z.Warmed39 U.vm ∧ U.heap = h0) (fun _ _ _ _ _ => True) (fun _ U o U' => ∃ v L, o = .returned v ∧ Q8 Z a0 a1 w1 w2 k3 y0 y1 y2 y3 h0 n0 v U'.heap L ∧ FrameEnd U o U' L ({ frames := 0, cells := 0, slots := 0, locals := 0 } : Room).cells ({ frames := 0, cells := 0, slots := 0, locals := 0 } : Room).slots) := by
  refine MetFree.of_bodySF (plainFor_of_name pn_4) hisR ?_
  intro p e s m args below meth c s₁ Bd hml0 hP hK
  obtain ⟨rfl, hZ, hh⟩ := hP
  have hx := Bd.exec
  have hby := Bd.bytes
  have hret := Bd.returns
  have hlk : meth.locks = false := BodyLoose.notSynchronized Bd
  have hml : c.maxLocals = 2 := hml0
  have hown : s.vm.findClass "com/example/epistemic_accord/epistemicaccord/programs/Formula$Agent" = some m.cls := findClass_of_methodNamed Bd.named
  have hnm := (name_of_methodNamed Bd.named Bd.method).1
  have X0 : Stand p l e ({ frames := 0, cells := 0, slots := 0, locals := 0 } : Room) s m #[(.ref a0), (.ref a1)] below meth c s₁ [] 0 0 := Stand.of_body Bd
  have e0 : s₁.heap = h0 := by rw [← hh, Bd.state]; rfl
  have N0 := Fr.nil n0
  have K0 : Keep h0 h0 [] := Keep.refl _ _
  have pre0 : ∀ t, Steps p.tables e below (s₁.setTop (mkF m 0 #[.val (.ref a0), .val (.ref a1)] [])) t → Steps p.tables e below (s₁.setTop (entryFrame m #[(.ref a0), (.ref a1)] 2)) t := fun t k => castTop (ef_8 m a0 a1) k
  show OFin p e below s (Q8 Z a0 a1 w1 w2 k3 y0 y1 y2 y3 h0 n0) ({ frames := 0, cells := 0, slots := 0, locals := 0 } : Room).cells ({ frames := 0, cells := 0, slots := 0, locals := 0 } : Room).slots _
  refine OFin.go pre0 ?_
  have sg101 : ∀ t, Steps p.tables e below (s₁.setTop (mkF m 1 #[.val (.ref a0), .val (.ref a1)] [(.ref a0)])) t → Steps p.tables e below (s₁.setTop (mkF m 0 #[.val (.ref a0), .val (.ref a1)] [])) t := by
    intro t k
    show Steps p.tables e below (s₁.setTop (mkF m 0 #[.val (.ref a0), .val (.ref a1)] [])) t
    refine XS.aloadN X0.here hx rfl (hb hby d8_0) rfl rfl ?_
    exact k
  refine OFin.go sg101 ?_
  obtain ⟨T102, X102, e102, st102⟩ := getF X0 hx hZ hown (host := "") (Or.inl (hw _ (List.mem_of_getElem? (i := 38) rfl))) Via.refl e0 F1 (g := (mkF m 1 #[.val (.ref a0), .val (.ref a1)] [(.ref a0)])) rfl rfl (hb hby d8_1)
  refine OFin.go st102 ?_
  by_cases c103 : (0 : Int32) < w1
  · have sg104 : ∀ t, Steps p.tables e below (T102.setTop (mkF m 8 #[.val (.ref a0), .val (.ref a1)] [(.ref a0)])) t → Steps p.tables e below (T102.setTop (mkF m 4 #[.val (.ref a0), .val (.ref a1)] [(.int w1)])) t := by
      intro t k
      show Steps p.tables e below (T102.setTop (mkF m 4 #[.val (.ref a0), .val (.ref a1)] [(.int w1)])) t
      refine XS.ifNo X102.here hx rfl (hb hby d8_4) rfl ((if0 _ _).trans (tlt c103).2.2.2) ?_
      show Steps p.tables e below (T102.setTop (mkF m 7 #[.val (.ref a0), .val (.ref a1)] [])) t
      refine XS.aloadN X102.here hx rfl (hb hby d8_7) rfl rfl ?_
      exact k
    refine OFin.go sg104 ?_
    obtain ⟨T105, X105, e105, st105⟩ := getF X102 hx hZ hown (host := "") (Or.inl (hw _ (List.mem_of_getElem? (i := 38) rfl))) Via.refl e102 F1 (g := (mkF m 8 #[.val (.ref a0), .val (.ref a1)] [(.ref a0)])) rfl rfl (hb hby d8_8)
    refine OFin.go st105 ?_
    have sg106 : ∀ t, Steps p.tables e below (T105.setTop (mkF m 20 #[.val (.ref a0), .val (.ref a1)] [(.int w1)])) t → Steps p.tables e below (T105.setTop (mkF m 11 #[.val (.ref a0), .val (.ref a1)] [(.int w1)])) t := by
      intro t k
      show Steps p.tables e below (T105.setTop (mkF m 11 #[.val (.ref a0), .val (.ref a1)] [(.int w1)])) t
      refine XS.goto X105.here hx rfl (pc0 := 11) (pc' := 20) rfl (hb hby d8_11) (by decide) (by decide) ?_
      exact k
    refine OFin.go sg106 ?_
    exact OFin.retI X105 hx hret hlk (hb hby d8_20) (by rw [e105]; exact ⟨(congrArg (fun z => some (Value.int z)) (show w1 = own_f8 a0 a1 w1 w2 k3 y0 y1 y2 y3 from (by rw [own_f8, if_pos c103]))), N0, rfl⟩) (by decide) (by decide)
  · have sg107 : ∀ t, Steps p.tables e below (T102.setTop (mkF m 16 #[.val (.ref a0), .val (.ref a1)] [(.ref a0), (.ref a1)])) t → Steps p.tables e below (T102.setTop (mkF m 4 #[.val (.ref a0), .val (.ref a1)] [(.int w1)])) t := by
      intro t k
      show Steps p.tables e below (T102.setTop (mkF m 4 #[.val (.ref a0), .val (.ref a1)] [(.int w1)])) t
      refine XS.ifYes X102.here hx rfl (pc0 := 4) (pc' := 14) rfl (hb hby d8_4) rfl ((if0 _ _).trans (flt c103).2.2.2) (by decide) (by decide) ?_
      show Steps p.tables e below (T102.setTop (mkF m 14 #[.val (.ref a0), .val (.ref a1)] [])) t
      refine XS.aloadN X102.here hx rfl (hb hby d8_14) rfl rfl ?_
      show Steps p.tables e below (T102.setTop (mkF m 15 #[.val (.ref a0), .val (.ref a1)] [(.ref a1)])) t
      refine XS.aloadN X102.here hx rfl (hb hby d8_15) rfl rfl ?_
      exact k
    refine OFin.go sg107 ?_
    obtain ⟨T108, X108, e108, st108⟩ := getF X102 hx hZ hown (host := "") (Or.inl (hw _ (List.mem_of_getElem? (i := 40) rfl))) Via.refl e102 F2 (g := (mkF m 16 #[.val (.ref a0), .val (.ref a1)] [(.ref a0), (.ref a1)])) rfl rfl (hb hby d8_16)
    refine OFin.go st108 ?_
    obtain ⟨cl109, Ar109, q109, S109, M109, H109, G109⟩ := id V1
    have hin109 : ¬ (w2 < 0 ∨ cl109.slots.size ≤ (w2).toNatClampNeg) := inb_of S109 hs
    have hat109 : cl109.slots[(w2).toNatClampNeg]? = some (.int (own_f9 w2 y0 y1 y2 y3)) := H109.at hin109 (own_at _ _ _ _ _ hs)
    have sg110 : ∀ t, Steps p.tables e below (T108.setTop (mkF m 20 #[.val (.ref a0), .val (.ref a1)] [(.int (own_f9 w2 y0 y1 y2 y3))])) t → Steps p.tables e below (T108.setTop (mkF m 19 #[.val (.ref a0), .val (.ref a1)] [(.int w2), (.ref a1)])) t := by
      intro t k
      show Steps p.tables e below (T108.setTop (mkF m 19 #[.val (.ref a0), .val (.ref a1)] [(.int w2), (.ref a1)])) t
      refine X108.iaload hx (j := w2) (v := (.int (own_f9 w2 y0 y1 y2 y3))) (by rw [e108]; exact Ar109.1) (State.isArrayOf_alike hZ.alike Ar109.2.1) Ar109.2.2 hin109 hat109 (g := (mkF m 19 #[.val (.ref a0), .val (.ref a1)] [(.int w2), (.ref a1)])) rfl rfl (hb hby d8_19) _ ?_
      exact k
    refine OFin.go sg110 ?_
    exact OFin.retI X108 hx hret hlk (hb hby d8_20) (by rw [e108]; exact ⟨(congrArg (fun z => some (Value.int z)) (show (own_f9 w2 y0 y1 y2 y3) = own_f8 a0 a1 w1 w2 k3 y0 y1 y2 y3 from (by rw [own_f8, if_neg c103]))), N0, rfl⟩) (by decide) (by decide)
theorem pd_4 : parseMethodDescriptor "(C)Ljava/lang/String;" = some ⟨[.char], some (.object "java/lang/String")⟩ := by decide +kernel
theorem pd_5 : parseMethodDescriptor "(IILjava/lang/String;)V" = some ⟨[.int, .int, (.object "java/lang/String")], none⟩ := by decide +kernel
theorem pd_6 : parseMethodDescriptor "([I)I" = some ⟨[(.array .int)], some .int⟩ := by decide +kernel
theorem pd_7 : parseMethodDescriptor "(IIIII)I" = some ⟨[.int, .int, .int, .int, .int], some .int⟩ := by decide +kernel
theorem ef_0 (m : MethodId) (x0 : Int32) (x1 : Int32) (x2 : Int32) (x3 : Int32) (x4 : Int32) (x5 : Int32) : entryFrame m #[(.int x0), (.int x1), (.int x2), (.int x3), (.int x4), (.int x5)] maxLocals = mkF m 0 #[.val (.int x0), .val (.int x1), .val (.int x2), .val (.int x3), .val (.int x4), .val (.int x5), .unset, .unset, .unset, .unset, .unset, .unset, .unset] [] := by first | (simp [entryFrame, mkF, argsToLocals, Value.category, maxLocals]; done) | rfl
def Q0 (Z : State) (q0 : Int32) (q1 : Int32) (q2 : Int32) (q3 : Int32) (q4 : Int32) (q5 : Int32) (w1 : Int32) (h0 : Heap) (n0 : Nat) (v : Option Value) (h : Heap) (L : List Loc) : Prop := v = some (.int (1 : Int32)) ∧ Fr n0 L
set_option maxHeartbeats 40000000 in
theorem rm0 (l : Launch) (Z : State) (aZ : Array Value) (hw : ∀ d ∈ tables_1, d.before aZ Z = true) (ws : List Jvm.Cond) (q0 : Int32) (q1 : Int32) (q2 : Int32) (q3 : Int32) (q4 : Int32) (q5 : Int32) (w1 : Int32) (h0 : Heap) (n0 : Nat) (Z0 : n0 ≤ h0.size) (O0 : Old Z n0 h0) (S1 : Sta Z Z.heap "java/lang/String" "COMPACT_STRINGS" "Z" (.int w1)) (hcs : ¬ (w1 = (0 : Int32))) :
    MetFree l x (head1 (Jvm.Cond.code x code maxLocals ret :: ws) room_1) (fun a U => a = #[(.int q0), (.int q1), (.int q2), (.int q3), (.int q4), (.int q5)] ∧ Z.Warmed39 U.vm ∧ U.heap = h0) (fun _ _ _ _ _ => True) (fun _ U o U' => ∃ v L, o = .returned v ∧ Q0 Z q0 q1 q2 q3 q4 q5 w1 h0 n0 v U'.heap L ∧ FrameEnd U o U' L room_1.cells room_1.slots) := by
  refine MetFree.of_bodySF (plainFor_of_name pn_0) hisR ?_
  intro p e s m args below meth c s₁ Bd hml0 hP hK
  obtain ⟨rfl, hZ, hh⟩ := hP
  have hx := Bd.exec
  have hby := Bd.bytes
  have hret := Bd.returns
  have hlk : meth.locks = false := BodyLoose.notSynchronized Bd
  have hml : c.maxLocals = 13 := hml0
  have hown : s.vm.findClass "com/example/epistemic_accord/epistemicaccord/programs/AgentInPinLaw" = some m.cls := findClass_of_methodNamed Bd.named
  have hnm := (name_of_methodNamed Bd.named Bd.method).1
  have X0 : Stand p l e room_1 s m #[(.int q0), (.int q1), (.int q2), (.int q3), (.int q4), (.int q5)] below meth c s₁ [] 0 0 := Stand.of_body Bd
  have e0 : s₁.heap = h0 := by rw [← hh, Bd.state]; rfl
  have N0 := Fr.nil n0
  have K0 : Keep h0 h0 [] := Keep.refl _ _
  have pre0 : ∀ t, Steps p.tables e below (s₁.setTop (mkF m 0 #[.val (.int q0), .val (.int q1), .val (.int q2), .val (.int q3), .val (.int q4), .val (.int q5), .unset, .unset, .unset, .unset, .unset, .unset, .unset] [])) t → Steps p.tables e below (s₁.setTop (entryFrame m #[(.int q0), (.int q1), (.int q2), (.int q3), (.int q4), (.int q5)] maxLocals)) t := fun t k => castTop (ef_0 m q0 q1 q2 q3 q4 q5) k
  show OFin p e below s (Q0 Z q0 q1 q2 q3 q4 q5 w1 h0 n0) room_1.cells room_1.slots _
  refine OFin.go pre0 ?_
  have sg101 : ∀ t, Steps p.tables e below (s₁.setTop (mkF m 16 #[.val (.int q0), .val (.int q1), .val (.int q2), .val (.int q3), .val (.int q4), .val (.int q5), .val (.int (q1 &&& (3 : Int32))), .val (.int ((((q1.toUInt32 >>> ((8 : Int32) &&& 31).toUInt32).toInt32) &&& (255 : Int32)).toUInt32.toUInt16.toUInt32.toInt32)), .unset, .unset, .unset, .unset, .unset] [])) t → Steps p.tables e below (s₁.setTop (mkF m 0 #[.val (.int q0), .val (.int q1), .val (.int q2), .val (.int q3), .val (.int q4), .val (.int q5), .unset, .unset, .unset, .unset, .unset, .unset, .unset] [])) t := by
    intro t k
    show Steps p.tables e below (s₁.setTop (mkF m 0 #[.val (.int q0), .val (.int q1), .val (.int q2), .val (.int q3), .val (.int q4), .val (.int q5), .unset, .unset, .unset, .unset, .unset, .unset, .unset] [])) t
    refine XS.iloadN X0.here hx rfl (hb hby at_0) rfl ?_
    show Steps p.tables e below (s₁.setTop (mkF m 1 #[.val (.int q0), .val (.int q1), .val (.int q2), .val (.int q3), .val (.int q4), .val (.int q5), .unset, .unset, .unset, .unset, .unset, .unset, .unset] [(.int q1)])) t
    refine XS.iconst X0.here hx rfl (hb hby at_1) ?_
    show Steps p.tables e below (s₁.setTop (mkF m 2 #[.val (.int q0), .val (.int q1), .val (.int q2), .val (.int q3), .val (.int q4), .val (.int q5), .unset, .unset, .unset, .unset, .unset, .unset, .unset] [(.int (3 : Int32)), (.int q1)])) t
    refine XS.iand X0.here hx rfl (hb hby at_2) rfl ?_
    show Steps p.tables e below (s₁.setTop (mkF m 3 #[.val (.int q0), .val (.int q1), .val (.int q2), .val (.int q3), .val (.int q4), .val (.int q5), .unset, .unset, .unset, .unset, .unset, .unset, .unset] [(.int (q1 &&& (3 : Int32)))])) t
    refine XS.istore X0.here hx rfl (hb hby at_3) rfl (l' := #[.val (.int q0), .val (.int q1), .val (.int q2), .val (.int q3), .val (.int q4), .val (.int q5), .val (.int (q1 &&& (3 : Int32))), .unset, .unset, .unset, .unset, .unset, .unset]) rfl ?_
    show Steps p.tables e below (s₁.setTop (mkF m 5 #[.val (.int q0), .val (.int q1), .val (.int q2), .val (.int q3), .val (.int q4), .val (.int q5), .val (.int (q1 &&& (3 : Int32))), .unset, .unset, .unset, .unset, .unset, .unset] [])) t
    refine XS.iloadN X0.here hx rfl (hb hby at_5) rfl ?_
    show Steps p.tables e below (s₁.setTop (mkF m 6 #[.val (.int q0), .val (.int q1), .val (.int q2), .val (.int q3), .val (.int q4), .val (.int q5), .val (.int (q1 &&& (3 : Int32))), .unset, .unset, .unset, .unset, .unset, .unset] [(.int q1)])) t
    refine XS.bipush X0.here hx rfl (hb hby at_6) ?_
    show Steps p.tables e below (s₁.setTop (mkF m 8 #[.val (.int q0), .val (.int q1), .val (.int q2), .val (.int q3), .val (.int q4), .val (.int q5), .val (.int (q1 &&& (3 : Int32))), .unset, .unset, .unset, .unset, .unset, .unset] [(.int (8 : Int32)), (.int q1)])) t
    refine XS.iushr X0.here hx rfl (hb hby at_8) rfl ?_
    show Steps p.tables e below (s₁.setTop (mkF m 9 #[.val (.int q0), .val (.int q1), .val (.int q2), .val (.int q3), .val (.int q4), .val (.int q5), .val (.int (q1 &&& (3 : Int32))), .unset, .unset, .unset, .unset, .unset, .unset] [(.int ((q1.toUInt32 >>> ((8 : Int32) &&& 31).toUInt32).toInt32))])) t
    refine XS.sipush X0.here hx rfl (hb hby at_9) ?_
    show Steps p.tables e below (s₁.setTop (mkF m 12 #[.val (.int q0), .val (.int q1), .val (.int q2), .val (.int q3), .val (.int q4), .val (.int q5), .val (.int (q1 &&& (3 : Int32))), .unset, .unset, .unset, .unset, .unset, .unset] [(.int (255 : Int32)), (.int ((q1.toUInt32 >>> ((8 : Int32) &&& 31).toUInt32).toInt32))])) t
    refine XS.iand X0.here hx rfl (hb hby at_12) rfl ?_
    show Steps p.tables e below (s₁.setTop (mkF m 13 #[.val (.int q0), .val (.int q1), .val (.int q2), .val (.int q3), .val (.int q4), .val (.int q5), .val (.int (q1 &&& (3 : Int32))), .unset, .unset, .unset, .unset, .unset, .unset] [(.int (((q1.toUInt32 >>> ((8 : Int32) &&& 31).toUInt32).toInt32) &&& (255 : Int32)))])) t
    refine XS.i2c X0.here hx rfl (hb hby at_13) rfl ?_
    show Steps p.tables e below (s₁.setTop (mkF m 14 #[.val (.int q0), .val (.int q1), .val (.int q2), .val (.int q3), .val (.int q4), .val (.int q5), .val (.int (q1 &&& (3 : Int32))), .unset, .unset, .unset, .unset, .unset, .unset] [(.int ((((q1.toUInt32 >>> ((8 : Int32) &&& 31).toUInt32).toInt32) &&& (255 : Int32)).toUInt32.toUInt16.toUInt32.toInt32))])) t
    refine XS.istore X0.here hx rfl (hb hby at_14) rfl (l' := #[.val (.int q0), .val (.int q1), .val (.int q2), .val (.int q3), .val (.int q4), .val (.int q5), .val (.int (q1 &&& (3 : Int32))), .val (.int ((((q1.toUInt32 >>> ((8 : Int32) &&& 31).toUInt32).toInt32) &&& (255 : Int32)).toUInt32.toUInt16.toUInt32.toInt32)), .unset, .unset, .unset, .unset, .unset]) rfl ?_
    exact k
  refine OFin.go sg101 ?_
  obtain ⟨T102, h102, X102, e102, E102, A102, D102, -, st102⟩ := newO X0 hx hZ hown (hw _ (List.mem_of_getElem? (i := 0) rfl)) (hw _ (List.mem_of_getElem? (i := 1) rfl)) (hw _ (List.mem_of_getElem? (i := 2) rfl)) e0 (g := (mkF m 16 #[.val (.int q0), .val (.int q1), .val (.int q2), .val (.int q3), .val (.int q4), .val (.int q5), .val (.int (q1 &&& (3 : Int32))), .val (.int ((((q1.toUInt32 >>> ((8 : Int32) &&& 31).toUInt32).toInt32) &&& (255 : Int32)).toUInt32.toUInt16.toUInt32.toInt32)), .unset, .unset, .unset, .unset, .unset] [])) rfl (hb hby at_16) (by decide) (by decide)
  obtain ⟨b102, g102⟩ : ∃ z, z = h0.size := ⟨_, rfl⟩
  rw [← g102] at A102 D102 st102
  refine OFin.go st102 ?_
  have g_b102 : n0 ≤ b102 := Nat.le_trans (Nat.le_trans Z0 K0.1) (Nat.le_of_eq g102.symm)
  have sz_b102 : h0.size ≤ b102 := Nat.le_trans K0.1 (Nat.le_of_eq g102.symm)
  have K102 : Keep h0 h102 [] := K0.ext E102
  have F102_number : Fld Z h102 b102 "com/example/epistemic_accord/epistemicaccord/programs/Formula$Agent" "number" "I" (.int (0 : Int32)) := D102 (Or.inr (hw _ (List.mem_of_getElem? (i := 39) rfl))) (ty := .int) (by decide)
  have F102_slot : Fld Z h102 b102 "com/example/epistemic_accord/epistemicaccord/programs/Formula$Agent" "slot" "I" (.int (0 : Int32)) := D102 (Or.inr (hw _ (List.mem_of_getElem? (i := 41) rfl))) (ty := .int) (by decide)
  have F102_text : Fld Z h102 b102 "com/example/epistemic_accord/epistemicaccord/programs/Formula$Agent" "text" "Ljava/lang/String;" .null := D102 (Or.inr (hw _ (List.mem_of_getElem? (i := 43) rfl))) (ty := (.object "java/lang/String")) (by decide)
  have sg103 : ∀ t, Steps p.tables e below (T102.setTop (mkF m 25 #[.val (.int q0), .val (.int q1), .val (.int q2), .val (.int q3), .val (.int q4), .val (.int q5), .val (.int (q1 &&& (3 : Int32))), .val (.int ((((q1.toUInt32 >>> ((8 : Int32) &&& 31).toUInt32).toInt32) &&& (255 : Int32)).toUInt32.toUInt16.toUInt32.toInt32)), .unset, .unset, .unset, .unset, .unset] [(.int ((((q1.toUInt32 >>> ((8 : Int32) &&& 31).toUInt32).toInt32) &&& (255 : Int32)).toUInt32.toUInt16.toUInt32.toInt32)), (.int (q1 &&& (3 : Int32))), (.int q0), (.ref b102), (.ref b102)])) t → Steps p.tables e below (T102.setTop (mkF m 19 #[.val (.int q0), .val (.int q1), .val (.int q2), .val (.int q3), .val (.int q4), .val (.int q5), .val (.int (q1 &&& (3 : Int32))), .val (.int ((((q1.toUInt32 >>> ((8 : Int32) &&& 31).toUInt32).toInt32) &&& (255 : Int32)).toUInt32.toUInt16.toUInt32.toInt32)), .unset, .unset, .unset, .unset, .unset] [(.ref b102)])) t := by
    intro t k
    show Steps p.tables e below (T102.setTop (mkF m 19 #[.val (.int q0), .val (.int q1), .val (.int q2), .val (.int q3), .val (.int q4), .val (.int q5), .val (.int (q1 &&& (3 : Int32))), .val (.int ((((q1.toUInt32 >>> ((8 : Int32) &&& 31).toUInt32).toInt32) &&& (255 : Int32)).toUInt32.toUInt16.toUInt32.toInt32)), .unset, .unset, .unset, .unset, .unset] [(.ref b102)])) t
    refine XS.dup X102.here hx rfl (hb hby at_19) rfl rfl ?_
    show Steps p.tables e below (T102.setTop (mkF m 20 #[.val (.int q0), .val (.int q1), .val (.int q2), .val (.int q3), .val (.int q4), .val (.int q5), .val (.int (q1 &&& (3 : Int32))), .val (.int ((((q1.toUInt32 >>> ((8 : Int32) &&& 31).toUInt32).toInt32) &&& (255 : Int32)).toUInt32.toUInt16.toUInt32.toInt32)), .unset, .unset, .unset, .unset, .unset] [(.ref b102), (.ref b102)])) t
    refine XS.iloadN X102.here hx rfl (hb hby at_20) rfl ?_
    show Steps p.tables e below (T102.setTop (mkF m 21 #[.val (.int q0), .val (.int q1), .val (.int q2), .val (.int q3), .val (.int q4), .val (.int q5), .val (.int (q1 &&& (3 : Int32))), .val (.int ((((q1.toUInt32 >>> ((8 : Int32) &&& 31).toUInt32).toInt32) &&& (255 : Int32)).toUInt32.toUInt16.toUInt32.toInt32)), .unset, .unset, .unset, .unset, .unset] [(.int q0), (.ref b102), (.ref b102)])) t
    refine XS.iload X102.here hx rfl (hb hby at_21) rfl ?_
    show Steps p.tables e below (T102.setTop (mkF m 23 #[.val (.int q0), .val (.int q1), .val (.int q2), .val (.int q3), .val (.int q4), .val (.int q5), .val (.int (q1 &&& (3 : Int32))), .val (.int ((((q1.toUInt32 >>> ((8 : Int32) &&& 31).toUInt32).toInt32) &&& (255 : Int32)).toUInt32.toUInt16.toUInt32.toInt32)), .unset, .unset, .unset, .unset, .unset] [(.int (q1 &&& (3 : Int32))), (.int q0), (.ref b102), (.ref b102)])) t
    refine XS.iload X102.here hx rfl (hb hby at_23) rfl ?_
    exact k
  refine OFin.go sg103 ?_
  obtain ⟨_, _, ⟨T104, L104, k104, n104⟩, -, X104, ⟨Lc104, hQ104, l104, y104, z104⟩, st104⟩ := Jvm.LawKit.callS X102 hx (y := (⟨"java/lang/String", "valueOf", "(C)Ljava/lang/String;"⟩ : MethodName)) hown (mvT hZ (hw _ (List.mem_of_getElem? (i := 3) rfl))) (mvT hZ (hw _ (List.mem_of_getElem? (i := 4) rfl))) (mvT hZ (hw _ (List.mem_of_getElem? (i := 5) rfl))) (mvT hZ (hw _ (List.mem_of_getElem? (i := 6) rfl))) (by decide) (backOf (W := 4) (rm1 l Z aZ hw [] ((((q1.toUInt32 >>> ((8 : Int32) &&& 31).toUInt32).toInt32) &&& (255 : Int32)).toUInt32.toUInt16.toUInt32.toInt32) w1 h102 n0 (Nat.le_trans Z0 K102.1) (O0.ext E102) S1 hcs (own_char _)) hZ (hw _ (List.mem_of_getElem? (i := 6) rfl)) (hw _ (List.mem_of_getElem? (i := 5) rfl)) (by decide) (by decide)) (g := (mkF m 25 #[.val (.int q0), .val (.int q1), .val (.int q2), .val (.int q3), .val (.int q4), .val (.int q5), .val (.int (q1 &&& (3 : Int32))), .val (.int ((((q1.toUInt32 >>> ((8 : Int32) &&& 31).toUInt32).toInt32) &&& (255 : Int32)).toUInt32.toUInt16.toUInt32.toInt32)), .unset, .unset, .unset, .unset, .unset] [(.int ((((q1.toUInt32 >>> ((8 : Int32) &&& 31).toUInt32).toInt32) &&& (255 : Int32)).toUInt32.toUInt16.toUInt32.toInt32)), (.int (q1 &&& (3 : Int32))), (.int q0), (.ref b102), (.ref b102)])) rfl (by rw [hml]; rfl) (argsL := [(.int ((((q1.toUInt32 >>> ((8 : Int32) &&& 31).toUInt32).toInt32) &&& (255 : Int32)).toUInt32.toUInt16.toUInt32.toInt32))]) (rest := [(.int (q1 &&& (3 : Int32))), (.int q0), (.ref b102), (.ref b102)]) (lenOf pd_4 rfl) rfl (by show 2 * 0 + _ ≤ _; exact Nat.le_of_eq rfl) (hb hby at_25) (fun _ _ => ⟨rfl, e102, (by decide : 1 + 2 ≤ _), (by decide : 3 + 5 ≤ _)⟩)
  dsimp only [Pt.U, Pt.locs, Pt.cells, Pt.slots] at X104 l104 y104 z104 st104 hQ104
  subst l104 y104 z104
  obtain ⟨b9104, rfl, N104q, Kq104, R104_0⟩ := hQ104
  have N104 := Fr.app N0 N104q
  refine OFin.go st104 ?_
  have K104 : Keep h0 T104.heap [] := K102.trans Kq104 all0
  have g_b9104 : n0 ≤ b9104 := Nat.le_trans (Nat.le_trans Z0 K102.1) R104_0
  have sz_b9104 : h0.size ≤ b9104 := Nat.le_trans K102.1 R104_0
  obtain ⟨_, _, ⟨T105, L105, k105, n105⟩, -, X105, ⟨Lc105, hQ105, l105, y105, z105⟩, st105⟩ := X104.specialBack hx (y := (⟨"com/example/epistemic_accord/epistemicaccord/programs/Formula$Agent", "<init>", "(IILjava/lang/String;)V"⟩ : MethodName)) rfl hown (mvT hZ (hw _ (List.mem_of_getElem? (i := 29) rfl))) (mvT hZ (hw _ (List.mem_of_getElem? (i := 30) rfl))) (mvT hZ (hw _ (List.mem_of_getElem? (i := 31) rfl))) (by decide) (backOf (W := 1) (rm6 l Z aZ hw [] b102 q0 (q1 &&& (3 : Int32)) b9104 T104.heap n0 (Nat.le_trans Z0 K104.1) (A102.keep Kq104) (F102_number.keep Kq104 nin0) (F102_slot.keep Kq104 nin0) (F102_text.keep Kq104 nin0) g_b102) hZ (hw _ (List.mem_of_getElem? (i := 31) rfl)) (hw _ (List.mem_of_getElem? (i := 2) rfl)) (by decide) (by decide)) (g := (mkF m 28 #[.val (.int q0), .val (.int q1), .val (.int q2), .val (.int q3), .val (.int q4), .val (.int q5), .val (.int (q1 &&& (3 : Int32))), .val (.int ((((q1.toUInt32 >>> ((8 : Int32) &&& 31).toUInt32).toInt32) &&& (255 : Int32)).toUInt32.toUInt16.toUInt32.toInt32)), .unset, .unset, .unset, .unset, .unset] [(.ref b9104), (.int (q1 &&& (3 : Int32))), (.int q0), (.ref b102), (.ref b102)])) rfl (by rw [hml]; rfl) (Steps.refl _) (a := b102) (argsL := [(.int q0), (.int (q1 &&& (3 : Int32))), (.ref b9104)]) (rest := [(.ref b102)]) (lenOf pd_5 rfl) rfl (by show 2 * 0 + _ ≤ _; exact Nat.le_of_eq rfl) (hb hby at_28) (fun _ _ => ⟨rfl, rfl, (by decide : 3 + 0 ≤ _), (by decide : 8 + 0 ≤ _)⟩)
  dsimp only [Pt.U, Pt.locs, Pt.cells, Pt.slots] at X105 l105 y105 z105 st105 hQ105
  subst l105 y105 z105
  obtain ⟨rfl, N105q, Kq105, P105_0, P105_1⟩ := hQ105
  have N105 := Fr.app N104 N105q
  refine OFin.tr st105 ?_
  have K105 : Keep h0 T105.heap [] := K104.trans Kq105 (allS (Or.inr sz_b102) all0)
  have sg106 : ∀ t, Steps p.tables e below (T105.setTop (mkF m 34 #[.val (.int q0), .val (.int q1), .val (.int q2), .val (.int q3), .val (.int q4), .val (.int q5), .val (.int (q1 &&& (3 : Int32))), .val (.int ((((q1.toUInt32 >>> ((8 : Int32) &&& 31).toUInt32).toInt32) &&& (255 : Int32)).toUInt32.toUInt16.toUInt32.toInt32)), .val (.ref b102), .unset, .unset, .unset, .unset] [(.int (4 : Int32))])) t → Steps p.tables e below (T105.setTop (mkF m 31 #[.val (.int q0), .val (.int q1), .val (.int q2), .val (.int q3), .val (.int q4), .val (.int q5), .val (.int (q1 &&& (3 : Int32))), .val (.int ((((q1.toUInt32 >>> ((8 : Int32) &&& 31).toUInt32).toInt32) &&& (255 : Int32)).toUInt32.toUInt16.toUInt32.toInt32)), .unset, .unset, .unset, .unset, .unset] [(.ref b102)])) t := by
    intro t k
    show Steps p.tables e below (T105.setTop (mkF m 31 #[.val (.int q0), .val (.int q1), .val (.int q2), .val (.int q3), .val (.int q4), .val (.int q5), .val (.int (q1 &&& (3 : Int32))), .val (.int ((((q1.toUInt32 >>> ((8 : Int32) &&& 31).toUInt32).toInt32) &&& (255 : Int32)).toUInt32.toUInt16.toUInt32.toInt32)), .unset, .unset, .unset, .unset, .unset] [(.ref b102)])) t
    refine XS.astore X105.here hx rfl (hb hby at_31) rfl rfl (l' := #[.val (.int q0), .val (.int q1), .val (.int q2), .val (.int q3), .val (.int q4), .val (.int q5), .val (.int (q1 &&& (3 : Int32))), .val (.int ((((q1.toUInt32 >>> ((8 : Int32) &&& 31).toUInt32).toInt32) &&& (255 : Int32)).toUInt32.toUInt16.toUInt32.toInt32)), .val (.ref b102), .unset, .unset, .unset, .unset]) rfl ?_
    show Steps p.tables e below (T105.setTop (mkF m 33 #[.val (.int q0), .val (.int q1), .val (.int q2), .val (.int q3), .val (.int q4), .val (.int q5), .val (.int (q1 &&& (3 : Int32))), .val (.int ((((q1.toUInt32 >>> ((8 : Int32) &&& 31).toUInt32).toInt32) &&& (255 : Int32)).toUInt32.toUInt16.toUInt32.toInt32)), .val (.ref b102), .unset, .unset, .unset, .unset] [])) t
    refine XS.iconst X105.here hx rfl (hb hby at_33) ?_
    exact k
  refine OFin.go sg106 ?_
  obtain ⟨T107, h107, k107, X107, e107, E107, A107, st107⟩ := newP X105 hx hZ (hw _ (List.mem_of_getElem? (i := 44) rfl)) rfl (g := (mkF m 34 #[.val (.int q0), .val (.int q1), .val (.int q2), .val (.int q3), .val (.int q4), .val (.int q5), .val (.int (q1 &&& (3 : Int32))), .val (.int ((((q1.toUInt32 >>> ((8 : Int32) &&& 31).toUInt32).toInt32) &&& (255 : Int32)).toUInt32.toUInt16.toUInt32.toInt32)), .val (.ref b102), .unset, .unset, .unset, .unset] [(.int (4 : Int32))])) rfl (hb hby at_34) rfl (by decide) (cap := 4) (by decide) (by decide) (by decide) (by decide)
  obtain ⟨b107, g107⟩ : ∃ z, z = T105.heap.size := ⟨_, rfl⟩
  rw [← g107] at A107 st107
  refine OFin.go st107 ?_
  have g_b107 : n0 ≤ b107 := Nat.le_trans (Nat.le_trans Z0 K105.1) (Nat.le_of_eq g107.symm)
  have sz_b107 : h0.size ≤ b107 := Nat.le_trans K105.1 (Nat.le_of_eq g107.symm)
  have K107 : Keep h0 h107 [] := K105.ext E107
  have V107 : Arv Z h107 b107 k107 .int (4 : Int32) [(.int (0 : Int32)), (.int (0 : Int32)), (.int (0 : Int32)), (.int (0 : Int32))] (.int (0 : Int32)) := (Arv.new A107 (by decide)).pad (pad_rep [] (.int (0 : Int32)) 4)
  have sg108 : ∀ t, Steps p.tables e below (T107.setTop (mkF m 39 #[.val (.int q0), .val (.int q1), .val (.int q2), .val (.int q3), .val (.int q4), .val (.int q5), .val (.int (q1 &&& (3 : Int32))), .val (.int ((((q1.toUInt32 >>> ((8 : Int32) &&& 31).toUInt32).toInt32) &&& (255 : Int32)).toUInt32.toUInt16.toUInt32.toInt32)), .val (.ref b102), .unset, .unset, .unset, .unset] [(.int q2), (.int (0 : Int32)), (.ref b107), (.ref b107)])) t → Steps p.tables e below (T107.setTop (mkF m 36 #[.val (.int q0), .val (.int q1), .val (.int q2), .val (.int q3), .val (.int q4), .val (.int q5), .val (.int (q1 &&& (3 : Int32))), .val (.int ((((q1.toUInt32 >>> ((8 : Int32) &&& 31).toUInt32).toInt32) &&& (255 : Int32)).toUInt32.toUInt16.toUInt32.toInt32)), .val (.ref b102), .unset, .unset, .unset, .unset] [(.ref b107)])) t := by
    intro t k
    show Steps p.tables e below (T107.setTop (mkF m 36 #[.val (.int q0), .val (.int q1), .val (.int q2), .val (.int q3), .val (.int q4), .val (.int q5), .val (.int (q1 &&& (3 : Int32))), .val (.int ((((q1.toUInt32 >>> ((8 : Int32) &&& 31).toUInt32).toInt32) &&& (255 : Int32)).toUInt32.toUInt16.toUInt32.toInt32)), .val (.ref b102), .unset, .unset, .unset, .unset] [(.ref b107)])) t
    refine XS.dup X107.here hx rfl (hb hby at_36) rfl rfl ?_
    show Steps p.tables e below (T107.setTop (mkF m 37 #[.val (.int q0), .val (.int q1), .val (.int q2), .val (.int q3), .val (.int q4), .val (.int q5), .val (.int (q1 &&& (3 : Int32))), .val (.int ((((q1.toUInt32 >>> ((8 : Int32) &&& 31).toUInt32).toInt32) &&& (255 : Int32)).toUInt32.toUInt16.toUInt32.toInt32)), .val (.ref b102), .unset, .unset, .unset, .unset] [(.ref b107), (.ref b107)])) t
    refine XS.iconst X107.here hx rfl (hb hby at_37) ?_
    show Steps p.tables e below (T107.setTop (mkF m 38 #[.val (.int q0), .val (.int q1), .val (.int q2), .val (.int q3), .val (.int q4), .val (.int q5), .val (.int (q1 &&& (3 : Int32))), .val (.int ((((q1.toUInt32 >>> ((8 : Int32) &&& 31).toUInt32).toInt32) &&& (255 : Int32)).toUInt32.toUInt16.toUInt32.toInt32)), .val (.ref b102), .unset, .unset, .unset, .unset] [(.int (0 : Int32)), (.ref b107), (.ref b107)])) t
    refine XS.iloadN X107.here hx rfl (hb hby at_38) rfl ?_
    exact k
  refine OFin.go sg108 ?_
  obtain ⟨cl109, Ar109, q109, S109, M109, H109, G109⟩ := id V107
  have hin109 : ¬ ((0 : Int32) < 0 ∨ cl109.slots.size ≤ ((0 : Int32)).toNatClampNeg) := inb_of S109 ⟨by decide, by decide⟩
  obtain ⟨T109, h109, X109, e109, W109, st109⟩ := stI X107 hx hZ e107 Ar109 (j := (0 : Int32)) hin109 (g := (mkF m 39 #[.val (.int q0), .val (.int q1), .val (.int q2), .val (.int q3), .val (.int q4), .val (.int q5), .val (.int (q1 &&& (3 : Int32))), .val (.int ((((q1.toUInt32 >>> ((8 : Int32) &&& 31).toUInt32).toInt32) &&& (255 : Int32)).toUInt32.toUInt16.toUInt32.toInt32)), .val (.ref b102), .unset, .unset, .unset, .unset] [(.int q2), (.int (0 : Int32)), (.ref b107), (.ref b107)])) rfl rfl (hb hby at_39)
  refine OFin.go st109 ?_
  have V109 : Arv Z h109 b107 k107 .int (4 : Int32) [(.int q2), (.int (0 : Int32)), (.int (0 : Int32)), (.int (0 : Int32))] (.int (0 : Int32)) := Arv.set Ar109 q109 S109 M109 H109 G109 rfl W109 0 rfl (Nat.le_of_ble_eq_true rfl)
  have K109 : Keep h0 h109 [] := K107.wr W109 (Or.inr sz_b107)
  have N109 := Fr.snoc X109 N105 g_b107
  have sg110 : ∀ t, Steps p.tables e below (T109.setTop (mkF m 43 #[.val (.int q0), .val (.int q1), .val (.int q2), .val (.int q3), .val (.int q4), .val (.int q5), .val (.int (q1 &&& (3 : Int32))), .val (.int ((((q1.toUInt32 >>> ((8 : Int32) &&& 31).toUInt32).toInt32) &&& (255 : Int32)).toUInt32.toUInt16.toUInt32.toInt32)), .val (.ref b102), .unset, .unset, .unset, .unset] [(.int q3), (.int (1 : Int32)), (.ref b107), (.ref b107)])) t → Steps p.tables e below (T109.setTop (mkF m 40 #[.val (.int q0), .val (.int q1), .val (.int q2), .val (.int q3), .val (.int q4), .val (.int q5), .val (.int (q1 &&& (3 : Int32))), .val (.int ((((q1.toUInt32 >>> ((8 : Int32) &&& 31).toUInt32).toInt32) &&& (255 : Int32)).toUInt32.toUInt16.toUInt32.toInt32)), .val (.ref b102), .unset, .unset, .unset, .unset] [(.ref b107)])) t := by
    intro t k
    show Steps p.tables e below (T109.setTop (mkF m 40 #[.val (.int q0), .val (.int q1), .val (.int q2), .val (.int q3), .val (.int q4), .val (.int q5), .val (.int (q1 &&& (3 : Int32))), .val (.int ((((q1.toUInt32 >>> ((8 : Int32) &&& 31).toUInt32).toInt32) &&& (255 : Int32)).toUInt32.toUInt16.toUInt32.toInt32)), .val (.ref b102), .unset, .unset, .unset, .unset] [(.ref b107)])) t
    refine XS.dup X109.here hx rfl (hb hby at_40) rfl rfl ?_
    show Steps p.tables e below (T109.setTop (mkF m 41 #[.val (.int q0), .val (.int q1), .val (.int q2), .val (.int q3), .val (.int q4), .val (.int q5), .val (.int (q1 &&& (3 : Int32))), .val (.int ((((q1.toUInt32 >>> ((8 : Int32) &&& 31).toUInt32).toInt32) &&& (255 : Int32)).toUInt32.toUInt16.toUInt32.toInt32)), .val (.ref b102), .unset, .unset, .unset, .unset] [(.ref b107), (.ref b107)])) t
    refine XS.iconst X109.here hx rfl (hb hby at_41) ?_
    show Steps p.tables e below (T109.setTop (mkF m 42 #[.val (.int q0), .val (.int q1), .val (.int q2), .val (.int q3), .val (.int q4), .val (.int q5), .val (.int (q1 &&& (3 : Int32))), .val (.int ((((q1.toUInt32 >>> ((8 : Int32) &&& 31).toUInt32).toInt32) &&& (255 : Int32)).toUInt32.toUInt16.toUInt32.toInt32)), .val (.ref b102), .unset, .unset, .unset, .unset] [(.int (1 : Int32)), (.ref b107), (.ref b107)])) t
    refine XS.iloadN X109.here hx rfl (hb hby at_42) rfl ?_
    exact k
  refine OFin.go sg110 ?_
  obtain ⟨cl111, Ar111, q111, S111, M111, H111, G111⟩ := id V109
  have hin111 : ¬ ((1 : Int32) < 0 ∨ cl111.slots.size ≤ ((1 : Int32)).toNatClampNeg) := inb_of S111 ⟨by decide, by decide⟩
  obtain ⟨T111, h111, X111, e111, W111, st111⟩ := stI X109 hx hZ e109 Ar111 (j := (1 : Int32)) hin111 (g := (mkF m 43 #[.val (.int q0), .val (.int q1), .val (.int q2), .val (.int q3), .val (.int q4), .val (.int q5), .val (.int (q1 &&& (3 : Int32))), .val (.int ((((q1.toUInt32 >>> ((8 : Int32) &&& 31).toUInt32).toInt32) &&& (255 : Int32)).toUInt32.toUInt16.toUInt32.toInt32)), .val (.ref b102), .unset, .unset, .unset, .unset] [(.int q3), (.int (1 : Int32)), (.ref b107), (.ref b107)])) rfl rfl (hb hby at_43)
  refine OFin.go st111 ?_
  have V111 : Arv Z h111 b107 k107 .int (4 : Int32) [(.int q2), (.int q3), (.int (0 : Int32)), (.int (0 : Int32))] (.int (0 : Int32)) := Arv.set Ar111 q111 S111 M111 H111 G111 rfl W111 1 rfl (Nat.le_of_ble_eq_true rfl)
  have K111 : Keep h0 h111 [] := K109.wr W111 (Or.inr sz_b107)
  have N111 := Fr.snoc X111 N109 g_b107
  have sg112 : ∀ t, Steps p.tables e below (T111.setTop (mkF m 48 #[.val (.int q0), .val (.int q1), .val (.int q2), .val (.int q3), .val (.int q4), .val (.int q5), .val (.int (q1 &&& (3 : Int32))), .val (.int ((((q1.toUInt32 >>> ((8 : Int32) &&& 31).toUInt32).toInt32) &&& (255 : Int32)).toUInt32.toUInt16.toUInt32.toInt32)), .val (.ref b102), .unset, .unset, .unset, .unset] [(.int q4), (.int (2 : Int32)), (.ref b107), (.ref b107)])) t → Steps p.tables e below (T111.setTop (mkF m 44 #[.val (.int q0), .val (.int q1), .val (.int q2), .val (.int q3), .val (.int q4), .val (.int q5), .val (.int (q1 &&& (3 : Int32))), .val (.int ((((q1.toUInt32 >>> ((8 : Int32) &&& 31).toUInt32).toInt32) &&& (255 : Int32)).toUInt32.toUInt16.toUInt32.toInt32)), .val (.ref b102), .unset, .unset, .unset, .unset] [(.ref b107)])) t := by
    intro t k
    show Steps p.tables e below (T111.setTop (mkF m 44 #[.val (.int q0), .val (.int q1), .val (.int q2), .val (.int q3), .val (.int q4), .val (.int q5), .val (.int (q1 &&& (3 : Int32))), .val (.int ((((q1.toUInt32 >>> ((8 : Int32) &&& 31).toUInt32).toInt32) &&& (255 : Int32)).toUInt32.toUInt16.toUInt32.toInt32)), .val (.ref b102), .unset, .unset, .unset, .unset] [(.ref b107)])) t
    refine XS.dup X111.here hx rfl (hb hby at_44) rfl rfl ?_
    show Steps p.tables e below (T111.setTop (mkF m 45 #[.val (.int q0), .val (.int q1), .val (.int q2), .val (.int q3), .val (.int q4), .val (.int q5), .val (.int (q1 &&& (3 : Int32))), .val (.int ((((q1.toUInt32 >>> ((8 : Int32) &&& 31).toUInt32).toInt32) &&& (255 : Int32)).toUInt32.toUInt16.toUInt32.toInt32)), .val (.ref b102), .unset, .unset, .unset, .unset] [(.ref b107), (.ref b107)])) t
    refine XS.iconst X111.here hx rfl (hb hby at_45) ?_
    show Steps p.tables e below (T111.setTop (mkF m 46 #[.val (.int q0), .val (.int q1), .val (.int q2), .val (.int q3), .val (.int q4), .val (.int q5), .val (.int (q1 &&& (3 : Int32))), .val (.int ((((q1.toUInt32 >>> ((8 : Int32) &&& 31).toUInt32).toInt32) &&& (255 : Int32)).toUInt32.toUInt16.toUInt32.toInt32)), .val (.ref b102), .unset, .unset, .unset, .unset] [(.int (2 : Int32)), (.ref b107), (.ref b107)])) t
    refine XS.iload X111.here hx rfl (hb hby at_46) rfl ?_
    exact k
  refine OFin.go sg112 ?_
  obtain ⟨cl113, Ar113, q113, S113, M113, H113, G113⟩ := id V111
  have hin113 : ¬ ((2 : Int32) < 0 ∨ cl113.slots.size ≤ ((2 : Int32)).toNatClampNeg) := inb_of S113 ⟨by decide, by decide⟩
  obtain ⟨T113, h113, X113, e113, W113, st113⟩ := stI X111 hx hZ e111 Ar113 (j := (2 : Int32)) hin113 (g := (mkF m 48 #[.val (.int q0), .val (.int q1), .val (.int q2), .val (.int q3), .val (.int q4), .val (.int q5), .val (.int (q1 &&& (3 : Int32))), .val (.int ((((q1.toUInt32 >>> ((8 : Int32) &&& 31).toUInt32).toInt32) &&& (255 : Int32)).toUInt32.toUInt16.toUInt32.toInt32)), .val (.ref b102), .unset, .unset, .unset, .unset] [(.int q4), (.int (2 : Int32)), (.ref b107), (.ref b107)])) rfl rfl (hb hby at_48)
  refine OFin.go st113 ?_
  have V113 : Arv Z h113 b107 k107 .int (4 : Int32) [(.int q2), (.int q3), (.int q4), (.int (0 : Int32))] (.int (0 : Int32)) := Arv.set Ar113 q113 S113 M113 H113 G113 rfl W113 2 rfl (Nat.le_of_ble_eq_true rfl)
  have K113 : Keep h0 h113 [] := K111.wr W113 (Or.inr sz_b107)
  have N113 := Fr.snoc X113 N111 g_b107
  have sg114 : ∀ t, Steps p.tables e below (T113.setTop (mkF m 53 #[.val (.int q0), .val (.int q1), .val (.int q2), .val (.int q3), .val (.int q4), .val (.int q5), .val (.int (q1 &&& (3 : Int32))), .val (.int ((((q1.toUInt32 >>> ((8 : Int32) &&& 31).toUInt32).toInt32) &&& (255 : Int32)).toUInt32.toUInt16.toUInt32.toInt32)), .val (.ref b102), .unset, .unset, .unset, .unset] [(.int q5), (.int (3 : Int32)), (.ref b107), (.ref b107)])) t → Steps p.tables e below (T113.setTop (mkF m 49 #[.val (.int q0), .val (.int q1), .val (.int q2), .val (.int q3), .val (.int q4), .val (.int q5), .val (.int (q1 &&& (3 : Int32))), .val (.int ((((q1.toUInt32 >>> ((8 : Int32) &&& 31).toUInt32).toInt32) &&& (255 : Int32)).toUInt32.toUInt16.toUInt32.toInt32)), .val (.ref b102), .unset, .unset, .unset, .unset] [(.ref b107)])) t := by
    intro t k
    show Steps p.tables e below (T113.setTop (mkF m 49 #[.val (.int q0), .val (.int q1), .val (.int q2), .val (.int q3), .val (.int q4), .val (.int q5), .val (.int (q1 &&& (3 : Int32))), .val (.int ((((q1.toUInt32 >>> ((8 : Int32) &&& 31).toUInt32).toInt32) &&& (255 : Int32)).toUInt32.toUInt16.toUInt32.toInt32)), .val (.ref b102), .unset, .unset, .unset, .unset] [(.ref b107)])) t
    refine XS.dup X113.here hx rfl (hb hby at_49) rfl rfl ?_
    show Steps p.tables e below (T113.setTop (mkF m 50 #[.val (.int q0), .val (.int q1), .val (.int q2), .val (.int q3), .val (.int q4), .val (.int q5), .val (.int (q1 &&& (3 : Int32))), .val (.int ((((q1.toUInt32 >>> ((8 : Int32) &&& 31).toUInt32).toInt32) &&& (255 : Int32)).toUInt32.toUInt16.toUInt32.toInt32)), .val (.ref b102), .unset, .unset, .unset, .unset] [(.ref b107), (.ref b107)])) t
    refine XS.iconst X113.here hx rfl (hb hby at_50) ?_
    show Steps p.tables e below (T113.setTop (mkF m 51 #[.val (.int q0), .val (.int q1), .val (.int q2), .val (.int q3), .val (.int q4), .val (.int q5), .val (.int (q1 &&& (3 : Int32))), .val (.int ((((q1.toUInt32 >>> ((8 : Int32) &&& 31).toUInt32).toInt32) &&& (255 : Int32)).toUInt32.toUInt16.toUInt32.toInt32)), .val (.ref b102), .unset, .unset, .unset, .unset] [(.int (3 : Int32)), (.ref b107), (.ref b107)])) t
    refine XS.iload X113.here hx rfl (hb hby at_51) rfl ?_
    exact k
  refine OFin.go sg114 ?_
  obtain ⟨cl115, Ar115, q115, S115, M115, H115, G115⟩ := id V113
  have hin115 : ¬ ((3 : Int32) < 0 ∨ cl115.slots.size ≤ ((3 : Int32)).toNatClampNeg) := inb_of S115 ⟨by decide, by decide⟩
  obtain ⟨T115, h115, X115, e115, W115, st115⟩ := stI X113 hx hZ e113 Ar115 (j := (3 : Int32)) hin115 (g := (mkF m 53 #[.val (.int q0), .val (.int q1), .val (.int q2), .val (.int q3), .val (.int q4), .val (.int q5), .val (.int (q1 &&& (3 : Int32))), .val (.int ((((q1.toUInt32 >>> ((8 : Int32) &&& 31).toUInt32).toInt32) &&& (255 : Int32)).toUInt32.toUInt16.toUInt32.toInt32)), .val (.ref b102), .unset, .unset, .unset, .unset] [(.int q5), (.int (3 : Int32)), (.ref b107), (.ref b107)])) rfl rfl (hb hby at_53)
  refine OFin.go st115 ?_
  have V115 : Arv Z h115 b107 k107 .int (4 : Int32) [(.int q2), (.int q3), (.int q4), (.int q5)] (.int (0 : Int32)) := Arv.set Ar115 q115 S115 M115 H115 G115 rfl W115 3 rfl (Nat.le_of_ble_eq_true rfl)
  have K115 : Keep h0 h115 [] := K113.wr W115 (Or.inr sz_b107)
  have N115 := Fr.snoc X115 N113 g_b107
  have sg116 : ∀ t, Steps p.tables e below (T115.setTop (mkF m 60 #[.val (.int q0), .val (.int q1), .val (.int q2), .val (.int q3), .val (.int q4), .val (.int q5), .val (.int (q1 &&& (3 : Int32))), .val (.int ((((q1.toUInt32 >>> ((8 : Int32) &&& 31).toUInt32).toInt32) &&& (255 : Int32)).toUInt32.toUInt16.toUInt32.toInt32)), .val (.ref b102), .val (.ref b107), .unset, .unset, .unset] [(.ref b107), (.ref b102)])) t → Steps p.tables e below (T115.setTop (mkF m 54 #[.val (.int q0), .val (.int q1), .val (.int q2), .val (.int q3), .val (.int q4), .val (.int q5), .val (.int (q1 &&& (3 : Int32))), .val (.int ((((q1.toUInt32 >>> ((8 : Int32) &&& 31).toUInt32).toInt32) &&& (255 : Int32)).toUInt32.toUInt16.toUInt32.toInt32)), .val (.ref b102), .unset, .unset, .unset, .unset] [(.ref b107)])) t := by
    intro t k
    show Steps p.tables e below (T115.setTop (mkF m 54 #[.val (.int q0), .val (.int q1), .val (.int q2), .val (.int q3), .val (.int q4), .val (.int q5), .val (.int (q1 &&& (3 : Int32))), .val (.int ((((q1.toUInt32 >>> ((8 : Int32) &&& 31).toUInt32).toInt32) &&& (255 : Int32)).toUInt32.toUInt16.toUInt32.toInt32)), .val (.ref b102), .unset, .unset, .unset, .unset] [(.ref b107)])) t
    refine XS.astore X115.here hx rfl (hb hby at_54) rfl rfl (l' := #[.val (.int q0), .val (.int q1), .val (.int q2), .val (.int q3), .val (.int q4), .val (.int q5), .val (.int (q1 &&& (3 : Int32))), .val (.int ((((q1.toUInt32 >>> ((8 : Int32) &&& 31).toUInt32).toInt32) &&& (255 : Int32)).toUInt32.toUInt16.toUInt32.toInt32)), .val (.ref b102), .val (.ref b107), .unset, .unset, .unset]) rfl ?_
    show Steps p.tables e below (T115.setTop (mkF m 56 #[.val (.int q0), .val (.int q1), .val (.int q2), .val (.int q3), .val (.int q4), .val (.int q5), .val (.int (q1 &&& (3 : Int32))), .val (.int ((((q1.toUInt32 >>> ((8 : Int32) &&& 31).toUInt32).toInt32) &&& (255 : Int32)).toUInt32.toUInt16.toUInt32.toInt32)), .val (.ref b102), .val (.ref b107), .unset, .unset, .unset] [])) t
    refine XS.aload X115.here hx rfl (hb hby at_56) rfl rfl ?_
    show Steps p.tables e below (T115.setTop (mkF m 58 #[.val (.int q0), .val (.int q1), .val (.int q2), .val (.int q3), .val (.int q4), .val (.int q5), .val (.int (q1 &&& (3 : Int32))), .val (.int ((((q1.toUInt32 >>> ((8 : Int32) &&& 31).toUInt32).toInt32) &&& (255 : Int32)).toUInt32.toUInt16.toUInt32.toInt32)), .val (.ref b102), .val (.ref b107), .unset, .unset, .unset] [(.ref b102)])) t
    refine XS.aload X115.here hx rfl (hb hby at_58) rfl rfl ?_
    exact k
  refine OFin.go sg116 ?_
  obtain ⟨cq117, kq117, q117a, q117b, q117c⟩ := isOf hZ e115 (((((((A102.keep Kq104).keep Kq105).ext E107).wr W109).wr W111).wr W113).wr W115)
  obtain ⟨_, _, ⟨T117, L117, k117, n117⟩, -, X117, ⟨Lc117, hQ117, l117, y117, z117⟩, st117⟩ := X115.virtualBack hx (y := (⟨"com/example/epistemic_accord/epistemicaccord/programs/Formula$Agent", "in", "([I)I"⟩ : MethodName)) (z := (⟨"com/example/epistemic_accord/epistemicaccord/programs/Formula$Agent", "in", "([I)I"⟩ : MethodName)) hown (mvT hZ (hw _ (List.mem_of_getElem? (i := 45) rfl))) (mvT hZ (hw _ (List.mem_of_getElem? (i := 46) rfl))) (notFace_of_selects (args := #[]) (mvT hZ (hw _ (List.mem_of_getElem? (i := 48) rfl)))) (mvT hZ (hw _ (List.mem_of_getElem? (i := 48) rfl))) (mvT hZ (hw _ (List.mem_of_getElem? (i := 47) rfl))) (by decide) (backOf (W := 0) (rm8 l Z aZ hw [] b102 b107 q0 (q1 &&& (3 : Int32)) k107 q2 q3 q4 q5 h115 n0 (Nat.le_trans Z0 K115.1) (((((P105_0.ext E107).other W109 (Or.inl (Nat.ne_of_lt (Nat.lt_of_lt_of_le ((A102.keep Kq104).keep Kq105).lt (Nat.le_of_eq g107.symm))))).other W111 (Or.inl (Nat.ne_of_lt (Nat.lt_of_lt_of_le ((A102.keep Kq104).keep Kq105).lt (Nat.le_of_eq g107.symm))))).other W113 (Or.inl (Nat.ne_of_lt (Nat.lt_of_lt_of_le ((A102.keep Kq104).keep Kq105).lt (Nat.le_of_eq g107.symm))))).other W115 (Or.inl (Nat.ne_of_lt (Nat.lt_of_lt_of_le ((A102.keep Kq104).keep Kq105).lt (Nat.le_of_eq g107.symm))))) (((((P105_1.ext E107).other W109 (Or.inl (Nat.ne_of_lt (Nat.lt_of_lt_of_le ((A102.keep Kq104).keep Kq105).lt (Nat.le_of_eq g107.symm))))).other W111 (Or.inl (Nat.ne_of_lt (Nat.lt_of_lt_of_le ((A102.keep Kq104).keep Kq105).lt (Nat.le_of_eq g107.symm))))).other W113 (Or.inl (Nat.ne_of_lt (Nat.lt_of_lt_of_le ((A102.keep Kq104).keep Kq105).lt (Nat.le_of_eq g107.symm))))).other W115 (Or.inl (Nat.ne_of_lt (Nat.lt_of_lt_of_le ((A102.keep Kq104).keep Kq105).lt (Nat.le_of_eq g107.symm))))) V115 (own_slot _)) hZ (hw _ (List.mem_of_getElem? (i := 49) rfl)) (hw _ (List.mem_of_getElem? (i := 2) rfl)) (by decide) (by decide)) q117a q117c (g := (mkF m 60 #[.val (.int q0), .val (.int q1), .val (.int q2), .val (.int q3), .val (.int q4), .val (.int q5), .val (.int (q1 &&& (3 : Int32))), .val (.int ((((q1.toUInt32 >>> ((8 : Int32) &&& 31).toUInt32).toInt32) &&& (255 : Int32)).toUInt32.toUInt16.toUInt32.toInt32)), .val (.ref b102), .val (.ref b107), .unset, .unset, .unset] [(.ref b107), (.ref b102)])) rfl (by rw [hml]; rfl) (Steps.refl _) (argsL := [(.ref b107)]) (rest := []) (lenOf pd_6 rfl) rfl (by show 2 * 0 + _ ≤ _; exact Nat.le_of_eq rfl) (hb hby at_60) (fun _ _ => ⟨rfl, e115, (by decide : 4 + 0 ≤ _), (by decide : 12 + 0 ≤ _)⟩)
  dsimp only [Pt.U, Pt.locs, Pt.cells, Pt.slots] at X117 l117 y117 z117 st117 hQ117
  subst l117 y117 z117
  obtain ⟨rfl, N117q, e117⟩ := hQ117
  have N117 := Fr.app N115 N117q
  refine OFin.tr st117 ?_
  have sg119 : ∀ t, Steps p.tables e below (T117.setTop (mkF m 67 #[.val (.int q0), .val (.int q1), .val (.int q2), .val (.int q3), .val (.int q4), .val (.int q5), .val (.int (q1 &&& (3 : Int32))), .val (.int ((((q1.toUInt32 >>> ((8 : Int32) &&& 31).toUInt32).toInt32) &&& (255 : Int32)).toUInt32.toUInt16.toUInt32.toInt32)), .val (.ref b102), .val (.ref b107), .val (.int (own_f8 b102 b107 q0 (q1 &&& (3 : Int32)) k107 q2 q3 q4 q5)), .unset, .unset] [(.int (1 : Int32)), (.int q0)])) t → Steps p.tables e below (T117.setTop (mkF m 63 #[.val (.int q0), .val (.int q1), .val (.int q2), .val (.int q3), .val (.int q4), .val (.int q5), .val (.int (q1 &&& (3 : Int32))), .val (.int ((((q1.toUInt32 >>> ((8 : Int32) &&& 31).toUInt32).toInt32) &&& (255 : Int32)).toUInt32.toUInt16.toUInt32.toInt32)), .val (.ref b102), .val (.ref b107), .unset, .unset, .unset] [(.int (own_f8 b102 b107 q0 (q1 &&& (3 : Int32)) k107 q2 q3 q4 q5))])) t := by
    intro t k
    show Steps p.tables e below (T117.setTop (mkF m 63 #[.val (.int q0), .val (.int q1), .val (.int q2), .val (.int q3), .val (.int q4), .val (.int q5), .val (.int (q1 &&& (3 : Int32))), .val (.int ((((q1.toUInt32 >>> ((8 : Int32) &&& 31).toUInt32).toInt32) &&& (255 : Int32)).toUInt32.toUInt16.toUInt32.toInt32)), .val (.ref b102), .val (.ref b107), .unset, .unset, .unset] [(.int (own_f8 b102 b107 q0 (q1 &&& (3 : Int32)) k107 q2 q3 q4 q5))])) t
    refine XS.istore X117.here hx rfl (hb hby at_63) rfl (l' := #[.val (.int q0), .val (.int q1), .val (.int q2), .val (.int q3), .val (.int q4), .val (.int q5), .val (.int (q1 &&& (3 : Int32))), .val (.int ((((q1.toUInt32 >>> ((8 : Int32) &&& 31).toUInt32).toInt32) &&& (255 : Int32)).toUInt32.toUInt16.toUInt32.toInt32)), .val (.ref b102), .val (.ref b107), .val (.int (own_f8 b102 b107 q0 (q1 &&& (3 : Int32)) k107 q2 q3 q4 q5)), .unset, .unset]) rfl ?_
    show Steps p.tables e below (T117.setTop (mkF m 65 #[.val (.int q0), .val (.int q1), .val (.int q2), .val (.int q3), .val (.int q4), .val (.int q5), .val (.int (q1 &&& (3 : Int32))), .val (.int ((((q1.toUInt32 >>> ((8 : Int32) &&& 31).toUInt32).toInt32) &&& (255 : Int32)).toUInt32.toUInt16.toUInt32.toInt32)), .val (.ref b102), .val (.ref b107), .val (.int (own_f8 b102 b107 q0 (q1 &&& (3 : Int32)) k107 q2 q3 q4 q5)), .unset, .unset] [])) t
    refine XS.iloadN X117.here hx rfl (hb hby at_65) rfl ?_
    show Steps p.tables e below (T117.setTop (mkF m 66 #[.val (.int q0), .val (.int q1), .val (.int q2), .val (.int q3), .val (.int q4), .val (.int q5), .val (.int (q1 &&& (3 : Int32))), .val (.int ((((q1.toUInt32 >>> ((8 : Int32) &&& 31).toUInt32).toInt32) &&& (255 : Int32)).toUInt32.toUInt16.toUInt32.toInt32)), .val (.ref b102), .val (.ref b107), .val (.int (own_f8 b102 b107 q0 (q1 &&& (3 : Int32)) k107 q2 q3 q4 q5)), .unset, .unset] [(.int q0)])) t
    refine XS.iconst X117.here hx rfl (hb hby at_66) ?_
    exact k
  refine OFin.go sg119 ?_
  by_cases c120 : q0 < (1 : Int32)
  · have sg121 : ∀ t, Steps p.tables e below (T117.setTop (mkF m 84 #[.val (.int q0), .val (.int q1), .val (.int q2), .val (.int q3), .val (.int q4), .val (.int q5), .val (.int (q1 &&& (3 : Int32))), .val (.int ((((q1.toUInt32 >>> ((8 : Int32) &&& 31).toUInt32).toInt32) &&& (255 : Int32)).toUInt32.toUInt16.toUInt32.toInt32)), .val (.ref b102), .val (.ref b107), .val (.int (own_f8 b102 b107 q0 (q1 &&& (3 : Int32)) k107 q2 q3 q4 q5)), .unset, .unset] [(.int q5), (.int q4), (.int q3), (.int q2), (.int (q1 &&& (3 : Int32)))])) t → Steps p.tables e below (T117.setTop (mkF m 67 #[.val (.int q0), .val (.int q1), .val (.int q2), .val (.int q3), .val (.int q4), .val (.int q5), .val (.int (q1 &&& (3 : Int32))), .val (.int ((((q1.toUInt32 >>> ((8 : Int32) &&& 31).toUInt32).toInt32) &&& (255 : Int32)).toUInt32.toUInt16.toUInt32.toInt32)), .val (.ref b102), .val (.ref b107), .val (.int (own_f8 b102 b107 q0 (q1 &&& (3 : Int32)) k107 q2 q3 q4 q5)), .unset, .unset] [(.int (1 : Int32)), (.int q0)])) t := by
      intro t k
      show Steps p.tables e below (T117.setTop (mkF m 67 #[.val (.int q0), .val (.int q1), .val (.int q2), .val (.int q3), .val (.int q4), .val (.int q5), .val (.int (q1 &&& (3 : Int32))), .val (.int ((((q1.toUInt32 >>> ((8 : Int32) &&& 31).toUInt32).toInt32) &&& (255 : Int32)).toUInt32.toUInt16.toUInt32.toInt32)), .val (.ref b102), .val (.ref b107), .val (.int (own_f8 b102 b107 q0 (q1 &&& (3 : Int32)) k107 q2 q3 q4 q5)), .unset, .unset] [(.int (1 : Int32)), (.int q0)])) t
      refine XS.icmpYes X117.here hx rfl (pc0 := 67) (pc' := 76) rfl (hb hby at_67) rfl (tlt c120).1 (by decide) (by decide) ?_
      show Steps p.tables e below (T117.setTop (mkF m 76 #[.val (.int q0), .val (.int q1), .val (.int q2), .val (.int q3), .val (.int q4), .val (.int q5), .val (.int (q1 &&& (3 : Int32))), .val (.int ((((q1.toUInt32 >>> ((8 : Int32) &&& 31).toUInt32).toInt32) &&& (255 : Int32)).toUInt32.toUInt16.toUInt32.toInt32)), .val (.ref b102), .val (.ref b107), .val (.int (own_f8 b102 b107 q0 (q1 &&& (3 : Int32)) k107 q2 q3 q4 q5)), .unset, .unset] [])) t
      refine XS.iload X117.here hx rfl (hb hby at_76) rfl ?_
      show Steps p.tables e below (T117.setTop (mkF m 78 #[.val (.int q0), .val (.int q1), .val (.int q2), .val (.int q3), .val (.int q4), .val (.int q5), .val (.int (q1 &&& (3 : Int32))), .val (.int ((((q1.toUInt32 >>> ((8 : Int32) &&& 31).toUInt32).toInt32) &&& (255 : Int32)).toUInt32.toUInt16.toUInt32.toInt32)), .val (.ref b102), .val (.ref b107), .val (.int (own_f8 b102 b107 q0 (q1 &&& (3 : Int32)) k107 q2 q3 q4 q5)), .unset, .unset] [(.int (q1 &&& (3 : Int32)))])) t
      refine XS.iloadN X117.here hx rfl (hb hby at_78) rfl ?_
      show Steps p.tables e below (T117.setTop (mkF m 79 #[.val (.int q0), .val (.int q1), .val (.int q2), .val (.int q3), .val (.int q4), .val (.int q5), .val (.int (q1 &&& (3 : Int32))), .val (.int ((((q1.toUInt32 >>> ((8 : Int32) &&& 31).toUInt32).toInt32) &&& (255 : Int32)).toUInt32.toUInt16.toUInt32.toInt32)), .val (.ref b102), .val (.ref b107), .val (.int (own_f8 b102 b107 q0 (q1 &&& (3 : Int32)) k107 q2 q3 q4 q5)), .unset, .unset] [(.int q2), (.int (q1 &&& (3 : Int32)))])) t
      refine XS.iloadN X117.here hx rfl (hb hby at_79) rfl ?_
      show Steps p.tables e below (T117.setTop (mkF m 80 #[.val (.int q0), .val (.int q1), .val (.int q2), .val (.int q3), .val (.int q4), .val (.int q5), .val (.int (q1 &&& (3 : Int32))), .val (.int ((((q1.toUInt32 >>> ((8 : Int32) &&& 31).toUInt32).toInt32) &&& (255 : Int32)).toUInt32.toUInt16.toUInt32.toInt32)), .val (.ref b102), .val (.ref b107), .val (.int (own_f8 b102 b107 q0 (q1 &&& (3 : Int32)) k107 q2 q3 q4 q5)), .unset, .unset] [(.int q3), (.int q2), (.int (q1 &&& (3 : Int32)))])) t
      refine XS.iload X117.here hx rfl (hb hby at_80) rfl ?_
      show Steps p.tables e below (T117.setTop (mkF m 82 #[.val (.int q0), .val (.int q1), .val (.int q2), .val (.int q3), .val (.int q4), .val (.int q5), .val (.int (q1 &&& (3 : Int32))), .val (.int ((((q1.toUInt32 >>> ((8 : Int32) &&& 31).toUInt32).toInt32) &&& (255 : Int32)).toUInt32.toUInt16.toUInt32.toInt32)), .val (.ref b102), .val (.ref b107), .val (.int (own_f8 b102 b107 q0 (q1 &&& (3 : Int32)) k107 q2 q3 q4 q5)), .unset, .unset] [(.int q4), (.int q3), (.int q2), (.int (q1 &&& (3 : Int32)))])) t
      refine XS.iload X117.here hx rfl (hb hby at_82) rfl ?_
      exact k
    refine OFin.go sg121 ?_
    obtain ⟨_, _, ⟨T122, L122, k122, n122⟩, -, X122, ⟨Lc122, hQ122, l122, y122, z122⟩, st122⟩ := Jvm.LawKit.callS X117 hx (y := (⟨"com/example/epistemic_accord/epistemicaccord/programs/AgentInPinLaw", "pick", "(IIIII)I"⟩ : MethodName)) hown (mvT hZ (hw _ (List.mem_of_getElem? (i := 50) rfl))) (mvT hZ (hw _ (List.mem_of_getElem? (i := 51) rfl))) (mvT hZ (hw _ (List.mem_of_getElem? (i := 52) rfl))) (mvT hZ (hw _ (List.mem_of_getElem? (i := 53) rfl))) (by decide) (backOf (W := 0) (rm9 l Z aZ hw [] (q1 &&& (3 : Int32)) q2 q3 q4 q5 h115 n0 (Nat.le_trans Z0 K115.1) ) hZ (hw _ (List.mem_of_getElem? (i := 53) rfl)) (hw _ (List.mem_of_getElem? (i := 52) rfl)) (by decide) (by decide)) (g := (mkF m 84 #[.val (.int q0), .val (.int q1), .val (.int q2), .val (.int q3), .val (.int q4), .val (.int q5), .val (.int (q1 &&& (3 : Int32))), .val (.int ((((q1.toUInt32 >>> ((8 : Int32) &&& 31).toUInt32).toInt32) &&& (255 : Int32)).toUInt32.toUInt16.toUInt32.toInt32)), .val (.ref b102), .val (.ref b107), .val (.int (own_f8 b102 b107 q0 (q1 &&& (3 : Int32)) k107 q2 q3 q4 q5)), .unset, .unset] [(.int q5), (.int q4), (.int q3), (.int q2), (.int (q1 &&& (3 : Int32)))])) rfl (by rw [hml]; rfl) (argsL := [(.int (q1 &&& (3 : Int32))), (.int q2), (.int q3), (.int q4), (.int q5)]) (rest := []) (lenOf pd_7 rfl) rfl (by show 2 * 0 + _ ≤ _; exact Nat.le_of_eq rfl) (hb hby at_84) (fun _ _ => ⟨rfl, e117, (by decide : 4 + 0 ≤ _), (by decide : 12 + 0 ≤ _)⟩)
    dsimp only [Pt.U, Pt.locs, Pt.cells, Pt.slots] at X122 l122 y122 z122 st122 hQ122
    subst l122 y122 z122
    obtain ⟨rfl, N122q, e122⟩ := hQ122
    have N122 := Fr.app N117 N122q
    refine OFin.go st122 ?_
    have sg123 : ∀ t, Steps p.tables e below (T122.setTop (mkF m 92 #[.val (.int q0), .val (.int q1), .val (.int q2), .val (.int q3), .val (.int q4), .val (.int q5), .val (.int (q1 &&& (3 : Int32))), .val (.int ((((q1.toUInt32 >>> ((8 : Int32) &&& 31).toUInt32).toInt32) &&& (255 : Int32)).toUInt32.toUInt16.toUInt32.toInt32)), .val (.ref b102), .val (.ref b107), .val (.int (own_f8 b102 b107 q0 (q1 &&& (3 : Int32)) k107 q2 q3 q4 q5)), .val (.int (own_f9 (q1 &&& (3 : Int32)) q2 q3 q4 q5)), .unset] [(.int (0 : Int32)), (.ref b107)])) t → Steps p.tables e below (T122.setTop (mkF m 87 #[.val (.int q0), .val (.int q1), .val (.int q2), .val (.int q3), .val (.int q4), .val (.int q5), .val (.int (q1 &&& (3 : Int32))), .val (.int ((((q1.toUInt32 >>> ((8 : Int32) &&& 31).toUInt32).toInt32) &&& (255 : Int32)).toUInt32.toUInt16.toUInt32.toInt32)), .val (.ref b102), .val (.ref b107), .val (.int (own_f8 b102 b107 q0 (q1 &&& (3 : Int32)) k107 q2 q3 q4 q5)), .unset, .unset] [(.int (own_f9 (q1 &&& (3 : Int32)) q2 q3 q4 q5))])) t := by
      intro t k
      show Steps p.tables e below (T122.setTop (mkF m 87 #[.val (.int q0), .val (.int q1), .val (.int q2), .val (.int q3), .val (.int q4), .val (.int q5), .val (.int (q1 &&& (3 : Int32))), .val (.int ((((q1.toUInt32 >>> ((8 : Int32) &&& 31).toUInt32).toInt32) &&& (255 : Int32)).toUInt32.toUInt16.toUInt32.toInt32)), .val (.ref b102), .val (.ref b107), .val (.int (own_f8 b102 b107 q0 (q1 &&& (3 : Int32)) k107 q2 q3 q4 q5)), .unset, .unset] [(.int (own_f9 (q1 &&& (3 : Int32)) q2 q3 q4 q5))])) t
      refine XS.istore X122.here hx rfl (hb hby at_87) rfl (l' := #[.val (.int q0), .val (.int q1), .val (.int q2), .val (.int q3), .val (.int q4), .val (.int q5), .val (.int (q1 &&& (3 : Int32))), .val (.int ((((q1.toUInt32 >>> ((8 : Int32) &&& 31).toUInt32).toInt32) &&& (255 : Int32)).toUInt32.toUInt16.toUInt32.toInt32)), .val (.ref b102), .val (.ref b107), .val (.int (own_f8 b102 b107 q0 (q1 &&& (3 : Int32)) k107 q2 q3 q4 q5)), .val (.int (own_f9 (q1 &&& (3 : Int32)) q2 q3 q4 q5)), .unset]) rfl ?_
      show Steps p.tables e below (T122.setTop (mkF m 89 #[.val (.int q0), .val (.int q1), .val (.int q2), .val (.int q3), .val (.int q4), .val (.int q5), .val (.int (q1 &&& (3 : Int32))), .val (.int ((((q1.toUInt32 >>> ((8 : Int32) &&& 31).toUInt32).toInt32) &&& (255 : Int32)).toUInt32.toUInt16.toUInt32.toInt32)), .val (.ref b102), .val (.ref b107), .val (.int (own_f8 b102 b107 q0 (q1 &&& (3 : Int32)) k107 q2 q3 q4 q5)), .val (.int (own_f9 (q1 &&& (3 : Int32)) q2 q3 q4 q5)), .unset] [])) t
      refine XS.aload X122.here hx rfl (hb hby at_89) rfl rfl ?_
      show Steps p.tables e below (T122.setTop (mkF m 91 #[.val (.int q0), .val (.int q1), .val (.int q2), .val (.int q3), .val (.int q4), .val (.int q5), .val (.int (q1 &&& (3 : Int32))), .val (.int ((((q1.toUInt32 >>> ((8 : Int32) &&& 31).toUInt32).toInt32) &&& (255 : Int32)).toUInt32.toUInt16.toUInt32.toInt32)), .val (.ref b102), .val (.ref b107), .val (.int (own_f8 b102 b107 q0 (q1 &&& (3 : Int32)) k107 q2 q3 q4 q5)), .val (.int (own_f9 (q1 &&& (3 : Int32)) q2 q3 q4 q5)), .unset] [(.ref b107)])) t
      refine XS.iconst X122.here hx rfl (hb hby at_91) ?_
      exact k
    refine OFin.go sg123 ?_
    obtain ⟨cl124, Ar124, q124, S124, M124, H124, G124⟩ := id V115
    have hin124 : ¬ ((0 : Int32) < 0 ∨ cl124.slots.size ≤ ((0 : Int32)).toNatClampNeg) := inb_of S124 ⟨by decide, by decide⟩
    have hat124 : cl124.slots[((0 : Int32)).toNatClampNeg]? = some (.int q2) := H124.at hin124 rfl
    have sg125 : ∀ t, Steps p.tables e below (T122.setTop (mkF m 100 #[.val (.int q0), .val (.int q1), .val (.int q2), .val (.int q3), .val (.int q4), .val (.int q5), .val (.int (q1 &&& (3 : Int32))), .val (.int ((((q1.toUInt32 >>> ((8 : Int32) &&& 31).toUInt32).toInt32) &&& (255 : Int32)).toUInt32.toUInt16.toUInt32.toInt32)), .val (.ref b102), .val (.ref b107), .val (.int (own_f8 b102 b107 q0 (q1 &&& (3 : Int32)) k107 q2 q3 q4 q5)), .val (.int (own_f9 (q1 &&& (3 : Int32)) q2 q3 q4 q5)), .unset] [(.int (1 : Int32)), (.ref b107)])) t → Steps p.tables e below (T122.setTop (mkF m 92 #[.val (.int q0), .val (.int q1), .val (.int q2), .val (.int q3), .val (.int q4), .val (.int q5), .val (.int (q1 &&& (3 : Int32))), .val (.int ((((q1.toUInt32 >>> ((8 : Int32) &&& 31).toUInt32).toInt32) &&& (255 : Int32)).toUInt32.toUInt16.toUInt32.toInt32)), .val (.ref b102), .val (.ref b107), .val (.int (own_f8 b102 b107 q0 (q1 &&& (3 : Int32)) k107 q2 q3 q4 q5)), .val (.int (own_f9 (q1 &&& (3 : Int32)) q2 q3 q4 q5)), .unset] [(.int (0 : Int32)), (.ref b107)])) t := by
      intro t k
      show Steps p.tables e below (T122.setTop (mkF m 92 #[.val (.int q0), .val (.int q1), .val (.int q2), .val (.int q3), .val (.int q4), .val (.int q5), .val (.int (q1 &&& (3 : Int32))), .val (.int ((((q1.toUInt32 >>> ((8 : Int32) &&& 31).toUInt32).toInt32) &&& (255 : Int32)).toUInt32.toUInt16.toUInt32.toInt32)), .val (.ref b102), .val (.ref b107), .val (.int (own_f8 b102 b107 q0 (q1 &&& (3 : Int32)) k107 q2 q3 q4 q5)), .val (.int (own_f9 (q1 &&& (3 : Int32)) q2 q3 q4 q5)), .unset] [(.int (0 : Int32)), (.ref b107)])) t
      refine X122.iaload hx (j := (0 : Int32)) (v := (.int q2)) (by rw [e122]; exact Ar124.1) (State.isArrayOf_alike hZ.alike Ar124.2.1) Ar124.2.2 hin124 hat124 (g := (mkF m 92 #[.val (.int q0), .val (.int q1), .val (.int q2), .val (.int q3), .val (.int q4), .val (.int q5), .val (.int (q1 &&& (3 : Int32))), .val (.int ((((q1.toUInt32 >>> ((8 : Int32) &&& 31).toUInt32).toInt32) &&& (255 : Int32)).toUInt32.toUInt16.toUInt32.toInt32)), .val (.ref b102), .val (.ref b107), .val (.int (own_f8 b102 b107 q0 (q1 &&& (3 : Int32)) k107 q2 q3 q4 q5)), .val (.int (own_f9 (q1 &&& (3 : Int32)) q2 q3 q4 q5)), .unset] [(.int (0 : Int32)), (.ref b107)])) rfl rfl (hb hby at_92) _ ?_
      show Steps p.tables e below (T122.setTop (mkF m 93 #[.val (.int q0), .val (.int q1), .val (.int q2), .val (.int q3), .val (.int q4), .val (.int q5), .val (.int (q1 &&& (3 : Int32))), .val (.int ((((q1.toUInt32 >>> ((8 : Int32) &&& 31).toUInt32).toInt32) &&& (255 : Int32)).toUInt32.toUInt16.toUInt32.toInt32)), .val (.ref b102), .val (.ref b107), .val (.int (own_f8 b102 b107 q0 (q1 &&& (3 : Int32)) k107 q2 q3 q4 q5)), .val (.int (own_f9 (q1 &&& (3 : Int32)) q2 q3 q4 q5)), .unset] [(.int q2)])) t
      refine XS.iloadN X122.here hx rfl (hb hby at_93) rfl ?_
      show Steps p.tables e below (T122.setTop (mkF m 94 #[.val (.int q0), .val (.int q1), .val (.int q2), .val (.int q3), .val (.int q4), .val (.int q5), .val (.int (q1 &&& (3 : Int32))), .val (.int ((((q1.toUInt32 >>> ((8 : Int32) &&& 31).toUInt32).toInt32) &&& (255 : Int32)).toUInt32.toUInt16.toUInt32.toInt32)), .val (.ref b102), .val (.ref b107), .val (.int (own_f8 b102 b107 q0 (q1 &&& (3 : Int32)) k107 q2 q3 q4 q5)), .val (.int (own_f9 (q1 &&& (3 : Int32)) q2 q3 q4 q5)), .unset] [(.int q2), (.int q2)])) t
      refine XS.icmpNo X122.here hx rfl (hb hby at_94) rfl (teq (rfl : q2 = q2)).2 ?_
      show Steps p.tables e below (T122.setTop (mkF m 97 #[.val (.int q0), .val (.int q1), .val (.int q2), .val (.int q3), .val (.int q4), .val (.int q5), .val (.int (q1 &&& (3 : Int32))), .val (.int ((((q1.toUInt32 >>> ((8 : Int32) &&& 31).toUInt32).toInt32) &&& (255 : Int32)).toUInt32.toUInt16.toUInt32.toInt32)), .val (.ref b102), .val (.ref b107), .val (.int (own_f8 b102 b107 q0 (q1 &&& (3 : Int32)) k107 q2 q3 q4 q5)), .val (.int (own_f9 (q1 &&& (3 : Int32)) q2 q3 q4 q5)), .unset] [])) t
      refine XS.aload X122.here hx rfl (hb hby at_97) rfl rfl ?_
      show Steps p.tables e below (T122.setTop (mkF m 99 #[.val (.int q0), .val (.int q1), .val (.int q2), .val (.int q3), .val (.int q4), .val (.int q5), .val (.int (q1 &&& (3 : Int32))), .val (.int ((((q1.toUInt32 >>> ((8 : Int32) &&& 31).toUInt32).toInt32) &&& (255 : Int32)).toUInt32.toUInt16.toUInt32.toInt32)), .val (.ref b102), .val (.ref b107), .val (.int (own_f8 b102 b107 q0 (q1 &&& (3 : Int32)) k107 q2 q3 q4 q5)), .val (.int (own_f9 (q1 &&& (3 : Int32)) q2 q3 q4 q5)), .unset] [(.ref b107)])) t
      refine XS.iconst X122.here hx rfl (hb hby at_99) ?_
      exact k
    refine OFin.go sg125 ?_
    obtain ⟨cl126, Ar126, q126, S126, M126, H126, G126⟩ := id V115
    have hin126 : ¬ ((1 : Int32) < 0 ∨ cl126.slots.size ≤ ((1 : Int32)).toNatClampNeg) := inb_of S126 ⟨by decide, by decide⟩
    have hat126 : cl126.slots[((1 : Int32)).toNatClampNeg]? = some (.int q3) := H126.at hin126 rfl
    have sg127 : ∀ t, Steps p.tables e below (T122.setTop (mkF m 108 #[.val (.int q0), .val (.int q1), .val (.int q2), .val (.int q3), .val (.int q4), .val (.int q5), .val (.int (q1 &&& (3 : Int32))), .val (.int ((((q1.toUInt32 >>> ((8 : Int32) &&& 31).toUInt32).toInt32) &&& (255 : Int32)).toUInt32.toUInt16.toUInt32.toInt32)), .val (.ref b102), .val (.ref b107), .val (.int (own_f8 b102 b107 q0 (q1 &&& (3 : Int32)) k107 q2 q3 q4 q5)), .val (.int (own_f9 (q1 &&& (3 : Int32)) q2 q3 q4 q5)), .unset] [(.int (2 : Int32)), (.ref b107)])) t → Steps p.tables e below (T122.setTop (mkF m 100 #[.val (.int q0), .val (.int q1), .val (.int q2), .val (.int q3), .val (.int q4), .val (.int q5), .val (.int (q1 &&& (3 : Int32))), .val (.int ((((q1.toUInt32 >>> ((8 : Int32) &&& 31).toUInt32).toInt32) &&& (255 : Int32)).toUInt32.toUInt16.toUInt32.toInt32)), .val (.ref b102), .val (.ref b107), .val (.int (own_f8 b102 b107 q0 (q1 &&& (3 : Int32)) k107 q2 q3 q4 q5)), .val (.int (own_f9 (q1 &&& (3 : Int32)) q2 q3 q4 q5)), .unset] [(.int (1 : Int32)), (.ref b107)])) t := by
      intro t k
      show Steps p.tables e below (T122.setTop (mkF m 100 #[.val (.int q0), .val (.int q1), .val (.int q2), .val (.int q3), .val (.int q4), .val (.int q5), .val (.int (q1 &&& (3 : Int32))), .val (.int ((((q1.toUInt32 >>> ((8 : Int32) &&& 31).toUInt32).toInt32) &&& (255 : Int32)).toUInt32.toUInt16.toUInt32.toInt32)), .val (.ref b102), .val (.ref b107), .val (.int (own_f8 b102 b107 q0 (q1 &&& (3 : Int32)) k107 q2 q3 q4 q5)), .val (.int (own_f9 (q1 &&& (3 : Int32)) q2 q3 q4 q5)), .unset] [(.int (1 : Int32)), (.ref b107)])) t
      refine X122.iaload hx (j := (1 : Int32)) (v := (.int q3)) (by rw [e122]; exact Ar126.1) (State.isArrayOf_alike hZ.alike Ar126.2.1) Ar126.2.2 hin126 hat126 (g := (mkF m 100 #[.val (.int q0), .val (.int q1), .val (.int q2), .val (.int q3), .val (.int q4), .val (.int q5), .val (.int (q1 &&& (3 : Int32))), .val (.int ((((q1.toUInt32 >>> ((8 : Int32) &&& 31).toUInt32).toInt32) &&& (255 : Int32)).toUInt32.toUInt16.toUInt32.toInt32)), .val (.ref b102), .val (.ref b107), .val (.int (own_f8 b102 b107 q0 (q1 &&& (3 : Int32)) k107 q2 q3 q4 q5)), .val (.int (own_f9 (q1 &&& (3 : Int32)) q2 q3 q4 q5)), .unset] [(.int (1 : Int32)), (.ref b107)])) rfl rfl (hb hby at_100) _ ?_
      show Steps p.tables e below (T122.setTop (mkF m 101 #[.val (.int q0), .val (.int q1), .val (.int q2), .val (.int q3), .val (.int q4), .val (.int q5), .val (.int (q1 &&& (3 : Int32))), .val (.int ((((q1.toUInt32 >>> ((8 : Int32) &&& 31).toUInt32).toInt32) &&& (255 : Int32)).toUInt32.toUInt16.toUInt32.toInt32)), .val (.ref b102), .val (.ref b107), .val (.int (own_f8 b102 b107 q0 (q1 &&& (3 : Int32)) k107 q2 q3 q4 q5)), .val (.int (own_f9 (q1 &&& (3 : Int32)) q2 q3 q4 q5)), .unset] [(.int q3)])) t
      refine XS.iloadN X122.here hx rfl (hb hby at_101) rfl ?_
      show Steps p.tables e below (T122.setTop (mkF m 102 #[.val (.int q0), .val (.int q1), .val (.int q2), .val (.int q3), .val (.int q4), .val (.int q5), .val (.int (q1 &&& (3 : Int32))), .val (.int ((((q1.toUInt32 >>> ((8 : Int32) &&& 31).toUInt32).toInt32) &&& (255 : Int32)).toUInt32.toUInt16.toUInt32.toInt32)), .val (.ref b102), .val (.ref b107), .val (.int (own_f8 b102 b107 q0 (q1 &&& (3 : Int32)) k107 q2 q3 q4 q5)), .val (.int (own_f9 (q1 &&& (3 : Int32)) q2 q3 q4 q5)), .unset] [(.int q3), (.int q3)])) t
      refine XS.icmpNo X122.here hx rfl (hb hby at_102) rfl (teq (rfl : q3 = q3)).2 ?_
      show Steps p.tables e below (T122.setTop (mkF m 105 #[.val (.int q0), .val (.int q1), .val (.int q2), .val (.int q3), .val (.int q4), .val (.int q5), .val (.int (q1 &&& (3 : Int32))), .val (.int ((((q1.toUInt32 >>> ((8 : Int32) &&& 31).toUInt32).toInt32) &&& (255 : Int32)).toUInt32.toUInt16.toUInt32.toInt32)), .val (.ref b102), .val (.ref b107), .val (.int (own_f8 b102 b107 q0 (q1 &&& (3 : Int32)) k107 q2 q3 q4 q5)), .val (.int (own_f9 (q1 &&& (3 : Int32)) q2 q3 q4 q5)), .unset] [])) t
      refine XS.aload X122.here hx rfl (hb hby at_105) rfl rfl ?_
      show Steps p.tables e below (T122.setTop (mkF m 107 #[.val (.int q0), .val (.int q1), .val (.int q2), .val (.int q3), .val (.int q4), .val (.int q5), .val (.int (q1 &&& (3 : Int32))), .val (.int ((((q1.toUInt32 >>> ((8 : Int32) &&& 31).toUInt32).toInt32) &&& (255 : Int32)).toUInt32.toUInt16.toUInt32.toInt32)), .val (.ref b102), .val (.ref b107), .val (.int (own_f8 b102 b107 q0 (q1 &&& (3 : Int32)) k107 q2 q3 q4 q5)), .val (.int (own_f9 (q1 &&& (3 : Int32)) q2 q3 q4 q5)), .unset] [(.ref b107)])) t
      refine XS.iconst X122.here hx rfl (hb hby at_107) ?_
      exact k
    refine OFin.go sg127 ?_
    obtain ⟨cl128, Ar128, q128, S128, M128, H128, G128⟩ := id V115
    have hin128 : ¬ ((2 : Int32) < 0 ∨ cl128.slots.size ≤ ((2 : Int32)).toNatClampNeg) := inb_of S128 ⟨by decide, by decide⟩
    have hat128 : cl128.slots[((2 : Int32)).toNatClampNeg]? = some (.int q4) := H128.at hin128 rfl
    have sg129 : ∀ t, Steps p.tables e below (T122.setTop (mkF m 117 #[.val (.int q0), .val (.int q1), .val (.int q2), .val (.int q3), .val (.int q4), .val (.int q5), .val (.int (q1 &&& (3 : Int32))), .val (.int ((((q1.toUInt32 >>> ((8 : Int32) &&& 31).toUInt32).toInt32) &&& (255 : Int32)).toUInt32.toUInt16.toUInt32.toInt32)), .val (.ref b102), .val (.ref b107), .val (.int (own_f8 b102 b107 q0 (q1 &&& (3 : Int32)) k107 q2 q3 q4 q5)), .val (.int (own_f9 (q1 &&& (3 : Int32)) q2 q3 q4 q5)), .unset] [(.int (3 : Int32)), (.ref b107)])) t → Steps p.tables e below (T122.setTop (mkF m 108 #[.val (.int q0), .val (.int q1), .val (.int q2), .val (.int q3), .val (.int q4), .val (.int q5), .val (.int (q1 &&& (3 : Int32))), .val (.int ((((q1.toUInt32 >>> ((8 : Int32) &&& 31).toUInt32).toInt32) &&& (255 : Int32)).toUInt32.toUInt16.toUInt32.toInt32)), .val (.ref b102), .val (.ref b107), .val (.int (own_f8 b102 b107 q0 (q1 &&& (3 : Int32)) k107 q2 q3 q4 q5)), .val (.int (own_f9 (q1 &&& (3 : Int32)) q2 q3 q4 q5)), .unset] [(.int (2 : Int32)), (.ref b107)])) t := by
      intro t k
      show Steps p.tables e below (T122.setTop (mkF m 108 #[.val (.int q0), .val (.int q1), .val (.int q2), .val (.int q3), .val (.int q4), .val (.int q5), .val (.int (q1 &&& (3 : Int32))), .val (.int ((((q1.toUInt32 >>> ((8 : Int32) &&& 31).toUInt32).toInt32) &&& (255 : Int32)).toUInt32.toUInt16.toUInt32.toInt32)), .val (.ref b102), .val (.ref b107), .val (.int (own_f8 b102 b107 q0 (q1 &&& (3 : Int32)) k107 q2 q3 q4 q5)), .val (.int (own_f9 (q1 &&& (3 : Int32)) q2 q3 q4 q5)), .unset] [(.int (2 : Int32)), (.ref b107)])) t
      refine X122.iaload hx (j := (2 : Int32)) (v := (.int q4)) (by rw [e122]; exact Ar128.1) (State.isArrayOf_alike hZ.alike Ar128.2.1) Ar128.2.2 hin128 hat128 (g := (mkF m 108 #[.val (.int q0), .val (.int q1), .val (.int q2), .val (.int q3), .val (.int q4), .val (.int q5), .val (.int (q1 &&& (3 : Int32))), .val (.int ((((q1.toUInt32 >>> ((8 : Int32) &&& 31).toUInt32).toInt32) &&& (255 : Int32)).toUInt32.toUInt16.toUInt32.toInt32)), .val (.ref b102), .val (.ref b107), .val (.int (own_f8 b102 b107 q0 (q1 &&& (3 : Int32)) k107 q2 q3 q4 q5)), .val (.int (own_f9 (q1 &&& (3 : Int32)) q2 q3 q4 q5)), .unset] [(.int (2 : Int32)), (.ref b107)])) rfl rfl (hb hby at_108) _ ?_
      show Steps p.tables e below (T122.setTop (mkF m 109 #[.val (.int q0), .val (.int q1), .val (.int q2), .val (.int q3), .val (.int q4), .val (.int q5), .val (.int (q1 &&& (3 : Int32))), .val (.int ((((q1.toUInt32 >>> ((8 : Int32) &&& 31).toUInt32).toInt32) &&& (255 : Int32)).toUInt32.toUInt16.toUInt32.toInt32)), .val (.ref b102), .val (.ref b107), .val (.int (own_f8 b102 b107 q0 (q1 &&& (3 : Int32)) k107 q2 q3 q4 q5)), .val (.int (own_f9 (q1 &&& (3 : Int32)) q2 q3 q4 q5)), .unset] [(.int q4)])) t
      refine XS.iload X122.here hx rfl (hb hby at_109) rfl ?_
      show Steps p.tables e below (T122.setTop (mkF m 111 #[.val (.int q0), .val (.int q1), .val (.int q2), .val (.int q3), .val (.int q4), .val (.int q5), .val (.int (q1 &&& (3 : Int32))), .val (.int ((((q1.toUInt32 >>> ((8 : Int32) &&& 31).toUInt32).toInt32) &&& (255 : Int32)).toUInt32.toUInt16.toUInt32.toInt32)), .val (.ref b102), .val (.ref b107), .val (.int (own_f8 b102 b107 q0 (q1 &&& (3 : Int32)) k107 q2 q3 q4 q5)), .val (.int (own_f9 (q1 &&& (3 : Int32)) q2 q3 q4 q5)), .unset] [(.int q4), (.int q4)])) t
      refine XS.icmpNo X122.here hx rfl (hb hby at_111) rfl (teq (rfl : q4 = q4)).2 ?_
      show Steps p.tables e below (T122.setTop (mkF m 114 #[.val (.int q0), .val (.int q1), .val (.int q2), .val (.int q3), .val (.int q4), .val (.int q5), .val (.int (q1 &&& (3 : Int32))), .val (.int ((((q1.toUInt32 >>> ((8 : Int32) &&& 31).toUInt32).toInt32) &&& (255 : Int32)).toUInt32.toUInt16.toUInt32.toInt32)), .val (.ref b102), .val (.ref b107), .val (.int (own_f8 b102 b107 q0 (q1 &&& (3 : Int32)) k107 q2 q3 q4 q5)), .val (.int (own_f9 (q1 &&& (3 : Int32)) q2 q3 q4 q5)), .unset] [])) t
      refine XS.aload X122.here hx rfl (hb hby at_114) rfl rfl ?_
      show Steps p.tables e below (T122.setTop (mkF m 116 #[.val (.int q0), .val (.int q1), .val (.int q2), .val (.int q3), .val (.int q4), .val (.int q5), .val (.int (q1 &&& (3 : Int32))), .val (.int ((((q1.toUInt32 >>> ((8 : Int32) &&& 31).toUInt32).toInt32) &&& (255 : Int32)).toUInt32.toUInt16.toUInt32.toInt32)), .val (.ref b102), .val (.ref b107), .val (.int (own_f8 b102 b107 q0 (q1 &&& (3 : Int32)) k107 q2 q3 q4 q5)), .val (.int (own_f9 (q1 &&& (3 : Int32)) q2 q3 q4 q5)), .unset] [(.ref b107)])) t
      refine XS.iconst X122.here hx rfl (hb hby at_116) ?_
      exact k
    refine OFin.go sg129 ?_
    obtain ⟨cl130, Ar130, q130, S130, M130, H130, G130⟩ := id V115
    have hin130 : ¬ ((3 : Int32) < 0 ∨ cl130.slots.size ≤ ((3 : Int32)).toNatClampNeg) := inb_of S130 ⟨by decide, by decide⟩
    have hat130 : cl130.slots[((3 : Int32)).toNatClampNeg]? = some (.int q5) := H130.at hin130 rfl
    have sg132 : ∀ t, Steps p.tables e below (T122.setTop (mkF m 134 #[.val (.int q0), .val (.int q1), .val (.int q2), .val (.int q3), .val (.int q4), .val (.int q5), .val (.int (q1 &&& (3 : Int32))), .val (.int ((((q1.toUInt32 >>> ((8 : Int32) &&& 31).toUInt32).toInt32) &&& (255 : Int32)).toUInt32.toUInt16.toUInt32.toInt32)), .val (.ref b102), .val (.ref b107), .val (.int (own_f8 b102 b107 q0 (q1 &&& (3 : Int32)) k107 q2 q3 q4 q5)), .val (.int (own_f9 (q1 &&& (3 : Int32)) q2 q3 q4 q5)), .val (.int (1 : Int32))] [(.int (own_f9 (q1 &&& (3 : Int32)) q2 q3 q4 q5)), (.int (own_f8 b102 b107 q0 (q1 &&& (3 : Int32)) k107 q2 q3 q4 q5))])) t → Steps p.tables e below (T122.setTop (mkF m 117 #[.val (.int q0), .val (.int q1), .val (.int q2), .val (.int q3), .val (.int q4), .val (.int q5), .val (.int (q1 &&& (3 : Int32))), .val (.int ((((q1.toUInt32 >>> ((8 : Int32) &&& 31).toUInt32).toInt32) &&& (255 : Int32)).toUInt32.toUInt16.toUInt32.toInt32)), .val (.ref b102), .val (.ref b107), .val (.int (own_f8 b102 b107 q0 (q1 &&& (3 : Int32)) k107 q2 q3 q4 q5)), .val (.int (own_f9 (q1 &&& (3 : Int32)) q2 q3 q4 q5)), .unset] [(.int (3 : Int32)), (.ref b107)])) t := by
      intro t k
      show Steps p.tables e below (T122.setTop (mkF m 117 #[.val (.int q0), .val (.int q1), .val (.int q2), .val (.int q3), .val (.int q4), .val (.int q5), .val (.int (q1 &&& (3 : Int32))), .val (.int ((((q1.toUInt32 >>> ((8 : Int32) &&& 31).toUInt32).toInt32) &&& (255 : Int32)).toUInt32.toUInt16.toUInt32.toInt32)), .val (.ref b102), .val (.ref b107), .val (.int (own_f8 b102 b107 q0 (q1 &&& (3 : Int32)) k107 q2 q3 q4 q5)), .val (.int (own_f9 (q1 &&& (3 : Int32)) q2 q3 q4 q5)), .unset] [(.int (3 : Int32)), (.ref b107)])) t
      refine X122.iaload hx (j := (3 : Int32)) (v := (.int q5)) (by rw [e122]; exact Ar130.1) (State.isArrayOf_alike hZ.alike Ar130.2.1) Ar130.2.2 hin130 hat130 (g := (mkF m 117 #[.val (.int q0), .val (.int q1), .val (.int q2), .val (.int q3), .val (.int q4), .val (.int q5), .val (.int (q1 &&& (3 : Int32))), .val (.int ((((q1.toUInt32 >>> ((8 : Int32) &&& 31).toUInt32).toInt32) &&& (255 : Int32)).toUInt32.toUInt16.toUInt32.toInt32)), .val (.ref b102), .val (.ref b107), .val (.int (own_f8 b102 b107 q0 (q1 &&& (3 : Int32)) k107 q2 q3 q4 q5)), .val (.int (own_f9 (q1 &&& (3 : Int32)) q2 q3 q4 q5)), .unset] [(.int (3 : Int32)), (.ref b107)])) rfl rfl (hb hby at_117) _ ?_
      show Steps p.tables e below (T122.setTop (mkF m 118 #[.val (.int q0), .val (.int q1), .val (.int q2), .val (.int q3), .val (.int q4), .val (.int q5), .val (.int (q1 &&& (3 : Int32))), .val (.int ((((q1.toUInt32 >>> ((8 : Int32) &&& 31).toUInt32).toInt32) &&& (255 : Int32)).toUInt32.toUInt16.toUInt32.toInt32)), .val (.ref b102), .val (.ref b107), .val (.int (own_f8 b102 b107 q0 (q1 &&& (3 : Int32)) k107 q2 q3 q4 q5)), .val (.int (own_f9 (q1 &&& (3 : Int32)) q2 q3 q4 q5)), .unset] [(.int q5)])) t
      refine XS.iload X122.here hx rfl (hb hby at_118) rfl ?_
      show Steps p.tables e below (T122.setTop (mkF m 120 #[.val (.int q0), .val (.int q1), .val (.int q2), .val (.int q3), .val (.int q4), .val (.int q5), .val (.int (q1 &&& (3 : Int32))), .val (.int ((((q1.toUInt32 >>> ((8 : Int32) &&& 31).toUInt32).toInt32) &&& (255 : Int32)).toUInt32.toUInt16.toUInt32.toInt32)), .val (.ref b102), .val (.ref b107), .val (.int (own_f8 b102 b107 q0 (q1 &&& (3 : Int32)) k107 q2 q3 q4 q5)), .val (.int (own_f9 (q1 &&& (3 : Int32)) q2 q3 q4 q5)), .unset] [(.int q5), (.int q5)])) t
      refine XS.icmpNo X122.here hx rfl (hb hby at_120) rfl (teq (rfl : q5 = q5)).2 ?_
      show Steps p.tables e below (T122.setTop (mkF m 123 #[.val (.int q0), .val (.int q1), .val (.int q2), .val (.int q3), .val (.int q4), .val (.int q5), .val (.int (q1 &&& (3 : Int32))), .val (.int ((((q1.toUInt32 >>> ((8 : Int32) &&& 31).toUInt32).toInt32) &&& (255 : Int32)).toUInt32.toUInt16.toUInt32.toInt32)), .val (.ref b102), .val (.ref b107), .val (.int (own_f8 b102 b107 q0 (q1 &&& (3 : Int32)) k107 q2 q3 q4 q5)), .val (.int (own_f9 (q1 &&& (3 : Int32)) q2 q3 q4 q5)), .unset] [])) t
      refine XS.iconst X122.here hx rfl (hb hby at_123) ?_
      show Steps p.tables e below (T122.setTop (mkF m 124 #[.val (.int q0), .val (.int q1), .val (.int q2), .val (.int q3), .val (.int q4), .val (.int q5), .val (.int (q1 &&& (3 : Int32))), .val (.int ((((q1.toUInt32 >>> ((8 : Int32) &&& 31).toUInt32).toInt32) &&& (255 : Int32)).toUInt32.toUInt16.toUInt32.toInt32)), .val (.ref b102), .val (.ref b107), .val (.int (own_f8 b102 b107 q0 (q1 &&& (3 : Int32)) k107 q2 q3 q4 q5)), .val (.int (own_f9 (q1 &&& (3 : Int32)) q2 q3 q4 q5)), .unset] [(.int (1 : Int32))])) t
      refine XS.goto X122.here hx rfl (pc0 := 124) (pc' := 128) rfl (hb hby at_124) (by decide) (by decide) ?_
      show Steps p.tables e below (T122.setTop (mkF m 128 #[.val (.int q0), .val (.int q1), .val (.int q2), .val (.int q3), .val (.int q4), .val (.int q5), .val (.int (q1 &&& (3 : Int32))), .val (.int ((((q1.toUInt32 >>> ((8 : Int32) &&& 31).toUInt32).toInt32) &&& (255 : Int32)).toUInt32.toUInt16.toUInt32.toInt32)), .val (.ref b102), .val (.ref b107), .val (.int (own_f8 b102 b107 q0 (q1 &&& (3 : Int32)) k107 q2 q3 q4 q5)), .val (.int (own_f9 (q1 &&& (3 : Int32)) q2 q3 q4 q5)), .unset] [(.int (1 : Int32))])) t
      refine XS.istore X122.here hx rfl (hb hby at_128) rfl (l' := #[.val (.int q0), .val (.int q1), .val (.int q2), .val (.int q3), .val (.int q4), .val (.int q5), .val (.int (q1 &&& (3 : Int32))), .val (.int ((((q1.toUInt32 >>> ((8 : Int32) &&& 31).toUInt32).toInt32) &&& (255 : Int32)).toUInt32.toUInt16.toUInt32.toInt32)), .val (.ref b102), .val (.ref b107), .val (.int (own_f8 b102 b107 q0 (q1 &&& (3 : Int32)) k107 q2 q3 q4 q5)), .val (.int (own_f9 (q1 &&& (3 : Int32)) q2 q3 q4 q5)), .val (.int (1 : Int32))]) rfl ?_
      show Steps p.tables e below (T122.setTop (mkF m 130 #[.val (.int q0), .val (.int q1), .val (.int q2), .val (.int q3), .val (.int q4), .val (.int q5), .val (.int (q1 &&& (3 : Int32))), .val (.int ((((q1.toUInt32 >>> ((8 : Int32) &&& 31).toUInt32).toInt32) &&& (255 : Int32)).toUInt32.toUInt16.toUInt32.toInt32)), .val (.ref b102), .val (.ref b107), .val (.int (own_f8 b102 b107 q0 (q1 &&& (3 : Int32)) k107 q2 q3 q4 q5)), .val (.int (own_f9 (q1 &&& (3 : Int32)) q2 q3 q4 q5)), .val (.int (1 : Int32))] [])) t
      refine XS.iload X122.here hx rfl (hb hby at_130) rfl ?_
      show Steps p.tables e below (T122.setTop (mkF m 132 #[.val (.int q0), .val (.int q1), .val (.int q2), .val (.int q3), .val (.int q4), .val (.int q5), .val (.int (q1 &&& (3 : Int32))), .val (.int ((((q1.toUInt32 >>> ((8 : Int32) &&& 31).toUInt32).toInt32) &&& (255 : Int32)).toUInt32.toUInt16.toUInt32.toInt32)), .val (.ref b102), .val (.ref b107), .val (.int (own_f8 b102 b107 q0 (q1 &&& (3 : Int32)) k107 q2 q3 q4 q5)), .val (.int (own_f9 (q1 &&& (3 : Int32)) q2 q3 q4 q5)), .val (.int (1 : Int32))] [(.int (own_f8 b102 b107 q0 (q1 &&& (3 : Int32)) k107 q2 q3 q4 q5))])) t
      refine XS.iload X122.here hx rfl (hb hby at_132) rfl ?_
      exact k
    refine OFin.go sg132 ?_
    have c131 : (own_f8 b102 b107 q0 (q1 &&& (3 : Int32)) k107 q2 q3 q4 q5) = (own_f9 (q1 &&& (3 : Int32)) q2 q3 q4 q5) := (by unfold own_f8; rw [if_neg (fun q => (own_pos _).mpr q c120)])
    have sg133 : ∀ t, Steps p.tables e below (T122.setTop (mkF m 147 #[.val (.int q0), .val (.int q1), .val (.int q2), .val (.int q3), .val (.int q4), .val (.int q5), .val (.int (q1 &&& (3 : Int32))), .val (.int ((((q1.toUInt32 >>> ((8 : Int32) &&& 31).toUInt32).toInt32) &&& (255 : Int32)).toUInt32.toUInt16.toUInt32.toInt32)), .val (.ref b102), .val (.ref b107), .val (.int (own_f8 b102 b107 q0 (q1 &&& (3 : Int32)) k107 q2 q3 q4 q5)), .val (.int (own_f9 (q1 &&& (3 : Int32)) q2 q3 q4 q5)), .val (.int (1 : Int32))] [(.int (1 : Int32))])) t → Steps p.tables e below (T122.setTop (mkF m 134 #[.val (.int q0), .val (.int q1), .val (.int q2), .val (.int q3), .val (.int q4), .val (.int q5), .val (.int (q1 &&& (3 : Int32))), .val (.int ((((q1.toUInt32 >>> ((8 : Int32) &&& 31).toUInt32).toInt32) &&& (255 : Int32)).toUInt32.toUInt16.toUInt32.toInt32)), .val (.ref b102), .val (.ref b107), .val (.int (own_f8 b102 b107 q0 (q1 &&& (3 : Int32)) k107 q2 q3 q4 q5)), .val (.int (own_f9 (q1 &&& (3 : Int32)) q2 q3 q4 q5)), .val (.int (1 : Int32))] [(.int (own_f9 (q1 &&& (3 : Int32)) q2 q3 q4 q5)), (.int (own_f8 b102 b107 q0 (q1 &&& (3 : Int32)) k107 q2 q3 q4 q5))])) t := by
      intro t k
      show Steps p.tables e below (T122.setTop (mkF m 134 #[.val (.int q0), .val (.int q1), .val (.int q2), .val (.int q3), .val (.int q4), .val (.int q5), .val (.int (q1 &&& (3 : Int32))), .val (.int ((((q1.toUInt32 >>> ((8 : Int32) &&& 31).toUInt32).toInt32) &&& (255 : Int32)).toUInt32.toUInt16.toUInt32.toInt32)), .val (.ref b102), .val (.ref b107), .val (.int (own_f8 b102 b107 q0 (q1 &&& (3 : Int32)) k107 q2 q3 q4 q5)), .val (.int (own_f9 (q1 &&& (3 : Int32)) q2 q3 q4 q5)), .val (.int (1 : Int32))] [(.int (own_f9 (q1 &&& (3 : Int32)) q2 q3 q4 q5)), (.int (own_f8 b102 b107 q0 (q1 &&& (3 : Int32)) k107 q2 q3 q4 q5))])) t
      refine XS.icmpNo X122.here hx rfl (hb hby at_134) rfl (teq c131).2 ?_
      show Steps p.tables e below (T122.setTop (mkF m 137 #[.val (.int q0), .val (.int q1), .val (.int q2), .val (.int q3), .val (.int q4), .val (.int q5), .val (.int (q1 &&& (3 : Int32))), .val (.int ((((q1.toUInt32 >>> ((8 : Int32) &&& 31).toUInt32).toInt32) &&& (255 : Int32)).toUInt32.toUInt16.toUInt32.toInt32)), .val (.ref b102), .val (.ref b107), .val (.int (own_f8 b102 b107 q0 (q1 &&& (3 : Int32)) k107 q2 q3 q4 q5)), .val (.int (own_f9 (q1 &&& (3 : Int32)) q2 q3 q4 q5)), .val (.int (1 : Int32))] [])) t
      refine XS.iload X122.here hx rfl (hb hby at_137) rfl ?_
      show Steps p.tables e below (T122.setTop (mkF m 139 #[.val (.int q0), .val (.int q1), .val (.int q2), .val (.int q3), .val (.int q4), .val (.int q5), .val (.int (q1 &&& (3 : Int32))), .val (.int ((((q1.toUInt32 >>> ((8 : Int32) &&& 31).toUInt32).toInt32) &&& (255 : Int32)).toUInt32.toUInt16.toUInt32.toInt32)), .val (.ref b102), .val (.ref b107), .val (.int (own_f8 b102 b107 q0 (q1 &&& (3 : Int32)) k107 q2 q3 q4 q5)), .val (.int (own_f9 (q1 &&& (3 : Int32)) q2 q3 q4 q5)), .val (.int (1 : Int32))] [(.int (1 : Int32))])) t
      refine XS.ifNo X122.here hx rfl (hb hby at_139) rfl ((if0 _ _).trans (feq (by decide : ¬ ((1 : Int32) = (0 : Int32)))).1) ?_
      show Steps p.tables e below (T122.setTop (mkF m 142 #[.val (.int q0), .val (.int q1), .val (.int q2), .val (.int q3), .val (.int q4), .val (.int q5), .val (.int (q1 &&& (3 : Int32))), .val (.int ((((q1.toUInt32 >>> ((8 : Int32) &&& 31).toUInt32).toInt32) &&& (255 : Int32)).toUInt32.toUInt16.toUInt32.toInt32)), .val (.ref b102), .val (.ref b107), .val (.int (own_f8 b102 b107 q0 (q1 &&& (3 : Int32)) k107 q2 q3 q4 q5)), .val (.int (own_f9 (q1 &&& (3 : Int32)) q2 q3 q4 q5)), .val (.int (1 : Int32))] [])) t
      refine XS.iconst X122.here hx rfl (hb hby at_142) ?_
      show Steps p.tables e below (T122.setTop (mkF m 143 #[.val (.int q0), .val (.int q1), .val (.int q2), .val (.int q3), .val (.int q4), .val (.int q5), .val (.int (q1 &&& (3 : Int32))), .val (.int ((((q1.toUInt32 >>> ((8 : Int32) &&& 31).toUInt32).toInt32) &&& (255 : Int32)).toUInt32.toUInt16.toUInt32.toInt32)), .val (.ref b102), .val (.ref b107), .val (.int (own_f8 b102 b107 q0 (q1 &&& (3 : Int32)) k107 q2 q3 q4 q5)), .val (.int (own_f9 (q1 &&& (3 : Int32)) q2 q3 q4 q5)), .val (.int (1 : Int32))] [(.int (1 : Int32))])) t
      refine XS.goto X122.here hx rfl (pc0 := 143) (pc' := 147) rfl (hb hby at_143) (by decide) (by decide) ?_
      exact k
    refine OFin.go sg133 ?_
    exact OFin.retN X122 hx hret (by simp) hlk (hb hby at_147) rfl (by rw [e122]; exact ⟨rfl, N122⟩) (by decide) (by decide)
  · have sg134 : ∀ t, Steps p.tables e below (T117.setTop (mkF m 92 #[.val (.int q0), .val (.int q1), .val (.int q2), .val (.int q3), .val (.int q4), .val (.int q5), .val (.int (q1 &&& (3 : Int32))), .val (.int ((((q1.toUInt32 >>> ((8 : Int32) &&& 31).toUInt32).toInt32) &&& (255 : Int32)).toUInt32.toUInt16.toUInt32.toInt32)), .val (.ref b102), .val (.ref b107), .val (.int (own_f8 b102 b107 q0 (q1 &&& (3 : Int32)) k107 q2 q3 q4 q5)), .val (.int q0), .unset] [(.int (0 : Int32)), (.ref b107)])) t → Steps p.tables e below (T117.setTop (mkF m 67 #[.val (.int q0), .val (.int q1), .val (.int q2), .val (.int q3), .val (.int q4), .val (.int q5), .val (.int (q1 &&& (3 : Int32))), .val (.int ((((q1.toUInt32 >>> ((8 : Int32) &&& 31).toUInt32).toInt32) &&& (255 : Int32)).toUInt32.toUInt16.toUInt32.toInt32)), .val (.ref b102), .val (.ref b107), .val (.int (own_f8 b102 b107 q0 (q1 &&& (3 : Int32)) k107 q2 q3 q4 q5)), .unset, .unset] [(.int (1 : Int32)), (.int q0)])) t := by
      intro t k
      show Steps p.tables e below (T117.setTop (mkF m 67 #[.val (.int q0), .val (.int q1), .val (.int q2), .val (.int q3), .val (.int q4), .val (.int q5), .val (.int (q1 &&& (3 : Int32))), .val (.int ((((q1.toUInt32 >>> ((8 : Int32) &&& 31).toUInt32).toInt32) &&& (255 : Int32)).toUInt32.toUInt16.toUInt32.toInt32)), .val (.ref b102), .val (.ref b107), .val (.int (own_f8 b102 b107 q0 (q1 &&& (3 : Int32)) k107 q2 q3 q4 q5)), .unset, .unset] [(.int (1 : Int32)), (.int q0)])) t
      refine XS.icmpNo X117.here hx rfl (hb hby at_67) rfl (flt c120).1 ?_
      show Steps p.tables e below (T117.setTop (mkF m 70 #[.val (.int q0), .val (.int q1), .val (.int q2), .val (.int q3), .val (.int q4), .val (.int q5), .val (.int (q1 &&& (3 : Int32))), .val (.int ((((q1.toUInt32 >>> ((8 : Int32) &&& 31).toUInt32).toInt32) &&& (255 : Int32)).toUInt32.toUInt16.toUInt32.toInt32)), .val (.ref b102), .val (.ref b107), .val (.int (own_f8 b102 b107 q0 (q1 &&& (3 : Int32)) k107 q2 q3 q4 q5)), .unset, .unset] [])) t
      refine XS.iloadN X117.here hx rfl (hb hby at_70) rfl ?_
      show Steps p.tables e below (T117.setTop (mkF m 71 #[.val (.int q0), .val (.int q1), .val (.int q2), .val (.int q3), .val (.int q4), .val (.int q5), .val (.int (q1 &&& (3 : Int32))), .val (.int ((((q1.toUInt32 >>> ((8 : Int32) &&& 31).toUInt32).toInt32) &&& (255 : Int32)).toUInt32.toUInt16.toUInt32.toInt32)), .val (.ref b102), .val (.ref b107), .val (.int (own_f8 b102 b107 q0 (q1 &&& (3 : Int32)) k107 q2 q3 q4 q5)), .unset, .unset] [(.int q0)])) t
      refine XS.istore X117.here hx rfl (hb hby at_71) rfl (l' := #[.val (.int q0), .val (.int q1), .val (.int q2), .val (.int q3), .val (.int q4), .val (.int q5), .val (.int (q1 &&& (3 : Int32))), .val (.int ((((q1.toUInt32 >>> ((8 : Int32) &&& 31).toUInt32).toInt32) &&& (255 : Int32)).toUInt32.toUInt16.toUInt32.toInt32)), .val (.ref b102), .val (.ref b107), .val (.int (own_f8 b102 b107 q0 (q1 &&& (3 : Int32)) k107 q2 q3 q4 q5)), .val (.int q0), .unset]) rfl ?_
      show Steps p.tables e below (T117.setTop (mkF m 73 #[.val (.int q0), .val (.int q1), .val (.int q2), .val (.int q3), .val (.int q4), .val (.int q5), .val (.int (q1 &&& (3 : Int32))), .val (.int ((((q1.toUInt32 >>> ((8 : Int32) &&& 31).toUInt32).toInt32) &&& (255 : Int32)).toUInt32.toUInt16.toUInt32.toInt32)), .val (.ref b102), .val (.ref b107), .val (.int (own_f8 b102 b107 q0 (q1 &&& (3 : Int32)) k107 q2 q3 q4 q5)), .val (.int q0), .unset] [])) t
      refine XS.goto X117.here hx rfl (pc0 := 73) (pc' := 89) rfl (hb hby at_73) (by decide) (by decide) ?_
      show Steps p.tables e below (T117.setTop (mkF m 89 #[.val (.int q0), .val (.int q1), .val (.int q2), .val (.int q3), .val (.int q4), .val (.int q5), .val (.int (q1 &&& (3 : Int32))), .val (.int ((((q1.toUInt32 >>> ((8 : Int32) &&& 31).toUInt32).toInt32) &&& (255 : Int32)).toUInt32.toUInt16.toUInt32.toInt32)), .val (.ref b102), .val (.ref b107), .val (.int (own_f8 b102 b107 q0 (q1 &&& (3 : Int32)) k107 q2 q3 q4 q5)), .val (.int q0), .unset] [])) t
      refine XS.aload X117.here hx rfl (hb hby at_89) rfl rfl ?_
      show Steps p.tables e below (T117.setTop (mkF m 91 #[.val (.int q0), .val (.int q1), .val (.int q2), .val (.int q3), .val (.int q4), .val (.int q5), .val (.int (q1 &&& (3 : Int32))), .val (.int ((((q1.toUInt32 >>> ((8 : Int32) &&& 31).toUInt32).toInt32) &&& (255 : Int32)).toUInt32.toUInt16.toUInt32.toInt32)), .val (.ref b102), .val (.ref b107), .val (.int (own_f8 b102 b107 q0 (q1 &&& (3 : Int32)) k107 q2 q3 q4 q5)), .val (.int q0), .unset] [(.ref b107)])) t
      refine XS.iconst X117.here hx rfl (hb hby at_91) ?_
      exact k
    refine OFin.go sg134 ?_
    obtain ⟨cl135, Ar135, q135, S135, M135, H135, G135⟩ := id V115
    have hin135 : ¬ ((0 : Int32) < 0 ∨ cl135.slots.size ≤ ((0 : Int32)).toNatClampNeg) := inb_of S135 ⟨by decide, by decide⟩
    have hat135 : cl135.slots[((0 : Int32)).toNatClampNeg]? = some (.int q2) := H135.at hin135 rfl
    have sg136 : ∀ t, Steps p.tables e below (T117.setTop (mkF m 100 #[.val (.int q0), .val (.int q1), .val (.int q2), .val (.int q3), .val (.int q4), .val (.int q5), .val (.int (q1 &&& (3 : Int32))), .val (.int ((((q1.toUInt32 >>> ((8 : Int32) &&& 31).toUInt32).toInt32) &&& (255 : Int32)).toUInt32.toUInt16.toUInt32.toInt32)), .val (.ref b102), .val (.ref b107), .val (.int (own_f8 b102 b107 q0 (q1 &&& (3 : Int32)) k107 q2 q3 q4 q5)), .val (.int q0), .unset] [(.int (1 : Int32)), (.ref b107)])) t → Steps p.tables e below (T117.setTop (mkF m 92 #[.val (.int q0), .val (.int q1), .val (.int q2), .val (.int q3), .val (.int q4), .val (.int q5), .val (.int (q1 &&& (3 : Int32))), .val (.int ((((q1.toUInt32 >>> ((8 : Int32) &&& 31).toUInt32).toInt32) &&& (255 : Int32)).toUInt32.toUInt16.toUInt32.toInt32)), .val (.ref b102), .val (.ref b107), .val (.int (own_f8 b102 b107 q0 (q1 &&& (3 : Int32)) k107 q2 q3 q4 q5)), .val (.int q0), .unset] [(.int (0 : Int32)), (.ref b107)])) t := by
      intro t k
      show Steps p.tables e below (T117.setTop (mkF m 92 #[.val (.int q0), .val (.int q1), .val (.int q2), .val (.int q3), .val (.int q4), .val (.int q5), .val (.int (q1 &&& (3 : Int32))), .val (.int ((((q1.toUInt32 >>> ((8 : Int32) &&& 31).toUInt32).toInt32) &&& (255 : Int32)).toUInt32.toUInt16.toUInt32.toInt32)), .val (.ref b102), .val (.ref b107), .val (.int (own_f8 b102 b107 q0 (q1 &&& (3 : Int32)) k107 q2 q3 q4 q5)), .val (.int q0), .unset] [(.int (0 : Int32)), (.ref b107)])) t
      refine X117.iaload hx (j := (0 : Int32)) (v := (.int q2)) (by rw [e117]; exact Ar135.1) (State.isArrayOf_alike hZ.alike Ar135.2.1) Ar135.2.2 hin135 hat135 (g := (mkF m 92 #[.val (.int q0), .val (.int q1), .val (.int q2), .val (.int q3), .val (.int q4), .val (.int q5), .val (.int (q1 &&& (3 : Int32))), .val (.int ((((q1.toUInt32 >>> ((8 : Int32) &&& 31).toUInt32).toInt32) &&& (255 : Int32)).toUInt32.toUInt16.toUInt32.toInt32)), .val (.ref b102), .val (.ref b107), .val (.int (own_f8 b102 b107 q0 (q1 &&& (3 : Int32)) k107 q2 q3 q4 q5)), .val (.int q0), .unset] [(.int (0 : Int32)), (.ref b107)])) rfl rfl (hb hby at_92) _ ?_
      show Steps p.tables e below (T117.setTop (mkF m 93 #[.val (.int q0), .val (.int q1), .val (.int q2), .val (.int q3), .val (.int q4), .val (.int q5), .val (.int (q1 &&& (3 : Int32))), .val (.int ((((q1.toUInt32 >>> ((8 : Int32) &&& 31).toUInt32).toInt32) &&& (255 : Int32)).toUInt32.toUInt16.toUInt32.toInt32)), .val (.ref b102), .val (.ref b107), .val (.int (own_f8 b102 b107 q0 (q1 &&& (3 : Int32)) k107 q2 q3 q4 q5)), .val (.int q0), .unset] [(.int q2)])) t
      refine XS.iloadN X117.here hx rfl (hb hby at_93) rfl ?_
      show Steps p.tables e below (T117.setTop (mkF m 94 #[.val (.int q0), .val (.int q1), .val (.int q2), .val (.int q3), .val (.int q4), .val (.int q5), .val (.int (q1 &&& (3 : Int32))), .val (.int ((((q1.toUInt32 >>> ((8 : Int32) &&& 31).toUInt32).toInt32) &&& (255 : Int32)).toUInt32.toUInt16.toUInt32.toInt32)), .val (.ref b102), .val (.ref b107), .val (.int (own_f8 b102 b107 q0 (q1 &&& (3 : Int32)) k107 q2 q3 q4 q5)), .val (.int q0), .unset] [(.int q2), (.int q2)])) t
      refine XS.icmpNo X117.here hx rfl (hb hby at_94) rfl (teq (rfl : q2 = q2)).2 ?_
      show Steps p.tables e below (T117.setTop (mkF m 97 #[.val (.int q0), .val (.int q1), .val (.int q2), .val (.int q3), .val (.int q4), .val (.int q5), .val (.int (q1 &&& (3 : Int32))), .val (.int ((((q1.toUInt32 >>> ((8 : Int32) &&& 31).toUInt32).toInt32) &&& (255 : Int32)).toUInt32.toUInt16.toUInt32.toInt32)), .val (.ref b102), .val (.ref b107), .val (.int (own_f8 b102 b107 q0 (q1 &&& (3 : Int32)) k107 q2 q3 q4 q5)), .val (.int q0), .unset] [])) t
      refine XS.aload X117.here hx rfl (hb hby at_97) rfl rfl ?_
      show Steps p.tables e below (T117.setTop (mkF m 99 #[.val (.int q0), .val (.int q1), .val (.int q2), .val (.int q3), .val (.int q4), .val (.int q5), .val (.int (q1 &&& (3 : Int32))), .val (.int ((((q1.toUInt32 >>> ((8 : Int32) &&& 31).toUInt32).toInt32) &&& (255 : Int32)).toUInt32.toUInt16.toUInt32.toInt32)), .val (.ref b102), .val (.ref b107), .val (.int (own_f8 b102 b107 q0 (q1 &&& (3 : Int32)) k107 q2 q3 q4 q5)), .val (.int q0), .unset] [(.ref b107)])) t
      refine XS.iconst X117.here hx rfl (hb hby at_99) ?_
      exact k
    refine OFin.go sg136 ?_
    obtain ⟨cl137, Ar137, q137, S137, M137, H137, G137⟩ := id V115
    have hin137 : ¬ ((1 : Int32) < 0 ∨ cl137.slots.size ≤ ((1 : Int32)).toNatClampNeg) := inb_of S137 ⟨by decide, by decide⟩
    have hat137 : cl137.slots[((1 : Int32)).toNatClampNeg]? = some (.int q3) := H137.at hin137 rfl
    have sg138 : ∀ t, Steps p.tables e below (T117.setTop (mkF m 108 #[.val (.int q0), .val (.int q1), .val (.int q2), .val (.int q3), .val (.int q4), .val (.int q5), .val (.int (q1 &&& (3 : Int32))), .val (.int ((((q1.toUInt32 >>> ((8 : Int32) &&& 31).toUInt32).toInt32) &&& (255 : Int32)).toUInt32.toUInt16.toUInt32.toInt32)), .val (.ref b102), .val (.ref b107), .val (.int (own_f8 b102 b107 q0 (q1 &&& (3 : Int32)) k107 q2 q3 q4 q5)), .val (.int q0), .unset] [(.int (2 : Int32)), (.ref b107)])) t → Steps p.tables e below (T117.setTop (mkF m 100 #[.val (.int q0), .val (.int q1), .val (.int q2), .val (.int q3), .val (.int q4), .val (.int q5), .val (.int (q1 &&& (3 : Int32))), .val (.int ((((q1.toUInt32 >>> ((8 : Int32) &&& 31).toUInt32).toInt32) &&& (255 : Int32)).toUInt32.toUInt16.toUInt32.toInt32)), .val (.ref b102), .val (.ref b107), .val (.int (own_f8 b102 b107 q0 (q1 &&& (3 : Int32)) k107 q2 q3 q4 q5)), .val (.int q0), .unset] [(.int (1 : Int32)), (.ref b107)])) t := by
      intro t k
      show Steps p.tables e below (T117.setTop (mkF m 100 #[.val (.int q0), .val (.int q1), .val (.int q2), .val (.int q3), .val (.int q4), .val (.int q5), .val (.int (q1 &&& (3 : Int32))), .val (.int ((((q1.toUInt32 >>> ((8 : Int32) &&& 31).toUInt32).toInt32) &&& (255 : Int32)).toUInt32.toUInt16.toUInt32.toInt32)), .val (.ref b102), .val (.ref b107), .val (.int (own_f8 b102 b107 q0 (q1 &&& (3 : Int32)) k107 q2 q3 q4 q5)), .val (.int q0), .unset] [(.int (1 : Int32)), (.ref b107)])) t
      refine X117.iaload hx (j := (1 : Int32)) (v := (.int q3)) (by rw [e117]; exact Ar137.1) (State.isArrayOf_alike hZ.alike Ar137.2.1) Ar137.2.2 hin137 hat137 (g := (mkF m 100 #[.val (.int q0), .val (.int q1), .val (.int q2), .val (.int q3), .val (.int q4), .val (.int q5), .val (.int (q1 &&& (3 : Int32))), .val (.int ((((q1.toUInt32 >>> ((8 : Int32) &&& 31).toUInt32).toInt32) &&& (255 : Int32)).toUInt32.toUInt16.toUInt32.toInt32)), .val (.ref b102), .val (.ref b107), .val (.int (own_f8 b102 b107 q0 (q1 &&& (3 : Int32)) k107 q2 q3 q4 q5)), .val (.int q0), .unset] [(.int (1 : Int32)), (.ref b107)])) rfl rfl (hb hby at_100) _ ?_
      show Steps p.tables e below (T117.setTop (mkF m 101 #[.val (.int q0), .val (.int q1), .val (.int q2), .val (.int q3), .val (.int q4), .val (.int q5), .val (.int (q1 &&& (3 : Int32))), .val (.int ((((q1.toUInt32 >>> ((8 : Int32) &&& 31).toUInt32).toInt32) &&& (255 : Int32)).toUInt32.toUInt16.toUInt32.toInt32)), .val (.ref b102), .val (.ref b107), .val (.int (own_f8 b102 b107 q0 (q1 &&& (3 : Int32)) k107 q2 q3 q4 q5)), .val (.int q0), .unset] [(.int q3)])) t
      refine XS.iloadN X117.here hx rfl (hb hby at_101) rfl ?_
      show Steps p.tables e below (T117.setTop (mkF m 102 #[.val (.int q0), .val (.int q1), .val (.int q2), .val (.int q3), .val (.int q4), .val (.int q5), .val (.int (q1 &&& (3 : Int32))), .val (.int ((((q1.toUInt32 >>> ((8 : Int32) &&& 31).toUInt32).toInt32) &&& (255 : Int32)).toUInt32.toUInt16.toUInt32.toInt32)), .val (.ref b102), .val (.ref b107), .val (.int (own_f8 b102 b107 q0 (q1 &&& (3 : Int32)) k107 q2 q3 q4 q5)), .val (.int q0), .unset] [(.int q3), (.int q3)])) t
      refine XS.icmpNo X117.here hx rfl (hb hby at_102) rfl (teq (rfl : q3 = q3)).2 ?_
      show Steps p.tables e below (T117.setTop (mkF m 105 #[.val (.int q0), .val (.int q1), .val (.int q2), .val (.int q3), .val (.int q4), .val (.int q5), .val (.int (q1 &&& (3 : Int32))), .val (.int ((((q1.toUInt32 >>> ((8 : Int32) &&& 31).toUInt32).toInt32) &&& (255 : Int32)).toUInt32.toUInt16.toUInt32.toInt32)), .val (.ref b102), .val (.ref b107), .val (.int (own_f8 b102 b107 q0 (q1 &&& (3 : Int32)) k107 q2 q3 q4 q5)), .val (.int q0), .unset] [])) t
      refine XS.aload X117.here hx rfl (hb hby at_105) rfl rfl ?_
      show Steps p.tables e below (T117.setTop (mkF m 107 #[.val (.int q0), .val (.int q1), .val (.int q2), .val (.int q3), .val (.int q4), .val (.int q5), .val (.int (q1 &&& (3 : Int32))), .val (.int ((((q1.toUInt32 >>> ((8 : Int32) &&& 31).toUInt32).toInt32) &&& (255 : Int32)).toUInt32.toUInt16.toUInt32.toInt32)), .val (.ref b102), .val (.ref b107), .val (.int (own_f8 b102 b107 q0 (q1 &&& (3 : Int32)) k107 q2 q3 q4 q5)), .val (.int q0), .unset] [(.ref b107)])) t
      refine XS.iconst X117.here hx rfl (hb hby at_107) ?_
      exact k
    refine OFin.go sg138 ?_
    obtain ⟨cl139, Ar139, q139, S139, M139, H139, G139⟩ := id V115
    have hin139 : ¬ ((2 : Int32) < 0 ∨ cl139.slots.size ≤ ((2 : Int32)).toNatClampNeg) := inb_of S139 ⟨by decide, by decide⟩
    have hat139 : cl139.slots[((2 : Int32)).toNatClampNeg]? = some (.int q4) := H139.at hin139 rfl
    have sg140 : ∀ t, Steps p.tables e below (T117.setTop (mkF m 117 #[.val (.int q0), .val (.int q1), .val (.int q2), .val (.int q3), .val (.int q4), .val (.int q5), .val (.int (q1 &&& (3 : Int32))), .val (.int ((((q1.toUInt32 >>> ((8 : Int32) &&& 31).toUInt32).toInt32) &&& (255 : Int32)).toUInt32.toUInt16.toUInt32.toInt32)), .val (.ref b102), .val (.ref b107), .val (.int (own_f8 b102 b107 q0 (q1 &&& (3 : Int32)) k107 q2 q3 q4 q5)), .val (.int q0), .unset] [(.int (3 : Int32)), (.ref b107)])) t → Steps p.tables e below (T117.setTop (mkF m 108 #[.val (.int q0), .val (.int q1), .val (.int q2), .val (.int q3), .val (.int q4), .val (.int q5), .val (.int (q1 &&& (3 : Int32))), .val (.int ((((q1.toUInt32 >>> ((8 : Int32) &&& 31).toUInt32).toInt32) &&& (255 : Int32)).toUInt32.toUInt16.toUInt32.toInt32)), .val (.ref b102), .val (.ref b107), .val (.int (own_f8 b102 b107 q0 (q1 &&& (3 : Int32)) k107 q2 q3 q4 q5)), .val (.int q0), .unset] [(.int (2 : Int32)), (.ref b107)])) t := by
      intro t k
      show Steps p.tables e below (T117.setTop (mkF m 108 #[.val (.int q0), .val (.int q1), .val (.int q2), .val (.int q3), .val (.int q4), .val (.int q5), .val (.int (q1 &&& (3 : Int32))), .val (.int ((((q1.toUInt32 >>> ((8 : Int32) &&& 31).toUInt32).toInt32) &&& (255 : Int32)).toUInt32.toUInt16.toUInt32.toInt32)), .val (.ref b102), .val (.ref b107), .val (.int (own_f8 b102 b107 q0 (q1 &&& (3 : Int32)) k107 q2 q3 q4 q5)), .val (.int q0), .unset] [(.int (2 : Int32)), (.ref b107)])) t
      refine X117.iaload hx (j := (2 : Int32)) (v := (.int q4)) (by rw [e117]; exact Ar139.1) (State.isArrayOf_alike hZ.alike Ar139.2.1) Ar139.2.2 hin139 hat139 (g := (mkF m 108 #[.val (.int q0), .val (.int q1), .val (.int q2), .val (.int q3), .val (.int q4), .val (.int q5), .val (.int (q1 &&& (3 : Int32))), .val (.int ((((q1.toUInt32 >>> ((8 : Int32) &&& 31).toUInt32).toInt32) &&& (255 : Int32)).toUInt32.toUInt16.toUInt32.toInt32)), .val (.ref b102), .val (.ref b107), .val (.int (own_f8 b102 b107 q0 (q1 &&& (3 : Int32)) k107 q2 q3 q4 q5)), .val (.int q0), .unset] [(.int (2 : Int32)), (.ref b107)])) rfl rfl (hb hby at_108) _ ?_
      show Steps p.tables e below (T117.setTop (mkF m 109 #[.val (.int q0), .val (.int q1), .val (.int q2), .val (.int q3), .val (.int q4), .val (.int q5), .val (.int (q1 &&& (3 : Int32))), .val (.int ((((q1.toUInt32 >>> ((8 : Int32) &&& 31).toUInt32).toInt32) &&& (255 : Int32)).toUInt32.toUInt16.toUInt32.toInt32)), .val (.ref b102), .val (.ref b107), .val (.int (own_f8 b102 b107 q0 (q1 &&& (3 : Int32)) k107 q2 q3 q4 q5)), .val (.int q0), .unset] [(.int q4)])) t
      refine XS.iload X117.here hx rfl (hb hby at_109) rfl ?_
      show Steps p.tables e below (T117.setTop (mkF m 111 #[.val (.int q0), .val (.int q1), .val (.int q2), .val (.int q3), .val (.int q4), .val (.int q5), .val (.int (q1 &&& (3 : Int32))), .val (.int ((((q1.toUInt32 >>> ((8 : Int32) &&& 31).toUInt32).toInt32) &&& (255 : Int32)).toUInt32.toUInt16.toUInt32.toInt32)), .val (.ref b102), .val (.ref b107), .val (.int (own_f8 b102 b107 q0 (q1 &&& (3 : Int32)) k107 q2 q3 q4 q5)), .val (.int q0), .unset] [(.int q4), (.int q4)])) t
      refine XS.icmpNo X117.here hx rfl (hb hby at_111) rfl (teq (rfl : q4 = q4)).2 ?_
      show Steps p.tables e below (T117.setTop (mkF m 114 #[.val (.int q0), .val (.int q1), .val (.int q2), .val (.int q3), .val (.int q4), .val (.int q5), .val (.int (q1 &&& (3 : Int32))), .val (.int ((((q1.toUInt32 >>> ((8 : Int32) &&& 31).toUInt32).toInt32) &&& (255 : Int32)).toUInt32.toUInt16.toUInt32.toInt32)), .val (.ref b102), .val (.ref b107), .val (.int (own_f8 b102 b107 q0 (q1 &&& (3 : Int32)) k107 q2 q3 q4 q5)), .val (.int q0), .unset] [])) t
      refine XS.aload X117.here hx rfl (hb hby at_114) rfl rfl ?_
      show Steps p.tables e below (T117.setTop (mkF m 116 #[.val (.int q0), .val (.int q1), .val (.int q2), .val (.int q3), .val (.int q4), .val (.int q5), .val (.int (q1 &&& (3 : Int32))), .val (.int ((((q1.toUInt32 >>> ((8 : Int32) &&& 31).toUInt32).toInt32) &&& (255 : Int32)).toUInt32.toUInt16.toUInt32.toInt32)), .val (.ref b102), .val (.ref b107), .val (.int (own_f8 b102 b107 q0 (q1 &&& (3 : Int32)) k107 q2 q3 q4 q5)), .val (.int q0), .unset] [(.ref b107)])) t
      refine XS.iconst X117.here hx rfl (hb hby at_116) ?_
      exact k
    refine OFin.go sg140 ?_
    obtain ⟨cl141, Ar141, q141, S141, M141, H141, G141⟩ := id V115
    have hin141 : ¬ ((3 : Int32) < 0 ∨ cl141.slots.size ≤ ((3 : Int32)).toNatClampNeg) := inb_of S141 ⟨by decide, by decide⟩
    have hat141 : cl141.slots[((3 : Int32)).toNatClampNeg]? = some (.int q5) := H141.at hin141 rfl
    have sg143 : ∀ t, Steps p.tables e below (T117.setTop (mkF m 134 #[.val (.int q0), .val (.int q1), .val (.int q2), .val (.int q3), .val (.int q4), .val (.int q5), .val (.int (q1 &&& (3 : Int32))), .val (.int ((((q1.toUInt32 >>> ((8 : Int32) &&& 31).toUInt32).toInt32) &&& (255 : Int32)).toUInt32.toUInt16.toUInt32.toInt32)), .val (.ref b102), .val (.ref b107), .val (.int (own_f8 b102 b107 q0 (q1 &&& (3 : Int32)) k107 q2 q3 q4 q5)), .val (.int q0), .val (.int (1 : Int32))] [(.int q0), (.int (own_f8 b102 b107 q0 (q1 &&& (3 : Int32)) k107 q2 q3 q4 q5))])) t → Steps p.tables e below (T117.setTop (mkF m 117 #[.val (.int q0), .val (.int q1), .val (.int q2), .val (.int q3), .val (.int q4), .val (.int q5), .val (.int (q1 &&& (3 : Int32))), .val (.int ((((q1.toUInt32 >>> ((8 : Int32) &&& 31).toUInt32).toInt32) &&& (255 : Int32)).toUInt32.toUInt16.toUInt32.toInt32)), .val (.ref b102), .val (.ref b107), .val (.int (own_f8 b102 b107 q0 (q1 &&& (3 : Int32)) k107 q2 q3 q4 q5)), .val (.int q0), .unset] [(.int (3 : Int32)), (.ref b107)])) t := by
      intro t k
      show Steps p.tables e below (T117.setTop (mkF m 117 #[.val (.int q0), .val (.int q1), .val (.int q2), .val (.int q3), .val (.int q4), .val (.int q5), .val (.int (q1 &&& (3 : Int32))), .val (.int ((((q1.toUInt32 >>> ((8 : Int32) &&& 31).toUInt32).toInt32) &&& (255 : Int32)).toUInt32.toUInt16.toUInt32.toInt32)), .val (.ref b102), .val (.ref b107), .val (.int (own_f8 b102 b107 q0 (q1 &&& (3 : Int32)) k107 q2 q3 q4 q5)), .val (.int q0), .unset] [(.int (3 : Int32)), (.ref b107)])) t
      refine X117.iaload hx (j := (3 : Int32)) (v := (.int q5)) (by rw [e117]; exact Ar141.1) (State.isArrayOf_alike hZ.alike Ar141.2.1) Ar141.2.2 hin141 hat141 (g := (mkF m 117 #[.val (.int q0), .val (.int q1), .val (.int q2), .val (.int q3), .val (.int q4), .val (.int q5), .val (.int (q1 &&& (3 : Int32))), .val (.int ((((q1.toUInt32 >>> ((8 : Int32) &&& 31).toUInt32).toInt32) &&& (255 : Int32)).toUInt32.toUInt16.toUInt32.toInt32)), .val (.ref b102), .val (.ref b107), .val (.int (own_f8 b102 b107 q0 (q1 &&& (3 : Int32)) k107 q2 q3 q4 q5)), .val (.int q0), .unset] [(.int (3 : Int32)), (.ref b107)])) rfl rfl (hb hby at_117) _ ?_
      show Steps p.tables e below (T117.setTop (mkF m 118 #[.val (.int q0), .val (.int q1), .val (.int q2), .val (.int q3), .val (.int q4), .val (.int q5), .val (.int (q1 &&& (3 : Int32))), .val (.int ((((q1.toUInt32 >>> ((8 : Int32) &&& 31).toUInt32).toInt32) &&& (255 : Int32)).toUInt32.toUInt16.toUInt32.toInt32)), .val (.ref b102), .val (.ref b107), .val (.int (own_f8 b102 b107 q0 (q1 &&& (3 : Int32)) k107 q2 q3 q4 q5)), .val (.int q0), .unset] [(.int q5)])) t
      refine XS.iload X117.here hx rfl (hb hby at_118) rfl ?_
      show Steps p.tables e below (T117.setTop (mkF m 120 #[.val (.int q0), .val (.int q1), .val (.int q2), .val (.int q3), .val (.int q4), .val (.int q5), .val (.int (q1 &&& (3 : Int32))), .val (.int ((((q1.toUInt32 >>> ((8 : Int32) &&& 31).toUInt32).toInt32) &&& (255 : Int32)).toUInt32.toUInt16.toUInt32.toInt32)), .val (.ref b102), .val (.ref b107), .val (.int (own_f8 b102 b107 q0 (q1 &&& (3 : Int32)) k107 q2 q3 q4 q5)), .val (.int q0), .unset] [(.int q5), (.int q5)])) t
      refine XS.icmpNo X117.here hx rfl (hb hby at_120) rfl (teq (rfl : q5 = q5)).2 ?_
      show Steps p.tables e below (T117.setTop (mkF m 123 #[.val (.int q0), .val (.int q1), .val (.int q2), .val (.int q3), .val (.int q4), .val (.int q5), .val (.int (q1 &&& (3 : Int32))), .val (.int ((((q1.toUInt32 >>> ((8 : Int32) &&& 31).toUInt32).toInt32) &&& (255 : Int32)).toUInt32.toUInt16.toUInt32.toInt32)), .val (.ref b102), .val (.ref b107), .val (.int (own_f8 b102 b107 q0 (q1 &&& (3 : Int32)) k107 q2 q3 q4 q5)), .val (.int q0), .unset] [])) t
      refine XS.iconst X117.here hx rfl (hb hby at_123) ?_
      show Steps p.tables e below (T117.setTop (mkF m 124 #[.val (.int q0), .val (.int q1), .val (.int q2), .val (.int q3), .val (.int q4), .val (.int q5), .val (.int (q1 &&& (3 : Int32))), .val (.int ((((q1.toUInt32 >>> ((8 : Int32) &&& 31).toUInt32).toInt32) &&& (255 : Int32)).toUInt32.toUInt16.toUInt32.toInt32)), .val (.ref b102), .val (.ref b107), .val (.int (own_f8 b102 b107 q0 (q1 &&& (3 : Int32)) k107 q2 q3 q4 q5)), .val (.int q0), .unset] [(.int (1 : Int32))])) t
      refine XS.goto X117.here hx rfl (pc0 := 124) (pc' := 128) rfl (hb hby at_124) (by decide) (by decide) ?_
      show Steps p.tables e below (T117.setTop (mkF m 128 #[.val (.int q0), .val (.int q1), .val (.int q2), .val (.int q3), .val (.int q4), .val (.int q5), .val (.int (q1 &&& (3 : Int32))), .val (.int ((((q1.toUInt32 >>> ((8 : Int32) &&& 31).toUInt32).toInt32) &&& (255 : Int32)).toUInt32.toUInt16.toUInt32.toInt32)), .val (.ref b102), .val (.ref b107), .val (.int (own_f8 b102 b107 q0 (q1 &&& (3 : Int32)) k107 q2 q3 q4 q5)), .val (.int q0), .unset] [(.int (1 : Int32))])) t
      refine XS.istore X117.here hx rfl (hb hby at_128) rfl (l' := #[.val (.int q0), .val (.int q1), .val (.int q2), .val (.int q3), .val (.int q4), .val (.int q5), .val (.int (q1 &&& (3 : Int32))), .val (.int ((((q1.toUInt32 >>> ((8 : Int32) &&& 31).toUInt32).toInt32) &&& (255 : Int32)).toUInt32.toUInt16.toUInt32.toInt32)), .val (.ref b102), .val (.ref b107), .val (.int (own_f8 b102 b107 q0 (q1 &&& (3 : Int32)) k107 q2 q3 q4 q5)), .val (.int q0), .val (.int (1 : Int32))]) rfl ?_
      show Steps p.tables e below (T117.setTop (mkF m 130 #[.val (.int q0), .val (.int q1), .val (.int q2), .val (.int q3), .val (.int q4), .val (.int q5), .val (.int (q1 &&& (3 : Int32))), .val (.int ((((q1.toUInt32 >>> ((8 : Int32) &&& 31).toUInt32).toInt32) &&& (255 : Int32)).toUInt32.toUInt16.toUInt32.toInt32)), .val (.ref b102), .val (.ref b107), .val (.int (own_f8 b102 b107 q0 (q1 &&& (3 : Int32)) k107 q2 q3 q4 q5)), .val (.int q0), .val (.int (1 : Int32))] [])) t
      refine XS.iload X117.here hx rfl (hb hby at_130) rfl ?_
      show Steps p.tables e below (T117.setTop (mkF m 132 #[.val (.int q0), .val (.int q1), .val (.int q2), .val (.int q3), .val (.int q4), .val (.int q5), .val (.int (q1 &&& (3 : Int32))), .val (.int ((((q1.toUInt32 >>> ((8 : Int32) &&& 31).toUInt32).toInt32) &&& (255 : Int32)).toUInt32.toUInt16.toUInt32.toInt32)), .val (.ref b102), .val (.ref b107), .val (.int (own_f8 b102 b107 q0 (q1 &&& (3 : Int32)) k107 q2 q3 q4 q5)), .val (.int q0), .val (.int (1 : Int32))] [(.int (own_f8 b102 b107 q0 (q1 &&& (3 : Int32)) k107 q2 q3 q4 q5))])) t
      refine XS.iload X117.here hx rfl (hb hby at_132) rfl ?_
      exact k
    refine OFin.go sg143 ?_
    have c142 : (own_f8 b102 b107 q0 (q1 &&& (3 : Int32)) k107 q2 q3 q4 q5) = q0 := (by unfold own_f8; rw [if_pos ((own_pos _).mp c120)])
    have sg144 : ∀ t, Steps p.tables e below (T117.setTop (mkF m 147 #[.val (.int q0), .val (.int q1), .val (.int q2), .val (.int q3), .val (.int q4), .val (.int q5), .val (.int (q1 &&& (3 : Int32))), .val (.int ((((q1.toUInt32 >>> ((8 : Int32) &&& 31).toUInt32).toInt32) &&& (255 : Int32)).toUInt32.toUInt16.toUInt32.toInt32)), .val (.ref b102), .val (.ref b107), .val (.int (own_f8 b102 b107 q0 (q1 &&& (3 : Int32)) k107 q2 q3 q4 q5)), .val (.int q0), .val (.int (1 : Int32))] [(.int (1 : Int32))])) t → Steps p.tables e below (T117.setTop (mkF m 134 #[.val (.int q0), .val (.int q1), .val (.int q2), .val (.int q3), .val (.int q4), .val (.int q5), .val (.int (q1 &&& (3 : Int32))), .val (.int ((((q1.toUInt32 >>> ((8 : Int32) &&& 31).toUInt32).toInt32) &&& (255 : Int32)).toUInt32.toUInt16.toUInt32.toInt32)), .val (.ref b102), .val (.ref b107), .val (.int (own_f8 b102 b107 q0 (q1 &&& (3 : Int32)) k107 q2 q3 q4 q5)), .val (.int q0), .val (.int (1 : Int32))] [(.int q0), (.int (own_f8 b102 b107 q0 (q1 &&& (3 : Int32)) k107 q2 q3 q4 q5))])) t := by
      intro t k
      show Steps p.tables e below (T117.setTop (mkF m 134 #[.val (.int q0), .val (.int q1), .val (.int q2), .val (.int q3), .val (.int q4), .val (.int q5), .val (.int (q1 &&& (3 : Int32))), .val (.int ((((q1.toUInt32 >>> ((8 : Int32) &&& 31).toUInt32).toInt32) &&& (255 : Int32)).toUInt32.toUInt16.toUInt32.toInt32)), .val (.ref b102), .val (.ref b107), .val (.int (own_f8 b102 b107 q0 (q1 &&& (3 : Int32)) k107 q2 q3 q4 q5)), .val (.int q0), .val (.int (1 : Int32))] [(.int q0), (.int (own_f8 b102 b107 q0 (q1 &&& (3 : Int32)) k107 q2 q3 q4 q5))])) t
      refine XS.icmpNo X117.here hx rfl (hb hby at_134) rfl (teq c142).2 ?_
      show Steps p.tables e below (T117.setTop (mkF m 137 #[.val (.int q0), .val (.int q1), .val (.int q2), .val (.int q3), .val (.int q4), .val (.int q5), .val (.int (q1 &&& (3 : Int32))), .val (.int ((((q1.toUInt32 >>> ((8 : Int32) &&& 31).toUInt32).toInt32) &&& (255 : Int32)).toUInt32.toUInt16.toUInt32.toInt32)), .val (.ref b102), .val (.ref b107), .val (.int (own_f8 b102 b107 q0 (q1 &&& (3 : Int32)) k107 q2 q3 q4 q5)), .val (.int q0), .val (.int (1 : Int32))] [])) t
      refine XS.iload X117.here hx rfl (hb hby at_137) rfl ?_
      show Steps p.tables e below (T117.setTop (mkF m 139 #[.val (.int q0), .val (.int q1), .val (.int q2), .val (.int q3), .val (.int q4), .val (.int q5), .val (.int (q1 &&& (3 : Int32))), .val (.int ((((q1.toUInt32 >>> ((8 : Int32) &&& 31).toUInt32).toInt32) &&& (255 : Int32)).toUInt32.toUInt16.toUInt32.toInt32)), .val (.ref b102), .val (.ref b107), .val (.int (own_f8 b102 b107 q0 (q1 &&& (3 : Int32)) k107 q2 q3 q4 q5)), .val (.int q0), .val (.int (1 : Int32))] [(.int (1 : Int32))])) t
      refine XS.ifNo X117.here hx rfl (hb hby at_139) rfl ((if0 _ _).trans (feq (by decide : ¬ ((1 : Int32) = (0 : Int32)))).1) ?_
      show Steps p.tables e below (T117.setTop (mkF m 142 #[.val (.int q0), .val (.int q1), .val (.int q2), .val (.int q3), .val (.int q4), .val (.int q5), .val (.int (q1 &&& (3 : Int32))), .val (.int ((((q1.toUInt32 >>> ((8 : Int32) &&& 31).toUInt32).toInt32) &&& (255 : Int32)).toUInt32.toUInt16.toUInt32.toInt32)), .val (.ref b102), .val (.ref b107), .val (.int (own_f8 b102 b107 q0 (q1 &&& (3 : Int32)) k107 q2 q3 q4 q5)), .val (.int q0), .val (.int (1 : Int32))] [])) t
      refine XS.iconst X117.here hx rfl (hb hby at_142) ?_
      show Steps p.tables e below (T117.setTop (mkF m 143 #[.val (.int q0), .val (.int q1), .val (.int q2), .val (.int q3), .val (.int q4), .val (.int q5), .val (.int (q1 &&& (3 : Int32))), .val (.int ((((q1.toUInt32 >>> ((8 : Int32) &&& 31).toUInt32).toInt32) &&& (255 : Int32)).toUInt32.toUInt16.toUInt32.toInt32)), .val (.ref b102), .val (.ref b107), .val (.int (own_f8 b102 b107 q0 (q1 &&& (3 : Int32)) k107 q2 q3 q4 q5)), .val (.int q0), .val (.int (1 : Int32))] [(.int (1 : Int32))])) t
      refine XS.goto X117.here hx rfl (pc0 := 143) (pc' := 147) rfl (hb hby at_143) (by decide) (by decide) ?_
      exact k
    refine OFin.go sg144 ?_
    exact OFin.retN X117 hx hret (by simp) hlk (hb hby at_147) rfl (by rw [e117]; exact ⟨rfl, N117⟩) (by decide) (by decide)
set_option maxHeartbeats 40000000 in
theorem comes_1 {Post : Tables → Env → Array Value → State → Outcome → State → Prop} (hpost : ∀ tb e args s v u, (limb_1_1.after args s (.returned v) u = true ∧ limb_1_2.after args s (.returned v) u = true ∧ True) → FrameEnd s (.returned v) u (Jvm.fieldLocs frame_1_writes args s ++ Jvm.arrayLocs frame_1_arrays args s ++ Jvm.staticLocs frame_1_statics s) 16 128 → Post tb e args s (.returned v) u) :
    ArmFor flags0 classFile x code maxLocals ret World_1 tables_1 room_1 Calls_1 rest_1 Pre_1 Post := by
  intro l hfl _ _ p e ha hc hk s m args below hf hA hF happ hP
  obtain ⟨hcalls, hrest, hpre⟩ := hP
  obtain ⟨-, -, -, hnamed, -, -, -, hat⟩ := (Spec.applies_iff hf).mp happ
  obtain ⟨hg, hn⟩ := and_e (Cond.before_iff.mp (show (Jvm.Cond.and given_1 narrow_1).before args s = true from hpre))
  obtain ⟨gg1, gg2⟩ := and_e hg
  obtain ⟨gg3, gg4⟩ := and_e gg2
  obtain ⟨gg5, gg6⟩ := and_e gg4
  obtain ⟨gg7, gg8⟩ := and_e gg6
  obtain ⟨gg9, gg10⟩ := and_e gg8
  obtain ⟨gg11, gg12⟩ := and_e gg10
  obtain ⟨w0, w1, w2, w3, w4, w5, rfl⟩ : ∃ w0 w1 w2 w3 w4 w5 : Value, args = #[w0, w1, w2, w3, w4, w5] := by
    have hs : args.size = 6 := by simpa [Cond.value, given_1] using gg1
    obtain ⟨L⟩ := args
    match L, hs with
    | [w0, w1, w2, w3, w4, w5], _ => exact ⟨w0, w1, w2, w3, w4, w5, rfl⟩
  have hw := fun d (hd : d ∈ tables_1) => atoms_spec (ws := Jvm.Cond.code x code maxLocals ret :: tables_1) hat d (List.mem_cons_of_mem _ hd)
  have hfit : Fit s := fun {y c} hc i hi => by
    obtain ⟨ha, rfl⟩ := Array.getElem?_eq_some_iff.mp hc
    have q := List.all_eq_true.mp ((Array.all_eq_true_iff_forall_mem.mp hF) _ (Array.getElem_mem ha)) i (List.mem_range.mpr hi)
    simpa [Array.getElem?_eq_getElem hi] using q
  obtain ⟨hsets, hown0⟩ := atoms_of _ (rest_1_c_eq ▸ (show rest_1_c.before _ s = true from hrest))
  have hr0 := Cond.before_iff.mp hown0
  obtain ⟨i0, ei0⟩ := is_v gg3
  obtain rfl : w0 = (.int i0) := Option.some.inj ei0
  obtain ⟨i1, ei1⟩ := is_v gg5
  obtain rfl : w1 = (.int i1) := Option.some.inj ei1
  obtain ⟨i2, ei2⟩ := is_v gg7
  obtain rfl : w2 = (.int i2) := Option.some.inj ei2
  obtain ⟨i3, ei3⟩ := is_v gg9
  obtain rfl : w3 = (.int i3) := Option.some.inj ei3
  obtain ⟨i4, ei4⟩ := is_v gg11
  obtain rfl : w4 = (.int i4) := Option.some.inj ei4
  obtain ⟨i5, ei5⟩ := is_v gg12
  obtain rfl : w5 = (.int i5) := Option.some.inj ei5
  have n5 := not_v (Cond.before_iff.mp (hsets _ (List.mem_of_getElem? (i := 2) rfl)))
  obtain ⟨w1, e10⟩ := is_v (Cond.before_iff.mp (hsets _ (List.mem_of_getElem? (i := 1) rfl)))
  have S1 : Sta s s.heap "java/lang/String" "COMPACT_STRINGS" "Z" (.int w1) := Sta.start e10 (Or.inl (hsets _ (List.mem_of_getElem? (i := 0) rfl)))
  have hcs : ¬ (w1 = (0 : Int32)) := gotF (Cond.eq_ints e10 (Term.int_eval (0))) n5
  obtain ⟨n, o, h1, h2, h3, _, L, rfl, ⟨rfl, N⟩, hq⟩ := rm0 l s _ hw tables_1 i0 i1 i2 i3 i4 i5 w1 s.heap s.heap.size (Nat.le_refl _) (Old.start s) S1 hcs p e ha hc hk s m _ below hf ((Spec.applies_iff_loose hf).mp happ).1 ⟨rfl, State.Warmed39.refl s, rfl⟩ trivial
  refine ⟨n, _, h1, h2, h3, hpost _ _ _ _ _ _ ⟨Cond.after_iff.mpr rfl, Cond.after_iff.mpr (eq_i res_at (Term.int_eval (1)) rfl), trivial⟩ ⟨hq.1, hq.2.1, (hq.2.2.sift fun y hy => Or.inr (N y hy)).mono (by decide) (by decide)⟩⟩
theorem main_1_1 : Claimed_1_1 := comes_1 fun _ _ _ _ _ _ h hF => ⟨h.1, hF⟩
theorem main_1_2 : Claimed_1_2 := comes_1 fun _ _ _ _ _ _ h hF => ⟨h.2.1, hF⟩
end Jvm.Pilot.@@N@@
namespace Jvm.Pilot.@@N@@
open Jvm Jvm.ClassFile Sem Op Lib Jvm.Free Jvm.Stand Jvm.Pilot.@@N@@.Jvm.D
/-! MADE BY PROGRAM (witnessworld.py) out of the Statement's table words and the real class files: 18 classes; the members and pool entries that the words name. The judged class is class 1, her method 2. -/
namespace start1
open Jvm.ClassFile
def u (s : String) : CpInfo := .utf8 (stringToUtf16 s)
/-- a pool by its gaps: so many unusable entries, then the entry; so many at the end -/
def gap : Nat → List CpInfo → List CpInfo
  | 0, r => r
  | n + 1, r => .unusable :: gap n r
def poolList (es : List (Nat × CpInfo)) (last : Nat) : List CpInfo := es.foldr (fun e r => gap e.1 (e.2 :: r)) (gap last [])
def pool (es : List (Nat × CpInfo)) (last : Nat) : Array CpInfo := ⟨poolList es last⟩
def fileOf (pool : Array CpInfo) (this : Nat) (attrs : Array Attribute := #[]) (ms : Array MethodInfo := #[]) (fl : Nat := 33) (sup : Nat := 0) (ifs : Array Nat := #[]) (fds : Array FieldInfo := #[]) : ClassFile where
  minorVersion := 0
  majorVersion := 65
  constantPool := pool
  accessFlags := fl
  thisClass := this
  superClass := sup
  interfaces := ifs
  fields := fds
  methods := ms
  attributes := attrs
def plain (name : String) (sup : Option ClassId) : Class where
  name := name
  kind := .ordinary
  loader := none
  accessFlags := 33
  super := sup
  interfaces := #[]
  cf := none
  fields := #[]
  methods := #[]
  instanceTypes := #[]
  staticTypes := #[]
  resolved := #[]
  callSites := []
  init := .initialized
  statics := none
  mirror := none

def pool0 : Array CpInfo := pool [(5, u "<init>"), (0, u "()V"), (1, .class_ 10), (1, u "java/lang/Object")] 113

def k0c0 : Code := { maxStack := 0, maxLocals := 1, code := object_method_1_code, exceptionTable := #[], attributes := #[] }
def k0m0 : Method := { name := "<init>", desc := "()V", sig := { parameters := [], returnType := none }, accessFlags := 1, code := some k0c0 }
/-- java/lang/Object -/
def k0 : Class := { plain "java/lang/Object" none with
  accessFlags := 33
  interfaces := #[]
  cf := some (fileOf pool0 8 #[] #[{ accessFlags := 1, nameIndex := 5, descriptorIndex := 6, attributes := #[] }] 33 0 #[] #[])
  fields := #[]
  methods := #[k0m0]
  instanceTypes := #[]
  staticTypes := #[]
  resolved := Array.replicate 124 none
  statics := none }

def pool1 : Array CpInfo := pool [(2, .class_ 4), (1, u "java/lang/Object"), (0, u "<init>"), (0, u "()V"), (0, .class_ 8), (0, u "com/example/epistemic_accord/epistemicaccord/programs/Formula$Agent"), (0, .methodref 10 11), (0, .class_ 12), (0, .nameAndType 13 14), (0, u "java/lang/String"), (0, u "valueOf"), (0, u "(C)Ljava/lang/String;"), (0, .methodref 7 16), (0, .nameAndType 5 17), (0, u "(IILjava/lang/String;)V"), (0, .methodref 7 19), (0, .nameAndType 20 21), (0, u "in"), (0, u "([I)I"), (0, .methodref 23 24), (0, .class_ 25), (0, .nameAndType 26 27), (0, u "com/example/epistemic_accord/epistemicaccord/programs/AgentInPinLaw"), (0, u "pick"), (0, u "(IIIII)I"), (3, u "law"), (0, u "(IIIIII)Z")] 8

def k1m0 : Method := { name := "<init>", desc := "()V", sig := { parameters := [], returnType := none }, accessFlags := 2, code := none }
def k1c1 : Code := { maxStack := 2, maxLocals := 5, code := method_2_code, exceptionTable := #[], attributes := #[] }
def k1m1 : Method := { name := "pick", desc := "(IIIII)I", sig := { parameters := [.int, .int, .int, .int, .int], returnType := some .int }, accessFlags := 10, code := some k1c1 }
def k1c2 : Code := { maxStack := 5, maxLocals := 13, code := code, exceptionTable := #[], attributes := #[] }
def k1m2 : Method := { name := "law", desc := "(IIIIII)Z", sig := { parameters := [.int, .int, .int, .int, .int, .int], returnType := some .boolean }, accessFlags := 9, code := some k1c2 }
/-- com/example/epistemic_accord/epistemicaccord/programs/AgentInPinLaw -/
def k1 : Class := { plain "com/example/epistemic_accord/epistemicaccord/programs/AgentInPinLaw" (some 0) with
  accessFlags := 49
  interfaces := #[]
  cf := some (fileOf pool1 23 #[] #[{ accessFlags := 2, nameIndex := 5, descriptorIndex := 6, attributes := #[] }, { accessFlags := 10, nameIndex := 26, descriptorIndex := 27, attributes := #[] }, { accessFlags := 9, nameIndex := 31, descriptorIndex := 32, attributes := #[] }] 49 2 #[] #[])
  fields := #[]
  methods := #[k1m0, k1m1, k1m2]
  instanceTypes := #[]
  staticTypes := #[]
  resolved := Array.replicate 41 none
  statics := none }

def pool2 : Array CpInfo := pool [(1, .methodref 2 3), (0, .class_ 4), (0, .nameAndType 5 6), (0, u "java/lang/Object"), (0, u "<init>"), (0, u "()V"), (0, .class_ 8), (0, u "java/lang/Record")] 13

def k2c0 : Code := { maxStack := 1, maxLocals := 1, code := jdk_30_method_1_code, exceptionTable := #[], attributes := #[] }
def k2m0 : Method := { name := "<init>", desc := "()V", sig := { parameters := [], returnType := none }, accessFlags := 4, code := some k2c0 }
/-- java/lang/Record -/
def k2 : Class := { plain "java/lang/Record" (some 0) with
  accessFlags := 1057
  interfaces := #[]
  cf := some (fileOf pool2 7 #[] #[{ accessFlags := 4, nameIndex := 5, descriptorIndex := 6, attributes := #[] }] 1057 2 #[] #[])
  fields := #[]
  methods := #[k2m0]
  instanceTypes := #[]
  staticTypes := #[]
  resolved := Array.replicate 22 none
  statics := none }

def pool3 : Array CpInfo := pool [(1, .methodref 2 3), (0, .class_ 4), (0, .nameAndType 5 6), (0, u "java/lang/Record"), (0, u "<init>"), (0, u "()V"), (0, .fieldref 8 9), (0, .class_ 10), (0, .nameAndType 11 12), (0, u "com/example/epistemic_accord/epistemicaccord/programs/Formula$Agent"), (0, u "number"), (0, u "I"), (0, .fieldref 8 14), (0, .nameAndType 15 12), (0, u "slot"), (0, .fieldref 8 17), (0, .nameAndType 18 19), (0, u "text"), (0, u "Ljava/lang/String;"), (12, u "(IILjava/lang/String;)V"), (3, u "in"), (0, u "([I)I"), (9, .class_ 48), (0, u "com/example/epistemic_accord/epistemicaccord/programs/Formula")] 21

def k3c0 : Code := { maxStack := 2, maxLocals := 4, code := prog_100_method_1_code, exceptionTable := #[], attributes := #[] }
def k3m0 : Method := { name := "<init>", desc := "(IILjava/lang/String;)V", sig := { parameters := [.int, .int, (.object "java/lang/String")], returnType := none }, accessFlags := 0, code := some k3c0 }
def k3c1 : Code := { maxStack := 2, maxLocals := 2, code := prog_100_method_2_code, exceptionTable := #[], attributes := #[] }
def k3m1 : Method := { name := "in", desc := "([I)I", sig := { parameters := [(.array .int)], returnType := some .int }, accessFlags := 0, code := some k3c1 }
/-- com/example/epistemic_accord/epistemicaccord/programs/Formula$Agent -/
def k3 : Class := { plain "com/example/epistemic_accord/epistemicaccord/programs/Formula$Agent" (some 2) with
  accessFlags := 48
  interfaces := #[]
  cf := some (fileOf pool3 8 #[.nestHost 47] #[{ accessFlags := 0, nameIndex := 5, descriptorIndex := 32, attributes := #[] }, { accessFlags := 0, nameIndex := 36, descriptorIndex := 37, attributes := #[] }] 48 2 #[] #[{ accessFlags := 18, nameIndex := 11, descriptorIndex := 12, attributes := #[] }, { accessFlags := 18, nameIndex := 15, descriptorIndex := 12, attributes := #[] }, { accessFlags := 18, nameIndex := 18, descriptorIndex := 19, attributes := #[] }])
  fields := #[{ name := "number", type := .int, accessFlags := 18, slot := 0, constantValue := 0 }, { name := "slot", type := .int, accessFlags := 18, slot := 1, constantValue := 0 }, { name := "text", type := (.object "java/lang/String"), accessFlags := 18, slot := 2, constantValue := 0 }]
  methods := #[k3m0, k3m1]
  instanceTypes := #[.int, .int, (.object "java/lang/String")]
  staticTypes := #[]
  resolved := Array.replicate 70 none
  statics := none }

def pool4 : Array CpInfo := pool [(1, .class_ 2), (0, u "java/io/Serializable"), (0, .class_ 4), (0, u "java/lang/Object")] 2

/-- java/io/Serializable -/
def k4 : Class := { plain "java/io/Serializable" (some 0) with
  accessFlags := 1537
  interfaces := #[]
  cf := some (fileOf pool4 1 #[] #[] 1537 3 #[] #[])
  fields := #[]
  methods := #[]
  instanceTypes := #[]
  staticTypes := #[]
  resolved := Array.replicate 7 none
  statics := none }

def pool5 : Array CpInfo := pool [(1, .class_ 2), (0, u "java/lang/Comparable"), (0, .class_ 4), (0, u "java/lang/Object")] 7

/-- java/lang/Comparable -/
def k5 : Class := { plain "java/lang/Comparable" (some 0) with
  accessFlags := 1537
  interfaces := #[]
  cf := some (fileOf pool5 1 #[] #[] 1537 3 #[] #[])
  fields := #[]
  methods := #[]
  instanceTypes := #[]
  staticTypes := #[]
  resolved := Array.replicate 12 none
  statics := none }

def pool6 : Array CpInfo := pool [(2, .class_ 4), (1, u "java/lang/CharSequence"), (42, .class_ 48), (0, u "java/lang/CharSequence$1CodePointIterator"), (10, .class_ 60), (0, u "java/lang/CharSequence$1CharIterator"), (5, .class_ 67), (0, u "java/lang/Object")] 63

/-- java/lang/CharSequence -/
def k6 : Class := { plain "java/lang/CharSequence" (some 0) with
  accessFlags := 1537
  interfaces := #[]
  cf := some (fileOf pool6 2 #[.nestMembers #[47, 59]] #[] 1537 66 #[] #[])
  fields := #[]
  methods := #[]
  instanceTypes := #[]
  staticTypes := #[]
  resolved := Array.replicate 131 none
  statics := none }

def pool7 : Array CpInfo := pool [(1, .class_ 2), (0, u "java/lang/constant/Constable"), (0, .class_ 4), (0, u "java/lang/Object")] 6

/-- java/lang/constant/Constable -/
def k7 : Class := { plain "java/lang/constant/Constable" (some 0) with
  accessFlags := 1537
  interfaces := #[]
  cf := some (fileOf pool7 1 #[] #[] 1537 3 #[] #[])
  fields := #[]
  methods := #[]
  instanceTypes := #[]
  staticTypes := #[]
  resolved := Array.replicate 11 none
  statics := none }

def pool8 : Array CpInfo := pool [(1, .class_ 2), (0, u "java/lang/constant/ConstantDesc"), (0, .class_ 4), (0, u "java/lang/Object")] 32

/-- java/lang/constant/ConstantDesc -/
def k8 : Class := { plain "java/lang/constant/ConstantDesc" (some 0) with
  accessFlags := 1537
  interfaces := #[]
  cf := some (fileOf pool8 1 #[] #[] 1537 3 #[] #[])
  fields := #[]
  methods := #[]
  instanceTypes := #[]
  staticTypes := #[]
  resolved := Array.replicate 37 none
  statics := none }

def pool9 : Array CpInfo := pool [(1, .methodref 2 3), (0, .class_ 4), (0, .nameAndType 5 6), (0, u "java/lang/Object"), (0, u "<init>"), (0, u "()V"), (2, .fieldref 10 11), (0, .class_ 12), (0, .nameAndType 13 14), (0, u "java/lang/String"), (0, u "value"), (0, u "[B"), (0, .fieldref 10 16), (0, .nameAndType 17 18), (0, u "coder"), (0, u "B"), (2, u "hash"), (0, u "I"), (2, u "hashIsZero"), (0, u "Z"), (11, .fieldref 10 39), (0, .nameAndType 40 26), (0, u "COMPACT_STRINGS"), (12, u "toBytes"), (53, .class_ 109), (1, u "java/lang/StringLatin1"), (99, .methodref 10 210), (0, .nameAndType 5 211), (0, u "([BB)V"), (157, u "(C)Z"), (205, .class_ 576), (0, u "java/lang/CharSequence"), (22, u "CASE_INSENSITIVE_ORDER"), (0, u "Ljava/util/Comparator;"), (181, u "valueOf"), (0, u "(C)Ljava/lang/String;"), (231, .methodref 107 1016), (0, .nameAndType 1017 369), (0, u "canEncode"), (0, .methodref 107 1019), (0, .nameAndType 53 1020), (0, u "(C)[B"), (80, u "serialPersistentFields"), (0, u "[Ljava/io/ObjectStreamField;"), (0, .class_ 1104), (0, u "java/lang/String$CaseInsensitiveComparator"), (1, .class_ 1107), (0, u "java/io/Serializable"), (0, .class_ 1109), (0, u "java/lang/Comparable"), (0, .class_ 1111), (0, u "java/lang/constant/Constable"), (0, .class_ 1113), (0, u "java/lang/constant/ConstantDesc"), (2, u "serialVersionUID"), (0, u "J"), (3, u "REPL"), (0, u "C"), (2, u "LATIN1"), (1, u "UTF16")] 323

def k9m0 : Method := { name := "<init>", desc := "()V", sig := { parameters := [], returnType := none }, accessFlags := 1, code := none }
def k9c1 : Code := { maxStack := 4, maxLocals := 1, code := jdk_42_method_139_code, exceptionTable := #[], attributes := #[] }
def k9m1 : Method := { name := "valueOf", desc := "(C)Ljava/lang/String;", sig := { parameters := [.char], returnType := some (.object "java/lang/String") }, accessFlags := 9, code := some k9c1 }
def k9c2 : Code := { maxStack := 2, maxLocals := 3, code := jdk_42_method_151_code, exceptionTable := #[], attributes := #[] }
def k9m2 : Method := { name := "<init>", desc := "([BB)V", sig := { parameters := [(.array .byte), .byte], returnType := none }, accessFlags := 0, code := some k9c2 }
/-- java/lang/String -/
def k9 : Class := { plain "java/lang/String" (some 0) with
  accessFlags := 49
  interfaces := #[4, 5, 6, 7, 8]
  cf := some (fileOf pool9 10 #[.nestMembers #[1103]] #[{ accessFlags := 1, nameIndex := 5, descriptorIndex := 6, attributes := #[] }, { accessFlags := 9, nameIndex := 782, descriptorIndex := 783, attributes := #[] }, { accessFlags := 0, nameIndex := 5, descriptorIndex := 211, attributes := #[] }] 49 2 #[1106, 1108, 575, 1110, 1112] #[{ accessFlags := 18, nameIndex := 13, descriptorIndex := 14, attributes := #[] }, { accessFlags := 18, nameIndex := 17, descriptorIndex := 18, attributes := #[] }, { accessFlags := 2, nameIndex := 21, descriptorIndex := 22, attributes := #[] }, { accessFlags := 2, nameIndex := 25, descriptorIndex := 26, attributes := #[] }, { accessFlags := 26, nameIndex := 1116, descriptorIndex := 1117, attributes := #[] }, { accessFlags := 24, nameIndex := 40, descriptorIndex := 26, attributes := #[] }, { accessFlags := 26, nameIndex := 1101, descriptorIndex := 1102, attributes := #[] }, { accessFlags := 26, nameIndex := 1121, descriptorIndex := 1122, attributes := #[] }, { accessFlags := 25, nameIndex := 599, descriptorIndex := 600, attributes := #[] }, { accessFlags := 24, nameIndex := 1125, descriptorIndex := 18, attributes := #[] }, { accessFlags := 24, nameIndex := 1127, descriptorIndex := 18, attributes := #[] }])
  fields := #[{ name := "value", type := (.array .byte), accessFlags := 18, slot := 0, constantValue := 0 }, { name := "coder", type := .byte, accessFlags := 18, slot := 1, constantValue := 0 }, { name := "hash", type := .int, accessFlags := 2, slot := 2, constantValue := 0 }, { name := "hashIsZero", type := .boolean, accessFlags := 2, slot := 3, constantValue := 0 }, { name := "serialVersionUID", type := .long, accessFlags := 26, slot := 0, constantValue := 0 }, { name := "COMPACT_STRINGS", type := .boolean, accessFlags := 24, slot := 1, constantValue := 0 }, { name := "serialPersistentFields", type := (.array (.object "java/io/ObjectStreamField")), accessFlags := 26, slot := 2, constantValue := 0 }, { name := "REPL", type := .char, accessFlags := 26, slot := 3, constantValue := 0 }, { name := "CASE_INSENSITIVE_ORDER", type := (.object "java/util/Comparator"), accessFlags := 25, slot := 4, constantValue := 0 }, { name := "LATIN1", type := .byte, accessFlags := 24, slot := 5, constantValue := 0 }, { name := "UTF16", type := .byte, accessFlags := 24, slot := 6, constantValue := 0 }]
  methods := #[k9m0, k9m1, k9m2]
  instanceTypes := #[(.array .byte), .byte, .int, .boolean]
  staticTypes := #[.long, .boolean, (.array (.object "java/io/ObjectStreamField")), .char, (.object "java/util/Comparator"), .byte, .byte]
  resolved := Array.replicate 1451 none
  statics := some 0 }

def pool10 : Array CpInfo := pool [(4, .class_ 6), (1, u "java/lang/Object"), (0, u "<init>"), (0, u "()V"), (5, .class_ 16), (1, u "java/lang/StringLatin1"), (73, u "canEncode"), (14, u "(C)Z"), (15, u "$assertionsDisabled"), (0, u "Z"), (98, .class_ 223), (1, u "java/lang/StringLatin1$LinesSpliterator"), (156, u "toBytes"), (1, u "(C)[B"), (7, .class_ 391), (0, u "java/lang/StringLatin1$CharsSpliterator")] 3

def k10m0 : Method := { name := "<init>", desc := "()V", sig := { parameters := [], returnType := none }, accessFlags := 0, code := none }
def k10c1 : Code := { maxStack := 2, maxLocals := 1, code := jdk_43_method_3_code, exceptionTable := #[], attributes := #[] }
def k10m1 : Method := { name := "canEncode", desc := "(C)Z", sig := { parameters := [.char], returnType := some .boolean }, accessFlags := 9, code := some k10c1 }
def k10c2 : Code := { maxStack := 4, maxLocals := 1, code := jdk_43_method_46_code, exceptionTable := #[], attributes := #[] }
def k10m2 : Method := { name := "toBytes", desc := "(C)[B", sig := { parameters := [.char], returnType := some (.array .byte) }, accessFlags := 9, code := some k10c2 }
/-- java/lang/StringLatin1 -/
def k10 : Class := { plain "java/lang/StringLatin1" (some 0) with
  accessFlags := 48
  interfaces := #[]
  cf := some (fileOf pool10 14 #[.nestMembers #[390, 221]] #[{ accessFlags := 0, nameIndex := 7, descriptorIndex := 8, attributes := #[] }, { accessFlags := 9, nameIndex := 90, descriptorIndex := 105, attributes := #[] }, { accessFlags := 9, nameIndex := 380, descriptorIndex := 382, attributes := #[] }] 48 4 #[] #[{ accessFlags := 4120, nameIndex := 121, descriptorIndex := 122, attributes := #[] }])
  fields := #[{ name := "$assertionsDisabled", type := .boolean, accessFlags := 4120, slot := 0, constantValue := 0 }]
  methods := #[k10m0, k10m1, k10m2]
  instanceTypes := #[]
  staticTypes := #[.boolean]
  resolved := Array.replicate 395 none
  statics := none }

def pool11 : Array CpInfo := pool [(2, .class_ 4), (1, u "java/lang/Object"), (0, u "<init>"), (0, u "()V"), (17, .class_ 26), (1, u "jdk/internal/util/Preconditions"), (28, .class_ 56), (0, u "jdk/internal/util/Preconditions$4"), (57, .class_ 115), (0, u "jdk/internal/util/Preconditions$1"), (7, u "SIOOBE_FORMATTER"), (0, u "Ljava/util/function/BiFunction;"), (0, .class_ 126), (0, u "jdk/internal/util/Preconditions$2"), (3, u "AIOOBE_FORMATTER"), (0, .class_ 132), (0, u "jdk/internal/util/Preconditions$3"), (3, u "IOOBE_FORMATTER")] 57

def k11m0 : Method := { name := "<init>", desc := "()V", sig := { parameters := [], returnType := none }, accessFlags := 1, code := none }
/-- jdk/internal/util/Preconditions -/
def k11 : Class := { plain "jdk/internal/util/Preconditions" (some 0) with
  accessFlags := 33
  interfaces := #[]
  cf := some (fileOf pool11 24 #[.nestMembers #[55, 131, 125, 114]] #[{ accessFlags := 1, nameIndex := 5, descriptorIndex := 6, attributes := #[] }] 33 2 #[] #[{ accessFlags := 25, nameIndex := 123, descriptorIndex := 124, attributes := #[] }, { accessFlags := 25, nameIndex := 130, descriptorIndex := 124, attributes := #[] }, { accessFlags := 25, nameIndex := 136, descriptorIndex := 124, attributes := #[] }])
  fields := #[{ name := "SIOOBE_FORMATTER", type := (.object "java/util/function/BiFunction"), accessFlags := 25, slot := 0, constantValue := 0 }, { name := "AIOOBE_FORMATTER", type := (.object "java/util/function/BiFunction"), accessFlags := 25, slot := 1, constantValue := 0 }, { name := "IOOBE_FORMATTER", type := (.object "java/util/function/BiFunction"), accessFlags := 25, slot := 2, constantValue := 0 }]
  methods := #[k11m0]
  instanceTypes := #[]
  staticTypes := #[(.object "java/util/function/BiFunction"), (.object "java/util/function/BiFunction"), (.object "java/util/function/BiFunction")]
  resolved := Array.replicate 194 none
  statics := some 1 }

def pool12 : Array CpInfo := pool [(9, u "<init>"), (6, .class_ 18), (1, u "java/lang/Object"), (0, u "()V"), (1, .class_ 23), (1, u "jdk/internal/util/ArraysSupport"), (0, u "LOG2_ARRAY_LONG_INDEX_SCALE"), (0, u "I"), (2, u "U"), (0, u "Ljdk/internal/misc/Unsafe;"), (8, u "BIG_ENDIAN"), (0, u "Z"), (8, u "LOG2_BYTE_BIT_SIZE"), (4, u "LOG2_ARRAY_INT_INDEX_SCALE"), (54, u "JLA"), (0, u "Ljdk/internal/access/JavaLangAccess;"), (11, u "LOG2_ARRAY_BOOLEAN_INDEX_SCALE"), (9, u "LOG2_ARRAY_BYTE_INDEX_SCALE"), (5, u "LOG2_ARRAY_CHAR_INDEX_SCALE"), (5, u "LOG2_ARRAY_SHORT_INDEX_SCALE"), (18, u "LOG2_ARRAY_FLOAT_INDEX_SCALE"), (24, u "LOG2_ARRAY_DOUBLE_INDEX_SCALE"), (89, u "T_BOOLEAN"), (2, u "T_CHAR"), (1, u "T_FLOAT"), (1, u "T_DOUBLE"), (1, u "T_BYTE"), (1, u "T_SHORT"), (1, u "T_INT"), (1, u "T_LONG"), (1, u "SOFT_MAX_ARRAY_LENGTH")] 83

def k12m0 : Method := { name := "<init>", desc := "()V", sig := { parameters := [], returnType := none }, accessFlags := 2, code := none }
/-- jdk/internal/util/ArraysSupport -/
def k12 : Class := { plain "jdk/internal/util/ArraysSupport" (some 0) with
  accessFlags := 33
  interfaces := #[]
  cf := some (fileOf pool12 21 #[] #[{ accessFlags := 2, nameIndex := 9, descriptorIndex := 19, attributes := #[] }] 33 16 #[] #[{ accessFlags := 24, nameIndex := 28, descriptorIndex := 29, attributes := #[] }, { accessFlags := 26, nameIndex := 38, descriptorIndex := 39, attributes := #[] }, { accessFlags := 25, nameIndex := 121, descriptorIndex := 25, attributes := #[] }, { accessFlags := 25, nameIndex := 131, descriptorIndex := 25, attributes := #[] }, { accessFlags := 25, nameIndex := 137, descriptorIndex := 25, attributes := #[] }, { accessFlags := 25, nameIndex := 143, descriptorIndex := 25, attributes := #[] }, { accessFlags := 25, nameIndex := 53, descriptorIndex := 25, attributes := #[] }, { accessFlags := 25, nameIndex := 24, descriptorIndex := 25, attributes := #[] }, { accessFlags := 25, nameIndex := 162, descriptorIndex := 25, attributes := #[] }, { accessFlags := 25, nameIndex := 187, descriptorIndex := 25, attributes := #[] }, { accessFlags := 26, nameIndex := 48, descriptorIndex := 25, attributes := #[] }, { accessFlags := 25, nameIndex := 277, descriptorIndex := 25, attributes := #[] }, { accessFlags := 25, nameIndex := 280, descriptorIndex := 25, attributes := #[] }, { accessFlags := 25, nameIndex := 282, descriptorIndex := 25, attributes := #[] }, { accessFlags := 25, nameIndex := 284, descriptorIndex := 25, attributes := #[] }, { accessFlags := 25, nameIndex := 286, descriptorIndex := 25, attributes := #[] }, { accessFlags := 25, nameIndex := 288, descriptorIndex := 25, attributes := #[] }, { accessFlags := 25, nameIndex := 290, descriptorIndex := 25, attributes := #[] }, { accessFlags := 25, nameIndex := 292, descriptorIndex := 25, attributes := #[] }, { accessFlags := 26, nameIndex := 108, descriptorIndex := 109, attributes := #[] }, { accessFlags := 25, nameIndex := 294, descriptorIndex := 25, attributes := #[] }])
  fields := #[{ name := "U", type := (.object "jdk/internal/misc/Unsafe"), accessFlags := 24, slot := 0, constantValue := 0 }, { name := "BIG_ENDIAN", type := .boolean, accessFlags := 26, slot := 1, constantValue := 0 }, { name := "LOG2_ARRAY_BOOLEAN_INDEX_SCALE", type := .int, accessFlags := 25, slot := 2, constantValue := 0 }, { name := "LOG2_ARRAY_BYTE_INDEX_SCALE", type := .int, accessFlags := 25, slot := 3, constantValue := 0 }, { name := "LOG2_ARRAY_CHAR_INDEX_SCALE", type := .int, accessFlags := 25, slot := 4, constantValue := 0 }, { name := "LOG2_ARRAY_SHORT_INDEX_SCALE", type := .int, accessFlags := 25, slot := 5, constantValue := 0 }, { name := "LOG2_ARRAY_INT_INDEX_SCALE", type := .int, accessFlags := 25, slot := 6, constantValue := 0 }, { name := "LOG2_ARRAY_LONG_INDEX_SCALE", type := .int, accessFlags := 25, slot := 7, constantValue := 0 }, { name := "LOG2_ARRAY_FLOAT_INDEX_SCALE", type := .int, accessFlags := 25, slot := 8, constantValue := 0 }, { name := "LOG2_ARRAY_DOUBLE_INDEX_SCALE", type := .int, accessFlags := 25, slot := 9, constantValue := 0 }, { name := "LOG2_BYTE_BIT_SIZE", type := .int, accessFlags := 26, slot := 10, constantValue := 0 }, { name := "T_BOOLEAN", type := .int, accessFlags := 25, slot := 11, constantValue := 0 }, { name := "T_CHAR", type := .int, accessFlags := 25, slot := 12, constantValue := 0 }, { name := "T_FLOAT", type := .int, accessFlags := 25, slot := 13, constantValue := 0 }, { name := "T_DOUBLE", type := .int, accessFlags := 25, slot := 14, constantValue := 0 }, { name := "T_BYTE", type := .int, accessFlags := 25, slot := 15, constantValue := 0 }, { name := "T_SHORT", type := .int, accessFlags := 25, slot := 16, constantValue := 0 }, { name := "T_INT", type := .int, accessFlags := 25, slot := 17, constantValue := 0 }, { name := "T_LONG", type := .int, accessFlags := 25, slot := 18, constantValue := 0 }, { name := "JLA", type := (.object "jdk/internal/access/JavaLangAccess"), accessFlags := 26, slot := 19, constantValue := 0 }, { name := "SOFT_MAX_ARRAY_LENGTH", type := .int, accessFlags := 25, slot := 20, constantValue := 0 }]
  methods := #[k12m0]
  instanceTypes := #[]
  staticTypes := #[(.object "jdk/internal/misc/Unsafe"), .boolean, .int, .int, .int, .int, .int, .int, .int, .int, .int, .int, .int, .int, .int, .int, .int, .int, .int, (.object "jdk/internal/access/JavaLangAccess"), .int]
  resolved := Array.replicate 378 none
  statics := none }

def pool13 : Array CpInfo := pool [(1, u "java/lang/Cloneable"), (0, .class_ 1), (0, u "java/lang/Object"), (0, .class_ 3)] 3

/-- java/lang/Cloneable -/
def k13 : Class := { plain "java/lang/Cloneable" (some 0) with
  accessFlags := 1537
  interfaces := #[]
  cf := some (fileOf pool13 2 #[] #[] 1537 4 #[] #[])
  fields := #[]
  methods := #[]
  instanceTypes := #[]
  staticTypes := #[]
  resolved := Array.replicate 8 none
  statics := none }

/-- the primitive byte -/
def k14 : Class := { plain "byte" none with kind := .primitive 'B', accessFlags := 0x411 }
/-- [B -/
def k15 : Class := { plain "[B" (some 0) with kind := .array 14 .byte, interfaces := #[13, 4], accessFlags := 1041 }

/-- the primitive int -/
def k16 : Class := { plain "int" none with kind := .primitive 'I', accessFlags := 0x411 }
/-- [I -/
def k17 : Class := { plain "[I" (some 0) with kind := .array 16 .int, interfaces := #[13, 4], accessFlags := 1041 }

def heap : Heap := #[{ cls := 9, slots := #[.long 0, .int 1, .null, .int 0, .null, .int 0, .int 0], vm := .statics 9 },
  { cls := 11, slots := #[.null, .null, .null], vm := .statics 11 }]
def classes : Array Class := #[k0, k1, k2, k3, k4, k5, k6, k7, k8, k9, k10, k11, k12, k13, k14, k15, k16, k17]
def interned : List (Array UInt16 × Addr) := []
def slotsUsed : Nat := 10
def theMethod : MethodId := ⟨1, 2⟩
def args0 : Array Value := #[.int 5, .int 300, .int 7, .int 8, .int 9, .int 10]
def aboutOver (below : List Frame) : State where
  vm := { classes := classes, interned := interned.toArray }
  heap := heap
  slotsUsed := slotsUsed
  threads := #[{ frames := .invoking theMethod args0 :: below }]
def below0 : List Frame := [.native { method := ⟨0, 0⟩, args := #[] }]
def about1 : State := aboutOver below0
def p0 : Program := .bare "" "" ""
def e0 : Env := launch0.env 0 0 0
theorem w_frames : about1.frames = Frame.invoking theMethod args0 :: below0 := rfl
set_option maxRecDepth 65536 in
theorem w_args : argsFit about1.vm theMethod args0 = true := by decide +kernel
set_option maxRecDepth 65536 in
theorem w_heap : heapFits about1 = true := by decide +kernel
set_option maxRecDepth 65536 in
theorem w_runnable : about1.curStatus? = some .runnable := by decide +kernel
set_option maxRecDepth 65536 in
theorem w_alone : about1.alone = true := by decide +kernel
set_option maxRecDepth 65536 in
theorem w_named : about1.methodNamed? x = some theMethod := by decide +kernel
set_option maxRecDepth 65536 in
theorem w_hears : about1.hears theMethod below0 = true := by decide +kernel
set_option maxRecDepth 65536 in
theorem w_ripe : about1.ripe theMethod args0 below0 = true := by decide +kernel
theorem w_running : about1.status = .running := rfl
set_option maxRecDepth 65536 in
theorem w_room : about1.hasRoom e0.platform room_1 = true :=
  launch0.hasRoom_least _ room_1 (by decide +kernel) (by decide +kernel) (by decide +kernel) (by decide +kernel) (by decide +kernel) (by decide +kernel)
theorem allAtoms_all (ts : List Jvm.Cond) (a : Array Jvm.Value) (st : Jvm.State) : (allAtoms ts).before a st = ts.all (fun c => c.before a st) := by
  induction ts with
  | nil => rfl
  | cons c t ih =>
    show (Jvm.Cond.and c (allAtoms t)).before a st = _
    rw [Jvm.Cond.before_and, ih, List.all_cons]
def words1 : List Jvm.Cond := Jvm.Cond.code x code maxLocals ret :: tables_1
/-- a 'code' word, met by the world's own term for the bytes: nothing is compared byte by byte -/
theorem code_word {y : MethodName} {bytes : ByteArray} {mx : Nat} {rt : Option FieldType} {a : Array Value} {s : State} {m : MethodId} {meth : Method} {c : Code} (h1 : s.methodNamed? y = some m) (h2 : s.vm.method? m = some meth) (h3 : meth.code = some c) (h4 : c.code = bytes)
    (h5 : (c.maxLocals == mx && c.exceptionTable.isEmpty && decide (c.maxStack ≤ mostOperands) && decide (meth.sig.returnType = rt) && !meth.locks && decide (parseMethodDescriptor y.desc = some meth.sig)) = true) : (Jvm.Cond.code y bytes mx rt).before a s = true := by
  simp only [Bool.and_eq_true, beq_iff_eq, Bool.not_eq_true', decide_eq_true_eq] at h5
  obtain ⟨⟨⟨⟨⟨g1, g2⟩, g3⟩, g4⟩, g5⟩, g6⟩ := h5
  simp [Cond.before, Cond.holds, Cond.value, h1, h2, h3, h4, g1, g2, g3, g4, g5, g6]
def isCode : Jvm.Cond → Bool
  | .code _ _ _ _ => true
  | _ => false
theorem all_split {L : List Jvm.Cond} {P : Jvm.Cond → Bool} (h1 : L.all (fun c => isCode c || P c) = true) (h2 : ∀ c ∈ L.filter isCode, P c = true) : L.all P = true := by
  refine List.all_eq_true.mpr fun c hc => ?_
  have h := List.all_eq_true.mp h1 c hc
  rcases Bool.eq_false_or_eq_true (isCode c) with hi | hi
  · exact h2 c (List.mem_filter.mpr ⟨hc, hi⟩)
  · simpa [hi] using h
set_option maxRecDepth 65536 in
theorem w_c0 : (Jvm.Cond.code x code maxLocals ret).before args0 about1 = true := code_word (m := ⟨1, 2⟩) (meth := k1m2) (c := k1c2) (by decide +kernel) rfl rfl rfl (by decide +kernel)
set_option maxRecDepth 65536 in
theorem w_c1 : (Jvm.Cond.code ({ cls := "java/lang/String", name := "valueOf", desc := "(C)Ljava/lang/String;" } : Jvm.MethodName) jdk_42_method_139_code (1 : Nat) (Option.some (Jvm.ClassFile.FieldType.object "java/lang/String"))).before args0 about1 = true := code_word (m := ⟨9, 1⟩) (meth := k9m1) (c := k9c1) (by decide +kernel) rfl rfl rfl (by decide +kernel)
set_option maxRecDepth 65536 in
theorem w_c2 : (Jvm.Cond.code ({ cls := "java/lang/StringLatin1", name := "canEncode", desc := "(C)Z" } : Jvm.MethodName) jdk_43_method_3_code (1 : Nat) (Option.some Jvm.ClassFile.FieldType.boolean)).before args0 about1 = true := code_word (m := ⟨10, 1⟩) (meth := k10m1) (c := k10c1) (by decide +kernel) rfl rfl rfl (by decide +kernel)
set_option maxRecDepth 65536 in
theorem w_c3 : (Jvm.Cond.code ({ cls := "java/lang/StringLatin1", name := "toBytes", desc := "(C)[B" } : Jvm.MethodName) jdk_43_method_46_code (1 : Nat) (Option.some (Jvm.ClassFile.FieldType.array Jvm.ClassFile.FieldType.byte))).before args0 about1 = true := code_word (m := ⟨10, 2⟩) (meth := k10m2) (c := k10c2) (by decide +kernel) rfl rfl rfl (by decide +kernel)
set_option maxRecDepth 65536 in
theorem w_c4 : (Jvm.Cond.code ({ cls := "java/lang/String", name := "<init>", desc := "([BB)V" } : Jvm.MethodName) jdk_42_method_151_code (3 : Nat) (Option.none : Option Jvm.ClassFile.FieldType)).before args0 about1 = true := code_word (m := ⟨9, 2⟩) (meth := k9m2) (c := k9c2) (by decide +kernel) rfl rfl rfl (by decide +kernel)
set_option maxRecDepth 65536 in
theorem w_c5 : (Jvm.Cond.code ({ cls := "java/lang/Object", name := "<init>", desc := "()V" } : Jvm.MethodName) object_method_1_code (1 : Nat) (Option.none : Option Jvm.ClassFile.FieldType)).before args0 about1 = true := code_word (m := ⟨0, 0⟩) (meth := k0m0) (c := k0c0) (by decide +kernel) rfl rfl rfl (by decide +kernel)
set_option maxRecDepth 65536 in
theorem w_c6 : (Jvm.Cond.code ({ cls := "com/example/epistemic_accord/epistemicaccord/programs/Formula$Agent", name := "<init>", desc := "(IILjava/lang/String;)V" } : Jvm.MethodName) prog_100_method_1_code (4 : Nat) (Option.none : Option Jvm.ClassFile.FieldType)).before args0 about1 = true := code_word (m := ⟨3, 0⟩) (meth := k3m0) (c := k3c0) (by decide +kernel) rfl rfl rfl (by decide +kernel)
set_option maxRecDepth 65536 in
theorem w_c7 : (Jvm.Cond.code ({ cls := "java/lang/Record", name := "<init>", desc := "()V" } : Jvm.MethodName) jdk_30_method_1_code (1 : Nat) (Option.none : Option Jvm.ClassFile.FieldType)).before args0 about1 = true := code_word (m := ⟨2, 0⟩) (meth := k2m0) (c := k2c0) (by decide +kernel) rfl rfl rfl (by decide +kernel)
set_option maxRecDepth 65536 in
theorem w_c8 : (Jvm.Cond.code ({ cls := "com/example/epistemic_accord/epistemicaccord/programs/Formula$Agent", name := "in", desc := "([I)I" } : Jvm.MethodName) prog_100_method_2_code (2 : Nat) (Option.some Jvm.ClassFile.FieldType.int)).before args0 about1 = true := code_word (m := ⟨3, 1⟩) (meth := k3m1) (c := k3c1) (by decide +kernel) rfl rfl rfl (by decide +kernel)
set_option maxRecDepth 65536 in
theorem w_c9 : (Jvm.Cond.code ({ cls := "com/example/epistemic_accord/epistemicaccord/programs/AgentInPinLaw", name := "pick", desc := "(IIIII)I" } : Jvm.MethodName) method_2_code (5 : Nat) (Option.some Jvm.ClassFile.FieldType.int)).before args0 about1 = true := code_word (m := ⟨1, 1⟩) (meth := k1m1) (c := k1c1) (by decide +kernel) rfl rfl rfl (by decide +kernel)
def codes1 : List Jvm.Cond := [Jvm.Cond.code x code maxLocals ret, Jvm.Cond.code ({ cls := "java/lang/String", name := "valueOf", desc := "(C)Ljava/lang/String;" } : Jvm.MethodName) jdk_42_method_139_code (1 : Nat) (Option.some (Jvm.ClassFile.FieldType.object "java/lang/String")), Jvm.Cond.code ({ cls := "java/lang/StringLatin1", name := "canEncode", desc := "(C)Z" } : Jvm.MethodName) jdk_43_method_3_code (1 : Nat) (Option.some Jvm.ClassFile.FieldType.boolean), Jvm.Cond.code ({ cls := "java/lang/StringLatin1", name := "toBytes", desc := "(C)[B" } : Jvm.MethodName) jdk_43_method_46_code (1 : Nat) (Option.some (Jvm.ClassFile.FieldType.array Jvm.ClassFile.FieldType.byte)), Jvm.Cond.code ({ cls := "java/lang/String", name := "<init>", desc := "([BB)V" } : Jvm.MethodName) jdk_42_method_151_code (3 : Nat) (Option.none : Option Jvm.ClassFile.FieldType), Jvm.Cond.code ({ cls := "java/lang/Object", name := "<init>", desc := "()V" } : Jvm.MethodName) object_method_1_code (1 : Nat) (Option.none : Option Jvm.ClassFile.FieldType), Jvm.Cond.code ({ cls := "com/example/epistemic_accord/epistemicaccord/programs/Formula$Agent", name := "<init>", desc := "(IILjava/lang/String;)V" } : Jvm.MethodName) prog_100_method_1_code (4 : Nat) (Option.none : Option Jvm.ClassFile.FieldType), Jvm.Cond.code ({ cls := "java/lang/Record", name := "<init>", desc := "()V" } : Jvm.MethodName) jdk_30_method_1_code (1 : Nat) (Option.none : Option Jvm.ClassFile.FieldType), Jvm.Cond.code ({ cls := "com/example/epistemic_accord/epistemicaccord/programs/Formula$Agent", name := "in", desc := "([I)I" } : Jvm.MethodName) prog_100_method_2_code (2 : Nat) (Option.some Jvm.ClassFile.FieldType.int), Jvm.Cond.code ({ cls := "com/example/epistemic_accord/epistemicaccord/programs/AgentInPinLaw", name := "pick", desc := "(IIIII)I" } : Jvm.MethodName) method_2_code (5 : Nat) (Option.some Jvm.ClassFile.FieldType.int)]
set_option maxRecDepth 65536 in
theorem codes_eq : words1.filter isCode = codes1 := rfl
theorem w_codes : ∀ c ∈ words1.filter isCode, c.before args0 about1 = true := by
  rw [codes_eq]
  intro c hc
  simp only [codes1, List.mem_cons, List.not_mem_nil, or_false] at hc
  rcases hc with rfl | rfl | rfl | rfl | rfl | rfl | rfl | rfl | rfl | rfl
  · exact w_c0
  · exact w_c1
  · exact w_c2
  · exact w_c3
  · exact w_c4
  · exact w_c5
  · exact w_c6
  · exact w_c7
  · exact w_c8
  · exact w_c9
set_option maxRecDepth 65536 in
theorem w_t1 : (words1.take 24).all (fun c => isCode c || c.before args0 about1) = true := by decide +kernel
set_option maxRecDepth 65536 in
theorem w_t2 : ((words1.drop 24).take 24).all (fun c => isCode c || c.before args0 about1) = true := by decide +kernel
set_option maxRecDepth 65536 in
theorem w_t3 : ((words1.drop 24).drop 24).all (fun c => isCode c || c.before args0 about1) = true := by decide +kernel
theorem w_tables : (allAtoms (Jvm.Cond.code x code maxLocals ret :: tables_1)).before args0 about1 = true := by
  rw [allAtoms_all]
  show words1.all (fun c => c.before args0 about1) = true
  refine all_split ?_ w_codes
  rw [← List.take_append_drop 24 words1, List.all_append, w_t1, ← List.take_append_drop 24 (words1.drop 24), List.all_append, w_t2, w_t3]
  rfl
set_option maxRecDepth 65536 in
theorem w_rest : rest_1_c.before args0 about1 = true := by decide +kernel
set_option maxRecDepth 65536 in
theorem w_case : (Jvm.Cond.and given_1 narrow_1).before args0 about1 = true := by decide +kernel
theorem w_applies : (headSpec (Jvm.Cond.code x code maxLocals ret :: tables_1) room_1).applies x e0.platform about1 = true :=
  (Spec.applies_iff w_frames).mpr ⟨w_running, w_runnable, w_alone, w_named, w_hears, w_ripe, w_room, w_tables⟩
theorem atStart : AtStart classFile x code maxLocals ret World_1 tables_1 room_1 Calls_1 rest_1 Pre_1 launch0 p0 e0 about1 theMethod args0 below0 :=
  ⟨lists_1, trivial, launch0.admits_env _ _ _, launch0.least_env, fairChoices_fair.cas, fairChoices_fair.clock, w_frames, w_args, w_heap, w_applies, trivial, w_rest, w_case⟩
end start1
theorem witness_1 : WitnessClaimed_1 := ⟨start1.p0, start1.e0, start1.about1, start1.theMethod, start1.args0, start1.below0, start1.atStart⟩
end Jvm.Pilot.@@N@@
