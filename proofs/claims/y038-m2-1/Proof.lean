import JvmDerived
import JvmDerived.Pilot.@@N@@Statement
import JvmDerived.Pilot.@@N@@Code
set_option linter.unusedVariables false
set_option linter.unusedSimpArgs false
set_option maxRecDepth 65536
namespace Jvm.Pilot.@@N@@
open Jvm Jvm.ClassFile Sem Op Lib Jvm.Free Jvm.Stand Jvm.LawKit Jvm.RoadKit Bundle Jvm.Pilot.@@N@@.Jvm.D
/-- the run goes on from S to a return that Q says, within so many new cells and slots -/
def OFin (p : Program) (e : Env) (below : List Frame) (s : State) (Q : Option Value → Heap → List Loc → Prop) (cells slots : Nat) (S : State) : Prop :=
  ∃ s₂ o, Steps p.tables e below S s₂ ∧ s₂.status = .running ∧ Ended s₂ below o ∧ ∃ v L, o = .returned v ∧ Q v s₂.heap L ∧ FrameEnd s o s₂ L cells slots
section Own
variable {p : Program} {l : Launch} {e : Env} {R : Room} {s : State} {m : MethodId} {args : Array Value} {below : List Frame} {meth : Method} {c : Code} {T S S' : State} {locs : List Loc} {cells slots k n : Nat} {Q : Option Value → Heap → List Loc → Prop} {pc : Nat} {Ls : Array Slot} {rest : List Value}
theorem OFin.go (st : ∀ t, Steps p.tables e below S' t → Steps p.tables e below S t) (F : OFin p e below s Q cells slots S') : OFin p e below s Q cells slots S := by
  obtain ⟨s₂, o, h, r⟩ := F
  exact ⟨s₂, o, st _ h, r⟩
theorem OFin.tr (st : Steps p.tables e below S S') (F : OFin p e below s Q cells slots S') : OFin p e below s Q cells slots S := by
  obtain ⟨s₂, o, h, r⟩ := F
  exact ⟨s₂, o, st.trans h, r⟩
theorem OFin.ends (X : Stand p l e R s m args below meth c T locs k n) {v : Option Value} (hv : meth.sig.returnType = none → v = none) (hlk : meth.locks = false) (hq : Q v T.heap locs) (hk : k ≤ cells) (hn : n ≤ slots)
    (st : ∀ fs, (∀ (f : JFrame) (acts : List Action), f.method = m → f.locked = none → f.entered = [] → (doReturn e (T.setTop f) acts v).1 = T.setFrames fs) → Steps p.tables e below S (T.setFrames fs)) : OFin p e below s Q cells slots S := by
  obtain ⟨fs, hr, hrun, hended, hW, hsame⟩ := X.leave (v := v) hv hlk
  exact ⟨_, _, st fs hr, hrun, hended, _, _, rfl, hq, ⟨_, rfl⟩, hW, hsame.mono hk hn⟩
theorem OFin.retN (X : Stand p l e R s m args below meth c T locs k n) (hx : p.tables.exec = Jvm.exec) {z w : Int32} {t : FieldType} (hret : meth.sig.returnType = some t) (ht : t = .boolean ∨ t = .byte ∨ t = .char ∨ t = .short) (hlk : meth.locks = false)
    (hd : decode c.code pc = .ok (.ireturn, 1)) (hz : nar t z = w) (hq : Q (some (.int w)) T.heap locs) (hk : k ≤ cells) (hn : n ≤ slots) : OFin p e below s Q cells slots (T.setTop (mkF m pc Ls (.int z :: rest))) :=
  OFin.ends X (v := some (.int w)) (fun h => by rw [hret] at h; cases h) hlk hq hk hn fun fs hr => Jvm.RoadKit.retN X hx hret ht hd (by rw [hz]; exact hr)
theorem OFin.retI (X : Stand p l e R s m args below meth c T locs k n) (hx : p.tables.exec = Jvm.exec) {z : Int32} (hret : meth.sig.returnType = some .int) (hlk : meth.locks = false)
    (hd : decode c.code pc = .ok (.ireturn, 1)) (hq : Q (some (.int z)) T.heap locs) (hk : k ≤ cells) (hn : n ≤ slots) : OFin p e below s Q cells slots (T.setTop (mkF m pc Ls (.int z :: rest))) :=
  OFin.ends X (v := some (.int z)) (fun h => by rw [hret] at h; cases h) hlk hq hk hn fun fs hr => retOut X hx hret rfl (Or.inl ⟨rfl, Or.inl rfl, z, rfl⟩) hd hr
theorem OFin.retL (X : Stand p l e R s m args below meth c T locs k n) (hx : p.tables.exec = Jvm.exec) {z : Int64} (hret : meth.sig.returnType = some .long) (hlk : meth.locks = false)
    (hd : decode c.code pc = .ok (.lreturn, 1)) (hq : Q (some (.long z)) T.heap locs) (hk : k ≤ cells) (hn : n ≤ slots) : OFin p e below s Q cells slots (T.setTop (mkF m pc Ls (.long z :: rest))) :=
  OFin.ends X (v := some (.long z)) (fun h => by rw [hret] at h; cases h) hlk hq hk hn fun fs hr => retOut X hx hret rfl (Or.inr (Or.inl ⟨rfl, rfl, z, rfl⟩)) hd hr
theorem OFin.retA (X : Stand p l e R s m args below meth c T locs k n) (hx : p.tables.exec = Jvm.exec) {w : Value} {t : FieldType} (hret : meth.sig.returnType = some t) (ht : t.isReference = true) (hw : w.isRef = true) (hnr : narrow t w = w) (hlk : meth.locks = false)
    (hd : decode c.code pc = .ok (.areturn, 1)) (hq : Q (some w) T.heap locs) (hk : k ≤ cells) (hn : n ≤ slots) : OFin p e below s Q cells slots (T.setTop (mkF m pc Ls (w :: rest))) :=
  OFin.ends X (v := some w) (fun h => by rw [hret] at h; cases h) hlk hq hk hn fun fs hr => retOut X hx hret hnr (Or.inr (Or.inr (Or.inr (Or.inr ⟨rfl, ht, hw⟩)))) hd hr
theorem OFin.retV (X : Stand p l e R s m args below meth c T locs k n) (hx : p.tables.exec = Jvm.exec) (hret : meth.sig.returnType = none) (hlk : meth.locks = false)
    (hd : decode c.code pc = .ok (.return_, 1)) (hq : Q none T.heap locs) (hk : k ≤ cells) (hn : n ≤ slots) : OFin p e below s Q cells slots (T.setTop (mkF m pc Ls [])) :=
  OFin.ends X (v := none) (fun _ => rfl) hlk hq hk hn fun fs hr => X.returnOut hx hret hd hr
end Own
/-- the same, for a walk that may intern String constants -/
def OFinW (p : Program) (e : Env) (below : List Frame) (s : State) (Q : Option Value → Heap → List Loc → Prop) (cells slots : Nat) (S : State) : Prop :=
  ∃ s₂ o, Steps p.tables e below S s₂ ∧ s₂.status = .running ∧ Ended s₂ below o ∧ ∃ v L, o = .returned v ∧ Q v s₂.heap L ∧ ReturnedEndW s o s₂ L cells slots
section OwnW
variable {p : Program} {l : Launch} {e : Env} {R : Room} {s : State} {vm0 : Vm} {k0 : Nat} {m : MethodId} {args : Array Value} {below : List Frame} {meth : Method} {c : Code} {T S S' : State} {locs : List Loc} {cells slots k n : Nat} {Q : Option Value → Heap → List Loc → Prop} {pc : Nat} {Ls : Array Slot} {rest : List Value}
theorem OFinW.go (st : ∀ t, Steps p.tables e below S' t → Steps p.tables e below S t) (F : OFinW p e below s Q cells slots S') : OFinW p e below s Q cells slots S := by
  obtain ⟨s₂, o, h, r⟩ := F
  exact ⟨s₂, o, st _ h, r⟩
theorem OFinW.tr (st : Steps p.tables e below S S') (F : OFinW p e below s Q cells slots S') : OFinW p e below s Q cells slots S := by
  obtain ⟨s₂, o, h, r⟩ := F
  exact ⟨s₂, o, st.trans h, r⟩
theorem own_sbn {s t : State} {L : List Loc} {a b a' b' : Nat} (h : s.sameButNew t L a b) (ha : a ≤ a') (hb : b ≤ b') : s.sameButNew t L a' b' := h.mono ha hb
theorem OFinW.ends (X : Stand p l e R (s.setVm vm0) m args below meth c T locs k n) (hS : s.Since vm0 k0) (hk0 : k0 ≤ T.heap.size) {v : Option Value} (hv : meth.sig.returnType = none → v = none) (hlk : meth.locks = false) (hq : Q v T.heap locs) (hk : k ≤ cells) (hn : n ≤ slots)
    (st : ∀ fs, (∀ (f : JFrame) (acts : List Action), f.method = m → f.locked = none → f.entered = [] → (doReturn e (T.setTop f) acts v).1 = T.setFrames fs) → Steps p.tables e below S (T.setFrames fs)) : OFinW p e below s Q cells slots S := by
  obtain ⟨fs, hr, hrun, hended, h1, h2, h3, hsame⟩ := Jvm.Stand.leaveW X hS hk0 (v := v) hv hlk
  exact ⟨_, _, st fs hr, hrun, hended, _, _, rfl, hq, h1, h2, h3, hsame.mono hk hn⟩
theorem OFinW.retN (X : Stand p l e R (s.setVm vm0) m args below meth c T locs k n) (hS : s.Since vm0 k0) (hk0 : k0 ≤ T.heap.size) (hx : p.tables.exec = Jvm.exec) {z w : Int32} {t : FieldType} (hret : meth.sig.returnType = some t) (ht : t = .boolean ∨ t = .byte ∨ t = .char ∨ t = .short) (hlk : meth.locks = false)
    (hd : decode c.code pc = .ok (.ireturn, 1)) (hz : nar t z = w) (hq : Q (some (.int w)) T.heap locs) (hk : k ≤ cells) (hn : n ≤ slots) : OFinW p e below s Q cells slots (T.setTop (mkF m pc Ls (.int z :: rest))) :=
  OFinW.ends X hS hk0 (v := some (.int w)) (fun h => by rw [hret] at h; cases h) hlk hq hk hn fun fs hr => Jvm.RoadKit.retN X hx hret ht hd (by rw [hz]; exact hr)
theorem OFinW.retV (X : Stand p l e R (s.setVm vm0) m args below meth c T locs k n) (hS : s.Since vm0 k0) (hk0 : k0 ≤ T.heap.size) (hx : p.tables.exec = Jvm.exec) (hret : meth.sig.returnType = none) (hlk : meth.locks = false)
    (hd : decode c.code pc = .ok (.return_, 1)) (hq : Q none T.heap locs) (hk : k ≤ cells) (hn : n ≤ slots) : OFinW p e below s Q cells slots (T.setTop (mkF m pc Ls [])) :=
  OFinW.ends X hS hk0 (v := none) (fun _ => rfl) hlk hq hk hn fun fs hr => X.returnOut hx hret hd hr
end OwnW

theorem d1_0 : decode method_2_code 0 = .ok (.iload_n 0, 1) := by decide +kernel
theorem d1_1 : decode method_2_code 1 = .ok (.ifCond .ne 6, 3) := by decide +kernel
theorem d1_4 : decode method_2_code 4 = .ok (.ldc 7, 2) := by decide +kernel
theorem d1_6 : decode method_2_code 6 = .ok (.ireturn, 1) := by decide +kernel
theorem d1_7 : decode method_2_code 7 = .ok (.iload_n 0, 1) := by decide +kernel
theorem d1_8 : decode method_2_code 8 = .ok (.iconst 1, 1) := by decide +kernel
theorem d1_9 : decode method_2_code 9 = .ok (.if_icmp .ne 5, 3) := by decide +kernel
theorem d1_12 : decode method_2_code 12 = .ok (.iload_n 1, 1) := by decide +kernel
theorem d1_13 : decode method_2_code 13 = .ok (.ireturn, 1) := by decide +kernel
theorem d1_14 : decode method_2_code 14 = .ok (.iload_n 0, 1) := by decide +kernel
theorem d1_15 : decode method_2_code 15 = .ok (.iconst 2, 1) := by decide +kernel
theorem d1_16 : decode method_2_code 16 = .ok (.if_icmp .ne 13, 3) := by decide +kernel
theorem d1_19 : decode method_2_code 19 = .ok (.ldc 7, 2) := by decide +kernel
theorem d1_21 : decode method_2_code 21 = .ok (.iconst 1, 1) := by decide +kernel
theorem d1_22 : decode method_2_code 22 = .ok (.iload_n 1, 1) := by decide +kernel
theorem d1_23 : decode method_2_code 23 = .ok (.bipush 31, 2) := by decide +kernel
theorem d1_25 : decode method_2_code 25 = .ok (.iand, 1) := by decide +kernel
theorem d1_26 : decode method_2_code 26 = .ok (.ishl, 1) := by decide +kernel
theorem d1_27 : decode method_2_code 27 = .ok (.ixor, 1) := by decide +kernel
theorem d1_28 : decode method_2_code 28 = .ok (.ireturn, 1) := by decide +kernel
theorem d1_29 : decode method_2_code 29 = .ok (.iload_n 1, 1) := by decide +kernel
theorem d1_30 : decode method_2_code 30 = .ok (.ldc 8, 2) := by decide +kernel
theorem d1_32 : decode method_2_code 32 = .ok (.iand, 1) := by decide +kernel
theorem d1_33 : decode method_2_code 33 = .ok (.ireturn, 1) := by decide +kernel
theorem pn_0 : plainName "org/counterpath/text/LineColumnSkipsPinLaw" = true := by first | (simp [plainName, overriddenIn]; done) | decide +kernel
theorem ef_1 (m : MethodId) (x0 : Int32) (x1 : Int32) : entryFrame m #[(.int x0), (.int x1)] 2 = mkF m 0 #[.val (.int x0), .val (.int x1)] [] := by first | (simp [entryFrame, mkF, argsToLocals, Value.category]; done) | rfl
def own_f1 (q0 : Int32) (q1 : Int32) : Int32 := (if q0 = (0 : Int32) then (65279 : Int32) else (if q0 = (1 : Int32) then q1 else (if q0 = (2 : Int32) then ((65279 : Int32) ^^^ ((1 : Int32) <<< ((q1 &&& (31 : Int32)) &&& 31))) else (q1 &&& (65535 : Int32)))))
def Q1 (Z : State) (q0 : Int32) (q1 : Int32) (h0 : Heap) (n0 : Nat) (v : Option Value) (h : Heap) (L : List Loc) : Prop := v = some (.int (own_f1 q0 q1)) ∧ Fr n0 L ∧ h = h0
set_option maxHeartbeats 40000000 in
theorem rm1 (l : Launch) (Z : State) (aZ : Array Value) (hw : ∀ d ∈ tables_1, d.before aZ Z = true) (ws : List Jvm.Cond) (q0 : Int32) (q1 : Int32) (h0 : Heap) (n0 : Nat) (Z0 : n0 ≤ h0.size) :
    MetFree l (⟨"org/counterpath/text/LineColumnSkipsPinLaw", "pick", "(II)I"⟩ : MethodName) (head1 (Jvm.Cond.code (⟨"org/counterpath/text/LineColumnSkipsPinLaw", "pick", "(II)I"⟩ : MethodName) method_2_code 2 (some .int) :: ws) ({ frames := 0, cells := 0, slots := 0, locals := 0 } : Room)) (fun a U => a = #[(.int q0), (.int q1)] ∧ Z.Warmed39 U.vm ∧ U.heap = h0) (fun _ _ _ _ _ => True) (fun _ U o U' => ∃ v L, o = .returned v ∧ Q1 Z q0 q1 h0 n0 v U'.heap L ∧ FrameEnd U o U' L ({ frames := 0, cells := 0, slots := 0, locals := 0 } : Room).cells ({ frames := 0, cells := 0, slots := 0, locals := 0 } : Room).slots) := by
  refine MetFree.of_bodySF (plainFor_of_name pn_0) hisR ?_
  intro p e s m args below meth c s₁ Bd hml0 hP hK
  obtain ⟨rfl, hZ, hh⟩ := hP
  have hx := Bd.exec
  have hby := Bd.bytes
  have hret := Bd.returns
  have hlk : meth.locks = false := BodyLoose.notSynchronized Bd
  have hml : c.maxLocals = 2 := hml0
  have hown : s.vm.findClass "org/counterpath/text/LineColumnSkipsPinLaw" = some m.cls := findClass_of_methodNamed Bd.named
  have hnm := (name_of_methodNamed Bd.named Bd.method).1
  have X0 : Stand p l e ({ frames := 0, cells := 0, slots := 0, locals := 0 } : Room) s m #[(.int q0), (.int q1)] below meth c s₁ [] 0 0 := Stand.of_body Bd
  have e0 : s₁.heap = h0 := by rw [← hh, Bd.state]; rfl
  have N0 := Fr.nil n0
  have K0 : Keep h0 h0 [] := Keep.refl _ _
  have pre0 : ∀ t, Steps p.tables e below (s₁.setTop (mkF m 0 #[.val (.int q0), .val (.int q1)] [])) t → Steps p.tables e below (s₁.setTop (entryFrame m #[(.int q0), (.int q1)] 2)) t := fun t k => castTop (ef_1 m q0 q1) k
  show OFin p e below s (Q1 Z q0 q1 h0 n0) ({ frames := 0, cells := 0, slots := 0, locals := 0 } : Room).cells ({ frames := 0, cells := 0, slots := 0, locals := 0 } : Room).slots _
  refine OFin.go pre0 ?_
  have sg101 : ∀ t, Steps p.tables e below (s₁.setTop (mkF m 1 #[.val (.int q0), .val (.int q1)] [(.int q0)])) t → Steps p.tables e below (s₁.setTop (mkF m 0 #[.val (.int q0), .val (.int q1)] [])) t := by
    intro t k
    show Steps p.tables e below (s₁.setTop (mkF m 0 #[.val (.int q0), .val (.int q1)] [])) t
    refine XS.iloadN X0.here hx rfl (hb hby d1_0) rfl ?_
    exact k
  refine OFin.go sg101 ?_
  by_cases c102 : q0 = (0 : Int32)
  · have sg103 : ∀ t, Steps p.tables e below (s₁.setTop (mkF m 6 #[.val (.int q0), .val (.int q1)] [(.int (65279 : Int32))])) t → Steps p.tables e below (s₁.setTop (mkF m 1 #[.val (.int q0), .val (.int q1)] [(.int q0)])) t := by
      intro t k
      show Steps p.tables e below (s₁.setTop (mkF m 1 #[.val (.int q0), .val (.int q1)] [(.int q0)])) t
      refine XS.ifNo X0.here hx rfl (hb hby d1_1) rfl ((if0 _ _).trans (teq c102).2) ?_
      show Steps p.tables e below (s₁.setTop (mkF m 4 #[.val (.int q0), .val (.int q1)] [])) t
      refine X0.ldcInt hx hown (mvT hZ (hw _ (List.mem_of_getElem? (i := 4) rfl))) (g := (mkF m 4 #[.val (.int q0), .val (.int q1)] [])) rfl (hb hby d1_4) _ ?_
      exact k
    refine OFin.go sg103 ?_
    exact OFin.retI X0 hx hret hlk (hb hby d1_6) (by rw [e0]; exact ⟨(congrArg (fun z => some (Value.int z)) (show (65279 : Int32) = own_f1 q0 q1 from (by rw [own_f1, if_pos c102]))), N0, rfl⟩) (by decide) (by decide)
  · have sg104 : ∀ t, Steps p.tables e below (s₁.setTop (mkF m 9 #[.val (.int q0), .val (.int q1)] [(.int (1 : Int32)), (.int q0)])) t → Steps p.tables e below (s₁.setTop (mkF m 1 #[.val (.int q0), .val (.int q1)] [(.int q0)])) t := by
      intro t k
      show Steps p.tables e below (s₁.setTop (mkF m 1 #[.val (.int q0), .val (.int q1)] [(.int q0)])) t
      refine XS.ifYes X0.here hx rfl (pc0 := 1) (pc' := 7) rfl (hb hby d1_1) rfl ((if0 _ _).trans (feq c102).2) (by decide) (by decide) ?_
      show Steps p.tables e below (s₁.setTop (mkF m 7 #[.val (.int q0), .val (.int q1)] [])) t
      refine XS.iloadN X0.here hx rfl (hb hby d1_7) rfl ?_
      show Steps p.tables e below (s₁.setTop (mkF m 8 #[.val (.int q0), .val (.int q1)] [(.int q0)])) t
      refine XS.iconst X0.here hx rfl (hb hby d1_8) ?_
      exact k
    refine OFin.go sg104 ?_
    by_cases c105 : q0 = (1 : Int32)
    · have sg106 : ∀ t, Steps p.tables e below (s₁.setTop (mkF m 13 #[.val (.int q0), .val (.int q1)] [(.int q1)])) t → Steps p.tables e below (s₁.setTop (mkF m 9 #[.val (.int q0), .val (.int q1)] [(.int (1 : Int32)), (.int q0)])) t := by
        intro t k
        show Steps p.tables e below (s₁.setTop (mkF m 9 #[.val (.int q0), .val (.int q1)] [(.int (1 : Int32)), (.int q0)])) t
        refine XS.icmpNo X0.here hx rfl (hb hby d1_9) rfl (teq c105).2 ?_
        show Steps p.tables e below (s₁.setTop (mkF m 12 #[.val (.int q0), .val (.int q1)] [])) t
        refine XS.iloadN X0.here hx rfl (hb hby d1_12) rfl ?_
        exact k
      refine OFin.go sg106 ?_
      exact OFin.retI X0 hx hret hlk (hb hby d1_13) (by rw [e0]; exact ⟨(congrArg (fun z => some (Value.int z)) (show q1 = own_f1 q0 q1 from (by rw [own_f1, if_neg c102, if_pos c105]))), N0, rfl⟩) (by decide) (by decide)
    · have sg107 : ∀ t, Steps p.tables e below (s₁.setTop (mkF m 16 #[.val (.int q0), .val (.int q1)] [(.int (2 : Int32)), (.int q0)])) t → Steps p.tables e below (s₁.setTop (mkF m 9 #[.val (.int q0), .val (.int q1)] [(.int (1 : Int32)), (.int q0)])) t := by
        intro t k
        show Steps p.tables e below (s₁.setTop (mkF m 9 #[.val (.int q0), .val (.int q1)] [(.int (1 : Int32)), (.int q0)])) t
        refine XS.icmpYes X0.here hx rfl (pc0 := 9) (pc' := 14) rfl (hb hby d1_9) rfl (feq c105).2 (by decide) (by decide) ?_
        show Steps p.tables e below (s₁.setTop (mkF m 14 #[.val (.int q0), .val (.int q1)] [])) t
        refine XS.iloadN X0.here hx rfl (hb hby d1_14) rfl ?_
        show Steps p.tables e below (s₁.setTop (mkF m 15 #[.val (.int q0), .val (.int q1)] [(.int q0)])) t
        refine XS.iconst X0.here hx rfl (hb hby d1_15) ?_
        exact k
      refine OFin.go sg107 ?_
      by_cases c108 : q0 = (2 : Int32)
      · have sg109 : ∀ t, Steps p.tables e below (s₁.setTop (mkF m 28 #[.val (.int q0), .val (.int q1)] [(.int ((65279 : Int32) ^^^ ((1 : Int32) <<< ((q1 &&& (31 : Int32)) &&& 31))))])) t → Steps p.tables e below (s₁.setTop (mkF m 16 #[.val (.int q0), .val (.int q1)] [(.int (2 : Int32)), (.int q0)])) t := by
          intro t k
          show Steps p.tables e below (s₁.setTop (mkF m 16 #[.val (.int q0), .val (.int q1)] [(.int (2 : Int32)), (.int q0)])) t
          refine XS.icmpNo X0.here hx rfl (hb hby d1_16) rfl (teq c108).2 ?_
          show Steps p.tables e below (s₁.setTop (mkF m 19 #[.val (.int q0), .val (.int q1)] [])) t
          refine X0.ldcInt hx hown (mvT hZ (hw _ (List.mem_of_getElem? (i := 4) rfl))) (g := (mkF m 19 #[.val (.int q0), .val (.int q1)] [])) rfl (hb hby d1_19) _ ?_
          show Steps p.tables e below (s₁.setTop (mkF m 21 #[.val (.int q0), .val (.int q1)] [(.int (65279 : Int32))])) t
          refine XS.iconst X0.here hx rfl (hb hby d1_21) ?_
          show Steps p.tables e below (s₁.setTop (mkF m 22 #[.val (.int q0), .val (.int q1)] [(.int (1 : Int32)), (.int (65279 : Int32))])) t
          refine XS.iloadN X0.here hx rfl (hb hby d1_22) rfl ?_
          show Steps p.tables e below (s₁.setTop (mkF m 23 #[.val (.int q0), .val (.int q1)] [(.int q1), (.int (1 : Int32)), (.int (65279 : Int32))])) t
          refine XS.bipush X0.here hx rfl (hb hby d1_23) ?_
          show Steps p.tables e below (s₁.setTop (mkF m 25 #[.val (.int q0), .val (.int q1)] [(.int (31 : Int32)), (.int q1), (.int (1 : Int32)), (.int (65279 : Int32))])) t
          refine XS.iand X0.here hx rfl (hb hby d1_25) rfl ?_
          show Steps p.tables e below (s₁.setTop (mkF m 26 #[.val (.int q0), .val (.int q1)] [(.int (q1 &&& (31 : Int32))), (.int (1 : Int32)), (.int (65279 : Int32))])) t
          refine XS.ishl X0.here hx rfl (hb hby d1_26) rfl ?_
          show Steps p.tables e below (s₁.setTop (mkF m 27 #[.val (.int q0), .val (.int q1)] [(.int ((1 : Int32) <<< ((q1 &&& (31 : Int32)) &&& 31))), (.int (65279 : Int32))])) t
          refine XS.ixor X0.here hx rfl (hb hby d1_27) rfl ?_
          exact k
        refine OFin.go sg109 ?_
        exact OFin.retI X0 hx hret hlk (hb hby d1_28) (by rw [e0]; exact ⟨(congrArg (fun z => some (Value.int z)) (show ((65279 : Int32) ^^^ ((1 : Int32) <<< ((q1 &&& (31 : Int32)) &&& 31))) = own_f1 q0 q1 from (by rw [own_f1, if_neg c102, if_neg c105, if_pos c108]))), N0, rfl⟩) (by decide) (by decide)
      · have sg110 : ∀ t, Steps p.tables e below (s₁.setTop (mkF m 33 #[.val (.int q0), .val (.int q1)] [(.int (q1 &&& (65535 : Int32)))])) t → Steps p.tables e below (s₁.setTop (mkF m 16 #[.val (.int q0), .val (.int q1)] [(.int (2 : Int32)), (.int q0)])) t := by
          intro t k
          show Steps p.tables e below (s₁.setTop (mkF m 16 #[.val (.int q0), .val (.int q1)] [(.int (2 : Int32)), (.int q0)])) t
          refine XS.icmpYes X0.here hx rfl (pc0 := 16) (pc' := 29) rfl (hb hby d1_16) rfl (feq c108).2 (by decide) (by decide) ?_
          show Steps p.tables e below (s₁.setTop (mkF m 29 #[.val (.int q0), .val (.int q1)] [])) t
          refine XS.iloadN X0.here hx rfl (hb hby d1_29) rfl ?_
          show Steps p.tables e below (s₁.setTop (mkF m 30 #[.val (.int q0), .val (.int q1)] [(.int q1)])) t
          refine X0.ldcInt hx hown (mvT hZ (hw _ (List.mem_of_getElem? (i := 59) rfl))) (g := (mkF m 30 #[.val (.int q0), .val (.int q1)] [(.int q1)])) rfl (hb hby d1_30) _ ?_
          show Steps p.tables e below (s₁.setTop (mkF m 32 #[.val (.int q0), .val (.int q1)] [(.int (65535 : Int32)), (.int q1)])) t
          refine XS.iand X0.here hx rfl (hb hby d1_32) rfl ?_
          exact k
        refine OFin.go sg110 ?_
        exact OFin.retI X0 hx hret hlk (hb hby d1_33) (by rw [e0]; exact ⟨(congrArg (fun z => some (Value.int z)) (show (q1 &&& (65535 : Int32)) = own_f1 q0 q1 from (by rw [own_f1, if_neg c102, if_neg c105, if_neg c108]))), N0, rfl⟩) (by decide) (by decide)
theorem d2_0 : decode prog_227_method_2_code 0 = .ok (.aload_n 0, 1) := by decide +kernel
theorem d2_1 : decode prog_227_method_2_code 1 = .ok (.invokespecial 11, 3) := by decide +kernel
theorem d2_4 : decode prog_227_method_2_code 4 = .ok (.aload_n 0, 1) := by decide +kernel
theorem d2_5 : decode prog_227_method_2_code 5 = .ok (.iconst 1, 1) := by decide +kernel
theorem d2_6 : decode prog_227_method_2_code 6 = .ok (.putfield 16, 3) := by decide +kernel
theorem d2_9 : decode prog_227_method_2_code 9 = .ok (.aload_n 0, 1) := by decide +kernel
theorem d2_10 : decode prog_227_method_2_code 10 = .ok (.iconst 1, 1) := by decide +kernel
theorem d2_11 : decode prog_227_method_2_code 11 = .ok (.putfield 20, 3) := by decide +kernel
theorem d2_14 : decode prog_227_method_2_code 14 = .ok (.aload_n 0, 1) := by decide +kernel
theorem d2_15 : decode prog_227_method_2_code 15 = .ok (.iconst 1, 1) := by decide +kernel
theorem d2_16 : decode prog_227_method_2_code 16 = .ok (.putfield 23, 3) := by decide +kernel
theorem d2_19 : decode prog_227_method_2_code 19 = .ok (.aload_n 0, 1) := by decide +kernel
theorem d2_20 : decode prog_227_method_2_code 20 = .ok (.aload_n 1, 1) := by decide +kernel
theorem d2_21 : decode prog_227_method_2_code 21 = .ok (.putfield 27, 3) := by decide +kernel
theorem d2_24 : decode prog_227_method_2_code 24 = .ok (.aload_n 0, 1) := by decide +kernel
theorem d2_25 : decode prog_227_method_2_code 25 = .ok (.lload_n 2, 1) := by decide +kernel
theorem d2_26 : decode prog_227_method_2_code 26 = .ok (.putfield 31, 3) := by decide +kernel
theorem d2_29 : decode prog_227_method_2_code 29 = .ok (.aload_n 0, 1) := by decide +kernel
theorem d2_30 : decode prog_227_method_2_code 30 = .ok (.aload 4, 2) := by decide +kernel
theorem d2_32 : decode prog_227_method_2_code 32 = .ok (.putfield 35, 3) := by decide +kernel
theorem d2_35 : decode prog_227_method_2_code 35 = .ok (.return_, 1) := by decide +kernel
theorem pn_1 : plainName "org/counterpath/text/LineColumn" = true := by first | (simp [plainName, overriddenIn]; done) | decide +kernel
theorem ef_2 (m : MethodId) (x0 : Addr) (x1 : Addr) (x2 : Int64) (x3 : Addr) : entryFrame m #[(.ref x0), (.ref x1), (.long x2), (.ref x3)] 5 = mkF m 0 #[.val (.ref x0), .val (.ref x1), .val (.long x2), .second, .val (.ref x3)] [] := by first | (simp [entryFrame, mkF, argsToLocals, Value.category]; done) | rfl
def Q2 (Z : State) (a0 : Addr) (a1 : Addr) (q2 : Int64) (a3 : Addr) (h0 : Heap) (n0 : Nat) (v : Option Value) (h : Heap) (L : List Loc) : Prop := v = none ∧ Fr n0 L ∧ Keep h0 h [a0] ∧ Fld Z h a0 "org/counterpath/text/LineColumn" "_line" "I" (.int (1 : Int32)) ∧ Fld Z h a0 "org/counterpath/text/LineColumn" "_column" "I" (.int (1 : Int32)) ∧ Fld Z h a0 "org/counterpath/text/LineColumn" "_atStart" "Z" (.int (1 : Int32)) ∧ Fld Z h a0 "org/counterpath/text/LineColumn" "_maxCharacters" "J" (.long q2) ∧ Fld Z h a0 "org/counterpath/text/LineColumn" "_characters" "J" (.long (0 : Int64))
set_option maxHeartbeats 40000000 in
theorem rm2 (l : Launch) (Z : State) (aZ : Array Value) (hw : ∀ d ∈ tables_1, d.before aZ Z = true) (ws : List Jvm.Cond) (a0 : Addr) (a1 : Addr) (q2 : Int64) (a3 : Addr) (h0 : Heap) (n0 : Nat) (Z0 : n0 ≤ h0.size) (E1 : Exa Z h0 a0 "org/counterpath/text/LineColumn") (F1 : Fld Z h0 a0 "org/counterpath/text/LineColumn" "_line" "I" (.int (0 : Int32))) (F2 : Fld Z h0 a0 "org/counterpath/text/LineColumn" "_column" "I" (.int (0 : Int32))) (F3 : Fld Z h0 a0 "org/counterpath/text/LineColumn" "_atStart" "Z" (.int (0 : Int32))) (F4 : Fld Z h0 a0 "org/counterpath/text/LineColumn" "_file" "Ljava/lang/String;" .null) (F5 : Fld Z h0 a0 "org/counterpath/text/LineColumn" "_maxCharacters" "J" (.long (0 : Int64))) (F6 : Fld Z h0 a0 "org/counterpath/text/LineColumn" "_tooLong" "Ljava/lang/String;" .null) (F7 : Fld Z h0 a0 "org/counterpath/text/LineColumn" "_characters" "J" (.long (0 : Int64))) (g_a0 : n0 ≤ a0) :
    MetFree l (⟨"org/counterpath/text/LineColumn", "<init>", "(Ljava/lang/String;JLjava/lang/String;)V"⟩ : MethodName) (head1 (Jvm.Cond.code (⟨"org/counterpath/text/LineColumn", "<init>", "(Ljava/lang/String;JLjava/lang/String;)V"⟩ : MethodName) prog_227_method_2_code 5 none :: ws) ({ frames := 1, cells := 0, slots := 0, locals := 12 } : Room)) (fun a U => a = #[(.ref a0), (.ref a1), (.long q2), (.ref a3)] ∧ Z.Warmed39 U.vm ∧ U.heap = h0) (fun _ _ _ _ _ => True) (fun _ U o U' => ∃ v L, o = .returned v ∧ Q2 Z a0 a1 q2 a3 h0 n0 v U'.heap L ∧ FrameEnd U o U' L ({ frames := 1, cells := 0, slots := 0, locals := 12 } : Room).cells ({ frames := 1, cells := 0, slots := 0, locals := 12 } : Room).slots) := by
  refine MetFree.of_bodySF (plainFor_of_name pn_1) hisR ?_
  intro p e s m args below meth c s₁ Bd hml0 hP hK
  obtain ⟨rfl, hZ, hh⟩ := hP
  have hx := Bd.exec
  have hby := Bd.bytes
  have hret := Bd.returns
  have hlk : meth.locks = false := BodyLoose.notSynchronized Bd
  have hml : c.maxLocals = 5 := hml0
  have hown : s.vm.findClass "org/counterpath/text/LineColumn" = some m.cls := findClass_of_methodNamed Bd.named
  have hnm := (name_of_methodNamed Bd.named Bd.method).1
  have X0 : Stand p l e ({ frames := 1, cells := 0, slots := 0, locals := 12 } : Room) s m #[(.ref a0), (.ref a1), (.long q2), (.ref a3)] below meth c s₁ [] 0 0 := Stand.of_body Bd
  have e0 : s₁.heap = h0 := by rw [← hh, Bd.state]; rfl
  have N0 := Fr.nil n0
  have K0 : Keep h0 h0 [a0] := Keep.refl _ _
  have pre0 : ∀ t, Steps p.tables e below (s₁.setTop (mkF m 0 #[.val (.ref a0), .val (.ref a1), .val (.long q2), .second, .val (.ref a3)] [])) t → Steps p.tables e below (s₁.setTop (entryFrame m #[(.ref a0), (.ref a1), (.long q2), (.ref a3)] 5)) t := fun t k => castTop (ef_2 m a0 a1 q2 a3) k
  show OFin p e below s (Q2 Z a0 a1 q2 a3 h0 n0) ({ frames := 1, cells := 0, slots := 0, locals := 12 } : Room).cells ({ frames := 1, cells := 0, slots := 0, locals := 12 } : Room).slots _
  refine OFin.go pre0 ?_
  have sg101 : ∀ t, Steps p.tables e below (s₁.setTop (mkF m 1 #[.val (.ref a0), .val (.ref a1), .val (.long q2), .second, .val (.ref a3)] [(.ref a0)])) t → Steps p.tables e below (s₁.setTop (mkF m 0 #[.val (.ref a0), .val (.ref a1), .val (.long q2), .second, .val (.ref a3)] [])) t := by
    intro t k
    show Steps p.tables e below (s₁.setTop (mkF m 0 #[.val (.ref a0), .val (.ref a1), .val (.long q2), .second, .val (.ref a3)] [])) t
    refine XS.aloadN X0.here hx rfl (hb hby d2_0) rfl rfl ?_
    exact k
  refine OFin.go sg101 ?_
  obtain ⟨T102, X102, e102, st102⟩ := initO X0 hx hZ hown (hw _ (List.mem_of_getElem? (i := 21) rfl)) (hw _ (List.mem_of_getElem? (i := 22) rfl)) (hw _ (List.mem_of_getElem? (i := 23) rfl)) e0 (g := (mkF m 1 #[.val (.ref a0), .val (.ref a1), .val (.long q2), .second, .val (.ref a3)] [(.ref a0)])) rfl (by rw [hml]; rfl) rfl (hb hby d2_1) (by decide) (W := 0) (by show 2 * 0 + _ ≤ _; exact Nat.le_of_eq rfl) (by decide)
  refine OFin.go st102 ?_
  have sg103 : ∀ t, Steps p.tables e below (T102.setTop (mkF m 6 #[.val (.ref a0), .val (.ref a1), .val (.long q2), .second, .val (.ref a3)] [(.int (1 : Int32)), (.ref a0)])) t → Steps p.tables e below (T102.setTop (mkF m 4 #[.val (.ref a0), .val (.ref a1), .val (.long q2), .second, .val (.ref a3)] [])) t := by
    intro t k
    show Steps p.tables e below (T102.setTop (mkF m 4 #[.val (.ref a0), .val (.ref a1), .val (.long q2), .second, .val (.ref a3)] [])) t
    refine XS.aloadN X102.here hx rfl (hb hby d2_4) rfl rfl ?_
    show Steps p.tables e below (T102.setTop (mkF m 5 #[.val (.ref a0), .val (.ref a1), .val (.long q2), .second, .val (.ref a3)] [(.ref a0)])) t
    refine XS.iconst X102.here hx rfl (hb hby d2_5) ?_
    exact k
  refine OFin.go sg103 ?_
  obtain ⟨T104, h104, X104, e104, W104, st104⟩ := putF X102 hx hZ hown (host := "") (Or.inl (hw _ (List.mem_of_getElem? (i := 24) rfl))) Via.refl e102 F1 E1 (Or.inl (hw _ (List.mem_of_getElem? (i := 25) rfl))) (hw _ (List.mem_of_getElem? (i := 6) rfl)) (ty := .int) (by decide) rfl rfl (g := (mkF m 6 #[.val (.ref a0), .val (.ref a1), .val (.long q2), .second, .val (.ref a3)] [(.int (1 : Int32)), (.ref a0)])) rfl rfl (hb hby d2_6)
  refine OFin.go st104 ?_
  have F104 := F1.same W104
  have K104 : Keep h0 h104 [a0] := K0.wr W104 (Or.inl (List.mem_of_getElem? (i := 0) rfl))
  have N104 := Fr.snoc X104 N0 g_a0
  have sg105 : ∀ t, Steps p.tables e below (T104.setTop (mkF m 11 #[.val (.ref a0), .val (.ref a1), .val (.long q2), .second, .val (.ref a3)] [(.int (1 : Int32)), (.ref a0)])) t → Steps p.tables e below (T104.setTop (mkF m 9 #[.val (.ref a0), .val (.ref a1), .val (.long q2), .second, .val (.ref a3)] [])) t := by
    intro t k
    show Steps p.tables e below (T104.setTop (mkF m 9 #[.val (.ref a0), .val (.ref a1), .val (.long q2), .second, .val (.ref a3)] [])) t
    refine XS.aloadN X104.here hx rfl (hb hby d2_9) rfl rfl ?_
    show Steps p.tables e below (T104.setTop (mkF m 10 #[.val (.ref a0), .val (.ref a1), .val (.long q2), .second, .val (.ref a3)] [(.ref a0)])) t
    refine XS.iconst X104.here hx rfl (hb hby d2_10) ?_
    exact k
  refine OFin.go sg105 ?_
  obtain ⟨T106, h106, X106, e106, W106, st106⟩ := putF X104 hx hZ hown (host := "") (Or.inl (hw _ (List.mem_of_getElem? (i := 26) rfl))) Via.refl e104 (F2.other W104 (Or.inr (slot_ne (Or.inl (hw _ (List.mem_of_getElem? (i := 27) rfl))) (Or.inl (hw _ (List.mem_of_getElem? (i := 25) rfl))) (by decide) (t := .int) (t' := .int) (by decide) (by decide)))) (E1.wr W104) (Or.inl (hw _ (List.mem_of_getElem? (i := 27) rfl))) (hw _ (List.mem_of_getElem? (i := 6) rfl)) (ty := .int) (by decide) rfl rfl (g := (mkF m 11 #[.val (.ref a0), .val (.ref a1), .val (.long q2), .second, .val (.ref a3)] [(.int (1 : Int32)), (.ref a0)])) rfl rfl (hb hby d2_11)
  refine OFin.go st106 ?_
  have F106 := (F2.other W104 (Or.inr (slot_ne (Or.inl (hw _ (List.mem_of_getElem? (i := 27) rfl))) (Or.inl (hw _ (List.mem_of_getElem? (i := 25) rfl))) (by decide) (t := .int) (t' := .int) (by decide) (by decide)))).same W106
  have K106 : Keep h0 h106 [a0] := K104.wr W106 (Or.inl (List.mem_of_getElem? (i := 0) rfl))
  have N106 := Fr.snoc X106 N104 g_a0
  have sg107 : ∀ t, Steps p.tables e below (T106.setTop (mkF m 16 #[.val (.ref a0), .val (.ref a1), .val (.long q2), .second, .val (.ref a3)] [(.int (1 : Int32)), (.ref a0)])) t → Steps p.tables e below (T106.setTop (mkF m 14 #[.val (.ref a0), .val (.ref a1), .val (.long q2), .second, .val (.ref a3)] [])) t := by
    intro t k
    show Steps p.tables e below (T106.setTop (mkF m 14 #[.val (.ref a0), .val (.ref a1), .val (.long q2), .second, .val (.ref a3)] [])) t
    refine XS.aloadN X106.here hx rfl (hb hby d2_14) rfl rfl ?_
    show Steps p.tables e below (T106.setTop (mkF m 15 #[.val (.ref a0), .val (.ref a1), .val (.long q2), .second, .val (.ref a3)] [(.ref a0)])) t
    refine XS.iconst X106.here hx rfl (hb hby d2_15) ?_
    exact k
  refine OFin.go sg107 ?_
  obtain ⟨T108, h108, X108, e108, W108, st108⟩ := putFN X106 hx hZ hown (hw _ (List.mem_of_getElem? (i := 28) rfl)) Via.refl e106 ((F3.other W104 (Or.inr (slot_ne (Or.inl (hw _ (List.mem_of_getElem? (i := 29) rfl))) (Or.inl (hw _ (List.mem_of_getElem? (i := 25) rfl))) (by decide) (t := .boolean) (t' := .int) (by decide) (by decide)))).other W106 (Or.inr (slot_ne (Or.inl (hw _ (List.mem_of_getElem? (i := 29) rfl))) (Or.inl (hw _ (List.mem_of_getElem? (i := 27) rfl))) (by decide) (t := .boolean) (t' := .int) (by decide) (by decide)))) ((E1.wr W104).wr W106) (Or.inl (hw _ (List.mem_of_getElem? (i := 29) rfl))) (hw _ (List.mem_of_getElem? (i := 6) rfl)) (ty := .boolean) (v' := (.int (1 : Int32))) (by decide) rfl rfl (g := (mkF m 16 #[.val (.ref a0), .val (.ref a1), .val (.long q2), .second, .val (.ref a3)] [(.int (1 : Int32)), (.ref a0)])) rfl rfl (hb hby d2_16)
  refine OFin.go st108 ?_
  have F108 := ((F3.other W104 (Or.inr (slot_ne (Or.inl (hw _ (List.mem_of_getElem? (i := 29) rfl))) (Or.inl (hw _ (List.mem_of_getElem? (i := 25) rfl))) (by decide) (t := .boolean) (t' := .int) (by decide) (by decide)))).other W106 (Or.inr (slot_ne (Or.inl (hw _ (List.mem_of_getElem? (i := 29) rfl))) (Or.inl (hw _ (List.mem_of_getElem? (i := 27) rfl))) (by decide) (t := .boolean) (t' := .int) (by decide) (by decide)))).same W108
  have K108 : Keep h0 h108 [a0] := K106.wr W108 (Or.inl (List.mem_of_getElem? (i := 0) rfl))
  have N108 := Fr.snoc X108 N106 g_a0
  have sg109 : ∀ t, Steps p.tables e below (T108.setTop (mkF m 21 #[.val (.ref a0), .val (.ref a1), .val (.long q2), .second, .val (.ref a3)] [(.ref a1), (.ref a0)])) t → Steps p.tables e below (T108.setTop (mkF m 19 #[.val (.ref a0), .val (.ref a1), .val (.long q2), .second, .val (.ref a3)] [])) t := by
    intro t k
    show Steps p.tables e below (T108.setTop (mkF m 19 #[.val (.ref a0), .val (.ref a1), .val (.long q2), .second, .val (.ref a3)] [])) t
    refine XS.aloadN X108.here hx rfl (hb hby d2_19) rfl rfl ?_
    show Steps p.tables e below (T108.setTop (mkF m 20 #[.val (.ref a0), .val (.ref a1), .val (.long q2), .second, .val (.ref a3)] [(.ref a0)])) t
    refine XS.aloadN X108.here hx rfl (hb hby d2_20) rfl rfl ?_
    exact k
  refine OFin.go sg109 ?_
  obtain ⟨T110, h110, X110, e110, W110, st110⟩ := putF X108 hx hZ hown (host := "") (Or.inl (hw _ (List.mem_of_getElem? (i := 30) rfl))) Via.refl e108 (((F4.other W104 (Or.inr (slot_ne (Or.inr (hw _ (List.mem_of_getElem? (i := 31) rfl))) (Or.inl (hw _ (List.mem_of_getElem? (i := 25) rfl))) (by decide) (t := (.object "java/lang/String")) (t' := .int) (by decide) (by decide)))).other W106 (Or.inr (slot_ne (Or.inr (hw _ (List.mem_of_getElem? (i := 31) rfl))) (Or.inl (hw _ (List.mem_of_getElem? (i := 27) rfl))) (by decide) (t := (.object "java/lang/String")) (t' := .int) (by decide) (by decide)))).other W108 (Or.inr (slot_ne (Or.inr (hw _ (List.mem_of_getElem? (i := 31) rfl))) (Or.inl (hw _ (List.mem_of_getElem? (i := 29) rfl))) (by decide) (t := (.object "java/lang/String")) (t' := .boolean) (by decide) (by decide)))) (((E1.wr W104).wr W106).wr W108) (Or.inr ⟨(hw _ (List.mem_of_getElem? (i := 31) rfl)), rfl, hnm⟩) (hw _ (List.mem_of_getElem? (i := 6) rfl)) (ty := (.object "java/lang/String")) (by decide) rfl rfl (g := (mkF m 21 #[.val (.ref a0), .val (.ref a1), .val (.long q2), .second, .val (.ref a3)] [(.ref a1), (.ref a0)])) rfl rfl (hb hby d2_21)
  refine OFin.go st110 ?_
  have F110 := (((F4.other W104 (Or.inr (slot_ne (Or.inr (hw _ (List.mem_of_getElem? (i := 31) rfl))) (Or.inl (hw _ (List.mem_of_getElem? (i := 25) rfl))) (by decide) (t := (.object "java/lang/String")) (t' := .int) (by decide) (by decide)))).other W106 (Or.inr (slot_ne (Or.inr (hw _ (List.mem_of_getElem? (i := 31) rfl))) (Or.inl (hw _ (List.mem_of_getElem? (i := 27) rfl))) (by decide) (t := (.object "java/lang/String")) (t' := .int) (by decide) (by decide)))).other W108 (Or.inr (slot_ne (Or.inr (hw _ (List.mem_of_getElem? (i := 31) rfl))) (Or.inl (hw _ (List.mem_of_getElem? (i := 29) rfl))) (by decide) (t := (.object "java/lang/String")) (t' := .boolean) (by decide) (by decide)))).same W110
  have K110 : Keep h0 h110 [a0] := K108.wr W110 (Or.inl (List.mem_of_getElem? (i := 0) rfl))
  have N110 := Fr.snoc X110 N108 g_a0
  have sg111 : ∀ t, Steps p.tables e below (T110.setTop (mkF m 26 #[.val (.ref a0), .val (.ref a1), .val (.long q2), .second, .val (.ref a3)] [(.long q2), (.ref a0)])) t → Steps p.tables e below (T110.setTop (mkF m 24 #[.val (.ref a0), .val (.ref a1), .val (.long q2), .second, .val (.ref a3)] [])) t := by
    intro t k
    show Steps p.tables e below (T110.setTop (mkF m 24 #[.val (.ref a0), .val (.ref a1), .val (.long q2), .second, .val (.ref a3)] [])) t
    refine XS.aloadN X110.here hx rfl (hb hby d2_24) rfl rfl ?_
    show Steps p.tables e below (T110.setTop (mkF m 25 #[.val (.ref a0), .val (.ref a1), .val (.long q2), .second, .val (.ref a3)] [(.ref a0)])) t
    refine XS.lloadN X110.here hx rfl (hb hby d2_25) rfl ?_
    exact k
  refine OFin.go sg111 ?_
  obtain ⟨T112, h112, X112, e112, W112, st112⟩ := putF X110 hx hZ hown (host := "") (Or.inl (hw _ (List.mem_of_getElem? (i := 32) rfl))) Via.refl e110 ((((F5.other W104 (Or.inr (slot_ne (Or.inr (hw _ (List.mem_of_getElem? (i := 33) rfl))) (Or.inl (hw _ (List.mem_of_getElem? (i := 25) rfl))) (by decide) (t := .long) (t' := .int) (by decide) (by decide)))).other W106 (Or.inr (slot_ne (Or.inr (hw _ (List.mem_of_getElem? (i := 33) rfl))) (Or.inl (hw _ (List.mem_of_getElem? (i := 27) rfl))) (by decide) (t := .long) (t' := .int) (by decide) (by decide)))).other W108 (Or.inr (slot_ne (Or.inr (hw _ (List.mem_of_getElem? (i := 33) rfl))) (Or.inl (hw _ (List.mem_of_getElem? (i := 29) rfl))) (by decide) (t := .long) (t' := .boolean) (by decide) (by decide)))).other W110 (Or.inr (slot_ne (Or.inr (hw _ (List.mem_of_getElem? (i := 33) rfl))) (Or.inr (hw _ (List.mem_of_getElem? (i := 31) rfl))) (by decide) (t := .long) (t' := (.object "java/lang/String")) (by decide) (by decide)))) ((((E1.wr W104).wr W106).wr W108).wr W110) (Or.inr ⟨(hw _ (List.mem_of_getElem? (i := 33) rfl)), rfl, hnm⟩) (hw _ (List.mem_of_getElem? (i := 6) rfl)) (ty := .long) (by decide) rfl rfl (g := (mkF m 26 #[.val (.ref a0), .val (.ref a1), .val (.long q2), .second, .val (.ref a3)] [(.long q2), (.ref a0)])) rfl rfl (hb hby d2_26)
  refine OFin.go st112 ?_
  have F112 := ((((F5.other W104 (Or.inr (slot_ne (Or.inr (hw _ (List.mem_of_getElem? (i := 33) rfl))) (Or.inl (hw _ (List.mem_of_getElem? (i := 25) rfl))) (by decide) (t := .long) (t' := .int) (by decide) (by decide)))).other W106 (Or.inr (slot_ne (Or.inr (hw _ (List.mem_of_getElem? (i := 33) rfl))) (Or.inl (hw _ (List.mem_of_getElem? (i := 27) rfl))) (by decide) (t := .long) (t' := .int) (by decide) (by decide)))).other W108 (Or.inr (slot_ne (Or.inr (hw _ (List.mem_of_getElem? (i := 33) rfl))) (Or.inl (hw _ (List.mem_of_getElem? (i := 29) rfl))) (by decide) (t := .long) (t' := .boolean) (by decide) (by decide)))).other W110 (Or.inr (slot_ne (Or.inr (hw _ (List.mem_of_getElem? (i := 33) rfl))) (Or.inr (hw _ (List.mem_of_getElem? (i := 31) rfl))) (by decide) (t := .long) (t' := (.object "java/lang/String")) (by decide) (by decide)))).same W112
  have K112 : Keep h0 h112 [a0] := K110.wr W112 (Or.inl (List.mem_of_getElem? (i := 0) rfl))
  have N112 := Fr.snoc X112 N110 g_a0
  have sg113 : ∀ t, Steps p.tables e below (T112.setTop (mkF m 32 #[.val (.ref a0), .val (.ref a1), .val (.long q2), .second, .val (.ref a3)] [(.ref a3), (.ref a0)])) t → Steps p.tables e below (T112.setTop (mkF m 29 #[.val (.ref a0), .val (.ref a1), .val (.long q2), .second, .val (.ref a3)] [])) t := by
    intro t k
    show Steps p.tables e below (T112.setTop (mkF m 29 #[.val (.ref a0), .val (.ref a1), .val (.long q2), .second, .val (.ref a3)] [])) t
    refine XS.aloadN X112.here hx rfl (hb hby d2_29) rfl rfl ?_
    show Steps p.tables e below (T112.setTop (mkF m 30 #[.val (.ref a0), .val (.ref a1), .val (.long q2), .second, .val (.ref a3)] [(.ref a0)])) t
    refine XS.aload X112.here hx rfl (hb hby d2_30) rfl rfl ?_
    exact k
  refine OFin.go sg113 ?_
  obtain ⟨T114, h114, X114, e114, W114, st114⟩ := putF X112 hx hZ hown (host := "") (Or.inl (hw _ (List.mem_of_getElem? (i := 34) rfl))) Via.refl e112 (((((F6.other W104 (Or.inr (slot_ne (Or.inr (hw _ (List.mem_of_getElem? (i := 35) rfl))) (Or.inl (hw _ (List.mem_of_getElem? (i := 25) rfl))) (by decide) (t := (.object "java/lang/String")) (t' := .int) (by decide) (by decide)))).other W106 (Or.inr (slot_ne (Or.inr (hw _ (List.mem_of_getElem? (i := 35) rfl))) (Or.inl (hw _ (List.mem_of_getElem? (i := 27) rfl))) (by decide) (t := (.object "java/lang/String")) (t' := .int) (by decide) (by decide)))).other W108 (Or.inr (slot_ne (Or.inr (hw _ (List.mem_of_getElem? (i := 35) rfl))) (Or.inl (hw _ (List.mem_of_getElem? (i := 29) rfl))) (by decide) (t := (.object "java/lang/String")) (t' := .boolean) (by decide) (by decide)))).other W110 (Or.inr (slot_ne (Or.inr (hw _ (List.mem_of_getElem? (i := 35) rfl))) (Or.inr (hw _ (List.mem_of_getElem? (i := 31) rfl))) (by decide) (t := (.object "java/lang/String")) (t' := (.object "java/lang/String")) (by decide) (by decide)))).other W112 (Or.inr (slot_ne (Or.inr (hw _ (List.mem_of_getElem? (i := 35) rfl))) (Or.inr (hw _ (List.mem_of_getElem? (i := 33) rfl))) (by decide) (t := (.object "java/lang/String")) (t' := .long) (by decide) (by decide)))) (((((E1.wr W104).wr W106).wr W108).wr W110).wr W112) (Or.inr ⟨(hw _ (List.mem_of_getElem? (i := 35) rfl)), rfl, hnm⟩) (hw _ (List.mem_of_getElem? (i := 6) rfl)) (ty := (.object "java/lang/String")) (by decide) rfl rfl (g := (mkF m 32 #[.val (.ref a0), .val (.ref a1), .val (.long q2), .second, .val (.ref a3)] [(.ref a3), (.ref a0)])) rfl rfl (hb hby d2_32)
  refine OFin.go st114 ?_
  have F114 := (((((F6.other W104 (Or.inr (slot_ne (Or.inr (hw _ (List.mem_of_getElem? (i := 35) rfl))) (Or.inl (hw _ (List.mem_of_getElem? (i := 25) rfl))) (by decide) (t := (.object "java/lang/String")) (t' := .int) (by decide) (by decide)))).other W106 (Or.inr (slot_ne (Or.inr (hw _ (List.mem_of_getElem? (i := 35) rfl))) (Or.inl (hw _ (List.mem_of_getElem? (i := 27) rfl))) (by decide) (t := (.object "java/lang/String")) (t' := .int) (by decide) (by decide)))).other W108 (Or.inr (slot_ne (Or.inr (hw _ (List.mem_of_getElem? (i := 35) rfl))) (Or.inl (hw _ (List.mem_of_getElem? (i := 29) rfl))) (by decide) (t := (.object "java/lang/String")) (t' := .boolean) (by decide) (by decide)))).other W110 (Or.inr (slot_ne (Or.inr (hw _ (List.mem_of_getElem? (i := 35) rfl))) (Or.inr (hw _ (List.mem_of_getElem? (i := 31) rfl))) (by decide) (t := (.object "java/lang/String")) (t' := (.object "java/lang/String")) (by decide) (by decide)))).other W112 (Or.inr (slot_ne (Or.inr (hw _ (List.mem_of_getElem? (i := 35) rfl))) (Or.inr (hw _ (List.mem_of_getElem? (i := 33) rfl))) (by decide) (t := (.object "java/lang/String")) (t' := .long) (by decide) (by decide)))).same W114
  have K114 : Keep h0 h114 [a0] := K112.wr W114 (Or.inl (List.mem_of_getElem? (i := 0) rfl))
  have N114 := Fr.snoc X114 N112 g_a0
  exact OFin.retV X114 hx hret hlk (hb hby d2_35) (by rw [e114]; exact ⟨rfl, N114, K114, (((((F104.other W106 (Or.inr (slot_ne (Or.inl (hw _ (List.mem_of_getElem? (i := 25) rfl))) (Or.inl (hw _ (List.mem_of_getElem? (i := 27) rfl))) (by decide) (t := .int) (t' := .int) (by decide) (by decide)))).other W108 (Or.inr (slot_ne (Or.inl (hw _ (List.mem_of_getElem? (i := 25) rfl))) (Or.inl (hw _ (List.mem_of_getElem? (i := 29) rfl))) (by decide) (t := .int) (t' := .boolean) (by decide) (by decide)))).other W110 (Or.inr (slot_ne (Or.inl (hw _ (List.mem_of_getElem? (i := 25) rfl))) (Or.inr (hw _ (List.mem_of_getElem? (i := 31) rfl))) (by decide) (t := .int) (t' := (.object "java/lang/String")) (by decide) (by decide)))).other W112 (Or.inr (slot_ne (Or.inl (hw _ (List.mem_of_getElem? (i := 25) rfl))) (Or.inr (hw _ (List.mem_of_getElem? (i := 33) rfl))) (by decide) (t := .int) (t' := .long) (by decide) (by decide)))).other W114 (Or.inr (slot_ne (Or.inl (hw _ (List.mem_of_getElem? (i := 25) rfl))) (Or.inr (hw _ (List.mem_of_getElem? (i := 35) rfl))) (by decide) (t := .int) (t' := (.object "java/lang/String")) (by decide) (by decide)))), ((((F106.other W108 (Or.inr (slot_ne (Or.inl (hw _ (List.mem_of_getElem? (i := 27) rfl))) (Or.inl (hw _ (List.mem_of_getElem? (i := 29) rfl))) (by decide) (t := .int) (t' := .boolean) (by decide) (by decide)))).other W110 (Or.inr (slot_ne (Or.inl (hw _ (List.mem_of_getElem? (i := 27) rfl))) (Or.inr (hw _ (List.mem_of_getElem? (i := 31) rfl))) (by decide) (t := .int) (t' := (.object "java/lang/String")) (by decide) (by decide)))).other W112 (Or.inr (slot_ne (Or.inl (hw _ (List.mem_of_getElem? (i := 27) rfl))) (Or.inr (hw _ (List.mem_of_getElem? (i := 33) rfl))) (by decide) (t := .int) (t' := .long) (by decide) (by decide)))).other W114 (Or.inr (slot_ne (Or.inl (hw _ (List.mem_of_getElem? (i := 27) rfl))) (Or.inr (hw _ (List.mem_of_getElem? (i := 35) rfl))) (by decide) (t := .int) (t' := (.object "java/lang/String")) (by decide) (by decide)))), (((F108.other W110 (Or.inr (slot_ne (Or.inl (hw _ (List.mem_of_getElem? (i := 29) rfl))) (Or.inr (hw _ (List.mem_of_getElem? (i := 31) rfl))) (by decide) (t := .boolean) (t' := (.object "java/lang/String")) (by decide) (by decide)))).other W112 (Or.inr (slot_ne (Or.inl (hw _ (List.mem_of_getElem? (i := 29) rfl))) (Or.inr (hw _ (List.mem_of_getElem? (i := 33) rfl))) (by decide) (t := .boolean) (t' := .long) (by decide) (by decide)))).other W114 (Or.inr (slot_ne (Or.inl (hw _ (List.mem_of_getElem? (i := 29) rfl))) (Or.inr (hw _ (List.mem_of_getElem? (i := 35) rfl))) (by decide) (t := .boolean) (t' := (.object "java/lang/String")) (by decide) (by decide)))), (F112.other W114 (Or.inr (slot_ne (Or.inr (hw _ (List.mem_of_getElem? (i := 33) rfl))) (Or.inr (hw _ (List.mem_of_getElem? (i := 35) rfl))) (by decide) (t := .long) (t' := (.object "java/lang/String")) (by decide) (by decide)))), ((((((F7.other W104 (Or.inr (slot_ne (Or.inl (hw _ (List.mem_of_getElem? (i := 58) rfl))) (Or.inl (hw _ (List.mem_of_getElem? (i := 25) rfl))) (by decide) (t := .long) (t' := .int) (by decide) (by decide)))).other W106 (Or.inr (slot_ne (Or.inl (hw _ (List.mem_of_getElem? (i := 58) rfl))) (Or.inl (hw _ (List.mem_of_getElem? (i := 27) rfl))) (by decide) (t := .long) (t' := .int) (by decide) (by decide)))).other W108 (Or.inr (slot_ne (Or.inl (hw _ (List.mem_of_getElem? (i := 58) rfl))) (Or.inl (hw _ (List.mem_of_getElem? (i := 29) rfl))) (by decide) (t := .long) (t' := .boolean) (by decide) (by decide)))).other W110 (Or.inr (slot_ne (Or.inl (hw _ (List.mem_of_getElem? (i := 58) rfl))) (Or.inr (hw _ (List.mem_of_getElem? (i := 31) rfl))) (by decide) (t := .long) (t' := (.object "java/lang/String")) (by decide) (by decide)))).other W112 (Or.inr (slot_ne (Or.inl (hw _ (List.mem_of_getElem? (i := 58) rfl))) (Or.inr (hw _ (List.mem_of_getElem? (i := 33) rfl))) (by decide) (t := .long) (t' := .long) (by decide) (by decide)))).other W114 (Or.inr (slot_ne (Or.inl (hw _ (List.mem_of_getElem? (i := 58) rfl))) (Or.inr (hw _ (List.mem_of_getElem? (i := 35) rfl))) (by decide) (t := .long) (t' := (.object "java/lang/String")) (by decide) (by decide))))⟩) (by decide) (by decide)
theorem d7_0 : decode prog_227_method_4_code 0 = .ok (.aload_n 0, 1) := by decide +kernel
theorem d7_1 : decode prog_227_method_4_code 1 = .ok (.getfield 39, 3) := by decide +kernel
theorem d7_4 : decode prog_227_method_4_code 4 = .ok (.aload_n 0, 1) := by decide +kernel
theorem d7_5 : decode prog_227_method_4_code 5 = .ok (.getfield 31, 3) := by decide +kernel
theorem d7_8 : decode prog_227_method_4_code 8 = .ok (.lcmp, 1) := by decide +kernel
theorem d7_9 : decode prog_227_method_4_code 9 = .ok (.ifCond .ne 19, 3) := by decide +kernel
theorem d7_12 : decode prog_227_method_4_code 12 = .ok (.new 42, 3) := by decide +kernel
theorem d7_15 : decode prog_227_method_4_code 15 = .ok (.dup, 1) := by decide +kernel
theorem d7_16 : decode prog_227_method_4_code 16 = .ok (.aload_n 0, 1) := by decide +kernel
theorem d7_17 : decode prog_227_method_4_code 17 = .ok (.invokevirtual 44, 3) := by decide +kernel
theorem d7_20 : decode prog_227_method_4_code 20 = .ok (.aload_n 0, 1) := by decide +kernel
theorem d7_21 : decode prog_227_method_4_code 21 = .ok (.getfield 35, 3) := by decide +kernel
theorem d7_24 : decode prog_227_method_4_code 24 = .ok (.invokespecial 48, 3) := by decide +kernel
theorem d7_27 : decode prog_227_method_4_code 27 = .ok (.athrow, 1) := by decide +kernel
theorem d7_28 : decode prog_227_method_4_code 28 = .ok (.aload_n 0, 1) := by decide +kernel
theorem d7_29 : decode prog_227_method_4_code 29 = .ok (.dup, 1) := by decide +kernel
theorem d7_30 : decode prog_227_method_4_code 30 = .ok (.getfield 39, 3) := by decide +kernel
theorem d7_33 : decode prog_227_method_4_code 33 = .ok (.lconst 1, 1) := by decide +kernel
theorem d7_34 : decode prog_227_method_4_code 34 = .ok (.ladd, 1) := by decide +kernel
theorem d7_35 : decode prog_227_method_4_code 35 = .ok (.putfield 39, 3) := by decide +kernel
theorem d7_38 : decode prog_227_method_4_code 38 = .ok (.aload_n 0, 1) := by decide +kernel
theorem d7_39 : decode prog_227_method_4_code 39 = .ok (.iconst 0, 1) := by decide +kernel
theorem d7_40 : decode prog_227_method_4_code 40 = .ok (.putfield 23, 3) := by decide +kernel
theorem d7_43 : decode prog_227_method_4_code 43 = .ok (.iload_n 1, 1) := by decide +kernel
theorem d7_44 : decode prog_227_method_4_code 44 = .ok (.bipush 10, 2) := by decide +kernel
theorem d7_46 : decode prog_227_method_4_code 46 = .ok (.if_icmp .eq 14, 3) := by decide +kernel
theorem d7_49 : decode prog_227_method_4_code 49 = .ok (.aload_n 0, 1) := by decide +kernel
theorem d7_50 : decode prog_227_method_4_code 50 = .ok (.dup, 1) := by decide +kernel
theorem d7_51 : decode prog_227_method_4_code 51 = .ok (.getfield 20, 3) := by decide +kernel
theorem d7_54 : decode prog_227_method_4_code 54 = .ok (.iconst 1, 1) := by decide +kernel
theorem d7_55 : decode prog_227_method_4_code 55 = .ok (.iadd, 1) := by decide +kernel
theorem d7_56 : decode prog_227_method_4_code 56 = .ok (.putfield 20, 3) := by decide +kernel
theorem d7_59 : decode prog_227_method_4_code 59 = .ok (.return_, 1) := by decide +kernel
theorem d7_60 : decode prog_227_method_4_code 60 = .ok (.aload_n 0, 1) := by decide +kernel
theorem d7_61 : decode prog_227_method_4_code 61 = .ok (.getfield 16, 3) := by decide +kernel
theorem d7_64 : decode prog_227_method_4_code 64 = .ok (.ldc 53, 2) := by decide +kernel
theorem d7_66 : decode prog_227_method_4_code 66 = .ok (.if_icmp .ne 17, 3) := by decide +kernel
theorem d7_69 : decode prog_227_method_4_code 69 = .ok (.new 42, 3) := by decide +kernel
theorem d7_72 : decode prog_227_method_4_code 72 = .ok (.dup, 1) := by decide +kernel
theorem d7_73 : decode prog_227_method_4_code 73 = .ok (.aload_n 0, 1) := by decide +kernel
theorem d7_74 : decode prog_227_method_4_code 74 = .ok (.invokevirtual 44, 3) := by decide +kernel
theorem d7_77 : decode prog_227_method_4_code 77 = .ok (.ldc 54, 2) := by decide +kernel
theorem d7_79 : decode prog_227_method_4_code 79 = .ok (.invokespecial 48, 3) := by decide +kernel
theorem d7_82 : decode prog_227_method_4_code 82 = .ok (.athrow, 1) := by decide +kernel
theorem d7_83 : decode prog_227_method_4_code 83 = .ok (.aload_n 0, 1) := by decide +kernel
theorem d7_84 : decode prog_227_method_4_code 84 = .ok (.dup, 1) := by decide +kernel
theorem d7_85 : decode prog_227_method_4_code 85 = .ok (.getfield 16, 3) := by decide +kernel
theorem d7_88 : decode prog_227_method_4_code 88 = .ok (.iconst 1, 1) := by decide +kernel
theorem d7_89 : decode prog_227_method_4_code 89 = .ok (.iadd, 1) := by decide +kernel
theorem d7_90 : decode prog_227_method_4_code 90 = .ok (.putfield 16, 3) := by decide +kernel
theorem d7_93 : decode prog_227_method_4_code 93 = .ok (.aload_n 0, 1) := by decide +kernel
theorem d7_94 : decode prog_227_method_4_code 94 = .ok (.iconst 1, 1) := by decide +kernel
theorem d7_95 : decode prog_227_method_4_code 95 = .ok (.putfield 20, 3) := by decide +kernel
theorem d7_98 : decode prog_227_method_4_code 98 = .ok (.return_, 1) := by decide +kernel
theorem ef_7 (m : MethodId) (x0 : Addr) (x1 : Int32) : entryFrame m #[(.ref x0), (.int x1)] 2 = mkF m 0 #[.val (.ref x0), .val (.int x1)] [] := by first | (simp [entryFrame, mkF, argsToLocals, Value.category]; done) | rfl
def Q7 (Z : State) (a0 : Addr) (q1 : Int32) (l9 : Int32) (c9 : Int32) (s9 : Int32) (mx9 : Int64) (ch9 : Int64) (h0 : Heap) (n0 : Nat) (v : Option Value) (h : Heap) (L : List Loc) : Prop := v = none ∧ Fr n0 L ∧ Keep h0 h [a0] ∧ Fld Z h a0 "org/counterpath/text/LineColumn" "_line" "I" (.int (if q1 = (10 : Int32) then (l9 + (1 : Int32)) else l9)) ∧ Fld Z h a0 "org/counterpath/text/LineColumn" "_column" "I" (.int (if q1 = (10 : Int32) then (1 : Int32) else (c9 + (1 : Int32)))) ∧ Fld Z h a0 "org/counterpath/text/LineColumn" "_atStart" "Z" (.int (0 : Int32)) ∧ Fld Z h a0 "org/counterpath/text/LineColumn" "_maxCharacters" "J" (.long mx9) ∧ Fld Z h a0 "org/counterpath/text/LineColumn" "_characters" "J" (.long (ch9 + (1 : Int64)))
set_option maxHeartbeats 40000000 in
theorem rm7 (l : Launch) (Z : State) (aZ : Array Value) (hw : ∀ d ∈ tables_1, d.before aZ Z = true) (ws : List Jvm.Cond) (a0 : Addr) (q1 : Int32) (l9 : Int32) (c9 : Int32) (s9 : Int32) (mx9 : Int64) (ch9 : Int64) (h0 : Heap) (n0 : Nat) (Z0 : n0 ≤ h0.size) (E1 : Exa Z h0 a0 "org/counterpath/text/LineColumn") (F1 : Fld Z h0 a0 "org/counterpath/text/LineColumn" "_line" "I" (.int l9)) (F2 : Fld Z h0 a0 "org/counterpath/text/LineColumn" "_column" "I" (.int c9)) (F3 : Fld Z h0 a0 "org/counterpath/text/LineColumn" "_atStart" "Z" (.int s9)) (F5 : Fld Z h0 a0 "org/counterpath/text/LineColumn" "_maxCharacters" "J" (.long mx9)) (F7 : Fld Z h0 a0 "org/counterpath/text/LineColumn" "_characters" "J" (.long ch9)) (hne : ¬ (ch9 = mx9)) (hl : ¬ (l9 = (2147483647 : Int32))) (g_a0 : n0 ≤ a0) :
    MetFree l (⟨"org/counterpath/text/LineColumn", "take", "(C)V"⟩ : MethodName) (head1 (Jvm.Cond.code (⟨"org/counterpath/text/LineColumn", "take", "(C)V"⟩ : MethodName) prog_227_method_4_code 2 none :: ws) ({ frames := 0, cells := 0, slots := 0, locals := 0 } : Room)) (fun a U => a = #[(.ref a0), (.int q1)] ∧ Z.Warmed39 U.vm ∧ U.heap = h0) (fun _ _ _ _ _ => True) (fun _ U o U' => ∃ v L, o = .returned v ∧ Q7 Z a0 q1 l9 c9 s9 mx9 ch9 h0 n0 v U'.heap L ∧ FrameEnd U o U' L ({ frames := 0, cells := 0, slots := 0, locals := 0 } : Room).cells ({ frames := 0, cells := 0, slots := 0, locals := 0 } : Room).slots) := by
  refine MetFree.of_bodySF (plainFor_of_name pn_1) hisR ?_
  intro p e s m args below meth c s₁ Bd hml0 hP hK
  obtain ⟨rfl, hZ, hh⟩ := hP
  have hx := Bd.exec
  have hby := Bd.bytes
  have hret := Bd.returns
  have hlk : meth.locks = false := BodyLoose.notSynchronized Bd
  have hml : c.maxLocals = 2 := hml0
  have hown : s.vm.findClass "org/counterpath/text/LineColumn" = some m.cls := findClass_of_methodNamed Bd.named
  have hnm := (name_of_methodNamed Bd.named Bd.method).1
  have X0 : Stand p l e ({ frames := 0, cells := 0, slots := 0, locals := 0 } : Room) s m #[(.ref a0), (.int q1)] below meth c s₁ [] 0 0 := Stand.of_body Bd
  have e0 : s₁.heap = h0 := by rw [← hh, Bd.state]; rfl
  have N0 := Fr.nil n0
  have K0 : Keep h0 h0 [a0] := Keep.refl _ _
  have pre0 : ∀ t, Steps p.tables e below (s₁.setTop (mkF m 0 #[.val (.ref a0), .val (.int q1)] [])) t → Steps p.tables e below (s₁.setTop (entryFrame m #[(.ref a0), (.int q1)] 2)) t := fun t k => castTop (ef_7 m a0 q1) k
  show OFin p e below s (Q7 Z a0 q1 l9 c9 s9 mx9 ch9 h0 n0) ({ frames := 0, cells := 0, slots := 0, locals := 0 } : Room).cells ({ frames := 0, cells := 0, slots := 0, locals := 0 } : Room).slots _
  refine OFin.go pre0 ?_
  have sg101 : ∀ t, Steps p.tables e below (s₁.setTop (mkF m 1 #[.val (.ref a0), .val (.int q1)] [(.ref a0)])) t → Steps p.tables e below (s₁.setTop (mkF m 0 #[.val (.ref a0), .val (.int q1)] [])) t := by
    intro t k
    show Steps p.tables e below (s₁.setTop (mkF m 0 #[.val (.ref a0), .val (.int q1)] [])) t
    refine XS.aloadN X0.here hx rfl (hb hby d7_0) rfl rfl ?_
    exact k
  refine OFin.go sg101 ?_
  obtain ⟨T102, X102, e102, st102⟩ := getF X0 hx hZ hown (host := "") (Or.inl (hw _ (List.mem_of_getElem? (i := 57) rfl))) Via.refl e0 F7 (g := (mkF m 1 #[.val (.ref a0), .val (.int q1)] [(.ref a0)])) rfl rfl (hb hby d7_1)
  refine OFin.go st102 ?_
  have sg103 : ∀ t, Steps p.tables e below (T102.setTop (mkF m 5 #[.val (.ref a0), .val (.int q1)] [(.ref a0), (.long ch9)])) t → Steps p.tables e below (T102.setTop (mkF m 4 #[.val (.ref a0), .val (.int q1)] [(.long ch9)])) t := by
    intro t k
    show Steps p.tables e below (T102.setTop (mkF m 4 #[.val (.ref a0), .val (.int q1)] [(.long ch9)])) t
    refine XS.aloadN X102.here hx rfl (hb hby d7_4) rfl rfl ?_
    exact k
  refine OFin.go sg103 ?_
  obtain ⟨T104, X104, e104, st104⟩ := getF X102 hx hZ hown (host := "") (Or.inl (hw _ (List.mem_of_getElem? (i := 32) rfl))) Via.refl e102 F5 (g := (mkF m 5 #[.val (.ref a0), .val (.int q1)] [(.ref a0), (.long ch9)])) rfl rfl (hb hby d7_5)
  refine OFin.go st104 ?_
  have sg106 : ∀ t, Steps p.tables e below (T104.setTop (mkF m 9 #[.val (.ref a0), .val (.int q1)] [(.int (lcmpW ch9 mx9))])) t → Steps p.tables e below (T104.setTop (mkF m 8 #[.val (.ref a0), .val (.int q1)] [(.long mx9), (.long ch9)])) t := by
    intro t k
    show Steps p.tables e below (T104.setTop (mkF m 8 #[.val (.ref a0), .val (.int q1)] [(.long mx9), (.long ch9)])) t
    refine XS.lcmp X104.here hx rfl (hb hby d7_8) rfl ?_
    exact k
  refine OFin.go sg106 ?_
  have c105 : ¬ (ch9 = mx9) := hne
  have sg107 : ∀ t, Steps p.tables e below (T104.setTop (mkF m 30 #[.val (.ref a0), .val (.int q1)] [(.ref a0), (.ref a0)])) t → Steps p.tables e below (T104.setTop (mkF m 9 #[.val (.ref a0), .val (.int q1)] [(.int (lcmpW ch9 mx9))])) t := by
    intro t k
    show Steps p.tables e below (T104.setTop (mkF m 9 #[.val (.ref a0), .val (.int q1)] [(.int (lcmpW ch9 mx9))])) t
    refine XS.ifYes X104.here hx rfl (pc0 := 9) (pc' := 28) rfl (hb hby d7_9) rfl ((if0 _ _).trans (feq (mt (lw_eq _ _).mp c105)).2) (by decide) (by decide) ?_
    show Steps p.tables e below (T104.setTop (mkF m 28 #[.val (.ref a0), .val (.int q1)] [])) t
    refine XS.aloadN X104.here hx rfl (hb hby d7_28) rfl rfl ?_
    show Steps p.tables e below (T104.setTop (mkF m 29 #[.val (.ref a0), .val (.int q1)] [(.ref a0)])) t
    refine XS.dup X104.here hx rfl (hb hby d7_29) rfl rfl ?_
    exact k
  refine OFin.go sg107 ?_
  obtain ⟨T108, X108, e108, st108⟩ := getF X104 hx hZ hown (host := "") (Or.inl (hw _ (List.mem_of_getElem? (i := 57) rfl))) Via.refl e104 F7 (g := (mkF m 30 #[.val (.ref a0), .val (.int q1)] [(.ref a0), (.ref a0)])) rfl rfl (hb hby d7_30)
  refine OFin.go st108 ?_
  have sg109 : ∀ t, Steps p.tables e below (T108.setTop (mkF m 35 #[.val (.ref a0), .val (.int q1)] [(.long (ch9 + (1 : Int64))), (.ref a0)])) t → Steps p.tables e below (T108.setTop (mkF m 33 #[.val (.ref a0), .val (.int q1)] [(.long ch9), (.ref a0)])) t := by
    intro t k
    show Steps p.tables e below (T108.setTop (mkF m 33 #[.val (.ref a0), .val (.int q1)] [(.long ch9), (.ref a0)])) t
    refine XS.lconst X108.here hx rfl (hb hby d7_33) ?_
    show Steps p.tables e below (T108.setTop (mkF m 34 #[.val (.ref a0), .val (.int q1)] [(.long (1 : Int64)), (.long ch9), (.ref a0)])) t
    refine XS.ladd X108.here hx rfl (hb hby d7_34) rfl ?_
    exact k
  refine OFin.go sg109 ?_
  obtain ⟨T110, h110, X110, e110, W110, st110⟩ := putF X108 hx hZ hown (host := "") (Or.inl (hw _ (List.mem_of_getElem? (i := 57) rfl))) Via.refl e108 F7 E1 (Or.inl (hw _ (List.mem_of_getElem? (i := 58) rfl))) (hw _ (List.mem_of_getElem? (i := 6) rfl)) (ty := .long) (by decide) rfl rfl (g := (mkF m 35 #[.val (.ref a0), .val (.int q1)] [(.long (ch9 + (1 : Int64))), (.ref a0)])) rfl rfl (hb hby d7_35)
  refine OFin.go st110 ?_
  have F110 := F7.same W110
  have K110 : Keep h0 h110 [a0] := K0.wr W110 (Or.inl (List.mem_of_getElem? (i := 0) rfl))
  have N110 := Fr.snoc X110 N0 g_a0
  have sg111 : ∀ t, Steps p.tables e below (T110.setTop (mkF m 40 #[.val (.ref a0), .val (.int q1)] [(.int (0 : Int32)), (.ref a0)])) t → Steps p.tables e below (T110.setTop (mkF m 38 #[.val (.ref a0), .val (.int q1)] [])) t := by
    intro t k
    show Steps p.tables e below (T110.setTop (mkF m 38 #[.val (.ref a0), .val (.int q1)] [])) t
    refine XS.aloadN X110.here hx rfl (hb hby d7_38) rfl rfl ?_
    show Steps p.tables e below (T110.setTop (mkF m 39 #[.val (.ref a0), .val (.int q1)] [(.ref a0)])) t
    refine XS.iconst X110.here hx rfl (hb hby d7_39) ?_
    exact k
  refine OFin.go sg111 ?_
  obtain ⟨T112, h112, X112, e112, W112, st112⟩ := putFN X110 hx hZ hown (hw _ (List.mem_of_getElem? (i := 28) rfl)) Via.refl e110 (F3.other W110 (Or.inr (slot_ne (Or.inl (hw _ (List.mem_of_getElem? (i := 29) rfl))) (Or.inl (hw _ (List.mem_of_getElem? (i := 58) rfl))) (by decide) (t := .boolean) (t' := .long) (by decide) (by decide)))) (E1.wr W110) (Or.inl (hw _ (List.mem_of_getElem? (i := 29) rfl))) (hw _ (List.mem_of_getElem? (i := 6) rfl)) (ty := .boolean) (v' := (.int (0 : Int32))) (by decide) rfl rfl (g := (mkF m 40 #[.val (.ref a0), .val (.int q1)] [(.int (0 : Int32)), (.ref a0)])) rfl rfl (hb hby d7_40)
  refine OFin.go st112 ?_
  have F112 := (F3.other W110 (Or.inr (slot_ne (Or.inl (hw _ (List.mem_of_getElem? (i := 29) rfl))) (Or.inl (hw _ (List.mem_of_getElem? (i := 58) rfl))) (by decide) (t := .boolean) (t' := .long) (by decide) (by decide)))).same W112
  have K112 : Keep h0 h112 [a0] := K110.wr W112 (Or.inl (List.mem_of_getElem? (i := 0) rfl))
  have N112 := Fr.snoc X112 N110 g_a0
  have sg113 : ∀ t, Steps p.tables e below (T112.setTop (mkF m 46 #[.val (.ref a0), .val (.int q1)] [(.int (10 : Int32)), (.int q1)])) t → Steps p.tables e below (T112.setTop (mkF m 43 #[.val (.ref a0), .val (.int q1)] [])) t := by
    intro t k
    show Steps p.tables e below (T112.setTop (mkF m 43 #[.val (.ref a0), .val (.int q1)] [])) t
    refine XS.iloadN X112.here hx rfl (hb hby d7_43) rfl ?_
    show Steps p.tables e below (T112.setTop (mkF m 44 #[.val (.ref a0), .val (.int q1)] [(.int q1)])) t
    refine XS.bipush X112.here hx rfl (hb hby d7_44) ?_
    exact k
  refine OFin.go sg113 ?_
  by_cases c114 : q1 = (10 : Int32)
  · have sg115 : ∀ t, Steps p.tables e below (T112.setTop (mkF m 61 #[.val (.ref a0), .val (.int q1)] [(.ref a0)])) t → Steps p.tables e below (T112.setTop (mkF m 46 #[.val (.ref a0), .val (.int q1)] [(.int (10 : Int32)), (.int q1)])) t := by
      intro t k
      show Steps p.tables e below (T112.setTop (mkF m 46 #[.val (.ref a0), .val (.int q1)] [(.int (10 : Int32)), (.int q1)])) t
      refine XS.icmpYes X112.here hx rfl (pc0 := 46) (pc' := 60) rfl (hb hby d7_46) rfl (teq c114).1 (by decide) (by decide) ?_
      show Steps p.tables e below (T112.setTop (mkF m 60 #[.val (.ref a0), .val (.int q1)] [])) t
      refine XS.aloadN X112.here hx rfl (hb hby d7_60) rfl rfl ?_
      exact k
    refine OFin.go sg115 ?_
    obtain ⟨T116, X116, e116, st116⟩ := getF X112 hx hZ hown (host := "") (Or.inl (hw _ (List.mem_of_getElem? (i := 24) rfl))) Via.refl e112 ((F1.other W110 (Or.inr (slot_ne (Or.inl (hw _ (List.mem_of_getElem? (i := 25) rfl))) (Or.inl (hw _ (List.mem_of_getElem? (i := 58) rfl))) (by decide) (t := .int) (t' := .long) (by decide) (by decide)))).other W112 (Or.inr (slot_ne (Or.inl (hw _ (List.mem_of_getElem? (i := 25) rfl))) (Or.inl (hw _ (List.mem_of_getElem? (i := 29) rfl))) (by decide) (t := .int) (t' := .boolean) (by decide) (by decide)))) (g := (mkF m 61 #[.val (.ref a0), .val (.int q1)] [(.ref a0)])) rfl rfl (hb hby d7_61)
    refine OFin.go st116 ?_
    have sg118 : ∀ t, Steps p.tables e below (T116.setTop (mkF m 66 #[.val (.ref a0), .val (.int q1)] [(.int (2147483647 : Int32)), (.int l9)])) t → Steps p.tables e below (T116.setTop (mkF m 64 #[.val (.ref a0), .val (.int q1)] [(.int l9)])) t := by
      intro t k
      show Steps p.tables e below (T116.setTop (mkF m 64 #[.val (.ref a0), .val (.int q1)] [(.int l9)])) t
      refine X116.ldcInt hx hown (mvT hZ (hw _ (List.mem_of_getElem? (i := 60) rfl))) (g := (mkF m 64 #[.val (.ref a0), .val (.int q1)] [(.int l9)])) rfl (hb hby d7_64) _ ?_
      exact k
    refine OFin.go sg118 ?_
    have c117 : ¬ (l9 = (2147483647 : Int32)) := hl
    have sg119 : ∀ t, Steps p.tables e below (T116.setTop (mkF m 85 #[.val (.ref a0), .val (.int q1)] [(.ref a0), (.ref a0)])) t → Steps p.tables e below (T116.setTop (mkF m 66 #[.val (.ref a0), .val (.int q1)] [(.int (2147483647 : Int32)), (.int l9)])) t := by
      intro t k
      show Steps p.tables e below (T116.setTop (mkF m 66 #[.val (.ref a0), .val (.int q1)] [(.int (2147483647 : Int32)), (.int l9)])) t
      refine XS.icmpYes X116.here hx rfl (pc0 := 66) (pc' := 83) rfl (hb hby d7_66) rfl (feq c117).2 (by decide) (by decide) ?_
      show Steps p.tables e below (T116.setTop (mkF m 83 #[.val (.ref a0), .val (.int q1)] [])) t
      refine XS.aloadN X116.here hx rfl (hb hby d7_83) rfl rfl ?_
      show Steps p.tables e below (T116.setTop (mkF m 84 #[.val (.ref a0), .val (.int q1)] [(.ref a0)])) t
      refine XS.dup X116.here hx rfl (hb hby d7_84) rfl rfl ?_
      exact k
    refine OFin.go sg119 ?_
    obtain ⟨T120, X120, e120, st120⟩ := getF X116 hx hZ hown (host := "") (Or.inl (hw _ (List.mem_of_getElem? (i := 24) rfl))) Via.refl e116 ((F1.other W110 (Or.inr (slot_ne (Or.inl (hw _ (List.mem_of_getElem? (i := 25) rfl))) (Or.inl (hw _ (List.mem_of_getElem? (i := 58) rfl))) (by decide) (t := .int) (t' := .long) (by decide) (by decide)))).other W112 (Or.inr (slot_ne (Or.inl (hw _ (List.mem_of_getElem? (i := 25) rfl))) (Or.inl (hw _ (List.mem_of_getElem? (i := 29) rfl))) (by decide) (t := .int) (t' := .boolean) (by decide) (by decide)))) (g := (mkF m 85 #[.val (.ref a0), .val (.int q1)] [(.ref a0), (.ref a0)])) rfl rfl (hb hby d7_85)
    refine OFin.go st120 ?_
    have sg121 : ∀ t, Steps p.tables e below (T120.setTop (mkF m 90 #[.val (.ref a0), .val (.int q1)] [(.int (l9 + (1 : Int32))), (.ref a0)])) t → Steps p.tables e below (T120.setTop (mkF m 88 #[.val (.ref a0), .val (.int q1)] [(.int l9), (.ref a0)])) t := by
      intro t k
      show Steps p.tables e below (T120.setTop (mkF m 88 #[.val (.ref a0), .val (.int q1)] [(.int l9), (.ref a0)])) t
      refine XS.iconst X120.here hx rfl (hb hby d7_88) ?_
      show Steps p.tables e below (T120.setTop (mkF m 89 #[.val (.ref a0), .val (.int q1)] [(.int (1 : Int32)), (.int l9), (.ref a0)])) t
      refine XS.iadd X120.here hx rfl (hb hby d7_89) rfl ?_
      exact k
    refine OFin.go sg121 ?_
    obtain ⟨T122, h122, X122, e122, W122, st122⟩ := putF X120 hx hZ hown (host := "") (Or.inl (hw _ (List.mem_of_getElem? (i := 24) rfl))) Via.refl e120 ((F1.other W110 (Or.inr (slot_ne (Or.inl (hw _ (List.mem_of_getElem? (i := 25) rfl))) (Or.inl (hw _ (List.mem_of_getElem? (i := 58) rfl))) (by decide) (t := .int) (t' := .long) (by decide) (by decide)))).other W112 (Or.inr (slot_ne (Or.inl (hw _ (List.mem_of_getElem? (i := 25) rfl))) (Or.inl (hw _ (List.mem_of_getElem? (i := 29) rfl))) (by decide) (t := .int) (t' := .boolean) (by decide) (by decide)))) ((E1.wr W110).wr W112) (Or.inl (hw _ (List.mem_of_getElem? (i := 25) rfl))) (hw _ (List.mem_of_getElem? (i := 6) rfl)) (ty := .int) (by decide) rfl rfl (g := (mkF m 90 #[.val (.ref a0), .val (.int q1)] [(.int (l9 + (1 : Int32))), (.ref a0)])) rfl rfl (hb hby d7_90)
    refine OFin.go st122 ?_
    have F122 := ((F1.other W110 (Or.inr (slot_ne (Or.inl (hw _ (List.mem_of_getElem? (i := 25) rfl))) (Or.inl (hw _ (List.mem_of_getElem? (i := 58) rfl))) (by decide) (t := .int) (t' := .long) (by decide) (by decide)))).other W112 (Or.inr (slot_ne (Or.inl (hw _ (List.mem_of_getElem? (i := 25) rfl))) (Or.inl (hw _ (List.mem_of_getElem? (i := 29) rfl))) (by decide) (t := .int) (t' := .boolean) (by decide) (by decide)))).same W122
    have K122 : Keep h0 h122 [a0] := K112.wr W122 (Or.inl (List.mem_of_getElem? (i := 0) rfl))
    have N122 := Fr.snoc X122 N112 g_a0
    have sg123 : ∀ t, Steps p.tables e below (T122.setTop (mkF m 95 #[.val (.ref a0), .val (.int q1)] [(.int (1 : Int32)), (.ref a0)])) t → Steps p.tables e below (T122.setTop (mkF m 93 #[.val (.ref a0), .val (.int q1)] [])) t := by
      intro t k
      show Steps p.tables e below (T122.setTop (mkF m 93 #[.val (.ref a0), .val (.int q1)] [])) t
      refine XS.aloadN X122.here hx rfl (hb hby d7_93) rfl rfl ?_
      show Steps p.tables e below (T122.setTop (mkF m 94 #[.val (.ref a0), .val (.int q1)] [(.ref a0)])) t
      refine XS.iconst X122.here hx rfl (hb hby d7_94) ?_
      exact k
    refine OFin.go sg123 ?_
    obtain ⟨T124, h124, X124, e124, W124, st124⟩ := putF X122 hx hZ hown (host := "") (Or.inl (hw _ (List.mem_of_getElem? (i := 26) rfl))) Via.refl e122 (((F2.other W110 (Or.inr (slot_ne (Or.inl (hw _ (List.mem_of_getElem? (i := 27) rfl))) (Or.inl (hw _ (List.mem_of_getElem? (i := 58) rfl))) (by decide) (t := .int) (t' := .long) (by decide) (by decide)))).other W112 (Or.inr (slot_ne (Or.inl (hw _ (List.mem_of_getElem? (i := 27) rfl))) (Or.inl (hw _ (List.mem_of_getElem? (i := 29) rfl))) (by decide) (t := .int) (t' := .boolean) (by decide) (by decide)))).other W122 (Or.inr (slot_ne (Or.inl (hw _ (List.mem_of_getElem? (i := 27) rfl))) (Or.inl (hw _ (List.mem_of_getElem? (i := 25) rfl))) (by decide) (t := .int) (t' := .int) (by decide) (by decide)))) (((E1.wr W110).wr W112).wr W122) (Or.inl (hw _ (List.mem_of_getElem? (i := 27) rfl))) (hw _ (List.mem_of_getElem? (i := 6) rfl)) (ty := .int) (by decide) rfl rfl (g := (mkF m 95 #[.val (.ref a0), .val (.int q1)] [(.int (1 : Int32)), (.ref a0)])) rfl rfl (hb hby d7_95)
    refine OFin.go st124 ?_
    have F124 := (((F2.other W110 (Or.inr (slot_ne (Or.inl (hw _ (List.mem_of_getElem? (i := 27) rfl))) (Or.inl (hw _ (List.mem_of_getElem? (i := 58) rfl))) (by decide) (t := .int) (t' := .long) (by decide) (by decide)))).other W112 (Or.inr (slot_ne (Or.inl (hw _ (List.mem_of_getElem? (i := 27) rfl))) (Or.inl (hw _ (List.mem_of_getElem? (i := 29) rfl))) (by decide) (t := .int) (t' := .boolean) (by decide) (by decide)))).other W122 (Or.inr (slot_ne (Or.inl (hw _ (List.mem_of_getElem? (i := 27) rfl))) (Or.inl (hw _ (List.mem_of_getElem? (i := 25) rfl))) (by decide) (t := .int) (t' := .int) (by decide) (by decide)))).same W124
    have K124 : Keep h0 h124 [a0] := K122.wr W124 (Or.inl (List.mem_of_getElem? (i := 0) rfl))
    have N124 := Fr.snoc X124 N122 g_a0
    exact OFin.retV X124 hx hret hlk (hb hby d7_98) (by rw [e124]; exact ⟨rfl, N124, K124, (by have q : ((.int (if q1 = (10 : Int32) then (l9 + (1 : Int32)) else l9)) : Value) = (.int (l9 + (1 : Int32))) := (by first | rfl | (simp [c114]; done) | (simp_all; done)); rw [q]; exact (F122.other W124 (Or.inr (slot_ne (Or.inl (hw _ (List.mem_of_getElem? (i := 25) rfl))) (Or.inl (hw _ (List.mem_of_getElem? (i := 27) rfl))) (by decide) (t := .int) (t' := .int) (by decide) (by decide))))), (by have q : ((.int (if q1 = (10 : Int32) then (1 : Int32) else (c9 + (1 : Int32)))) : Value) = (.int (1 : Int32)) := (by first | rfl | (simp [c114]; done) | (simp_all; done)); rw [q]; exact F124), ((F112.other W122 (Or.inr (slot_ne (Or.inl (hw _ (List.mem_of_getElem? (i := 29) rfl))) (Or.inl (hw _ (List.mem_of_getElem? (i := 25) rfl))) (by decide) (t := .boolean) (t' := .int) (by decide) (by decide)))).other W124 (Or.inr (slot_ne (Or.inl (hw _ (List.mem_of_getElem? (i := 29) rfl))) (Or.inl (hw _ (List.mem_of_getElem? (i := 27) rfl))) (by decide) (t := .boolean) (t' := .int) (by decide) (by decide)))), ((((F5.other W110 (Or.inr (slot_ne (Or.inr (hw _ (List.mem_of_getElem? (i := 33) rfl))) (Or.inl (hw _ (List.mem_of_getElem? (i := 58) rfl))) (by decide) (t := .long) (t' := .long) (by decide) (by decide)))).other W112 (Or.inr (slot_ne (Or.inr (hw _ (List.mem_of_getElem? (i := 33) rfl))) (Or.inl (hw _ (List.mem_of_getElem? (i := 29) rfl))) (by decide) (t := .long) (t' := .boolean) (by decide) (by decide)))).other W122 (Or.inr (slot_ne (Or.inr (hw _ (List.mem_of_getElem? (i := 33) rfl))) (Or.inl (hw _ (List.mem_of_getElem? (i := 25) rfl))) (by decide) (t := .long) (t' := .int) (by decide) (by decide)))).other W124 (Or.inr (slot_ne (Or.inr (hw _ (List.mem_of_getElem? (i := 33) rfl))) (Or.inl (hw _ (List.mem_of_getElem? (i := 27) rfl))) (by decide) (t := .long) (t' := .int) (by decide) (by decide)))), (((F110.other W112 (Or.inr (slot_ne (Or.inl (hw _ (List.mem_of_getElem? (i := 58) rfl))) (Or.inl (hw _ (List.mem_of_getElem? (i := 29) rfl))) (by decide) (t := .long) (t' := .boolean) (by decide) (by decide)))).other W122 (Or.inr (slot_ne (Or.inl (hw _ (List.mem_of_getElem? (i := 58) rfl))) (Or.inl (hw _ (List.mem_of_getElem? (i := 25) rfl))) (by decide) (t := .long) (t' := .int) (by decide) (by decide)))).other W124 (Or.inr (slot_ne (Or.inl (hw _ (List.mem_of_getElem? (i := 58) rfl))) (Or.inl (hw _ (List.mem_of_getElem? (i := 27) rfl))) (by decide) (t := .long) (t' := .int) (by decide) (by decide))))⟩) (by decide) (by decide)
  · have sg125 : ∀ t, Steps p.tables e below (T112.setTop (mkF m 51 #[.val (.ref a0), .val (.int q1)] [(.ref a0), (.ref a0)])) t → Steps p.tables e below (T112.setTop (mkF m 46 #[.val (.ref a0), .val (.int q1)] [(.int (10 : Int32)), (.int q1)])) t := by
      intro t k
      show Steps p.tables e below (T112.setTop (mkF m 46 #[.val (.ref a0), .val (.int q1)] [(.int (10 : Int32)), (.int q1)])) t
      refine XS.icmpNo X112.here hx rfl (hb hby d7_46) rfl (feq c114).1 ?_
      show Steps p.tables e below (T112.setTop (mkF m 49 #[.val (.ref a0), .val (.int q1)] [])) t
      refine XS.aloadN X112.here hx rfl (hb hby d7_49) rfl rfl ?_
      show Steps p.tables e below (T112.setTop (mkF m 50 #[.val (.ref a0), .val (.int q1)] [(.ref a0)])) t
      refine XS.dup X112.here hx rfl (hb hby d7_50) rfl rfl ?_
      exact k
    refine OFin.go sg125 ?_
    obtain ⟨T126, X126, e126, st126⟩ := getF X112 hx hZ hown (host := "") (Or.inl (hw _ (List.mem_of_getElem? (i := 26) rfl))) Via.refl e112 ((F2.other W110 (Or.inr (slot_ne (Or.inl (hw _ (List.mem_of_getElem? (i := 27) rfl))) (Or.inl (hw _ (List.mem_of_getElem? (i := 58) rfl))) (by decide) (t := .int) (t' := .long) (by decide) (by decide)))).other W112 (Or.inr (slot_ne (Or.inl (hw _ (List.mem_of_getElem? (i := 27) rfl))) (Or.inl (hw _ (List.mem_of_getElem? (i := 29) rfl))) (by decide) (t := .int) (t' := .boolean) (by decide) (by decide)))) (g := (mkF m 51 #[.val (.ref a0), .val (.int q1)] [(.ref a0), (.ref a0)])) rfl rfl (hb hby d7_51)
    refine OFin.go st126 ?_
    have sg127 : ∀ t, Steps p.tables e below (T126.setTop (mkF m 56 #[.val (.ref a0), .val (.int q1)] [(.int (c9 + (1 : Int32))), (.ref a0)])) t → Steps p.tables e below (T126.setTop (mkF m 54 #[.val (.ref a0), .val (.int q1)] [(.int c9), (.ref a0)])) t := by
      intro t k
      show Steps p.tables e below (T126.setTop (mkF m 54 #[.val (.ref a0), .val (.int q1)] [(.int c9), (.ref a0)])) t
      refine XS.iconst X126.here hx rfl (hb hby d7_54) ?_
      show Steps p.tables e below (T126.setTop (mkF m 55 #[.val (.ref a0), .val (.int q1)] [(.int (1 : Int32)), (.int c9), (.ref a0)])) t
      refine XS.iadd X126.here hx rfl (hb hby d7_55) rfl ?_
      exact k
    refine OFin.go sg127 ?_
    obtain ⟨T128, h128, X128, e128, W128, st128⟩ := putF X126 hx hZ hown (host := "") (Or.inl (hw _ (List.mem_of_getElem? (i := 26) rfl))) Via.refl e126 ((F2.other W110 (Or.inr (slot_ne (Or.inl (hw _ (List.mem_of_getElem? (i := 27) rfl))) (Or.inl (hw _ (List.mem_of_getElem? (i := 58) rfl))) (by decide) (t := .int) (t' := .long) (by decide) (by decide)))).other W112 (Or.inr (slot_ne (Or.inl (hw _ (List.mem_of_getElem? (i := 27) rfl))) (Or.inl (hw _ (List.mem_of_getElem? (i := 29) rfl))) (by decide) (t := .int) (t' := .boolean) (by decide) (by decide)))) ((E1.wr W110).wr W112) (Or.inl (hw _ (List.mem_of_getElem? (i := 27) rfl))) (hw _ (List.mem_of_getElem? (i := 6) rfl)) (ty := .int) (by decide) rfl rfl (g := (mkF m 56 #[.val (.ref a0), .val (.int q1)] [(.int (c9 + (1 : Int32))), (.ref a0)])) rfl rfl (hb hby d7_56)
    refine OFin.go st128 ?_
    have F128 := ((F2.other W110 (Or.inr (slot_ne (Or.inl (hw _ (List.mem_of_getElem? (i := 27) rfl))) (Or.inl (hw _ (List.mem_of_getElem? (i := 58) rfl))) (by decide) (t := .int) (t' := .long) (by decide) (by decide)))).other W112 (Or.inr (slot_ne (Or.inl (hw _ (List.mem_of_getElem? (i := 27) rfl))) (Or.inl (hw _ (List.mem_of_getElem? (i := 29) rfl))) (by decide) (t := .int) (t' := .boolean) (by decide) (by decide)))).same W128
    have K128 : Keep h0 h128 [a0] := K112.wr W128 (Or.inl (List.mem_of_getElem? (i := 0) rfl))
    have N128 := Fr.snoc X128 N112 g_a0
    exact OFin.retV X128 hx hret hlk (hb hby d7_59) (by rw [e128]; exact ⟨rfl, N128, K128, (by have q : ((.int (if q1 = (10 : Int32) then (l9 + (1 : Int32)) else l9)) : Value) = (.int l9) := (by first | rfl | (simp [c114]; done) | (simp_all; done)); rw [q]; exact (((F1.other W110 (Or.inr (slot_ne (Or.inl (hw _ (List.mem_of_getElem? (i := 25) rfl))) (Or.inl (hw _ (List.mem_of_getElem? (i := 58) rfl))) (by decide) (t := .int) (t' := .long) (by decide) (by decide)))).other W112 (Or.inr (slot_ne (Or.inl (hw _ (List.mem_of_getElem? (i := 25) rfl))) (Or.inl (hw _ (List.mem_of_getElem? (i := 29) rfl))) (by decide) (t := .int) (t' := .boolean) (by decide) (by decide)))).other W128 (Or.inr (slot_ne (Or.inl (hw _ (List.mem_of_getElem? (i := 25) rfl))) (Or.inl (hw _ (List.mem_of_getElem? (i := 27) rfl))) (by decide) (t := .int) (t' := .int) (by decide) (by decide))))), (by have q : ((.int (if q1 = (10 : Int32) then (1 : Int32) else (c9 + (1 : Int32)))) : Value) = (.int (c9 + (1 : Int32))) := (by first | rfl | (simp [c114]; done) | (simp_all; done)); rw [q]; exact F128), (F112.other W128 (Or.inr (slot_ne (Or.inl (hw _ (List.mem_of_getElem? (i := 29) rfl))) (Or.inl (hw _ (List.mem_of_getElem? (i := 27) rfl))) (by decide) (t := .boolean) (t' := .int) (by decide) (by decide)))), (((F5.other W110 (Or.inr (slot_ne (Or.inr (hw _ (List.mem_of_getElem? (i := 33) rfl))) (Or.inl (hw _ (List.mem_of_getElem? (i := 58) rfl))) (by decide) (t := .long) (t' := .long) (by decide) (by decide)))).other W112 (Or.inr (slot_ne (Or.inr (hw _ (List.mem_of_getElem? (i := 33) rfl))) (Or.inl (hw _ (List.mem_of_getElem? (i := 29) rfl))) (by decide) (t := .long) (t' := .boolean) (by decide) (by decide)))).other W128 (Or.inr (slot_ne (Or.inr (hw _ (List.mem_of_getElem? (i := 33) rfl))) (Or.inl (hw _ (List.mem_of_getElem? (i := 27) rfl))) (by decide) (t := .long) (t' := .int) (by decide) (by decide)))), ((F110.other W112 (Or.inr (slot_ne (Or.inl (hw _ (List.mem_of_getElem? (i := 58) rfl))) (Or.inl (hw _ (List.mem_of_getElem? (i := 29) rfl))) (by decide) (t := .long) (t' := .boolean) (by decide) (by decide)))).other W128 (Or.inr (slot_ne (Or.inl (hw _ (List.mem_of_getElem? (i := 58) rfl))) (Or.inl (hw _ (List.mem_of_getElem? (i := 27) rfl))) (by decide) (t := .long) (t' := .int) (by decide) (by decide))))⟩) (by decide) (by decide)
theorem d4_0 : decode prog_227_method_3_code 0 = .ok (.aload_n 0, 1) := by decide +kernel
theorem d4_1 : decode prog_227_method_3_code 1 = .ok (.getfield 23, 3) := by decide +kernel
theorem d4_4 : decode prog_227_method_3_code 4 = .ok (.ifCond .eq 16, 3) := by decide +kernel
theorem d4_7 : decode prog_227_method_3_code 7 = .ok (.iload_n 1, 1) := by decide +kernel
theorem d4_8 : decode prog_227_method_3_code 8 = .ok (.ldc 38, 2) := by decide +kernel
theorem d4_10 : decode prog_227_method_3_code 10 = .ok (.if_icmp .ne 10, 3) := by decide +kernel
theorem d4_13 : decode prog_227_method_3_code 13 = .ok (.aload_n 0, 1) := by decide +kernel
theorem d4_14 : decode prog_227_method_3_code 14 = .ok (.iconst 0, 1) := by decide +kernel
theorem d4_15 : decode prog_227_method_3_code 15 = .ok (.putfield 23, 3) := by decide +kernel
theorem d4_18 : decode prog_227_method_3_code 18 = .ok (.iconst 1, 1) := by decide +kernel
theorem d4_19 : decode prog_227_method_3_code 19 = .ok (.ireturn, 1) := by decide +kernel
theorem d4_20 : decode prog_227_method_3_code 20 = .ok (.iconst 0, 1) := by decide +kernel
theorem d4_21 : decode prog_227_method_3_code 21 = .ok (.ireturn, 1) := by decide +kernel
theorem ef_4 (m : MethodId) (x0 : Addr) (x1 : Int32) : entryFrame m #[(.ref x0), (.int x1)] 2 = mkF m 0 #[.val (.ref x0), .val (.int x1)] [] := by first | (simp [entryFrame, mkF, argsToLocals, Value.category]; done) | rfl
def Q4 (Z : State) (a0 : Addr) (q1 : Int32) (l9 : Int32) (c9 : Int32) (s9 : Int32) (mx9 : Int64) (ch9 : Int64) (h0 : Heap) (n0 : Nat) (v : Option Value) (h : Heap) (L : List Loc) : Prop := v = some (.int (if s9 = (0 : Int32) then (0 : Int32) else (if q1 = (65279 : Int32) then (1 : Int32) else (0 : Int32)))) ∧ Fr n0 L ∧ Keep h0 h [a0] ∧ Fld Z h a0 "org/counterpath/text/LineColumn" "_line" "I" (.int l9) ∧ Fld Z h a0 "org/counterpath/text/LineColumn" "_column" "I" (.int c9) ∧ Fld Z h a0 "org/counterpath/text/LineColumn" "_atStart" "Z" (.int (if s9 = (0 : Int32) then s9 else (if q1 = (65279 : Int32) then (0 : Int32) else s9))) ∧ Fld Z h a0 "org/counterpath/text/LineColumn" "_maxCharacters" "J" (.long mx9) ∧ Fld Z h a0 "org/counterpath/text/LineColumn" "_characters" "J" (.long ch9)
set_option maxHeartbeats 40000000 in
theorem rm4 (l : Launch) (Z : State) (aZ : Array Value) (hw : ∀ d ∈ tables_1, d.before aZ Z = true) (ws : List Jvm.Cond) (a0 : Addr) (q1 : Int32) (l9 : Int32) (c9 : Int32) (s9 : Int32) (mx9 : Int64) (ch9 : Int64) (h0 : Heap) (n0 : Nat) (Z0 : n0 ≤ h0.size) (E1 : Exa Z h0 a0 "org/counterpath/text/LineColumn") (F1 : Fld Z h0 a0 "org/counterpath/text/LineColumn" "_line" "I" (.int l9)) (F2 : Fld Z h0 a0 "org/counterpath/text/LineColumn" "_column" "I" (.int c9)) (F3 : Fld Z h0 a0 "org/counterpath/text/LineColumn" "_atStart" "Z" (.int s9)) (F5 : Fld Z h0 a0 "org/counterpath/text/LineColumn" "_maxCharacters" "J" (.long mx9)) (F7 : Fld Z h0 a0 "org/counterpath/text/LineColumn" "_characters" "J" (.long ch9)) (g_a0 : n0 ≤ a0) :
    MetFree l (⟨"org/counterpath/text/LineColumn", "skips", "(I)Z"⟩ : MethodName) (head1 (Jvm.Cond.code (⟨"org/counterpath/text/LineColumn", "skips", "(I)Z"⟩ : MethodName) prog_227_method_3_code 2 (some .boolean) :: ws) ({ frames := 0, cells := 0, slots := 0, locals := 0 } : Room)) (fun a U => a = #[(.ref a0), (.int q1)] ∧ Z.Warmed39 U.vm ∧ U.heap = h0) (fun _ _ _ _ _ => True) (fun _ U o U' => ∃ v L, o = .returned v ∧ Q4 Z a0 q1 l9 c9 s9 mx9 ch9 h0 n0 v U'.heap L ∧ FrameEnd U o U' L ({ frames := 0, cells := 0, slots := 0, locals := 0 } : Room).cells ({ frames := 0, cells := 0, slots := 0, locals := 0 } : Room).slots) := by
  refine MetFree.of_bodySF (plainFor_of_name pn_1) hisR ?_
  intro p e s m args below meth c s₁ Bd hml0 hP hK
  obtain ⟨rfl, hZ, hh⟩ := hP
  have hx := Bd.exec
  have hby := Bd.bytes
  have hret := Bd.returns
  have hlk : meth.locks = false := BodyLoose.notSynchronized Bd
  have hml : c.maxLocals = 2 := hml0
  have hown : s.vm.findClass "org/counterpath/text/LineColumn" = some m.cls := findClass_of_methodNamed Bd.named
  have hnm := (name_of_methodNamed Bd.named Bd.method).1
  have X0 : Stand p l e ({ frames := 0, cells := 0, slots := 0, locals := 0 } : Room) s m #[(.ref a0), (.int q1)] below meth c s₁ [] 0 0 := Stand.of_body Bd
  have e0 : s₁.heap = h0 := by rw [← hh, Bd.state]; rfl
  have N0 := Fr.nil n0
  have K0 : Keep h0 h0 [a0] := Keep.refl _ _
  have pre0 : ∀ t, Steps p.tables e below (s₁.setTop (mkF m 0 #[.val (.ref a0), .val (.int q1)] [])) t → Steps p.tables e below (s₁.setTop (entryFrame m #[(.ref a0), (.int q1)] 2)) t := fun t k => castTop (ef_4 m a0 q1) k
  show OFin p e below s (Q4 Z a0 q1 l9 c9 s9 mx9 ch9 h0 n0) ({ frames := 0, cells := 0, slots := 0, locals := 0 } : Room).cells ({ frames := 0, cells := 0, slots := 0, locals := 0 } : Room).slots _
  refine OFin.go pre0 ?_
  have sg101 : ∀ t, Steps p.tables e below (s₁.setTop (mkF m 1 #[.val (.ref a0), .val (.int q1)] [(.ref a0)])) t → Steps p.tables e below (s₁.setTop (mkF m 0 #[.val (.ref a0), .val (.int q1)] [])) t := by
    intro t k
    show Steps p.tables e below (s₁.setTop (mkF m 0 #[.val (.ref a0), .val (.int q1)] [])) t
    refine XS.aloadN X0.here hx rfl (hb hby d4_0) rfl rfl ?_
    exact k
  refine OFin.go sg101 ?_
  obtain ⟨T102, X102, e102, st102⟩ := getF X0 hx hZ hown (host := "") (Or.inl (hw _ (List.mem_of_getElem? (i := 28) rfl))) Via.refl e0 F3 (g := (mkF m 1 #[.val (.ref a0), .val (.int q1)] [(.ref a0)])) rfl rfl (hb hby d4_1)
  refine OFin.go st102 ?_
  by_cases c103 : s9 = (0 : Int32)
  · have sg104 : ∀ t, Steps p.tables e below (T102.setTop (mkF m 21 #[.val (.ref a0), .val (.int q1)] [(.int (0 : Int32))])) t → Steps p.tables e below (T102.setTop (mkF m 4 #[.val (.ref a0), .val (.int q1)] [(.int s9)])) t := by
      intro t k
      show Steps p.tables e below (T102.setTop (mkF m 4 #[.val (.ref a0), .val (.int q1)] [(.int s9)])) t
      refine XS.ifYes X102.here hx rfl (pc0 := 4) (pc' := 20) rfl (hb hby d4_4) rfl ((if0 _ _).trans (teq c103).1) (by decide) (by decide) ?_
      show Steps p.tables e below (T102.setTop (mkF m 20 #[.val (.ref a0), .val (.int q1)] [])) t
      refine XS.iconst X102.here hx rfl (hb hby d4_20) ?_
      exact k
    refine OFin.go sg104 ?_
    exact OFin.retN X102 hx hret (by simp) hlk (hb hby d4_21) rfl (by rw [e102]; exact ⟨(congrArg (fun z => some (Value.int z)) ((by first | rfl | (simp [c103]; done) | (simp_all; done)) : (0 : Int32) = (if s9 = (0 : Int32) then (0 : Int32) else (if q1 = (65279 : Int32) then (1 : Int32) else (0 : Int32))))), N0, K0, F1, F2, (by have q : ((.int (if s9 = (0 : Int32) then s9 else (if q1 = (65279 : Int32) then (0 : Int32) else s9))) : Value) = (.int s9) := (by first | rfl | (simp [c103]; done) | (simp_all; done)); rw [q]; exact F3), F5, F7⟩) (by decide) (by decide)
  · have sg105 : ∀ t, Steps p.tables e below (T102.setTop (mkF m 10 #[.val (.ref a0), .val (.int q1)] [(.int (65279 : Int32)), (.int q1)])) t → Steps p.tables e below (T102.setTop (mkF m 4 #[.val (.ref a0), .val (.int q1)] [(.int s9)])) t := by
      intro t k
      show Steps p.tables e below (T102.setTop (mkF m 4 #[.val (.ref a0), .val (.int q1)] [(.int s9)])) t
      refine XS.ifNo X102.here hx rfl (hb hby d4_4) rfl ((if0 _ _).trans (feq c103).1) ?_
      show Steps p.tables e below (T102.setTop (mkF m 7 #[.val (.ref a0), .val (.int q1)] [])) t
      refine XS.iloadN X102.here hx rfl (hb hby d4_7) rfl ?_
      show Steps p.tables e below (T102.setTop (mkF m 8 #[.val (.ref a0), .val (.int q1)] [(.int q1)])) t
      refine X102.ldcInt hx hown (mvT hZ (hw _ (List.mem_of_getElem? (i := 41) rfl))) (g := (mkF m 8 #[.val (.ref a0), .val (.int q1)] [(.int q1)])) rfl (hb hby d4_8) _ ?_
      exact k
    refine OFin.go sg105 ?_
    by_cases c106 : q1 = (65279 : Int32)
    · have sg107 : ∀ t, Steps p.tables e below (T102.setTop (mkF m 15 #[.val (.ref a0), .val (.int q1)] [(.int (0 : Int32)), (.ref a0)])) t → Steps p.tables e below (T102.setTop (mkF m 10 #[.val (.ref a0), .val (.int q1)] [(.int (65279 : Int32)), (.int q1)])) t := by
        intro t k
        show Steps p.tables e below (T102.setTop (mkF m 10 #[.val (.ref a0), .val (.int q1)] [(.int (65279 : Int32)), (.int q1)])) t
        refine XS.icmpNo X102.here hx rfl (hb hby d4_10) rfl (teq c106).2 ?_
        show Steps p.tables e below (T102.setTop (mkF m 13 #[.val (.ref a0), .val (.int q1)] [])) t
        refine XS.aloadN X102.here hx rfl (hb hby d4_13) rfl rfl ?_
        show Steps p.tables e below (T102.setTop (mkF m 14 #[.val (.ref a0), .val (.int q1)] [(.ref a0)])) t
        refine XS.iconst X102.here hx rfl (hb hby d4_14) ?_
        exact k
      refine OFin.go sg107 ?_
      obtain ⟨T108, h108, X108, e108, W108, st108⟩ := putFN X102 hx hZ hown (hw _ (List.mem_of_getElem? (i := 28) rfl)) Via.refl e102 F3 E1 (Or.inl (hw _ (List.mem_of_getElem? (i := 29) rfl))) (hw _ (List.mem_of_getElem? (i := 6) rfl)) (ty := .boolean) (v' := (.int (0 : Int32))) (by decide) rfl rfl (g := (mkF m 15 #[.val (.ref a0), .val (.int q1)] [(.int (0 : Int32)), (.ref a0)])) rfl rfl (hb hby d4_15)
      refine OFin.go st108 ?_
      have F108 := F3.same W108
      have K108 : Keep h0 h108 [a0] := K0.wr W108 (Or.inl (List.mem_of_getElem? (i := 0) rfl))
      have N108 := Fr.snoc X108 N0 g_a0
      have sg109 : ∀ t, Steps p.tables e below (T108.setTop (mkF m 19 #[.val (.ref a0), .val (.int q1)] [(.int (1 : Int32))])) t → Steps p.tables e below (T108.setTop (mkF m 18 #[.val (.ref a0), .val (.int q1)] [])) t := by
        intro t k
        show Steps p.tables e below (T108.setTop (mkF m 18 #[.val (.ref a0), .val (.int q1)] [])) t
        refine XS.iconst X108.here hx rfl (hb hby d4_18) ?_
        exact k
      refine OFin.go sg109 ?_
      exact OFin.retN X108 hx hret (by simp) hlk (hb hby d4_19) rfl (by rw [e108]; exact ⟨(congrArg (fun z => some (Value.int z)) ((by first | rfl | (simp [c103, c106]; done) | (simp_all; done)) : (1 : Int32) = (if s9 = (0 : Int32) then (0 : Int32) else (if q1 = (65279 : Int32) then (1 : Int32) else (0 : Int32))))), N108, K108, (F1.other W108 (Or.inr (slot_ne (Or.inl (hw _ (List.mem_of_getElem? (i := 25) rfl))) (Or.inl (hw _ (List.mem_of_getElem? (i := 29) rfl))) (by decide) (t := .int) (t' := .boolean) (by decide) (by decide)))), (F2.other W108 (Or.inr (slot_ne (Or.inl (hw _ (List.mem_of_getElem? (i := 27) rfl))) (Or.inl (hw _ (List.mem_of_getElem? (i := 29) rfl))) (by decide) (t := .int) (t' := .boolean) (by decide) (by decide)))), (by have q : ((.int (if s9 = (0 : Int32) then s9 else (if q1 = (65279 : Int32) then (0 : Int32) else s9))) : Value) = (.int (0 : Int32)) := (by first | rfl | (simp [c103, c106]; done) | (simp_all; done)); rw [q]; exact F108), (F5.other W108 (Or.inr (slot_ne (Or.inr (hw _ (List.mem_of_getElem? (i := 33) rfl))) (Or.inl (hw _ (List.mem_of_getElem? (i := 29) rfl))) (by decide) (t := .long) (t' := .boolean) (by decide) (by decide)))), (F7.other W108 (Or.inr (slot_ne (Or.inl (hw _ (List.mem_of_getElem? (i := 58) rfl))) (Or.inl (hw _ (List.mem_of_getElem? (i := 29) rfl))) (by decide) (t := .long) (t' := .boolean) (by decide) (by decide))))⟩) (by decide) (by decide)
    · have sg110 : ∀ t, Steps p.tables e below (T102.setTop (mkF m 21 #[.val (.ref a0), .val (.int q1)] [(.int (0 : Int32))])) t → Steps p.tables e below (T102.setTop (mkF m 10 #[.val (.ref a0), .val (.int q1)] [(.int (65279 : Int32)), (.int q1)])) t := by
        intro t k
        show Steps p.tables e below (T102.setTop (mkF m 10 #[.val (.ref a0), .val (.int q1)] [(.int (65279 : Int32)), (.int q1)])) t
        refine XS.icmpYes X102.here hx rfl (pc0 := 10) (pc' := 20) rfl (hb hby d4_10) rfl (feq c106).2 (by decide) (by decide) ?_
        show Steps p.tables e below (T102.setTop (mkF m 20 #[.val (.ref a0), .val (.int q1)] [])) t
        refine XS.iconst X102.here hx rfl (hb hby d4_20) ?_
        exact k
      refine OFin.go sg110 ?_
      exact OFin.retN X102 hx hret (by simp) hlk (hb hby d4_21) rfl (by rw [e102]; exact ⟨(congrArg (fun z => some (Value.int z)) ((by first | rfl | (simp [c103, c106]; done) | (simp_all; done)) : (0 : Int32) = (if s9 = (0 : Int32) then (0 : Int32) else (if q1 = (65279 : Int32) then (1 : Int32) else (0 : Int32))))), N0, K0, F1, F2, (by have q : ((.int (if s9 = (0 : Int32) then s9 else (if q1 = (65279 : Int32) then (0 : Int32) else s9))) : Value) = (.int s9) := (by first | rfl | (simp [c103, c106]; done) | (simp_all; done)); rw [q]; exact F3), F5, F7⟩) (by decide) (by decide)
theorem d5_0 : decode prog_227_method_5_code 0 = .ok (.aload_n 0, 1) := by decide +kernel
theorem d5_1 : decode prog_227_method_5_code 1 = .ok (.getfield 16, 3) := by decide +kernel
theorem d5_4 : decode prog_227_method_5_code 4 = .ok (.ireturn, 1) := by decide +kernel
theorem ef_5 (m : MethodId) (x0 : Addr) : entryFrame m #[(.ref x0)] 1 = mkF m 0 #[.val (.ref x0)] [] := by first | (simp [entryFrame, mkF, argsToLocals, Value.category]; done) | rfl
def Q5 (Z : State) (a0 : Addr) (w9 : Int32) (h0 : Heap) (n0 : Nat) (v : Option Value) (h : Heap) (L : List Loc) : Prop := v = some (.int w9) ∧ Fr n0 L ∧ h = h0
set_option maxHeartbeats 40000000 in
theorem rm5 (l : Launch) (Z : State) (aZ : Array Value) (hw : ∀ d ∈ tables_1, d.before aZ Z = true) (ws : List Jvm.Cond) (a0 : Addr) (w9 : Int32) (h0 : Heap) (n0 : Nat) (Z0 : n0 ≤ h0.size) (F1 : Fld Z h0 a0 "org/counterpath/text/LineColumn" "_line" "I" (.int w9)) :
    MetFree l (⟨"org/counterpath/text/LineColumn", "line", "()I"⟩ : MethodName) (head1 (Jvm.Cond.code (⟨"org/counterpath/text/LineColumn", "line", "()I"⟩ : MethodName) prog_227_method_5_code 1 (some .int) :: ws) ({ frames := 0, cells := 0, slots := 0, locals := 0 } : Room)) (fun a U => a = #[(.ref a0)] ∧ Z.Warmed39 U.vm ∧ U.heap = h0) (fun _ _ _ _ _ => True) (fun _ U o U' => ∃ v L, o = .returned v ∧ Q5 Z a0 w9 h0 n0 v U'.heap L ∧ FrameEnd U o U' L ({ frames := 0, cells := 0, slots := 0, locals := 0 } : Room).cells ({ frames := 0, cells := 0, slots := 0, locals := 0 } : Room).slots) := by
  refine MetFree.of_bodySF (plainFor_of_name pn_1) hisR ?_
  intro p e s m args below meth c s₁ Bd hml0 hP hK
  obtain ⟨rfl, hZ, hh⟩ := hP
  have hx := Bd.exec
  have hby := Bd.bytes
  have hret := Bd.returns
  have hlk : meth.locks = false := BodyLoose.notSynchronized Bd
  have hml : c.maxLocals = 1 := hml0
  have hown : s.vm.findClass "org/counterpath/text/LineColumn" = some m.cls := findClass_of_methodNamed Bd.named
  have hnm := (name_of_methodNamed Bd.named Bd.method).1
  have X0 : Stand p l e ({ frames := 0, cells := 0, slots := 0, locals := 0 } : Room) s m #[(.ref a0)] below meth c s₁ [] 0 0 := Stand.of_body Bd
  have e0 : s₁.heap = h0 := by rw [← hh, Bd.state]; rfl
  have N0 := Fr.nil n0
  have K0 : Keep h0 h0 [] := Keep.refl _ _
  have pre0 : ∀ t, Steps p.tables e below (s₁.setTop (mkF m 0 #[.val (.ref a0)] [])) t → Steps p.tables e below (s₁.setTop (entryFrame m #[(.ref a0)] 1)) t := fun t k => castTop (ef_5 m a0) k
  show OFin p e below s (Q5 Z a0 w9 h0 n0) ({ frames := 0, cells := 0, slots := 0, locals := 0 } : Room).cells ({ frames := 0, cells := 0, slots := 0, locals := 0 } : Room).slots _
  refine OFin.go pre0 ?_
  have sg101 : ∀ t, Steps p.tables e below (s₁.setTop (mkF m 1 #[.val (.ref a0)] [(.ref a0)])) t → Steps p.tables e below (s₁.setTop (mkF m 0 #[.val (.ref a0)] [])) t := by
    intro t k
    show Steps p.tables e below (s₁.setTop (mkF m 0 #[.val (.ref a0)] [])) t
    refine XS.aloadN X0.here hx rfl (hb hby d5_0) rfl rfl ?_
    exact k
  refine OFin.go sg101 ?_
  obtain ⟨T102, X102, e102, st102⟩ := getF X0 hx hZ hown (host := "") (Or.inl (hw _ (List.mem_of_getElem? (i := 24) rfl))) Via.refl e0 F1 (g := (mkF m 1 #[.val (.ref a0)] [(.ref a0)])) rfl rfl (hb hby d5_1)
  refine OFin.go st102 ?_
  exact OFin.retI X102 hx hret hlk (hb hby d5_4) (by rw [e102]; exact ⟨rfl, N0, rfl⟩) (by decide) (by decide)
theorem d6_0 : decode prog_227_method_6_code 0 = .ok (.aload_n 0, 1) := by decide +kernel
theorem d6_1 : decode prog_227_method_6_code 1 = .ok (.getfield 20, 3) := by decide +kernel
theorem d6_4 : decode prog_227_method_6_code 4 = .ok (.ireturn, 1) := by decide +kernel
theorem ef_6 (m : MethodId) (x0 : Addr) : entryFrame m #[(.ref x0)] 1 = mkF m 0 #[.val (.ref x0)] [] := by first | (simp [entryFrame, mkF, argsToLocals, Value.category]; done) | rfl
def Q6 (Z : State) (a0 : Addr) (w9 : Int32) (h0 : Heap) (n0 : Nat) (v : Option Value) (h : Heap) (L : List Loc) : Prop := v = some (.int w9) ∧ Fr n0 L ∧ h = h0
set_option maxHeartbeats 40000000 in
theorem rm6 (l : Launch) (Z : State) (aZ : Array Value) (hw : ∀ d ∈ tables_1, d.before aZ Z = true) (ws : List Jvm.Cond) (a0 : Addr) (w9 : Int32) (h0 : Heap) (n0 : Nat) (Z0 : n0 ≤ h0.size) (F1 : Fld Z h0 a0 "org/counterpath/text/LineColumn" "_column" "I" (.int w9)) :
    MetFree l (⟨"org/counterpath/text/LineColumn", "column", "()I"⟩ : MethodName) (head1 (Jvm.Cond.code (⟨"org/counterpath/text/LineColumn", "column", "()I"⟩ : MethodName) prog_227_method_6_code 1 (some .int) :: ws) ({ frames := 0, cells := 0, slots := 0, locals := 0 } : Room)) (fun a U => a = #[(.ref a0)] ∧ Z.Warmed39 U.vm ∧ U.heap = h0) (fun _ _ _ _ _ => True) (fun _ U o U' => ∃ v L, o = .returned v ∧ Q6 Z a0 w9 h0 n0 v U'.heap L ∧ FrameEnd U o U' L ({ frames := 0, cells := 0, slots := 0, locals := 0 } : Room).cells ({ frames := 0, cells := 0, slots := 0, locals := 0 } : Room).slots) := by
  refine MetFree.of_bodySF (plainFor_of_name pn_1) hisR ?_
  intro p e s m args below meth c s₁ Bd hml0 hP hK
  obtain ⟨rfl, hZ, hh⟩ := hP
  have hx := Bd.exec
  have hby := Bd.bytes
  have hret := Bd.returns
  have hlk : meth.locks = false := BodyLoose.notSynchronized Bd
  have hml : c.maxLocals = 1 := hml0
  have hown : s.vm.findClass "org/counterpath/text/LineColumn" = some m.cls := findClass_of_methodNamed Bd.named
  have hnm := (name_of_methodNamed Bd.named Bd.method).1
  have X0 : Stand p l e ({ frames := 0, cells := 0, slots := 0, locals := 0 } : Room) s m #[(.ref a0)] below meth c s₁ [] 0 0 := Stand.of_body Bd
  have e0 : s₁.heap = h0 := by rw [← hh, Bd.state]; rfl
  have N0 := Fr.nil n0
  have K0 : Keep h0 h0 [] := Keep.refl _ _
  have pre0 : ∀ t, Steps p.tables e below (s₁.setTop (mkF m 0 #[.val (.ref a0)] [])) t → Steps p.tables e below (s₁.setTop (entryFrame m #[(.ref a0)] 1)) t := fun t k => castTop (ef_6 m a0) k
  show OFin p e below s (Q6 Z a0 w9 h0 n0) ({ frames := 0, cells := 0, slots := 0, locals := 0 } : Room).cells ({ frames := 0, cells := 0, slots := 0, locals := 0 } : Room).slots _
  refine OFin.go pre0 ?_
  have sg101 : ∀ t, Steps p.tables e below (s₁.setTop (mkF m 1 #[.val (.ref a0)] [(.ref a0)])) t → Steps p.tables e below (s₁.setTop (mkF m 0 #[.val (.ref a0)] [])) t := by
    intro t k
    show Steps p.tables e below (s₁.setTop (mkF m 0 #[.val (.ref a0)] [])) t
    refine XS.aloadN X0.here hx rfl (hb hby d6_0) rfl rfl ?_
    exact k
  refine OFin.go sg101 ?_
  obtain ⟨T102, X102, e102, st102⟩ := getF X0 hx hZ hown (host := "") (Or.inl (hw _ (List.mem_of_getElem? (i := 26) rfl))) Via.refl e0 F1 (g := (mkF m 1 #[.val (.ref a0)] [(.ref a0)])) rfl rfl (hb hby d6_1)
  refine OFin.go st102 ?_
  exact OFin.retI X102 hx hret hlk (hb hby d6_4) (by rw [e102]; exact ⟨rfl, N0, rfl⟩) (by decide) (by decide)
theorem own_two (s n m : Int32) (u v w : Int32) (hu : u = s) (hv : v = (if u = (0 : Int32) then (0 : Int32) else (if n = (65279 : Int32) then (1 : Int32) else (0 : Int32)))) (hw : w = (if u = (0 : Int32) then (0 : Int32) else (if v = (0 : Int32) then (if m = (65279 : Int32) then (1 : Int32) else (0 : Int32)) else (0 : Int32)))) :
    (if (if s = (0 : Int32) then s else (if n = (65279 : Int32) then (0 : Int32) else s)) = (0 : Int32) then (0 : Int32) else (if m = (65279 : Int32) then (1 : Int32) else (0 : Int32))) = w := by
  subst hu hv hw
  by_cases a : u = 0
  · simp [a]
  · by_cases b : n = 65279
    · simp [a, b]
    · simp [a, b]
theorem ef_0 (m : MethodId) (x0 : Int32) (x1 : Int32) (x2 : Int32) (x3 : Int32) (x4 : Int32) : entryFrame m #[(.int x0), (.int x1), (.int x2), (.int x3), (.int x4)] maxLocals = mkF m 0 #[.val (.int x0), .val (.int x1), .val (.int x2), .val (.int x3), .val (.int x4), .unset, .unset, .unset, .unset, .unset, .unset, .unset, .unset, .unset, .unset, .unset, .unset, .unset, .unset, .unset] [] := by first | (simp [entryFrame, mkF, argsToLocals, Value.category, maxLocals]; done) | rfl
def Q0 (Z : State) (q0 : Int32) (q1 : Int32) (q2 : Int32) (q3 : Int32) (q4 : Int32) (h0 : Heap) (n0 : Nat) (v : Option Value) (h : Heap) (L : List Loc) : Prop := v = some (.int (1 : Int32)) ∧ Fr n0 L
theorem pd_0 : parseMethodDescriptor "(I)Z" = some ⟨[.int], some .boolean⟩ := by decide +kernel
theorem pd_1 : parseMethodDescriptor "()I" = some ⟨[], some .int⟩ := by decide +kernel
theorem pd_2 : parseMethodDescriptor "(C)V" = some ⟨[.char], none⟩ := by decide +kernel
set_option maxHeartbeats 40000000 in
theorem pt0_113 {p : Program} {l : Launch} {e : Env} {s : State} {vm0 : Vm} {m : MethodId} {below : List Frame} {meth : Method} {c : Code} {T0 : State} {locs : List Loc} (Z : State) (aZ : Array Value) (hw : ∀ d ∈ tables_1, d.before aZ Z = true) (q0 : Int32) (q1 : Int32) (q2 : Int32) (q3 : Int32) (q4 : Int32) (h0 : Heap) (n0 : Nat) (Z0 : n0 ≤ h0.size) (tf : Int32) (na : Int32) (nb : Int32) (cc : Int32) (dd : Int32) (o9 : Addr) (l0 : Int32) (c0 : Int32) (l9 : Int32) (c9 : Int32) (s9 : Int32) (mx9 : Int64) (ch9 : Int64) (hC : Heap)
    (X0 : Stand p l e room_1 (s.setVm vm0) m #[(.int q0), (.int q1), (.int q2), (.int q3), (.int q4)] below meth c T0 locs 5 23) (hx : p.tables.exec = Jvm.exec) (hZ : Z.Warmed39 (s.setVm vm0).vm) (hby : c.code = code) (hml : c.maxLocals = 20) (hown : (s.setVm vm0).vm.findClass "org/counterpath/text/LineColumnSkipsPinLaw" = some m.cls) (hnm : meth.name = "law") {k0 : Nat} (hS : s.Since vm0 k0) (hk : k0 ≤ hC.size) (hstr : ∀ a ∈ Bundle.stringAtoms, a.before aZ Z = true) (hret : meth.sig.returnType = some .boolean) (hlk : meth.locks = false) (e0 : T0.heap = hC) (K0 : Keep h0 hC []) (N0 : Fr n0 locs) (OC : Old Z n0 hC) (g_o9 : n0 ≤ o9) (sz_o9 : h0.size ≤ o9) (E1 : Exa Z hC o9 "org/counterpath/text/LineColumn") (F1 : Fld Z hC o9 "org/counterpath/text/LineColumn" "_line" "I" (.int l9)) (F2 : Fld Z hC o9 "org/counterpath/text/LineColumn" "_column" "I" (.int c9)) (F3 : Fld Z hC o9 "org/counterpath/text/LineColumn" "_atStart" "Z" (.int s9)) (F5 : Fld Z hC o9 "org/counterpath/text/LineColumn" "_maxCharacters" "J" (.long mx9)) (F7 : Fld Z hC o9 "org/counterpath/text/LineColumn" "_characters" "J" (.long ch9)) (hl : l9 = l0) (hc : c9 = c0) (hs : s9 = (if tf = (0 : Int32) then (1 : Int32) else (0 : Int32))) (hch : ¬ (ch9 = mx9)) (hl3 : ¬ (l9 = (2147483647 : Int32))) :
    OFinW p e below s (Q0 Z q0 q1 q2 q3 q4 h0 n0) room_1.cells room_1.slots (T0.setTop (mkF m 113 #[.val (.int q0), .val (.int q1), .val (.int q2), .val (.int q3), .val (.int q4), .val (.int tf), .val (.int na), .val (.int nb), .val (.int cc), .val (.int dd), .val (.ref o9), .val (.int l0), .val (.int c0), .unset, .unset, .unset, .unset, .unset, .unset, .unset] [])) := by
  have sg103 : ∀ t, Steps p.tables e below (T0.setTop (mkF m 115 #[.val (.int q0), .val (.int q1), .val (.int q2), .val (.int q3), .val (.int q4), .val (.int tf), .val (.int na), .val (.int nb), .val (.int cc), .val (.int dd), .val (.ref o9), .val (.int l0), .val (.int c0), .unset, .unset, .unset, .unset, .unset, .unset, .unset] [(.int tf)])) t → Steps p.tables e below (T0.setTop (mkF m 113 #[.val (.int q0), .val (.int q1), .val (.int q2), .val (.int q3), .val (.int q4), .val (.int tf), .val (.int na), .val (.int nb), .val (.int cc), .val (.int dd), .val (.ref o9), .val (.int l0), .val (.int c0), .unset, .unset, .unset, .unset, .unset, .unset, .unset] [])) t := by
    intro t k
    show Steps p.tables e below (T0.setTop (mkF m 113 #[.val (.int q0), .val (.int q1), .val (.int q2), .val (.int q3), .val (.int q4), .val (.int tf), .val (.int na), .val (.int nb), .val (.int cc), .val (.int dd), .val (.ref o9), .val (.int l0), .val (.int c0), .unset, .unset, .unset, .unset, .unset, .unset, .unset] [])) t
    refine XS.iload X0.here hx rfl (hb hby at_113) rfl ?_
    exact k
  refine OFinW.go sg103 ?_
  obtain ⟨v102, e_v102⟩ : ∃ z : Int32, z = (if tf = (0 : Int32) then (1 : Int32) else (0 : Int32)) := ⟨_, rfl⟩
  have sg104 : ∀ t, Steps p.tables e below (T0.setTop (mkF m 123 #[.val (.int q0), .val (.int q1), .val (.int q2), .val (.int q3), .val (.int q4), .val (.int tf), .val (.int na), .val (.int nb), .val (.int cc), .val (.int dd), .val (.ref o9), .val (.int l0), .val (.int c0), .unset, .unset, .unset, .unset, .unset, .unset, .unset] [(.int v102)])) t → Steps p.tables e below (T0.setTop (mkF m 115 #[.val (.int q0), .val (.int q1), .val (.int q2), .val (.int q3), .val (.int q4), .val (.int tf), .val (.int na), .val (.int nb), .val (.int cc), .val (.int dd), .val (.ref o9), .val (.int l0), .val (.int c0), .unset, .unset, .unset, .unset, .unset, .unset, .unset] [(.int tf)])) t := by
    intro t k
    by_cases c101 : tf = (0 : Int32)
    · show Steps p.tables e below (T0.setTop (mkF m 115 #[.val (.int q0), .val (.int q1), .val (.int q2), .val (.int q3), .val (.int q4), .val (.int tf), .val (.int na), .val (.int nb), .val (.int cc), .val (.int dd), .val (.ref o9), .val (.int l0), .val (.int c0), .unset, .unset, .unset, .unset, .unset, .unset, .unset] [(.int tf)])) t
      refine XS.ifNo X0.here hx rfl (hb hby at_115) rfl ((if0 _ _).trans (teq c101).2) ?_
      show Steps p.tables e below (T0.setTop (mkF m 118 #[.val (.int q0), .val (.int q1), .val (.int q2), .val (.int q3), .val (.int q4), .val (.int tf), .val (.int na), .val (.int nb), .val (.int cc), .val (.int dd), .val (.ref o9), .val (.int l0), .val (.int c0), .unset, .unset, .unset, .unset, .unset, .unset, .unset] [])) t
      refine XS.iconst X0.here hx rfl (hb hby at_118) ?_
      show Steps p.tables e below (T0.setTop (mkF m 119 #[.val (.int q0), .val (.int q1), .val (.int q2), .val (.int q3), .val (.int q4), .val (.int tf), .val (.int na), .val (.int nb), .val (.int cc), .val (.int dd), .val (.ref o9), .val (.int l0), .val (.int c0), .unset, .unset, .unset, .unset, .unset, .unset, .unset] [(.int (1 : Int32))])) t
      refine XS.goto X0.here hx rfl (pc0 := 119) (pc' := 123) rfl (hb hby at_119) (by decide) (by decide) ?_
      have e_v102' := e_v102
      try rw [if_pos c101] at e_v102'
      subst e_v102'
      exact k
    · show Steps p.tables e below (T0.setTop (mkF m 115 #[.val (.int q0), .val (.int q1), .val (.int q2), .val (.int q3), .val (.int q4), .val (.int tf), .val (.int na), .val (.int nb), .val (.int cc), .val (.int dd), .val (.ref o9), .val (.int l0), .val (.int c0), .unset, .unset, .unset, .unset, .unset, .unset, .unset] [(.int tf)])) t
      refine XS.ifYes X0.here hx rfl (pc0 := 115) (pc' := 122) rfl (hb hby at_115) rfl ((if0 _ _).trans (feq c101).2) (by decide) (by decide) ?_
      show Steps p.tables e below (T0.setTop (mkF m 122 #[.val (.int q0), .val (.int q1), .val (.int q2), .val (.int q3), .val (.int q4), .val (.int tf), .val (.int na), .val (.int nb), .val (.int cc), .val (.int dd), .val (.ref o9), .val (.int l0), .val (.int c0), .unset, .unset, .unset, .unset, .unset, .unset, .unset] [])) t
      refine XS.iconst X0.here hx rfl (hb hby at_122) ?_
      have e_v102' := e_v102
      try rw [if_neg c101] at e_v102'
      subst e_v102'
      exact k
  refine OFinW.go sg104 ?_
  have sg108 : ∀ t, Steps p.tables e below (T0.setTop (mkF m 127 #[.val (.int q0), .val (.int q1), .val (.int q2), .val (.int q3), .val (.int q4), .val (.int tf), .val (.int na), .val (.int nb), .val (.int cc), .val (.int dd), .val (.ref o9), .val (.int l0), .val (.int c0), .val (.int v102), .unset, .unset, .unset, .unset, .unset, .unset] [(.int v102)])) t → Steps p.tables e below (T0.setTop (mkF m 123 #[.val (.int q0), .val (.int q1), .val (.int q2), .val (.int q3), .val (.int q4), .val (.int tf), .val (.int na), .val (.int nb), .val (.int cc), .val (.int dd), .val (.ref o9), .val (.int l0), .val (.int c0), .unset, .unset, .unset, .unset, .unset, .unset, .unset] [(.int v102)])) t := by
    intro t k
    show Steps p.tables e below (T0.setTop (mkF m 123 #[.val (.int q0), .val (.int q1), .val (.int q2), .val (.int q3), .val (.int q4), .val (.int tf), .val (.int na), .val (.int nb), .val (.int cc), .val (.int dd), .val (.ref o9), .val (.int l0), .val (.int c0), .unset, .unset, .unset, .unset, .unset, .unset, .unset] [(.int v102)])) t
    refine XS.istore X0.here hx rfl (hb hby at_123) rfl (l' := #[.val (.int q0), .val (.int q1), .val (.int q2), .val (.int q3), .val (.int q4), .val (.int tf), .val (.int na), .val (.int nb), .val (.int cc), .val (.int dd), .val (.ref o9), .val (.int l0), .val (.int c0), .val (.int v102), .unset, .unset, .unset, .unset, .unset, .unset]) rfl ?_
    show Steps p.tables e below (T0.setTop (mkF m 125 #[.val (.int q0), .val (.int q1), .val (.int q2), .val (.int q3), .val (.int q4), .val (.int tf), .val (.int na), .val (.int nb), .val (.int cc), .val (.int dd), .val (.ref o9), .val (.int l0), .val (.int c0), .val (.int v102), .unset, .unset, .unset, .unset, .unset, .unset] [])) t
    refine XS.iload X0.here hx rfl (hb hby at_125) rfl ?_
    exact k
  refine OFinW.go sg108 ?_
  obtain ⟨v107, e_v107⟩ : ∃ z : Int32, z = (if v102 = (0 : Int32) then (0 : Int32) else (if na = (65279 : Int32) then (1 : Int32) else (0 : Int32))) := ⟨_, rfl⟩
  have sg109 : ∀ t, Steps p.tables e below (T0.setTop (mkF m 142 #[.val (.int q0), .val (.int q1), .val (.int q2), .val (.int q3), .val (.int q4), .val (.int tf), .val (.int na), .val (.int nb), .val (.int cc), .val (.int dd), .val (.ref o9), .val (.int l0), .val (.int c0), .val (.int v102), .unset, .unset, .unset, .unset, .unset, .unset] [(.int v107)])) t → Steps p.tables e below (T0.setTop (mkF m 127 #[.val (.int q0), .val (.int q1), .val (.int q2), .val (.int q3), .val (.int q4), .val (.int tf), .val (.int na), .val (.int nb), .val (.int cc), .val (.int dd), .val (.ref o9), .val (.int l0), .val (.int c0), .val (.int v102), .unset, .unset, .unset, .unset, .unset, .unset] [(.int v102)])) t := by
    intro t k
    by_cases c105 : v102 = (0 : Int32)
    · show Steps p.tables e below (T0.setTop (mkF m 127 #[.val (.int q0), .val (.int q1), .val (.int q2), .val (.int q3), .val (.int q4), .val (.int tf), .val (.int na), .val (.int nb), .val (.int cc), .val (.int dd), .val (.ref o9), .val (.int l0), .val (.int c0), .val (.int v102), .unset, .unset, .unset, .unset, .unset, .unset] [(.int v102)])) t
      refine XS.ifYes X0.here hx rfl (pc0 := 127) (pc' := 141) rfl (hb hby at_127) rfl ((if0 _ _).trans (teq c105).1) (by decide) (by decide) ?_
      show Steps p.tables e below (T0.setTop (mkF m 141 #[.val (.int q0), .val (.int q1), .val (.int q2), .val (.int q3), .val (.int q4), .val (.int tf), .val (.int na), .val (.int nb), .val (.int cc), .val (.int dd), .val (.ref o9), .val (.int l0), .val (.int c0), .val (.int v102), .unset, .unset, .unset, .unset, .unset, .unset] [])) t
      refine XS.iconst X0.here hx rfl (hb hby at_141) ?_
      have e_v107' := e_v107
      try rw [if_pos c105] at e_v107'
      subst e_v107'
      exact k
    · show Steps p.tables e below (T0.setTop (mkF m 127 #[.val (.int q0), .val (.int q1), .val (.int q2), .val (.int q3), .val (.int q4), .val (.int tf), .val (.int na), .val (.int nb), .val (.int cc), .val (.int dd), .val (.ref o9), .val (.int l0), .val (.int c0), .val (.int v102), .unset, .unset, .unset, .unset, .unset, .unset] [(.int v102)])) t
      refine XS.ifNo X0.here hx rfl (hb hby at_127) rfl ((if0 _ _).trans (feq c105).1) ?_
      show Steps p.tables e below (T0.setTop (mkF m 130 #[.val (.int q0), .val (.int q1), .val (.int q2), .val (.int q3), .val (.int q4), .val (.int tf), .val (.int na), .val (.int nb), .val (.int cc), .val (.int dd), .val (.ref o9), .val (.int l0), .val (.int c0), .val (.int v102), .unset, .unset, .unset, .unset, .unset, .unset] [])) t
      refine XS.iload X0.here hx rfl (hb hby at_130) rfl ?_
      show Steps p.tables e below (T0.setTop (mkF m 132 #[.val (.int q0), .val (.int q1), .val (.int q2), .val (.int q3), .val (.int q4), .val (.int tf), .val (.int na), .val (.int nb), .val (.int cc), .val (.int dd), .val (.ref o9), .val (.int l0), .val (.int c0), .val (.int v102), .unset, .unset, .unset, .unset, .unset, .unset] [(.int na)])) t
      refine X0.ldcInt hx hown (mvT hZ (hw _ (List.mem_of_getElem? (i := 4) rfl))) (g := (mkF m 132 #[.val (.int q0), .val (.int q1), .val (.int q2), .val (.int q3), .val (.int q4), .val (.int tf), .val (.int na), .val (.int nb), .val (.int cc), .val (.int dd), .val (.ref o9), .val (.int l0), .val (.int c0), .val (.int v102), .unset, .unset, .unset, .unset, .unset, .unset] [(.int na)])) rfl (hb hby at_132) _ ?_
      by_cases c106 : na = (65279 : Int32)
      · show Steps p.tables e below (T0.setTop (mkF m 134 #[.val (.int q0), .val (.int q1), .val (.int q2), .val (.int q3), .val (.int q4), .val (.int tf), .val (.int na), .val (.int nb), .val (.int cc), .val (.int dd), .val (.ref o9), .val (.int l0), .val (.int c0), .val (.int v102), .unset, .unset, .unset, .unset, .unset, .unset] [(.int (65279 : Int32)), (.int na)])) t
        refine XS.icmpNo X0.here hx rfl (hb hby at_134) rfl (teq c106).2 ?_
        show Steps p.tables e below (T0.setTop (mkF m 137 #[.val (.int q0), .val (.int q1), .val (.int q2), .val (.int q3), .val (.int q4), .val (.int tf), .val (.int na), .val (.int nb), .val (.int cc), .val (.int dd), .val (.ref o9), .val (.int l0), .val (.int c0), .val (.int v102), .unset, .unset, .unset, .unset, .unset, .unset] [])) t
        refine XS.iconst X0.here hx rfl (hb hby at_137) ?_
        show Steps p.tables e below (T0.setTop (mkF m 138 #[.val (.int q0), .val (.int q1), .val (.int q2), .val (.int q3), .val (.int q4), .val (.int tf), .val (.int na), .val (.int nb), .val (.int cc), .val (.int dd), .val (.ref o9), .val (.int l0), .val (.int c0), .val (.int v102), .unset, .unset, .unset, .unset, .unset, .unset] [(.int (1 : Int32))])) t
        refine XS.goto X0.here hx rfl (pc0 := 138) (pc' := 142) rfl (hb hby at_138) (by decide) (by decide) ?_
        have e_v107' := e_v107
        try rw [if_neg c105] at e_v107'
        try rw [if_pos c106] at e_v107'
        subst e_v107'
        exact k
      · show Steps p.tables e below (T0.setTop (mkF m 134 #[.val (.int q0), .val (.int q1), .val (.int q2), .val (.int q3), .val (.int q4), .val (.int tf), .val (.int na), .val (.int nb), .val (.int cc), .val (.int dd), .val (.ref o9), .val (.int l0), .val (.int c0), .val (.int v102), .unset, .unset, .unset, .unset, .unset, .unset] [(.int (65279 : Int32)), (.int na)])) t
        refine XS.icmpYes X0.here hx rfl (pc0 := 134) (pc' := 141) rfl (hb hby at_134) rfl (feq c106).2 (by decide) (by decide) ?_
        show Steps p.tables e below (T0.setTop (mkF m 141 #[.val (.int q0), .val (.int q1), .val (.int q2), .val (.int q3), .val (.int q4), .val (.int tf), .val (.int na), .val (.int nb), .val (.int cc), .val (.int dd), .val (.ref o9), .val (.int l0), .val (.int c0), .val (.int v102), .unset, .unset, .unset, .unset, .unset, .unset] [])) t
        refine XS.iconst X0.here hx rfl (hb hby at_141) ?_
        have e_v107' := e_v107
        try rw [if_neg c105] at e_v107'
        try rw [if_neg c106] at e_v107'
        subst e_v107'
        exact k
  refine OFinW.go sg109 ?_
  have sg114 : ∀ t, Steps p.tables e below (T0.setTop (mkF m 146 #[.val (.int q0), .val (.int q1), .val (.int q2), .val (.int q3), .val (.int q4), .val (.int tf), .val (.int na), .val (.int nb), .val (.int cc), .val (.int dd), .val (.ref o9), .val (.int l0), .val (.int c0), .val (.int v102), .val (.int v107), .unset, .unset, .unset, .unset, .unset] [(.int v102)])) t → Steps p.tables e below (T0.setTop (mkF m 142 #[.val (.int q0), .val (.int q1), .val (.int q2), .val (.int q3), .val (.int q4), .val (.int tf), .val (.int na), .val (.int nb), .val (.int cc), .val (.int dd), .val (.ref o9), .val (.int l0), .val (.int c0), .val (.int v102), .unset, .unset, .unset, .unset, .unset, .unset] [(.int v107)])) t := by
    intro t k
    show Steps p.tables e below (T0.setTop (mkF m 142 #[.val (.int q0), .val (.int q1), .val (.int q2), .val (.int q3), .val (.int q4), .val (.int tf), .val (.int na), .val (.int nb), .val (.int cc), .val (.int dd), .val (.ref o9), .val (.int l0), .val (.int c0), .val (.int v102), .unset, .unset, .unset, .unset, .unset, .unset] [(.int v107)])) t
    refine XS.istore X0.here hx rfl (hb hby at_142) rfl (l' := #[.val (.int q0), .val (.int q1), .val (.int q2), .val (.int q3), .val (.int q4), .val (.int tf), .val (.int na), .val (.int nb), .val (.int cc), .val (.int dd), .val (.ref o9), .val (.int l0), .val (.int c0), .val (.int v102), .val (.int v107), .unset, .unset, .unset, .unset, .unset]) rfl ?_
    show Steps p.tables e below (T0.setTop (mkF m 144 #[.val (.int q0), .val (.int q1), .val (.int q2), .val (.int q3), .val (.int q4), .val (.int tf), .val (.int na), .val (.int nb), .val (.int cc), .val (.int dd), .val (.ref o9), .val (.int l0), .val (.int c0), .val (.int v102), .val (.int v107), .unset, .unset, .unset, .unset, .unset] [])) t
    refine XS.iload X0.here hx rfl (hb hby at_144) rfl ?_
    exact k
  refine OFinW.go sg114 ?_
  obtain ⟨v113, e_v113⟩ : ∃ z : Int32, z = (if v102 = (0 : Int32) then (0 : Int32) else (if v107 = (0 : Int32) then (if nb = (65279 : Int32) then (1 : Int32) else (0 : Int32)) else (0 : Int32))) := ⟨_, rfl⟩
  have sg115 : ∀ t, Steps p.tables e below (T0.setTop (mkF m 166 #[.val (.int q0), .val (.int q1), .val (.int q2), .val (.int q3), .val (.int q4), .val (.int tf), .val (.int na), .val (.int nb), .val (.int cc), .val (.int dd), .val (.ref o9), .val (.int l0), .val (.int c0), .val (.int v102), .val (.int v107), .unset, .unset, .unset, .unset, .unset] [(.int v113)])) t → Steps p.tables e below (T0.setTop (mkF m 146 #[.val (.int q0), .val (.int q1), .val (.int q2), .val (.int q3), .val (.int q4), .val (.int tf), .val (.int na), .val (.int nb), .val (.int cc), .val (.int dd), .val (.ref o9), .val (.int l0), .val (.int c0), .val (.int v102), .val (.int v107), .unset, .unset, .unset, .unset, .unset] [(.int v102)])) t := by
    intro t k
    by_cases c110 : v102 = (0 : Int32)
    · show Steps p.tables e below (T0.setTop (mkF m 146 #[.val (.int q0), .val (.int q1), .val (.int q2), .val (.int q3), .val (.int q4), .val (.int tf), .val (.int na), .val (.int nb), .val (.int cc), .val (.int dd), .val (.ref o9), .val (.int l0), .val (.int c0), .val (.int v102), .val (.int v107), .unset, .unset, .unset, .unset, .unset] [(.int v102)])) t
      refine XS.ifYes X0.here hx rfl (pc0 := 146) (pc' := 165) rfl (hb hby at_146) rfl ((if0 _ _).trans (teq c110).1) (by decide) (by decide) ?_
      show Steps p.tables e below (T0.setTop (mkF m 165 #[.val (.int q0), .val (.int q1), .val (.int q2), .val (.int q3), .val (.int q4), .val (.int tf), .val (.int na), .val (.int nb), .val (.int cc), .val (.int dd), .val (.ref o9), .val (.int l0), .val (.int c0), .val (.int v102), .val (.int v107), .unset, .unset, .unset, .unset, .unset] [])) t
      refine XS.iconst X0.here hx rfl (hb hby at_165) ?_
      have e_v113' := e_v113
      try rw [if_pos c110] at e_v113'
      subst e_v113'
      exact k
    · show Steps p.tables e below (T0.setTop (mkF m 146 #[.val (.int q0), .val (.int q1), .val (.int q2), .val (.int q3), .val (.int q4), .val (.int tf), .val (.int na), .val (.int nb), .val (.int cc), .val (.int dd), .val (.ref o9), .val (.int l0), .val (.int c0), .val (.int v102), .val (.int v107), .unset, .unset, .unset, .unset, .unset] [(.int v102)])) t
      refine XS.ifNo X0.here hx rfl (hb hby at_146) rfl ((if0 _ _).trans (feq c110).1) ?_
      show Steps p.tables e below (T0.setTop (mkF m 149 #[.val (.int q0), .val (.int q1), .val (.int q2), .val (.int q3), .val (.int q4), .val (.int tf), .val (.int na), .val (.int nb), .val (.int cc), .val (.int dd), .val (.ref o9), .val (.int l0), .val (.int c0), .val (.int v102), .val (.int v107), .unset, .unset, .unset, .unset, .unset] [])) t
      refine XS.iload X0.here hx rfl (hb hby at_149) rfl ?_
      by_cases c111 : v107 = (0 : Int32)
      · show Steps p.tables e below (T0.setTop (mkF m 151 #[.val (.int q0), .val (.int q1), .val (.int q2), .val (.int q3), .val (.int q4), .val (.int tf), .val (.int na), .val (.int nb), .val (.int cc), .val (.int dd), .val (.ref o9), .val (.int l0), .val (.int c0), .val (.int v102), .val (.int v107), .unset, .unset, .unset, .unset, .unset] [(.int v107)])) t
        refine XS.ifNo X0.here hx rfl (hb hby at_151) rfl ((if0 _ _).trans (teq c111).2) ?_
        show Steps p.tables e below (T0.setTop (mkF m 154 #[.val (.int q0), .val (.int q1), .val (.int q2), .val (.int q3), .val (.int q4), .val (.int tf), .val (.int na), .val (.int nb), .val (.int cc), .val (.int dd), .val (.ref o9), .val (.int l0), .val (.int c0), .val (.int v102), .val (.int v107), .unset, .unset, .unset, .unset, .unset] [])) t
        refine XS.iload X0.here hx rfl (hb hby at_154) rfl ?_
        show Steps p.tables e below (T0.setTop (mkF m 156 #[.val (.int q0), .val (.int q1), .val (.int q2), .val (.int q3), .val (.int q4), .val (.int tf), .val (.int na), .val (.int nb), .val (.int cc), .val (.int dd), .val (.ref o9), .val (.int l0), .val (.int c0), .val (.int v102), .val (.int v107), .unset, .unset, .unset, .unset, .unset] [(.int nb)])) t
        refine X0.ldcInt hx hown (mvT hZ (hw _ (List.mem_of_getElem? (i := 4) rfl))) (g := (mkF m 156 #[.val (.int q0), .val (.int q1), .val (.int q2), .val (.int q3), .val (.int q4), .val (.int tf), .val (.int na), .val (.int nb), .val (.int cc), .val (.int dd), .val (.ref o9), .val (.int l0), .val (.int c0), .val (.int v102), .val (.int v107), .unset, .unset, .unset, .unset, .unset] [(.int nb)])) rfl (hb hby at_156) _ ?_
        by_cases c112 : nb = (65279 : Int32)
        · show Steps p.tables e below (T0.setTop (mkF m 158 #[.val (.int q0), .val (.int q1), .val (.int q2), .val (.int q3), .val (.int q4), .val (.int tf), .val (.int na), .val (.int nb), .val (.int cc), .val (.int dd), .val (.ref o9), .val (.int l0), .val (.int c0), .val (.int v102), .val (.int v107), .unset, .unset, .unset, .unset, .unset] [(.int (65279 : Int32)), (.int nb)])) t
          refine XS.icmpNo X0.here hx rfl (hb hby at_158) rfl (teq c112).2 ?_
          show Steps p.tables e below (T0.setTop (mkF m 161 #[.val (.int q0), .val (.int q1), .val (.int q2), .val (.int q3), .val (.int q4), .val (.int tf), .val (.int na), .val (.int nb), .val (.int cc), .val (.int dd), .val (.ref o9), .val (.int l0), .val (.int c0), .val (.int v102), .val (.int v107), .unset, .unset, .unset, .unset, .unset] [])) t
          refine XS.iconst X0.here hx rfl (hb hby at_161) ?_
          show Steps p.tables e below (T0.setTop (mkF m 162 #[.val (.int q0), .val (.int q1), .val (.int q2), .val (.int q3), .val (.int q4), .val (.int tf), .val (.int na), .val (.int nb), .val (.int cc), .val (.int dd), .val (.ref o9), .val (.int l0), .val (.int c0), .val (.int v102), .val (.int v107), .unset, .unset, .unset, .unset, .unset] [(.int (1 : Int32))])) t
          refine XS.goto X0.here hx rfl (pc0 := 162) (pc' := 166) rfl (hb hby at_162) (by decide) (by decide) ?_
          have e_v113' := e_v113
          try rw [if_neg c110] at e_v113'
          try rw [if_pos c111] at e_v113'
          try rw [if_pos c112] at e_v113'
          subst e_v113'
          exact k
        · show Steps p.tables e below (T0.setTop (mkF m 158 #[.val (.int q0), .val (.int q1), .val (.int q2), .val (.int q3), .val (.int q4), .val (.int tf), .val (.int na), .val (.int nb), .val (.int cc), .val (.int dd), .val (.ref o9), .val (.int l0), .val (.int c0), .val (.int v102), .val (.int v107), .unset, .unset, .unset, .unset, .unset] [(.int (65279 : Int32)), (.int nb)])) t
          refine XS.icmpYes X0.here hx rfl (pc0 := 158) (pc' := 165) rfl (hb hby at_158) rfl (feq c112).2 (by decide) (by decide) ?_
          show Steps p.tables e below (T0.setTop (mkF m 165 #[.val (.int q0), .val (.int q1), .val (.int q2), .val (.int q3), .val (.int q4), .val (.int tf), .val (.int na), .val (.int nb), .val (.int cc), .val (.int dd), .val (.ref o9), .val (.int l0), .val (.int c0), .val (.int v102), .val (.int v107), .unset, .unset, .unset, .unset, .unset] [])) t
          refine XS.iconst X0.here hx rfl (hb hby at_165) ?_
          have e_v113' := e_v113
          try rw [if_neg c110] at e_v113'
          try rw [if_pos c111] at e_v113'
          try rw [if_neg c112] at e_v113'
          subst e_v113'
          exact k
      · show Steps p.tables e below (T0.setTop (mkF m 151 #[.val (.int q0), .val (.int q1), .val (.int q2), .val (.int q3), .val (.int q4), .val (.int tf), .val (.int na), .val (.int nb), .val (.int cc), .val (.int dd), .val (.ref o9), .val (.int l0), .val (.int c0), .val (.int v102), .val (.int v107), .unset, .unset, .unset, .unset, .unset] [(.int v107)])) t
        refine XS.ifYes X0.here hx rfl (pc0 := 151) (pc' := 165) rfl (hb hby at_151) rfl ((if0 _ _).trans (feq c111).2) (by decide) (by decide) ?_
        show Steps p.tables e below (T0.setTop (mkF m 165 #[.val (.int q0), .val (.int q1), .val (.int q2), .val (.int q3), .val (.int q4), .val (.int tf), .val (.int na), .val (.int nb), .val (.int cc), .val (.int dd), .val (.ref o9), .val (.int l0), .val (.int c0), .val (.int v102), .val (.int v107), .unset, .unset, .unset, .unset, .unset] [])) t
        refine XS.iconst X0.here hx rfl (hb hby at_165) ?_
        have e_v113' := e_v113
        try rw [if_neg c110] at e_v113'
        try rw [if_neg c111] at e_v113'
        subst e_v113'
        exact k
  refine OFinW.go sg115 ?_
  have sg116 : ∀ t, Steps p.tables e below (T0.setTop (mkF m 172 #[.val (.int q0), .val (.int q1), .val (.int q2), .val (.int q3), .val (.int q4), .val (.int tf), .val (.int na), .val (.int nb), .val (.int cc), .val (.int dd), .val (.ref o9), .val (.int l0), .val (.int c0), .val (.int v102), .val (.int v107), .val (.int v113), .unset, .unset, .unset, .unset] [(.int na), (.ref o9)])) t → Steps p.tables e below (T0.setTop (mkF m 166 #[.val (.int q0), .val (.int q1), .val (.int q2), .val (.int q3), .val (.int q4), .val (.int tf), .val (.int na), .val (.int nb), .val (.int cc), .val (.int dd), .val (.ref o9), .val (.int l0), .val (.int c0), .val (.int v102), .val (.int v107), .unset, .unset, .unset, .unset, .unset] [(.int v113)])) t := by
    intro t k
    show Steps p.tables e below (T0.setTop (mkF m 166 #[.val (.int q0), .val (.int q1), .val (.int q2), .val (.int q3), .val (.int q4), .val (.int tf), .val (.int na), .val (.int nb), .val (.int cc), .val (.int dd), .val (.ref o9), .val (.int l0), .val (.int c0), .val (.int v102), .val (.int v107), .unset, .unset, .unset, .unset, .unset] [(.int v113)])) t
    refine XS.istore X0.here hx rfl (hb hby at_166) rfl (l' := #[.val (.int q0), .val (.int q1), .val (.int q2), .val (.int q3), .val (.int q4), .val (.int tf), .val (.int na), .val (.int nb), .val (.int cc), .val (.int dd), .val (.ref o9), .val (.int l0), .val (.int c0), .val (.int v102), .val (.int v107), .val (.int v113), .unset, .unset, .unset, .unset]) rfl ?_
    show Steps p.tables e below (T0.setTop (mkF m 168 #[.val (.int q0), .val (.int q1), .val (.int q2), .val (.int q3), .val (.int q4), .val (.int tf), .val (.int na), .val (.int nb), .val (.int cc), .val (.int dd), .val (.ref o9), .val (.int l0), .val (.int c0), .val (.int v102), .val (.int v107), .val (.int v113), .unset, .unset, .unset, .unset] [])) t
    refine XS.aload X0.here hx rfl (hb hby at_168) rfl rfl ?_
    show Steps p.tables e below (T0.setTop (mkF m 170 #[.val (.int q0), .val (.int q1), .val (.int q2), .val (.int q3), .val (.int q4), .val (.int tf), .val (.int na), .val (.int nb), .val (.int cc), .val (.int dd), .val (.ref o9), .val (.int l0), .val (.int c0), .val (.int v102), .val (.int v107), .val (.int v113), .unset, .unset, .unset, .unset] [(.ref o9)])) t
    refine XS.iload X0.here hx rfl (hb hby at_170) rfl ?_
    exact k
  refine OFinW.go sg116 ?_
  obtain ⟨cq117, kq117, q117a, q117b, q117c⟩ := isOf hZ e0 E1
  obtain ⟨_, _, ⟨T117, L117, k117, n117⟩, -, X117, ⟨Lc117, hQ117, l117, y117, z117⟩, st117⟩ := X0.virtualBack hx (y := (⟨"org/counterpath/text/LineColumn", "skips", "(I)Z"⟩ : MethodName)) (z := (⟨"org/counterpath/text/LineColumn", "skips", "(I)Z"⟩ : MethodName)) hown (mvT hZ (hw _ (List.mem_of_getElem? (i := 36) rfl))) (mvT hZ (hw _ (List.mem_of_getElem? (i := 37) rfl))) (notFace_of_selects (args := #[]) (mvT hZ (hw _ (List.mem_of_getElem? (i := 39) rfl)))) (mvT hZ (hw _ (List.mem_of_getElem? (i := 39) rfl))) (mvT hZ (hw _ (List.mem_of_getElem? (i := 38) rfl))) (by decide) (backOf (W := 0) (rm4 l Z aZ hw [] o9 na l9 c9 s9 mx9 ch9 hC n0 (Nat.le_trans Z0 K0.1) E1 F1 F2 F3 F5 F7 g_o9) hZ (hw _ (List.mem_of_getElem? (i := 40) rfl)) (hw _ (List.mem_of_getElem? (i := 7) rfl)) (by decide) (by decide)) q117a q117c (g := (mkF m 172 #[.val (.int q0), .val (.int q1), .val (.int q2), .val (.int q3), .val (.int q4), .val (.int tf), .val (.int na), .val (.int nb), .val (.int cc), .val (.int dd), .val (.ref o9), .val (.int l0), .val (.int c0), .val (.int v102), .val (.int v107), .val (.int v113), .unset, .unset, .unset, .unset] [(.int na), (.ref o9)])) rfl (by rw [hml]; rfl) (Steps.refl _) (argsL := [(.int na)]) (rest := []) (lenOf pd_0 rfl) rfl (by show 2 * 0 + _ ≤ _; exact Nat.le_of_eq rfl) (hb hby at_172) (fun _ _ => ⟨rfl, e0, (by decide : 5 + 0 ≤ _), (by decide : 23 + 0 ≤ _)⟩)
  dsimp only [Pt.U, Pt.locs, Pt.cells, Pt.slots] at X117 l117 y117 z117 st117 hQ117
  subst l117 y117 z117
  obtain ⟨rfl, N117q, Kq117, P117_0, P117_1, P117_2, P117_3, P117_4⟩ := hQ117
  have N117 := Fr.app N0 N117q
  refine OFinW.tr st117 ?_
  have K117 : Keep h0 T117.heap [] := K0.trans Kq117 (allS (Or.inr sz_o9) all0)
  have sg118 : ∀ t, Steps p.tables e below (T117.setTop (mkF m 181 #[.val (.int q0), .val (.int q1), .val (.int q2), .val (.int q3), .val (.int q4), .val (.int tf), .val (.int na), .val (.int nb), .val (.int cc), .val (.int dd), .val (.ref o9), .val (.int l0), .val (.int c0), .val (.int v102), .val (.int v107), .val (.int v113), .val (.int (if s9 = (0 : Int32) then (0 : Int32) else (if na = (65279 : Int32) then (1 : Int32) else (0 : Int32)))), .unset, .unset, .unset] [(.int nb), (.ref o9)])) t → Steps p.tables e below (T117.setTop (mkF m 175 #[.val (.int q0), .val (.int q1), .val (.int q2), .val (.int q3), .val (.int q4), .val (.int tf), .val (.int na), .val (.int nb), .val (.int cc), .val (.int dd), .val (.ref o9), .val (.int l0), .val (.int c0), .val (.int v102), .val (.int v107), .val (.int v113), .unset, .unset, .unset, .unset] [(.int (if s9 = (0 : Int32) then (0 : Int32) else (if na = (65279 : Int32) then (1 : Int32) else (0 : Int32))))])) t := by
    intro t k
    show Steps p.tables e below (T117.setTop (mkF m 175 #[.val (.int q0), .val (.int q1), .val (.int q2), .val (.int q3), .val (.int q4), .val (.int tf), .val (.int na), .val (.int nb), .val (.int cc), .val (.int dd), .val (.ref o9), .val (.int l0), .val (.int c0), .val (.int v102), .val (.int v107), .val (.int v113), .unset, .unset, .unset, .unset] [(.int (if s9 = (0 : Int32) then (0 : Int32) else (if na = (65279 : Int32) then (1 : Int32) else (0 : Int32))))])) t
    refine XS.istore X117.here hx rfl (hb hby at_175) rfl (l' := #[.val (.int q0), .val (.int q1), .val (.int q2), .val (.int q3), .val (.int q4), .val (.int tf), .val (.int na), .val (.int nb), .val (.int cc), .val (.int dd), .val (.ref o9), .val (.int l0), .val (.int c0), .val (.int v102), .val (.int v107), .val (.int v113), .val (.int (if s9 = (0 : Int32) then (0 : Int32) else (if na = (65279 : Int32) then (1 : Int32) else (0 : Int32)))), .unset, .unset, .unset]) rfl ?_
    show Steps p.tables e below (T117.setTop (mkF m 177 #[.val (.int q0), .val (.int q1), .val (.int q2), .val (.int q3), .val (.int q4), .val (.int tf), .val (.int na), .val (.int nb), .val (.int cc), .val (.int dd), .val (.ref o9), .val (.int l0), .val (.int c0), .val (.int v102), .val (.int v107), .val (.int v113), .val (.int (if s9 = (0 : Int32) then (0 : Int32) else (if na = (65279 : Int32) then (1 : Int32) else (0 : Int32)))), .unset, .unset, .unset] [])) t
    refine XS.aload X117.here hx rfl (hb hby at_177) rfl rfl ?_
    show Steps p.tables e below (T117.setTop (mkF m 179 #[.val (.int q0), .val (.int q1), .val (.int q2), .val (.int q3), .val (.int q4), .val (.int tf), .val (.int na), .val (.int nb), .val (.int cc), .val (.int dd), .val (.ref o9), .val (.int l0), .val (.int c0), .val (.int v102), .val (.int v107), .val (.int v113), .val (.int (if s9 = (0 : Int32) then (0 : Int32) else (if na = (65279 : Int32) then (1 : Int32) else (0 : Int32)))), .unset, .unset, .unset] [(.ref o9)])) t
    refine XS.iload X117.here hx rfl (hb hby at_179) rfl ?_
    exact k
  refine OFinW.go sg118 ?_
  obtain ⟨cq119, kq119, q119a, q119b, q119c⟩ := isOf hZ rfl (E1.keep Kq117)
  obtain ⟨_, _, ⟨T119, L119, k119, n119⟩, -, X119, ⟨Lc119, hQ119, l119, y119, z119⟩, st119⟩ := X117.virtualBack hx (y := (⟨"org/counterpath/text/LineColumn", "skips", "(I)Z"⟩ : MethodName)) (z := (⟨"org/counterpath/text/LineColumn", "skips", "(I)Z"⟩ : MethodName)) hown (mvT hZ (hw _ (List.mem_of_getElem? (i := 36) rfl))) (mvT hZ (hw _ (List.mem_of_getElem? (i := 37) rfl))) (notFace_of_selects (args := #[]) (mvT hZ (hw _ (List.mem_of_getElem? (i := 39) rfl)))) (mvT hZ (hw _ (List.mem_of_getElem? (i := 39) rfl))) (mvT hZ (hw _ (List.mem_of_getElem? (i := 38) rfl))) (by decide) (backOf (W := 0) (rm4 l Z aZ hw [] o9 nb l9 c9 (if s9 = (0 : Int32) then s9 else (if na = (65279 : Int32) then (0 : Int32) else s9)) mx9 ch9 T117.heap n0 (Nat.le_trans Z0 K117.1) (E1.keep Kq117) P117_0 P117_1 P117_2 P117_3 P117_4 g_o9) hZ (hw _ (List.mem_of_getElem? (i := 40) rfl)) (hw _ (List.mem_of_getElem? (i := 7) rfl)) (by decide) (by decide)) q119a q119c (g := (mkF m 181 #[.val (.int q0), .val (.int q1), .val (.int q2), .val (.int q3), .val (.int q4), .val (.int tf), .val (.int na), .val (.int nb), .val (.int cc), .val (.int dd), .val (.ref o9), .val (.int l0), .val (.int c0), .val (.int v102), .val (.int v107), .val (.int v113), .val (.int (if s9 = (0 : Int32) then (0 : Int32) else (if na = (65279 : Int32) then (1 : Int32) else (0 : Int32)))), .unset, .unset, .unset] [(.int nb), (.ref o9)])) rfl (by rw [hml]; rfl) (Steps.refl _) (argsL := [(.int nb)]) (rest := []) (lenOf pd_0 rfl) rfl (by show 2 * 0 + _ ≤ _; exact Nat.le_of_eq rfl) (hb hby at_181) (fun _ _ => ⟨rfl, rfl, (by decide : 5 + 0 ≤ _), (by decide : 23 + 0 ≤ _)⟩)
  dsimp only [Pt.U, Pt.locs, Pt.cells, Pt.slots] at X119 l119 y119 z119 st119 hQ119
  subst l119 y119 z119
  obtain ⟨rfl, N119q, Kq119, P119_0, P119_1, P119_2, P119_3, P119_4⟩ := hQ119
  have N119 := Fr.app N117 N119q
  refine OFinW.tr st119 ?_
  have K119 : Keep h0 T119.heap [] := K117.trans Kq119 (allS (Or.inr sz_o9) all0)
  have sg121 : ∀ t, Steps p.tables e below (T119.setTop (mkF m 190 #[.val (.int q0), .val (.int q1), .val (.int q2), .val (.int q3), .val (.int q4), .val (.int tf), .val (.int na), .val (.int nb), .val (.int cc), .val (.int dd), .val (.ref o9), .val (.int l0), .val (.int c0), .val (.int v102), .val (.int v107), .val (.int v113), .val (.int (if s9 = (0 : Int32) then (0 : Int32) else (if na = (65279 : Int32) then (1 : Int32) else (0 : Int32)))), .val (.int (if (if s9 = (0 : Int32) then s9 else (if na = (65279 : Int32) then (0 : Int32) else s9)) = (0 : Int32) then (0 : Int32) else (if nb = (65279 : Int32) then (1 : Int32) else (0 : Int32)))), .unset, .unset] [(.int v107), (.int (if s9 = (0 : Int32) then (0 : Int32) else (if na = (65279 : Int32) then (1 : Int32) else (0 : Int32))))])) t → Steps p.tables e below (T119.setTop (mkF m 184 #[.val (.int q0), .val (.int q1), .val (.int q2), .val (.int q3), .val (.int q4), .val (.int tf), .val (.int na), .val (.int nb), .val (.int cc), .val (.int dd), .val (.ref o9), .val (.int l0), .val (.int c0), .val (.int v102), .val (.int v107), .val (.int v113), .val (.int (if s9 = (0 : Int32) then (0 : Int32) else (if na = (65279 : Int32) then (1 : Int32) else (0 : Int32)))), .unset, .unset, .unset] [(.int (if (if s9 = (0 : Int32) then s9 else (if na = (65279 : Int32) then (0 : Int32) else s9)) = (0 : Int32) then (0 : Int32) else (if nb = (65279 : Int32) then (1 : Int32) else (0 : Int32))))])) t := by
    intro t k
    show Steps p.tables e below (T119.setTop (mkF m 184 #[.val (.int q0), .val (.int q1), .val (.int q2), .val (.int q3), .val (.int q4), .val (.int tf), .val (.int na), .val (.int nb), .val (.int cc), .val (.int dd), .val (.ref o9), .val (.int l0), .val (.int c0), .val (.int v102), .val (.int v107), .val (.int v113), .val (.int (if s9 = (0 : Int32) then (0 : Int32) else (if na = (65279 : Int32) then (1 : Int32) else (0 : Int32)))), .unset, .unset, .unset] [(.int (if (if s9 = (0 : Int32) then s9 else (if na = (65279 : Int32) then (0 : Int32) else s9)) = (0 : Int32) then (0 : Int32) else (if nb = (65279 : Int32) then (1 : Int32) else (0 : Int32))))])) t
    refine XS.istore X119.here hx rfl (hb hby at_184) rfl (l' := #[.val (.int q0), .val (.int q1), .val (.int q2), .val (.int q3), .val (.int q4), .val (.int tf), .val (.int na), .val (.int nb), .val (.int cc), .val (.int dd), .val (.ref o9), .val (.int l0), .val (.int c0), .val (.int v102), .val (.int v107), .val (.int v113), .val (.int (if s9 = (0 : Int32) then (0 : Int32) else (if na = (65279 : Int32) then (1 : Int32) else (0 : Int32)))), .val (.int (if (if s9 = (0 : Int32) then s9 else (if na = (65279 : Int32) then (0 : Int32) else s9)) = (0 : Int32) then (0 : Int32) else (if nb = (65279 : Int32) then (1 : Int32) else (0 : Int32)))), .unset, .unset]) rfl ?_
    show Steps p.tables e below (T119.setTop (mkF m 186 #[.val (.int q0), .val (.int q1), .val (.int q2), .val (.int q3), .val (.int q4), .val (.int tf), .val (.int na), .val (.int nb), .val (.int cc), .val (.int dd), .val (.ref o9), .val (.int l0), .val (.int c0), .val (.int v102), .val (.int v107), .val (.int v113), .val (.int (if s9 = (0 : Int32) then (0 : Int32) else (if na = (65279 : Int32) then (1 : Int32) else (0 : Int32)))), .val (.int (if (if s9 = (0 : Int32) then s9 else (if na = (65279 : Int32) then (0 : Int32) else s9)) = (0 : Int32) then (0 : Int32) else (if nb = (65279 : Int32) then (1 : Int32) else (0 : Int32)))), .unset, .unset] [])) t
    refine XS.iload X119.here hx rfl (hb hby at_186) rfl ?_
    show Steps p.tables e below (T119.setTop (mkF m 188 #[.val (.int q0), .val (.int q1), .val (.int q2), .val (.int q3), .val (.int q4), .val (.int tf), .val (.int na), .val (.int nb), .val (.int cc), .val (.int dd), .val (.ref o9), .val (.int l0), .val (.int c0), .val (.int v102), .val (.int v107), .val (.int v113), .val (.int (if s9 = (0 : Int32) then (0 : Int32) else (if na = (65279 : Int32) then (1 : Int32) else (0 : Int32)))), .val (.int (if (if s9 = (0 : Int32) then s9 else (if na = (65279 : Int32) then (0 : Int32) else s9)) = (0 : Int32) then (0 : Int32) else (if nb = (65279 : Int32) then (1 : Int32) else (0 : Int32)))), .unset, .unset] [(.int (if s9 = (0 : Int32) then (0 : Int32) else (if na = (65279 : Int32) then (1 : Int32) else (0 : Int32))))])) t
    refine XS.iload X119.here hx rfl (hb hby at_188) rfl ?_
    exact k
  refine OFinW.go sg121 ?_
  have c120 : (if s9 = (0 : Int32) then (0 : Int32) else (if na = (65279 : Int32) then (1 : Int32) else (0 : Int32))) = v107 := (by rw [e_v107, e_v102, hs])
  have sg123 : ∀ t, Steps p.tables e below (T119.setTop (mkF m 197 #[.val (.int q0), .val (.int q1), .val (.int q2), .val (.int q3), .val (.int q4), .val (.int tf), .val (.int na), .val (.int nb), .val (.int cc), .val (.int dd), .val (.ref o9), .val (.int l0), .val (.int c0), .val (.int v102), .val (.int v107), .val (.int v113), .val (.int (if s9 = (0 : Int32) then (0 : Int32) else (if na = (65279 : Int32) then (1 : Int32) else (0 : Int32)))), .val (.int (if (if s9 = (0 : Int32) then s9 else (if na = (65279 : Int32) then (0 : Int32) else s9)) = (0 : Int32) then (0 : Int32) else (if nb = (65279 : Int32) then (1 : Int32) else (0 : Int32)))), .unset, .unset] [(.int v113), (.int (if (if s9 = (0 : Int32) then s9 else (if na = (65279 : Int32) then (0 : Int32) else s9)) = (0 : Int32) then (0 : Int32) else (if nb = (65279 : Int32) then (1 : Int32) else (0 : Int32))))])) t → Steps p.tables e below (T119.setTop (mkF m 190 #[.val (.int q0), .val (.int q1), .val (.int q2), .val (.int q3), .val (.int q4), .val (.int tf), .val (.int na), .val (.int nb), .val (.int cc), .val (.int dd), .val (.ref o9), .val (.int l0), .val (.int c0), .val (.int v102), .val (.int v107), .val (.int v113), .val (.int (if s9 = (0 : Int32) then (0 : Int32) else (if na = (65279 : Int32) then (1 : Int32) else (0 : Int32)))), .val (.int (if (if s9 = (0 : Int32) then s9 else (if na = (65279 : Int32) then (0 : Int32) else s9)) = (0 : Int32) then (0 : Int32) else (if nb = (65279 : Int32) then (1 : Int32) else (0 : Int32)))), .unset, .unset] [(.int v107), (.int (if s9 = (0 : Int32) then (0 : Int32) else (if na = (65279 : Int32) then (1 : Int32) else (0 : Int32))))])) t := by
    intro t k
    show Steps p.tables e below (T119.setTop (mkF m 190 #[.val (.int q0), .val (.int q1), .val (.int q2), .val (.int q3), .val (.int q4), .val (.int tf), .val (.int na), .val (.int nb), .val (.int cc), .val (.int dd), .val (.ref o9), .val (.int l0), .val (.int c0), .val (.int v102), .val (.int v107), .val (.int v113), .val (.int (if s9 = (0 : Int32) then (0 : Int32) else (if na = (65279 : Int32) then (1 : Int32) else (0 : Int32)))), .val (.int (if (if s9 = (0 : Int32) then s9 else (if na = (65279 : Int32) then (0 : Int32) else s9)) = (0 : Int32) then (0 : Int32) else (if nb = (65279 : Int32) then (1 : Int32) else (0 : Int32)))), .unset, .unset] [(.int v107), (.int (if s9 = (0 : Int32) then (0 : Int32) else (if na = (65279 : Int32) then (1 : Int32) else (0 : Int32))))])) t
    refine XS.icmpNo X119.here hx rfl (hb hby at_190) rfl (teq c120).2 ?_
    show Steps p.tables e below (T119.setTop (mkF m 193 #[.val (.int q0), .val (.int q1), .val (.int q2), .val (.int q3), .val (.int q4), .val (.int tf), .val (.int na), .val (.int nb), .val (.int cc), .val (.int dd), .val (.ref o9), .val (.int l0), .val (.int c0), .val (.int v102), .val (.int v107), .val (.int v113), .val (.int (if s9 = (0 : Int32) then (0 : Int32) else (if na = (65279 : Int32) then (1 : Int32) else (0 : Int32)))), .val (.int (if (if s9 = (0 : Int32) then s9 else (if na = (65279 : Int32) then (0 : Int32) else s9)) = (0 : Int32) then (0 : Int32) else (if nb = (65279 : Int32) then (1 : Int32) else (0 : Int32)))), .unset, .unset] [])) t
    refine XS.iload X119.here hx rfl (hb hby at_193) rfl ?_
    show Steps p.tables e below (T119.setTop (mkF m 195 #[.val (.int q0), .val (.int q1), .val (.int q2), .val (.int q3), .val (.int q4), .val (.int tf), .val (.int na), .val (.int nb), .val (.int cc), .val (.int dd), .val (.ref o9), .val (.int l0), .val (.int c0), .val (.int v102), .val (.int v107), .val (.int v113), .val (.int (if s9 = (0 : Int32) then (0 : Int32) else (if na = (65279 : Int32) then (1 : Int32) else (0 : Int32)))), .val (.int (if (if s9 = (0 : Int32) then s9 else (if na = (65279 : Int32) then (0 : Int32) else s9)) = (0 : Int32) then (0 : Int32) else (if nb = (65279 : Int32) then (1 : Int32) else (0 : Int32)))), .unset, .unset] [(.int (if (if s9 = (0 : Int32) then s9 else (if na = (65279 : Int32) then (0 : Int32) else s9)) = (0 : Int32) then (0 : Int32) else (if nb = (65279 : Int32) then (1 : Int32) else (0 : Int32))))])) t
    refine XS.iload X119.here hx rfl (hb hby at_195) rfl ?_
    exact k
  refine OFinW.go sg123 ?_
  have c122 : (if (if s9 = (0 : Int32) then s9 else (if na = (65279 : Int32) then (0 : Int32) else s9)) = (0 : Int32) then (0 : Int32) else (if nb = (65279 : Int32) then (1 : Int32) else (0 : Int32))) = v113 := (own_two _ _ _ v102 v107 v113 (by rw [e_v102, hs]) e_v107 e_v113)
  have sg124 : ∀ t, Steps p.tables e below (T119.setTop (mkF m 204 #[.val (.int q0), .val (.int q1), .val (.int q2), .val (.int q3), .val (.int q4), .val (.int tf), .val (.int na), .val (.int nb), .val (.int cc), .val (.int dd), .val (.ref o9), .val (.int l0), .val (.int c0), .val (.int v102), .val (.int v107), .val (.int v113), .val (.int (if s9 = (0 : Int32) then (0 : Int32) else (if na = (65279 : Int32) then (1 : Int32) else (0 : Int32)))), .val (.int (if (if s9 = (0 : Int32) then s9 else (if na = (65279 : Int32) then (0 : Int32) else s9)) = (0 : Int32) then (0 : Int32) else (if nb = (65279 : Int32) then (1 : Int32) else (0 : Int32)))), .unset, .unset] [(.ref o9)])) t → Steps p.tables e below (T119.setTop (mkF m 197 #[.val (.int q0), .val (.int q1), .val (.int q2), .val (.int q3), .val (.int q4), .val (.int tf), .val (.int na), .val (.int nb), .val (.int cc), .val (.int dd), .val (.ref o9), .val (.int l0), .val (.int c0), .val (.int v102), .val (.int v107), .val (.int v113), .val (.int (if s9 = (0 : Int32) then (0 : Int32) else (if na = (65279 : Int32) then (1 : Int32) else (0 : Int32)))), .val (.int (if (if s9 = (0 : Int32) then s9 else (if na = (65279 : Int32) then (0 : Int32) else s9)) = (0 : Int32) then (0 : Int32) else (if nb = (65279 : Int32) then (1 : Int32) else (0 : Int32)))), .unset, .unset] [(.int v113), (.int (if (if s9 = (0 : Int32) then s9 else (if na = (65279 : Int32) then (0 : Int32) else s9)) = (0 : Int32) then (0 : Int32) else (if nb = (65279 : Int32) then (1 : Int32) else (0 : Int32))))])) t := by
    intro t k
    show Steps p.tables e below (T119.setTop (mkF m 197 #[.val (.int q0), .val (.int q1), .val (.int q2), .val (.int q3), .val (.int q4), .val (.int tf), .val (.int na), .val (.int nb), .val (.int cc), .val (.int dd), .val (.ref o9), .val (.int l0), .val (.int c0), .val (.int v102), .val (.int v107), .val (.int v113), .val (.int (if s9 = (0 : Int32) then (0 : Int32) else (if na = (65279 : Int32) then (1 : Int32) else (0 : Int32)))), .val (.int (if (if s9 = (0 : Int32) then s9 else (if na = (65279 : Int32) then (0 : Int32) else s9)) = (0 : Int32) then (0 : Int32) else (if nb = (65279 : Int32) then (1 : Int32) else (0 : Int32)))), .unset, .unset] [(.int v113), (.int (if (if s9 = (0 : Int32) then s9 else (if na = (65279 : Int32) then (0 : Int32) else s9)) = (0 : Int32) then (0 : Int32) else (if nb = (65279 : Int32) then (1 : Int32) else (0 : Int32))))])) t
    refine XS.icmpYes X119.here hx rfl (pc0 := 197) (pc' := 202) rfl (hb hby at_197) rfl (teq c122).1 (by decide) (by decide) ?_
    show Steps p.tables e below (T119.setTop (mkF m 202 #[.val (.int q0), .val (.int q1), .val (.int q2), .val (.int q3), .val (.int q4), .val (.int tf), .val (.int na), .val (.int nb), .val (.int cc), .val (.int dd), .val (.ref o9), .val (.int l0), .val (.int c0), .val (.int v102), .val (.int v107), .val (.int v113), .val (.int (if s9 = (0 : Int32) then (0 : Int32) else (if na = (65279 : Int32) then (1 : Int32) else (0 : Int32)))), .val (.int (if (if s9 = (0 : Int32) then s9 else (if na = (65279 : Int32) then (0 : Int32) else s9)) = (0 : Int32) then (0 : Int32) else (if nb = (65279 : Int32) then (1 : Int32) else (0 : Int32)))), .unset, .unset] [])) t
    refine XS.aload X119.here hx rfl (hb hby at_202) rfl rfl ?_
    exact k
  refine OFinW.go sg124 ?_
  obtain ⟨cq125, kq125, q125a, q125b, q125c⟩ := isOf hZ rfl ((E1.keep Kq117).keep Kq119)
  obtain ⟨_, _, ⟨T125, L125, k125, n125⟩, -, X125, ⟨Lc125, hQ125, l125, y125, z125⟩, st125⟩ := X119.virtualBack hx (y := (⟨"org/counterpath/text/LineColumn", "line", "()I"⟩ : MethodName)) (z := (⟨"org/counterpath/text/LineColumn", "line", "()I"⟩ : MethodName)) hown (mvT hZ (hw _ (List.mem_of_getElem? (i := 42) rfl))) (mvT hZ (hw _ (List.mem_of_getElem? (i := 43) rfl))) (notFace_of_selects (args := #[]) (mvT hZ (hw _ (List.mem_of_getElem? (i := 45) rfl)))) (mvT hZ (hw _ (List.mem_of_getElem? (i := 45) rfl))) (mvT hZ (hw _ (List.mem_of_getElem? (i := 44) rfl))) (by decide) (backOf (W := 0) (rm5 l Z aZ hw [] o9 l9 T119.heap n0 (Nat.le_trans Z0 K119.1) P119_0) hZ (hw _ (List.mem_of_getElem? (i := 46) rfl)) (hw _ (List.mem_of_getElem? (i := 7) rfl)) (by decide) (by decide)) q125a q125c (g := (mkF m 204 #[.val (.int q0), .val (.int q1), .val (.int q2), .val (.int q3), .val (.int q4), .val (.int tf), .val (.int na), .val (.int nb), .val (.int cc), .val (.int dd), .val (.ref o9), .val (.int l0), .val (.int c0), .val (.int v102), .val (.int v107), .val (.int v113), .val (.int (if s9 = (0 : Int32) then (0 : Int32) else (if na = (65279 : Int32) then (1 : Int32) else (0 : Int32)))), .val (.int (if (if s9 = (0 : Int32) then s9 else (if na = (65279 : Int32) then (0 : Int32) else s9)) = (0 : Int32) then (0 : Int32) else (if nb = (65279 : Int32) then (1 : Int32) else (0 : Int32)))), .unset, .unset] [(.ref o9)])) rfl (by rw [hml]; rfl) (Steps.refl _) (argsL := []) (rest := []) (lenOf pd_1 rfl) rfl (by show 2 * 0 + _ ≤ _; exact Nat.le_of_eq rfl) (hb hby at_204) (fun _ _ => ⟨rfl, rfl, (by decide : 5 + 0 ≤ _), (by decide : 23 + 0 ≤ _)⟩)
  dsimp only [Pt.U, Pt.locs, Pt.cells, Pt.slots] at X125 l125 y125 z125 st125 hQ125
  subst l125 y125 z125
  obtain ⟨rfl, N125q, e125⟩ := hQ125
  have N125 := Fr.app N119 N125q
  refine OFinW.tr st125 ?_
  have sg127 : ∀ t, Steps p.tables e below (T125.setTop (mkF m 209 #[.val (.int q0), .val (.int q1), .val (.int q2), .val (.int q3), .val (.int q4), .val (.int tf), .val (.int na), .val (.int nb), .val (.int cc), .val (.int dd), .val (.ref o9), .val (.int l0), .val (.int c0), .val (.int v102), .val (.int v107), .val (.int v113), .val (.int (if s9 = (0 : Int32) then (0 : Int32) else (if na = (65279 : Int32) then (1 : Int32) else (0 : Int32)))), .val (.int (if (if s9 = (0 : Int32) then s9 else (if na = (65279 : Int32) then (0 : Int32) else s9)) = (0 : Int32) then (0 : Int32) else (if nb = (65279 : Int32) then (1 : Int32) else (0 : Int32)))), .unset, .unset] [(.int l0), (.int l9)])) t → Steps p.tables e below (T125.setTop (mkF m 207 #[.val (.int q0), .val (.int q1), .val (.int q2), .val (.int q3), .val (.int q4), .val (.int tf), .val (.int na), .val (.int nb), .val (.int cc), .val (.int dd), .val (.ref o9), .val (.int l0), .val (.int c0), .val (.int v102), .val (.int v107), .val (.int v113), .val (.int (if s9 = (0 : Int32) then (0 : Int32) else (if na = (65279 : Int32) then (1 : Int32) else (0 : Int32)))), .val (.int (if (if s9 = (0 : Int32) then s9 else (if na = (65279 : Int32) then (0 : Int32) else s9)) = (0 : Int32) then (0 : Int32) else (if nb = (65279 : Int32) then (1 : Int32) else (0 : Int32)))), .unset, .unset] [(.int l9)])) t := by
    intro t k
    show Steps p.tables e below (T125.setTop (mkF m 207 #[.val (.int q0), .val (.int q1), .val (.int q2), .val (.int q3), .val (.int q4), .val (.int tf), .val (.int na), .val (.int nb), .val (.int cc), .val (.int dd), .val (.ref o9), .val (.int l0), .val (.int c0), .val (.int v102), .val (.int v107), .val (.int v113), .val (.int (if s9 = (0 : Int32) then (0 : Int32) else (if na = (65279 : Int32) then (1 : Int32) else (0 : Int32)))), .val (.int (if (if s9 = (0 : Int32) then s9 else (if na = (65279 : Int32) then (0 : Int32) else s9)) = (0 : Int32) then (0 : Int32) else (if nb = (65279 : Int32) then (1 : Int32) else (0 : Int32)))), .unset, .unset] [(.int l9)])) t
    refine XS.iload X125.here hx rfl (hb hby at_207) rfl ?_
    exact k
  refine OFinW.go sg127 ?_
  have c126 : l9 = l0 := hl
  have sg128 : ∀ t, Steps p.tables e below (T125.setTop (mkF m 214 #[.val (.int q0), .val (.int q1), .val (.int q2), .val (.int q3), .val (.int q4), .val (.int tf), .val (.int na), .val (.int nb), .val (.int cc), .val (.int dd), .val (.ref o9), .val (.int l0), .val (.int c0), .val (.int v102), .val (.int v107), .val (.int v113), .val (.int (if s9 = (0 : Int32) then (0 : Int32) else (if na = (65279 : Int32) then (1 : Int32) else (0 : Int32)))), .val (.int (if (if s9 = (0 : Int32) then s9 else (if na = (65279 : Int32) then (0 : Int32) else s9)) = (0 : Int32) then (0 : Int32) else (if nb = (65279 : Int32) then (1 : Int32) else (0 : Int32)))), .unset, .unset] [(.ref o9)])) t → Steps p.tables e below (T125.setTop (mkF m 209 #[.val (.int q0), .val (.int q1), .val (.int q2), .val (.int q3), .val (.int q4), .val (.int tf), .val (.int na), .val (.int nb), .val (.int cc), .val (.int dd), .val (.ref o9), .val (.int l0), .val (.int c0), .val (.int v102), .val (.int v107), .val (.int v113), .val (.int (if s9 = (0 : Int32) then (0 : Int32) else (if na = (65279 : Int32) then (1 : Int32) else (0 : Int32)))), .val (.int (if (if s9 = (0 : Int32) then s9 else (if na = (65279 : Int32) then (0 : Int32) else s9)) = (0 : Int32) then (0 : Int32) else (if nb = (65279 : Int32) then (1 : Int32) else (0 : Int32)))), .unset, .unset] [(.int l0), (.int l9)])) t := by
    intro t k
    show Steps p.tables e below (T125.setTop (mkF m 209 #[.val (.int q0), .val (.int q1), .val (.int q2), .val (.int q3), .val (.int q4), .val (.int tf), .val (.int na), .val (.int nb), .val (.int cc), .val (.int dd), .val (.ref o9), .val (.int l0), .val (.int c0), .val (.int v102), .val (.int v107), .val (.int v113), .val (.int (if s9 = (0 : Int32) then (0 : Int32) else (if na = (65279 : Int32) then (1 : Int32) else (0 : Int32)))), .val (.int (if (if s9 = (0 : Int32) then s9 else (if na = (65279 : Int32) then (0 : Int32) else s9)) = (0 : Int32) then (0 : Int32) else (if nb = (65279 : Int32) then (1 : Int32) else (0 : Int32)))), .unset, .unset] [(.int l0), (.int l9)])) t
    refine XS.icmpNo X125.here hx rfl (hb hby at_209) rfl (teq c126).2 ?_
    show Steps p.tables e below (T125.setTop (mkF m 212 #[.val (.int q0), .val (.int q1), .val (.int q2), .val (.int q3), .val (.int q4), .val (.int tf), .val (.int na), .val (.int nb), .val (.int cc), .val (.int dd), .val (.ref o9), .val (.int l0), .val (.int c0), .val (.int v102), .val (.int v107), .val (.int v113), .val (.int (if s9 = (0 : Int32) then (0 : Int32) else (if na = (65279 : Int32) then (1 : Int32) else (0 : Int32)))), .val (.int (if (if s9 = (0 : Int32) then s9 else (if na = (65279 : Int32) then (0 : Int32) else s9)) = (0 : Int32) then (0 : Int32) else (if nb = (65279 : Int32) then (1 : Int32) else (0 : Int32)))), .unset, .unset] [])) t
    refine XS.aload X125.here hx rfl (hb hby at_212) rfl rfl ?_
    exact k
  refine OFinW.go sg128 ?_
  obtain ⟨cq129, kq129, q129a, q129b, q129c⟩ := isOf hZ e125 ((E1.keep Kq117).keep Kq119)
  obtain ⟨_, _, ⟨T129, L129, k129, n129⟩, -, X129, ⟨Lc129, hQ129, l129, y129, z129⟩, st129⟩ := X125.virtualBack hx (y := (⟨"org/counterpath/text/LineColumn", "column", "()I"⟩ : MethodName)) (z := (⟨"org/counterpath/text/LineColumn", "column", "()I"⟩ : MethodName)) hown (mvT hZ (hw _ (List.mem_of_getElem? (i := 47) rfl))) (mvT hZ (hw _ (List.mem_of_getElem? (i := 48) rfl))) (notFace_of_selects (args := #[]) (mvT hZ (hw _ (List.mem_of_getElem? (i := 50) rfl)))) (mvT hZ (hw _ (List.mem_of_getElem? (i := 50) rfl))) (mvT hZ (hw _ (List.mem_of_getElem? (i := 49) rfl))) (by decide) (backOf (W := 0) (rm6 l Z aZ hw [] o9 c9 T119.heap n0 (Nat.le_trans Z0 K119.1) P119_1) hZ (hw _ (List.mem_of_getElem? (i := 51) rfl)) (hw _ (List.mem_of_getElem? (i := 7) rfl)) (by decide) (by decide)) q129a q129c (g := (mkF m 214 #[.val (.int q0), .val (.int q1), .val (.int q2), .val (.int q3), .val (.int q4), .val (.int tf), .val (.int na), .val (.int nb), .val (.int cc), .val (.int dd), .val (.ref o9), .val (.int l0), .val (.int c0), .val (.int v102), .val (.int v107), .val (.int v113), .val (.int (if s9 = (0 : Int32) then (0 : Int32) else (if na = (65279 : Int32) then (1 : Int32) else (0 : Int32)))), .val (.int (if (if s9 = (0 : Int32) then s9 else (if na = (65279 : Int32) then (0 : Int32) else s9)) = (0 : Int32) then (0 : Int32) else (if nb = (65279 : Int32) then (1 : Int32) else (0 : Int32)))), .unset, .unset] [(.ref o9)])) rfl (by rw [hml]; rfl) (Steps.refl _) (argsL := []) (rest := []) (lenOf pd_1 rfl) rfl (by show 2 * 0 + _ ≤ _; exact Nat.le_of_eq rfl) (hb hby at_214) (fun _ _ => ⟨rfl, e125, (by decide : 5 + 0 ≤ _), (by decide : 23 + 0 ≤ _)⟩)
  dsimp only [Pt.U, Pt.locs, Pt.cells, Pt.slots] at X129 l129 y129 z129 st129 hQ129
  subst l129 y129 z129
  obtain ⟨rfl, N129q, e129⟩ := hQ129
  have N129 := Fr.app N125 N129q
  refine OFinW.tr st129 ?_
  have sg131 : ∀ t, Steps p.tables e below (T129.setTop (mkF m 219 #[.val (.int q0), .val (.int q1), .val (.int q2), .val (.int q3), .val (.int q4), .val (.int tf), .val (.int na), .val (.int nb), .val (.int cc), .val (.int dd), .val (.ref o9), .val (.int l0), .val (.int c0), .val (.int v102), .val (.int v107), .val (.int v113), .val (.int (if s9 = (0 : Int32) then (0 : Int32) else (if na = (65279 : Int32) then (1 : Int32) else (0 : Int32)))), .val (.int (if (if s9 = (0 : Int32) then s9 else (if na = (65279 : Int32) then (0 : Int32) else s9)) = (0 : Int32) then (0 : Int32) else (if nb = (65279 : Int32) then (1 : Int32) else (0 : Int32)))), .unset, .unset] [(.int c0), (.int c9)])) t → Steps p.tables e below (T129.setTop (mkF m 217 #[.val (.int q0), .val (.int q1), .val (.int q2), .val (.int q3), .val (.int q4), .val (.int tf), .val (.int na), .val (.int nb), .val (.int cc), .val (.int dd), .val (.ref o9), .val (.int l0), .val (.int c0), .val (.int v102), .val (.int v107), .val (.int v113), .val (.int (if s9 = (0 : Int32) then (0 : Int32) else (if na = (65279 : Int32) then (1 : Int32) else (0 : Int32)))), .val (.int (if (if s9 = (0 : Int32) then s9 else (if na = (65279 : Int32) then (0 : Int32) else s9)) = (0 : Int32) then (0 : Int32) else (if nb = (65279 : Int32) then (1 : Int32) else (0 : Int32)))), .unset, .unset] [(.int c9)])) t := by
    intro t k
    show Steps p.tables e below (T129.setTop (mkF m 217 #[.val (.int q0), .val (.int q1), .val (.int q2), .val (.int q3), .val (.int q4), .val (.int tf), .val (.int na), .val (.int nb), .val (.int cc), .val (.int dd), .val (.ref o9), .val (.int l0), .val (.int c0), .val (.int v102), .val (.int v107), .val (.int v113), .val (.int (if s9 = (0 : Int32) then (0 : Int32) else (if na = (65279 : Int32) then (1 : Int32) else (0 : Int32)))), .val (.int (if (if s9 = (0 : Int32) then s9 else (if na = (65279 : Int32) then (0 : Int32) else s9)) = (0 : Int32) then (0 : Int32) else (if nb = (65279 : Int32) then (1 : Int32) else (0 : Int32)))), .unset, .unset] [(.int c9)])) t
    refine XS.iload X129.here hx rfl (hb hby at_217) rfl ?_
    exact k
  refine OFinW.go sg131 ?_
  have c130 : c9 = c0 := hc
  have sg132 : ∀ t, Steps p.tables e below (T129.setTop (mkF m 228 #[.val (.int q0), .val (.int q1), .val (.int q2), .val (.int q3), .val (.int q4), .val (.int tf), .val (.int na), .val (.int nb), .val (.int cc), .val (.int dd), .val (.ref o9), .val (.int l0), .val (.int c0), .val (.int v102), .val (.int v107), .val (.int v113), .val (.int (if s9 = (0 : Int32) then (0 : Int32) else (if na = (65279 : Int32) then (1 : Int32) else (0 : Int32)))), .val (.int (if (if s9 = (0 : Int32) then s9 else (if na = (65279 : Int32) then (0 : Int32) else s9)) = (0 : Int32) then (0 : Int32) else (if nb = (65279 : Int32) then (1 : Int32) else (0 : Int32)))), .unset, .unset] [(.int dd), (.ref o9)])) t → Steps p.tables e below (T129.setTop (mkF m 219 #[.val (.int q0), .val (.int q1), .val (.int q2), .val (.int q3), .val (.int q4), .val (.int tf), .val (.int na), .val (.int nb), .val (.int cc), .val (.int dd), .val (.ref o9), .val (.int l0), .val (.int c0), .val (.int v102), .val (.int v107), .val (.int v113), .val (.int (if s9 = (0 : Int32) then (0 : Int32) else (if na = (65279 : Int32) then (1 : Int32) else (0 : Int32)))), .val (.int (if (if s9 = (0 : Int32) then s9 else (if na = (65279 : Int32) then (0 : Int32) else s9)) = (0 : Int32) then (0 : Int32) else (if nb = (65279 : Int32) then (1 : Int32) else (0 : Int32)))), .unset, .unset] [(.int c0), (.int c9)])) t := by
    intro t k
    show Steps p.tables e below (T129.setTop (mkF m 219 #[.val (.int q0), .val (.int q1), .val (.int q2), .val (.int q3), .val (.int q4), .val (.int tf), .val (.int na), .val (.int nb), .val (.int cc), .val (.int dd), .val (.ref o9), .val (.int l0), .val (.int c0), .val (.int v102), .val (.int v107), .val (.int v113), .val (.int (if s9 = (0 : Int32) then (0 : Int32) else (if na = (65279 : Int32) then (1 : Int32) else (0 : Int32)))), .val (.int (if (if s9 = (0 : Int32) then s9 else (if na = (65279 : Int32) then (0 : Int32) else s9)) = (0 : Int32) then (0 : Int32) else (if nb = (65279 : Int32) then (1 : Int32) else (0 : Int32)))), .unset, .unset] [(.int c0), (.int c9)])) t
    refine XS.icmpYes X129.here hx rfl (pc0 := 219) (pc' := 224) rfl (hb hby at_219) rfl (teq c130).1 (by decide) (by decide) ?_
    show Steps p.tables e below (T129.setTop (mkF m 224 #[.val (.int q0), .val (.int q1), .val (.int q2), .val (.int q3), .val (.int q4), .val (.int tf), .val (.int na), .val (.int nb), .val (.int cc), .val (.int dd), .val (.ref o9), .val (.int l0), .val (.int c0), .val (.int v102), .val (.int v107), .val (.int v113), .val (.int (if s9 = (0 : Int32) then (0 : Int32) else (if na = (65279 : Int32) then (1 : Int32) else (0 : Int32)))), .val (.int (if (if s9 = (0 : Int32) then s9 else (if na = (65279 : Int32) then (0 : Int32) else s9)) = (0 : Int32) then (0 : Int32) else (if nb = (65279 : Int32) then (1 : Int32) else (0 : Int32)))), .unset, .unset] [])) t
    refine XS.aload X129.here hx rfl (hb hby at_224) rfl rfl ?_
    show Steps p.tables e below (T129.setTop (mkF m 226 #[.val (.int q0), .val (.int q1), .val (.int q2), .val (.int q3), .val (.int q4), .val (.int tf), .val (.int na), .val (.int nb), .val (.int cc), .val (.int dd), .val (.ref o9), .val (.int l0), .val (.int c0), .val (.int v102), .val (.int v107), .val (.int v113), .val (.int (if s9 = (0 : Int32) then (0 : Int32) else (if na = (65279 : Int32) then (1 : Int32) else (0 : Int32)))), .val (.int (if (if s9 = (0 : Int32) then s9 else (if na = (65279 : Int32) then (0 : Int32) else s9)) = (0 : Int32) then (0 : Int32) else (if nb = (65279 : Int32) then (1 : Int32) else (0 : Int32)))), .unset, .unset] [(.ref o9)])) t
    refine XS.iload X129.here hx rfl (hb hby at_226) rfl ?_
    exact k
  refine OFinW.go sg132 ?_
  obtain ⟨cq133, kq133, q133a, q133b, q133c⟩ := isOf hZ e129 ((E1.keep Kq117).keep Kq119)
  obtain ⟨_, _, ⟨T133, L133, k133, n133⟩, -, X133, ⟨Lc133, hQ133, l133, y133, z133⟩, st133⟩ := X129.virtualBack hx (y := (⟨"org/counterpath/text/LineColumn", "take", "(C)V"⟩ : MethodName)) (z := (⟨"org/counterpath/text/LineColumn", "take", "(C)V"⟩ : MethodName)) hown (mvT hZ (hw _ (List.mem_of_getElem? (i := 52) rfl))) (mvT hZ (hw _ (List.mem_of_getElem? (i := 53) rfl))) (notFace_of_selects (args := #[]) (mvT hZ (hw _ (List.mem_of_getElem? (i := 55) rfl)))) (mvT hZ (hw _ (List.mem_of_getElem? (i := 55) rfl))) (mvT hZ (hw _ (List.mem_of_getElem? (i := 54) rfl))) (by decide) (backOf (W := 0) (rm7 l Z aZ hw [] o9 dd l9 c9 (if (if s9 = (0 : Int32) then s9 else (if na = (65279 : Int32) then (0 : Int32) else s9)) = (0 : Int32) then (if s9 = (0 : Int32) then s9 else (if na = (65279 : Int32) then (0 : Int32) else s9)) else (if nb = (65279 : Int32) then (0 : Int32) else (if s9 = (0 : Int32) then s9 else (if na = (65279 : Int32) then (0 : Int32) else s9)))) mx9 ch9 T119.heap n0 (Nat.le_trans Z0 K119.1) ((E1.keep Kq117).keep Kq119) P119_0 P119_1 P119_2 P119_3 P119_4 hch hl3 g_o9) hZ (hw _ (List.mem_of_getElem? (i := 56) rfl)) (hw _ (List.mem_of_getElem? (i := 7) rfl)) (by decide) (by decide)) q133a q133c (g := (mkF m 228 #[.val (.int q0), .val (.int q1), .val (.int q2), .val (.int q3), .val (.int q4), .val (.int tf), .val (.int na), .val (.int nb), .val (.int cc), .val (.int dd), .val (.ref o9), .val (.int l0), .val (.int c0), .val (.int v102), .val (.int v107), .val (.int v113), .val (.int (if s9 = (0 : Int32) then (0 : Int32) else (if na = (65279 : Int32) then (1 : Int32) else (0 : Int32)))), .val (.int (if (if s9 = (0 : Int32) then s9 else (if na = (65279 : Int32) then (0 : Int32) else s9)) = (0 : Int32) then (0 : Int32) else (if nb = (65279 : Int32) then (1 : Int32) else (0 : Int32)))), .unset, .unset] [(.int dd), (.ref o9)])) rfl (by rw [hml]; rfl) (Steps.refl _) (argsL := [(.int dd)]) (rest := []) (lenOf pd_2 rfl) rfl (by show 2 * 0 + _ ≤ _; exact Nat.le_of_eq rfl) (hb hby at_228) (fun _ _ => ⟨rfl, e129, (by decide : 5 + 0 ≤ _), (by decide : 23 + 0 ≤ _)⟩)
  dsimp only [Pt.U, Pt.locs, Pt.cells, Pt.slots] at X133 l133 y133 z133 st133 hQ133
  subst l133 y133 z133
  obtain ⟨rfl, N133q, Kq133, P133_0, P133_1, P133_2, P133_3, P133_4⟩ := hQ133
  have N133 := Fr.app N129 N133q
  refine OFinW.tr st133 ?_
  have K133 : Keep h0 T133.heap [] := K119.trans Kq133 (allS (Or.inr sz_o9) all0)
  have sg136 : ∀ t, Steps p.tables e below (T133.setTop (mkF m 235 #[.val (.int q0), .val (.int q1), .val (.int q2), .val (.int q3), .val (.int q4), .val (.int tf), .val (.int na), .val (.int nb), .val (.int cc), .val (.int dd), .val (.ref o9), .val (.int l0), .val (.int c0), .val (.int v102), .val (.int v107), .val (.int v113), .val (.int (if s9 = (0 : Int32) then (0 : Int32) else (if na = (65279 : Int32) then (1 : Int32) else (0 : Int32)))), .val (.int (if (if s9 = (0 : Int32) then s9 else (if na = (65279 : Int32) then (0 : Int32) else s9)) = (0 : Int32) then (0 : Int32) else (if nb = (65279 : Int32) then (1 : Int32) else (0 : Int32)))), .unset, .unset] [(.int (10 : Int32)), (.int dd)])) t → Steps p.tables e below (T133.setTop (mkF m 231 #[.val (.int q0), .val (.int q1), .val (.int q2), .val (.int q3), .val (.int q4), .val (.int tf), .val (.int na), .val (.int nb), .val (.int cc), .val (.int dd), .val (.ref o9), .val (.int l0), .val (.int c0), .val (.int v102), .val (.int v107), .val (.int v113), .val (.int (if s9 = (0 : Int32) then (0 : Int32) else (if na = (65279 : Int32) then (1 : Int32) else (0 : Int32)))), .val (.int (if (if s9 = (0 : Int32) then s9 else (if na = (65279 : Int32) then (0 : Int32) else s9)) = (0 : Int32) then (0 : Int32) else (if nb = (65279 : Int32) then (1 : Int32) else (0 : Int32)))), .unset, .unset] [])) t := by
    intro t k
    show Steps p.tables e below (T133.setTop (mkF m 231 #[.val (.int q0), .val (.int q1), .val (.int q2), .val (.int q3), .val (.int q4), .val (.int tf), .val (.int na), .val (.int nb), .val (.int cc), .val (.int dd), .val (.ref o9), .val (.int l0), .val (.int c0), .val (.int v102), .val (.int v107), .val (.int v113), .val (.int (if s9 = (0 : Int32) then (0 : Int32) else (if na = (65279 : Int32) then (1 : Int32) else (0 : Int32)))), .val (.int (if (if s9 = (0 : Int32) then s9 else (if na = (65279 : Int32) then (0 : Int32) else s9)) = (0 : Int32) then (0 : Int32) else (if nb = (65279 : Int32) then (1 : Int32) else (0 : Int32)))), .unset, .unset] [])) t
    refine XS.iload X133.here hx rfl (hb hby at_231) rfl ?_
    show Steps p.tables e below (T133.setTop (mkF m 233 #[.val (.int q0), .val (.int q1), .val (.int q2), .val (.int q3), .val (.int q4), .val (.int tf), .val (.int na), .val (.int nb), .val (.int cc), .val (.int dd), .val (.ref o9), .val (.int l0), .val (.int c0), .val (.int v102), .val (.int v107), .val (.int v113), .val (.int (if s9 = (0 : Int32) then (0 : Int32) else (if na = (65279 : Int32) then (1 : Int32) else (0 : Int32)))), .val (.int (if (if s9 = (0 : Int32) then s9 else (if na = (65279 : Int32) then (0 : Int32) else s9)) = (0 : Int32) then (0 : Int32) else (if nb = (65279 : Int32) then (1 : Int32) else (0 : Int32)))), .unset, .unset] [(.int dd)])) t
    refine XS.bipush X133.here hx rfl (hb hby at_233) ?_
    exact k
  refine OFinW.go sg136 ?_
  obtain ⟨v135, e_v135⟩ : ∃ z : Int32, z = (if dd = (10 : Int32) then (l0 + (1 : Int32)) else l0) := ⟨_, rfl⟩
  have sg137 : ∀ t, Steps p.tables e below (T133.setTop (mkF m 247 #[.val (.int q0), .val (.int q1), .val (.int q2), .val (.int q3), .val (.int q4), .val (.int tf), .val (.int na), .val (.int nb), .val (.int cc), .val (.int dd), .val (.ref o9), .val (.int l0), .val (.int c0), .val (.int v102), .val (.int v107), .val (.int v113), .val (.int (if s9 = (0 : Int32) then (0 : Int32) else (if na = (65279 : Int32) then (1 : Int32) else (0 : Int32)))), .val (.int (if (if s9 = (0 : Int32) then s9 else (if na = (65279 : Int32) then (0 : Int32) else s9)) = (0 : Int32) then (0 : Int32) else (if nb = (65279 : Int32) then (1 : Int32) else (0 : Int32)))), .unset, .unset] [(.int v135)])) t → Steps p.tables e below (T133.setTop (mkF m 235 #[.val (.int q0), .val (.int q1), .val (.int q2), .val (.int q3), .val (.int q4), .val (.int tf), .val (.int na), .val (.int nb), .val (.int cc), .val (.int dd), .val (.ref o9), .val (.int l0), .val (.int c0), .val (.int v102), .val (.int v107), .val (.int v113), .val (.int (if s9 = (0 : Int32) then (0 : Int32) else (if na = (65279 : Int32) then (1 : Int32) else (0 : Int32)))), .val (.int (if (if s9 = (0 : Int32) then s9 else (if na = (65279 : Int32) then (0 : Int32) else s9)) = (0 : Int32) then (0 : Int32) else (if nb = (65279 : Int32) then (1 : Int32) else (0 : Int32)))), .unset, .unset] [(.int (10 : Int32)), (.int dd)])) t := by
    intro t k
    by_cases c134 : dd = (10 : Int32)
    · show Steps p.tables e below (T133.setTop (mkF m 235 #[.val (.int q0), .val (.int q1), .val (.int q2), .val (.int q3), .val (.int q4), .val (.int tf), .val (.int na), .val (.int nb), .val (.int cc), .val (.int dd), .val (.ref o9), .val (.int l0), .val (.int c0), .val (.int v102), .val (.int v107), .val (.int v113), .val (.int (if s9 = (0 : Int32) then (0 : Int32) else (if na = (65279 : Int32) then (1 : Int32) else (0 : Int32)))), .val (.int (if (if s9 = (0 : Int32) then s9 else (if na = (65279 : Int32) then (0 : Int32) else s9)) = (0 : Int32) then (0 : Int32) else (if nb = (65279 : Int32) then (1 : Int32) else (0 : Int32)))), .unset, .unset] [(.int (10 : Int32)), (.int dd)])) t
      refine XS.icmpNo X133.here hx rfl (hb hby at_235) rfl (teq c134).2 ?_
      show Steps p.tables e below (T133.setTop (mkF m 238 #[.val (.int q0), .val (.int q1), .val (.int q2), .val (.int q3), .val (.int q4), .val (.int tf), .val (.int na), .val (.int nb), .val (.int cc), .val (.int dd), .val (.ref o9), .val (.int l0), .val (.int c0), .val (.int v102), .val (.int v107), .val (.int v113), .val (.int (if s9 = (0 : Int32) then (0 : Int32) else (if na = (65279 : Int32) then (1 : Int32) else (0 : Int32)))), .val (.int (if (if s9 = (0 : Int32) then s9 else (if na = (65279 : Int32) then (0 : Int32) else s9)) = (0 : Int32) then (0 : Int32) else (if nb = (65279 : Int32) then (1 : Int32) else (0 : Int32)))), .unset, .unset] [])) t
      refine XS.iload X133.here hx rfl (hb hby at_238) rfl ?_
      show Steps p.tables e below (T133.setTop (mkF m 240 #[.val (.int q0), .val (.int q1), .val (.int q2), .val (.int q3), .val (.int q4), .val (.int tf), .val (.int na), .val (.int nb), .val (.int cc), .val (.int dd), .val (.ref o9), .val (.int l0), .val (.int c0), .val (.int v102), .val (.int v107), .val (.int v113), .val (.int (if s9 = (0 : Int32) then (0 : Int32) else (if na = (65279 : Int32) then (1 : Int32) else (0 : Int32)))), .val (.int (if (if s9 = (0 : Int32) then s9 else (if na = (65279 : Int32) then (0 : Int32) else s9)) = (0 : Int32) then (0 : Int32) else (if nb = (65279 : Int32) then (1 : Int32) else (0 : Int32)))), .unset, .unset] [(.int l0)])) t
      refine XS.iconst X133.here hx rfl (hb hby at_240) ?_
      show Steps p.tables e below (T133.setTop (mkF m 241 #[.val (.int q0), .val (.int q1), .val (.int q2), .val (.int q3), .val (.int q4), .val (.int tf), .val (.int na), .val (.int nb), .val (.int cc), .val (.int dd), .val (.ref o9), .val (.int l0), .val (.int c0), .val (.int v102), .val (.int v107), .val (.int v113), .val (.int (if s9 = (0 : Int32) then (0 : Int32) else (if na = (65279 : Int32) then (1 : Int32) else (0 : Int32)))), .val (.int (if (if s9 = (0 : Int32) then s9 else (if na = (65279 : Int32) then (0 : Int32) else s9)) = (0 : Int32) then (0 : Int32) else (if nb = (65279 : Int32) then (1 : Int32) else (0 : Int32)))), .unset, .unset] [(.int (1 : Int32)), (.int l0)])) t
      refine XS.iadd X133.here hx rfl (hb hby at_241) rfl ?_
      show Steps p.tables e below (T133.setTop (mkF m 242 #[.val (.int q0), .val (.int q1), .val (.int q2), .val (.int q3), .val (.int q4), .val (.int tf), .val (.int na), .val (.int nb), .val (.int cc), .val (.int dd), .val (.ref o9), .val (.int l0), .val (.int c0), .val (.int v102), .val (.int v107), .val (.int v113), .val (.int (if s9 = (0 : Int32) then (0 : Int32) else (if na = (65279 : Int32) then (1 : Int32) else (0 : Int32)))), .val (.int (if (if s9 = (0 : Int32) then s9 else (if na = (65279 : Int32) then (0 : Int32) else s9)) = (0 : Int32) then (0 : Int32) else (if nb = (65279 : Int32) then (1 : Int32) else (0 : Int32)))), .unset, .unset] [(.int (l0 + (1 : Int32)))])) t
      refine XS.goto X133.here hx rfl (pc0 := 242) (pc' := 247) rfl (hb hby at_242) (by decide) (by decide) ?_
      have e_v135' := e_v135
      try rw [if_pos c134] at e_v135'
      subst e_v135'
      exact k
    · show Steps p.tables e below (T133.setTop (mkF m 235 #[.val (.int q0), .val (.int q1), .val (.int q2), .val (.int q3), .val (.int q4), .val (.int tf), .val (.int na), .val (.int nb), .val (.int cc), .val (.int dd), .val (.ref o9), .val (.int l0), .val (.int c0), .val (.int v102), .val (.int v107), .val (.int v113), .val (.int (if s9 = (0 : Int32) then (0 : Int32) else (if na = (65279 : Int32) then (1 : Int32) else (0 : Int32)))), .val (.int (if (if s9 = (0 : Int32) then s9 else (if na = (65279 : Int32) then (0 : Int32) else s9)) = (0 : Int32) then (0 : Int32) else (if nb = (65279 : Int32) then (1 : Int32) else (0 : Int32)))), .unset, .unset] [(.int (10 : Int32)), (.int dd)])) t
      refine XS.icmpYes X133.here hx rfl (pc0 := 235) (pc' := 245) rfl (hb hby at_235) rfl (feq c134).2 (by decide) (by decide) ?_
      show Steps p.tables e below (T133.setTop (mkF m 245 #[.val (.int q0), .val (.int q1), .val (.int q2), .val (.int q3), .val (.int q4), .val (.int tf), .val (.int na), .val (.int nb), .val (.int cc), .val (.int dd), .val (.ref o9), .val (.int l0), .val (.int c0), .val (.int v102), .val (.int v107), .val (.int v113), .val (.int (if s9 = (0 : Int32) then (0 : Int32) else (if na = (65279 : Int32) then (1 : Int32) else (0 : Int32)))), .val (.int (if (if s9 = (0 : Int32) then s9 else (if na = (65279 : Int32) then (0 : Int32) else s9)) = (0 : Int32) then (0 : Int32) else (if nb = (65279 : Int32) then (1 : Int32) else (0 : Int32)))), .unset, .unset] [])) t
      refine XS.iload X133.here hx rfl (hb hby at_245) rfl ?_
      have e_v135' := e_v135
      try rw [if_neg c134] at e_v135'
      subst e_v135'
      exact k
  refine OFinW.go sg137 ?_
  have sg140 : ∀ t, Steps p.tables e below (T133.setTop (mkF m 253 #[.val (.int q0), .val (.int q1), .val (.int q2), .val (.int q3), .val (.int q4), .val (.int tf), .val (.int na), .val (.int nb), .val (.int cc), .val (.int dd), .val (.ref o9), .val (.int l0), .val (.int c0), .val (.int v102), .val (.int v107), .val (.int v113), .val (.int (if s9 = (0 : Int32) then (0 : Int32) else (if na = (65279 : Int32) then (1 : Int32) else (0 : Int32)))), .val (.int (if (if s9 = (0 : Int32) then s9 else (if na = (65279 : Int32) then (0 : Int32) else s9)) = (0 : Int32) then (0 : Int32) else (if nb = (65279 : Int32) then (1 : Int32) else (0 : Int32)))), .val (.int v135), .unset] [(.int (10 : Int32)), (.int dd)])) t → Steps p.tables e below (T133.setTop (mkF m 247 #[.val (.int q0), .val (.int q1), .val (.int q2), .val (.int q3), .val (.int q4), .val (.int tf), .val (.int na), .val (.int nb), .val (.int cc), .val (.int dd), .val (.ref o9), .val (.int l0), .val (.int c0), .val (.int v102), .val (.int v107), .val (.int v113), .val (.int (if s9 = (0 : Int32) then (0 : Int32) else (if na = (65279 : Int32) then (1 : Int32) else (0 : Int32)))), .val (.int (if (if s9 = (0 : Int32) then s9 else (if na = (65279 : Int32) then (0 : Int32) else s9)) = (0 : Int32) then (0 : Int32) else (if nb = (65279 : Int32) then (1 : Int32) else (0 : Int32)))), .unset, .unset] [(.int v135)])) t := by
    intro t k
    show Steps p.tables e below (T133.setTop (mkF m 247 #[.val (.int q0), .val (.int q1), .val (.int q2), .val (.int q3), .val (.int q4), .val (.int tf), .val (.int na), .val (.int nb), .val (.int cc), .val (.int dd), .val (.ref o9), .val (.int l0), .val (.int c0), .val (.int v102), .val (.int v107), .val (.int v113), .val (.int (if s9 = (0 : Int32) then (0 : Int32) else (if na = (65279 : Int32) then (1 : Int32) else (0 : Int32)))), .val (.int (if (if s9 = (0 : Int32) then s9 else (if na = (65279 : Int32) then (0 : Int32) else s9)) = (0 : Int32) then (0 : Int32) else (if nb = (65279 : Int32) then (1 : Int32) else (0 : Int32)))), .unset, .unset] [(.int v135)])) t
    refine XS.istore X133.here hx rfl (hb hby at_247) rfl (l' := #[.val (.int q0), .val (.int q1), .val (.int q2), .val (.int q3), .val (.int q4), .val (.int tf), .val (.int na), .val (.int nb), .val (.int cc), .val (.int dd), .val (.ref o9), .val (.int l0), .val (.int c0), .val (.int v102), .val (.int v107), .val (.int v113), .val (.int (if s9 = (0 : Int32) then (0 : Int32) else (if na = (65279 : Int32) then (1 : Int32) else (0 : Int32)))), .val (.int (if (if s9 = (0 : Int32) then s9 else (if na = (65279 : Int32) then (0 : Int32) else s9)) = (0 : Int32) then (0 : Int32) else (if nb = (65279 : Int32) then (1 : Int32) else (0 : Int32)))), .val (.int v135), .unset]) rfl ?_
    show Steps p.tables e below (T133.setTop (mkF m 249 #[.val (.int q0), .val (.int q1), .val (.int q2), .val (.int q3), .val (.int q4), .val (.int tf), .val (.int na), .val (.int nb), .val (.int cc), .val (.int dd), .val (.ref o9), .val (.int l0), .val (.int c0), .val (.int v102), .val (.int v107), .val (.int v113), .val (.int (if s9 = (0 : Int32) then (0 : Int32) else (if na = (65279 : Int32) then (1 : Int32) else (0 : Int32)))), .val (.int (if (if s9 = (0 : Int32) then s9 else (if na = (65279 : Int32) then (0 : Int32) else s9)) = (0 : Int32) then (0 : Int32) else (if nb = (65279 : Int32) then (1 : Int32) else (0 : Int32)))), .val (.int v135), .unset] [])) t
    refine XS.iload X133.here hx rfl (hb hby at_249) rfl ?_
    show Steps p.tables e below (T133.setTop (mkF m 251 #[.val (.int q0), .val (.int q1), .val (.int q2), .val (.int q3), .val (.int q4), .val (.int tf), .val (.int na), .val (.int nb), .val (.int cc), .val (.int dd), .val (.ref o9), .val (.int l0), .val (.int c0), .val (.int v102), .val (.int v107), .val (.int v113), .val (.int (if s9 = (0 : Int32) then (0 : Int32) else (if na = (65279 : Int32) then (1 : Int32) else (0 : Int32)))), .val (.int (if (if s9 = (0 : Int32) then s9 else (if na = (65279 : Int32) then (0 : Int32) else s9)) = (0 : Int32) then (0 : Int32) else (if nb = (65279 : Int32) then (1 : Int32) else (0 : Int32)))), .val (.int v135), .unset] [(.int dd)])) t
    refine XS.bipush X133.here hx rfl (hb hby at_251) ?_
    exact k
  refine OFinW.go sg140 ?_
  obtain ⟨v139, e_v139⟩ : ∃ z : Int32, z = (if dd = (10 : Int32) then (1 : Int32) else (c0 + (1 : Int32))) := ⟨_, rfl⟩
  have sg141 : ∀ t, Steps p.tables e below (T133.setTop (mkF m 264 #[.val (.int q0), .val (.int q1), .val (.int q2), .val (.int q3), .val (.int q4), .val (.int tf), .val (.int na), .val (.int nb), .val (.int cc), .val (.int dd), .val (.ref o9), .val (.int l0), .val (.int c0), .val (.int v102), .val (.int v107), .val (.int v113), .val (.int (if s9 = (0 : Int32) then (0 : Int32) else (if na = (65279 : Int32) then (1 : Int32) else (0 : Int32)))), .val (.int (if (if s9 = (0 : Int32) then s9 else (if na = (65279 : Int32) then (0 : Int32) else s9)) = (0 : Int32) then (0 : Int32) else (if nb = (65279 : Int32) then (1 : Int32) else (0 : Int32)))), .val (.int v135), .unset] [(.int v139)])) t → Steps p.tables e below (T133.setTop (mkF m 253 #[.val (.int q0), .val (.int q1), .val (.int q2), .val (.int q3), .val (.int q4), .val (.int tf), .val (.int na), .val (.int nb), .val (.int cc), .val (.int dd), .val (.ref o9), .val (.int l0), .val (.int c0), .val (.int v102), .val (.int v107), .val (.int v113), .val (.int (if s9 = (0 : Int32) then (0 : Int32) else (if na = (65279 : Int32) then (1 : Int32) else (0 : Int32)))), .val (.int (if (if s9 = (0 : Int32) then s9 else (if na = (65279 : Int32) then (0 : Int32) else s9)) = (0 : Int32) then (0 : Int32) else (if nb = (65279 : Int32) then (1 : Int32) else (0 : Int32)))), .val (.int v135), .unset] [(.int (10 : Int32)), (.int dd)])) t := by
    intro t k
    by_cases c138 : dd = (10 : Int32)
    · show Steps p.tables e below (T133.setTop (mkF m 253 #[.val (.int q0), .val (.int q1), .val (.int q2), .val (.int q3), .val (.int q4), .val (.int tf), .val (.int na), .val (.int nb), .val (.int cc), .val (.int dd), .val (.ref o9), .val (.int l0), .val (.int c0), .val (.int v102), .val (.int v107), .val (.int v113), .val (.int (if s9 = (0 : Int32) then (0 : Int32) else (if na = (65279 : Int32) then (1 : Int32) else (0 : Int32)))), .val (.int (if (if s9 = (0 : Int32) then s9 else (if na = (65279 : Int32) then (0 : Int32) else s9)) = (0 : Int32) then (0 : Int32) else (if nb = (65279 : Int32) then (1 : Int32) else (0 : Int32)))), .val (.int v135), .unset] [(.int (10 : Int32)), (.int dd)])) t
      refine XS.icmpNo X133.here hx rfl (hb hby at_253) rfl (teq c138).2 ?_
      show Steps p.tables e below (T133.setTop (mkF m 256 #[.val (.int q0), .val (.int q1), .val (.int q2), .val (.int q3), .val (.int q4), .val (.int tf), .val (.int na), .val (.int nb), .val (.int cc), .val (.int dd), .val (.ref o9), .val (.int l0), .val (.int c0), .val (.int v102), .val (.int v107), .val (.int v113), .val (.int (if s9 = (0 : Int32) then (0 : Int32) else (if na = (65279 : Int32) then (1 : Int32) else (0 : Int32)))), .val (.int (if (if s9 = (0 : Int32) then s9 else (if na = (65279 : Int32) then (0 : Int32) else s9)) = (0 : Int32) then (0 : Int32) else (if nb = (65279 : Int32) then (1 : Int32) else (0 : Int32)))), .val (.int v135), .unset] [])) t
      refine XS.iconst X133.here hx rfl (hb hby at_256) ?_
      show Steps p.tables e below (T133.setTop (mkF m 257 #[.val (.int q0), .val (.int q1), .val (.int q2), .val (.int q3), .val (.int q4), .val (.int tf), .val (.int na), .val (.int nb), .val (.int cc), .val (.int dd), .val (.ref o9), .val (.int l0), .val (.int c0), .val (.int v102), .val (.int v107), .val (.int v113), .val (.int (if s9 = (0 : Int32) then (0 : Int32) else (if na = (65279 : Int32) then (1 : Int32) else (0 : Int32)))), .val (.int (if (if s9 = (0 : Int32) then s9 else (if na = (65279 : Int32) then (0 : Int32) else s9)) = (0 : Int32) then (0 : Int32) else (if nb = (65279 : Int32) then (1 : Int32) else (0 : Int32)))), .val (.int v135), .unset] [(.int (1 : Int32))])) t
      refine XS.goto X133.here hx rfl (pc0 := 257) (pc' := 264) rfl (hb hby at_257) (by decide) (by decide) ?_
      have e_v139' := e_v139
      try rw [if_pos c138] at e_v139'
      subst e_v139'
      exact k
    · show Steps p.tables e below (T133.setTop (mkF m 253 #[.val (.int q0), .val (.int q1), .val (.int q2), .val (.int q3), .val (.int q4), .val (.int tf), .val (.int na), .val (.int nb), .val (.int cc), .val (.int dd), .val (.ref o9), .val (.int l0), .val (.int c0), .val (.int v102), .val (.int v107), .val (.int v113), .val (.int (if s9 = (0 : Int32) then (0 : Int32) else (if na = (65279 : Int32) then (1 : Int32) else (0 : Int32)))), .val (.int (if (if s9 = (0 : Int32) then s9 else (if na = (65279 : Int32) then (0 : Int32) else s9)) = (0 : Int32) then (0 : Int32) else (if nb = (65279 : Int32) then (1 : Int32) else (0 : Int32)))), .val (.int v135), .unset] [(.int (10 : Int32)), (.int dd)])) t
      refine XS.icmpYes X133.here hx rfl (pc0 := 253) (pc' := 260) rfl (hb hby at_253) rfl (feq c138).2 (by decide) (by decide) ?_
      show Steps p.tables e below (T133.setTop (mkF m 260 #[.val (.int q0), .val (.int q1), .val (.int q2), .val (.int q3), .val (.int q4), .val (.int tf), .val (.int na), .val (.int nb), .val (.int cc), .val (.int dd), .val (.ref o9), .val (.int l0), .val (.int c0), .val (.int v102), .val (.int v107), .val (.int v113), .val (.int (if s9 = (0 : Int32) then (0 : Int32) else (if na = (65279 : Int32) then (1 : Int32) else (0 : Int32)))), .val (.int (if (if s9 = (0 : Int32) then s9 else (if na = (65279 : Int32) then (0 : Int32) else s9)) = (0 : Int32) then (0 : Int32) else (if nb = (65279 : Int32) then (1 : Int32) else (0 : Int32)))), .val (.int v135), .unset] [])) t
      refine XS.iload X133.here hx rfl (hb hby at_260) rfl ?_
      show Steps p.tables e below (T133.setTop (mkF m 262 #[.val (.int q0), .val (.int q1), .val (.int q2), .val (.int q3), .val (.int q4), .val (.int tf), .val (.int na), .val (.int nb), .val (.int cc), .val (.int dd), .val (.ref o9), .val (.int l0), .val (.int c0), .val (.int v102), .val (.int v107), .val (.int v113), .val (.int (if s9 = (0 : Int32) then (0 : Int32) else (if na = (65279 : Int32) then (1 : Int32) else (0 : Int32)))), .val (.int (if (if s9 = (0 : Int32) then s9 else (if na = (65279 : Int32) then (0 : Int32) else s9)) = (0 : Int32) then (0 : Int32) else (if nb = (65279 : Int32) then (1 : Int32) else (0 : Int32)))), .val (.int v135), .unset] [(.int c0)])) t
      refine XS.iconst X133.here hx rfl (hb hby at_262) ?_
      show Steps p.tables e below (T133.setTop (mkF m 263 #[.val (.int q0), .val (.int q1), .val (.int q2), .val (.int q3), .val (.int q4), .val (.int tf), .val (.int na), .val (.int nb), .val (.int cc), .val (.int dd), .val (.ref o9), .val (.int l0), .val (.int c0), .val (.int v102), .val (.int v107), .val (.int v113), .val (.int (if s9 = (0 : Int32) then (0 : Int32) else (if na = (65279 : Int32) then (1 : Int32) else (0 : Int32)))), .val (.int (if (if s9 = (0 : Int32) then s9 else (if na = (65279 : Int32) then (0 : Int32) else s9)) = (0 : Int32) then (0 : Int32) else (if nb = (65279 : Int32) then (1 : Int32) else (0 : Int32)))), .val (.int v135), .unset] [(.int (1 : Int32)), (.int c0)])) t
      refine XS.iadd X133.here hx rfl (hb hby at_263) rfl ?_
      have e_v139' := e_v139
      try rw [if_neg c138] at e_v139'
      subst e_v139'
      exact k
  refine OFinW.go sg141 ?_
  have sg142 : ∀ t, Steps p.tables e below (T133.setTop (mkF m 268 #[.val (.int q0), .val (.int q1), .val (.int q2), .val (.int q3), .val (.int q4), .val (.int tf), .val (.int na), .val (.int nb), .val (.int cc), .val (.int dd), .val (.ref o9), .val (.int l0), .val (.int c0), .val (.int v102), .val (.int v107), .val (.int v113), .val (.int (if s9 = (0 : Int32) then (0 : Int32) else (if na = (65279 : Int32) then (1 : Int32) else (0 : Int32)))), .val (.int (if (if s9 = (0 : Int32) then s9 else (if na = (65279 : Int32) then (0 : Int32) else s9)) = (0 : Int32) then (0 : Int32) else (if nb = (65279 : Int32) then (1 : Int32) else (0 : Int32)))), .val (.int v135), .val (.int v139)] [(.ref o9)])) t → Steps p.tables e below (T133.setTop (mkF m 264 #[.val (.int q0), .val (.int q1), .val (.int q2), .val (.int q3), .val (.int q4), .val (.int tf), .val (.int na), .val (.int nb), .val (.int cc), .val (.int dd), .val (.ref o9), .val (.int l0), .val (.int c0), .val (.int v102), .val (.int v107), .val (.int v113), .val (.int (if s9 = (0 : Int32) then (0 : Int32) else (if na = (65279 : Int32) then (1 : Int32) else (0 : Int32)))), .val (.int (if (if s9 = (0 : Int32) then s9 else (if na = (65279 : Int32) then (0 : Int32) else s9)) = (0 : Int32) then (0 : Int32) else (if nb = (65279 : Int32) then (1 : Int32) else (0 : Int32)))), .val (.int v135), .unset] [(.int v139)])) t := by
    intro t k
    show Steps p.tables e below (T133.setTop (mkF m 264 #[.val (.int q0), .val (.int q1), .val (.int q2), .val (.int q3), .val (.int q4), .val (.int tf), .val (.int na), .val (.int nb), .val (.int cc), .val (.int dd), .val (.ref o9), .val (.int l0), .val (.int c0), .val (.int v102), .val (.int v107), .val (.int v113), .val (.int (if s9 = (0 : Int32) then (0 : Int32) else (if na = (65279 : Int32) then (1 : Int32) else (0 : Int32)))), .val (.int (if (if s9 = (0 : Int32) then s9 else (if na = (65279 : Int32) then (0 : Int32) else s9)) = (0 : Int32) then (0 : Int32) else (if nb = (65279 : Int32) then (1 : Int32) else (0 : Int32)))), .val (.int v135), .unset] [(.int v139)])) t
    refine XS.istore X133.here hx rfl (hb hby at_264) rfl (l' := #[.val (.int q0), .val (.int q1), .val (.int q2), .val (.int q3), .val (.int q4), .val (.int tf), .val (.int na), .val (.int nb), .val (.int cc), .val (.int dd), .val (.ref o9), .val (.int l0), .val (.int c0), .val (.int v102), .val (.int v107), .val (.int v113), .val (.int (if s9 = (0 : Int32) then (0 : Int32) else (if na = (65279 : Int32) then (1 : Int32) else (0 : Int32)))), .val (.int (if (if s9 = (0 : Int32) then s9 else (if na = (65279 : Int32) then (0 : Int32) else s9)) = (0 : Int32) then (0 : Int32) else (if nb = (65279 : Int32) then (1 : Int32) else (0 : Int32)))), .val (.int v135), .val (.int v139)]) rfl ?_
    show Steps p.tables e below (T133.setTop (mkF m 266 #[.val (.int q0), .val (.int q1), .val (.int q2), .val (.int q3), .val (.int q4), .val (.int tf), .val (.int na), .val (.int nb), .val (.int cc), .val (.int dd), .val (.ref o9), .val (.int l0), .val (.int c0), .val (.int v102), .val (.int v107), .val (.int v113), .val (.int (if s9 = (0 : Int32) then (0 : Int32) else (if na = (65279 : Int32) then (1 : Int32) else (0 : Int32)))), .val (.int (if (if s9 = (0 : Int32) then s9 else (if na = (65279 : Int32) then (0 : Int32) else s9)) = (0 : Int32) then (0 : Int32) else (if nb = (65279 : Int32) then (1 : Int32) else (0 : Int32)))), .val (.int v135), .val (.int v139)] [])) t
    refine XS.aload X133.here hx rfl (hb hby at_266) rfl rfl ?_
    exact k
  refine OFinW.go sg142 ?_
  obtain ⟨cq143, kq143, q143a, q143b, q143c⟩ := isOf hZ rfl (((E1.keep Kq117).keep Kq119).keep Kq133)
  obtain ⟨_, _, ⟨T143, L143, k143, n143⟩, -, X143, ⟨Lc143, hQ143, l143, y143, z143⟩, st143⟩ := X133.virtualBack hx (y := (⟨"org/counterpath/text/LineColumn", "line", "()I"⟩ : MethodName)) (z := (⟨"org/counterpath/text/LineColumn", "line", "()I"⟩ : MethodName)) hown (mvT hZ (hw _ (List.mem_of_getElem? (i := 42) rfl))) (mvT hZ (hw _ (List.mem_of_getElem? (i := 43) rfl))) (notFace_of_selects (args := #[]) (mvT hZ (hw _ (List.mem_of_getElem? (i := 45) rfl)))) (mvT hZ (hw _ (List.mem_of_getElem? (i := 45) rfl))) (mvT hZ (hw _ (List.mem_of_getElem? (i := 44) rfl))) (by decide) (backOf (W := 0) (rm5 l Z aZ hw [] o9 (if dd = (10 : Int32) then (l9 + (1 : Int32)) else l9) T133.heap n0 (Nat.le_trans Z0 K133.1) P133_0) hZ (hw _ (List.mem_of_getElem? (i := 46) rfl)) (hw _ (List.mem_of_getElem? (i := 7) rfl)) (by decide) (by decide)) q143a q143c (g := (mkF m 268 #[.val (.int q0), .val (.int q1), .val (.int q2), .val (.int q3), .val (.int q4), .val (.int tf), .val (.int na), .val (.int nb), .val (.int cc), .val (.int dd), .val (.ref o9), .val (.int l0), .val (.int c0), .val (.int v102), .val (.int v107), .val (.int v113), .val (.int (if s9 = (0 : Int32) then (0 : Int32) else (if na = (65279 : Int32) then (1 : Int32) else (0 : Int32)))), .val (.int (if (if s9 = (0 : Int32) then s9 else (if na = (65279 : Int32) then (0 : Int32) else s9)) = (0 : Int32) then (0 : Int32) else (if nb = (65279 : Int32) then (1 : Int32) else (0 : Int32)))), .val (.int v135), .val (.int v139)] [(.ref o9)])) rfl (by rw [hml]; rfl) (Steps.refl _) (argsL := []) (rest := []) (lenOf pd_1 rfl) rfl (by show 2 * 0 + _ ≤ _; exact Nat.le_of_eq rfl) (hb hby at_268) (fun _ _ => ⟨rfl, rfl, (by decide : 5 + 0 ≤ _), (by decide : 23 + 0 ≤ _)⟩)
  dsimp only [Pt.U, Pt.locs, Pt.cells, Pt.slots] at X143 l143 y143 z143 st143 hQ143
  subst l143 y143 z143
  obtain ⟨rfl, N143q, e143⟩ := hQ143
  have N143 := Fr.app N133 N143q
  refine OFinW.tr st143 ?_
  have sg145 : ∀ t, Steps p.tables e below (T143.setTop (mkF m 273 #[.val (.int q0), .val (.int q1), .val (.int q2), .val (.int q3), .val (.int q4), .val (.int tf), .val (.int na), .val (.int nb), .val (.int cc), .val (.int dd), .val (.ref o9), .val (.int l0), .val (.int c0), .val (.int v102), .val (.int v107), .val (.int v113), .val (.int (if s9 = (0 : Int32) then (0 : Int32) else (if na = (65279 : Int32) then (1 : Int32) else (0 : Int32)))), .val (.int (if (if s9 = (0 : Int32) then s9 else (if na = (65279 : Int32) then (0 : Int32) else s9)) = (0 : Int32) then (0 : Int32) else (if nb = (65279 : Int32) then (1 : Int32) else (0 : Int32)))), .val (.int v135), .val (.int v139)] [(.int v135), (.int (if dd = (10 : Int32) then (l9 + (1 : Int32)) else l9))])) t → Steps p.tables e below (T143.setTop (mkF m 271 #[.val (.int q0), .val (.int q1), .val (.int q2), .val (.int q3), .val (.int q4), .val (.int tf), .val (.int na), .val (.int nb), .val (.int cc), .val (.int dd), .val (.ref o9), .val (.int l0), .val (.int c0), .val (.int v102), .val (.int v107), .val (.int v113), .val (.int (if s9 = (0 : Int32) then (0 : Int32) else (if na = (65279 : Int32) then (1 : Int32) else (0 : Int32)))), .val (.int (if (if s9 = (0 : Int32) then s9 else (if na = (65279 : Int32) then (0 : Int32) else s9)) = (0 : Int32) then (0 : Int32) else (if nb = (65279 : Int32) then (1 : Int32) else (0 : Int32)))), .val (.int v135), .val (.int v139)] [(.int (if dd = (10 : Int32) then (l9 + (1 : Int32)) else l9))])) t := by
    intro t k
    show Steps p.tables e below (T143.setTop (mkF m 271 #[.val (.int q0), .val (.int q1), .val (.int q2), .val (.int q3), .val (.int q4), .val (.int tf), .val (.int na), .val (.int nb), .val (.int cc), .val (.int dd), .val (.ref o9), .val (.int l0), .val (.int c0), .val (.int v102), .val (.int v107), .val (.int v113), .val (.int (if s9 = (0 : Int32) then (0 : Int32) else (if na = (65279 : Int32) then (1 : Int32) else (0 : Int32)))), .val (.int (if (if s9 = (0 : Int32) then s9 else (if na = (65279 : Int32) then (0 : Int32) else s9)) = (0 : Int32) then (0 : Int32) else (if nb = (65279 : Int32) then (1 : Int32) else (0 : Int32)))), .val (.int v135), .val (.int v139)] [(.int (if dd = (10 : Int32) then (l9 + (1 : Int32)) else l9))])) t
    refine XS.iload X143.here hx rfl (hb hby at_271) rfl ?_
    exact k
  refine OFinW.go sg145 ?_
  have c144 : (if dd = (10 : Int32) then (l9 + (1 : Int32)) else l9) = v135 := (by rw [e_v135, hl])
  have sg146 : ∀ t, Steps p.tables e below (T143.setTop (mkF m 278 #[.val (.int q0), .val (.int q1), .val (.int q2), .val (.int q3), .val (.int q4), .val (.int tf), .val (.int na), .val (.int nb), .val (.int cc), .val (.int dd), .val (.ref o9), .val (.int l0), .val (.int c0), .val (.int v102), .val (.int v107), .val (.int v113), .val (.int (if s9 = (0 : Int32) then (0 : Int32) else (if na = (65279 : Int32) then (1 : Int32) else (0 : Int32)))), .val (.int (if (if s9 = (0 : Int32) then s9 else (if na = (65279 : Int32) then (0 : Int32) else s9)) = (0 : Int32) then (0 : Int32) else (if nb = (65279 : Int32) then (1 : Int32) else (0 : Int32)))), .val (.int v135), .val (.int v139)] [(.ref o9)])) t → Steps p.tables e below (T143.setTop (mkF m 273 #[.val (.int q0), .val (.int q1), .val (.int q2), .val (.int q3), .val (.int q4), .val (.int tf), .val (.int na), .val (.int nb), .val (.int cc), .val (.int dd), .val (.ref o9), .val (.int l0), .val (.int c0), .val (.int v102), .val (.int v107), .val (.int v113), .val (.int (if s9 = (0 : Int32) then (0 : Int32) else (if na = (65279 : Int32) then (1 : Int32) else (0 : Int32)))), .val (.int (if (if s9 = (0 : Int32) then s9 else (if na = (65279 : Int32) then (0 : Int32) else s9)) = (0 : Int32) then (0 : Int32) else (if nb = (65279 : Int32) then (1 : Int32) else (0 : Int32)))), .val (.int v135), .val (.int v139)] [(.int v135), (.int (if dd = (10 : Int32) then (l9 + (1 : Int32)) else l9))])) t := by
    intro t k
    show Steps p.tables e below (T143.setTop (mkF m 273 #[.val (.int q0), .val (.int q1), .val (.int q2), .val (.int q3), .val (.int q4), .val (.int tf), .val (.int na), .val (.int nb), .val (.int cc), .val (.int dd), .val (.ref o9), .val (.int l0), .val (.int c0), .val (.int v102), .val (.int v107), .val (.int v113), .val (.int (if s9 = (0 : Int32) then (0 : Int32) else (if na = (65279 : Int32) then (1 : Int32) else (0 : Int32)))), .val (.int (if (if s9 = (0 : Int32) then s9 else (if na = (65279 : Int32) then (0 : Int32) else s9)) = (0 : Int32) then (0 : Int32) else (if nb = (65279 : Int32) then (1 : Int32) else (0 : Int32)))), .val (.int v135), .val (.int v139)] [(.int v135), (.int (if dd = (10 : Int32) then (l9 + (1 : Int32)) else l9))])) t
    refine XS.icmpNo X143.here hx rfl (hb hby at_273) rfl (teq c144).2 ?_
    show Steps p.tables e below (T143.setTop (mkF m 276 #[.val (.int q0), .val (.int q1), .val (.int q2), .val (.int q3), .val (.int q4), .val (.int tf), .val (.int na), .val (.int nb), .val (.int cc), .val (.int dd), .val (.ref o9), .val (.int l0), .val (.int c0), .val (.int v102), .val (.int v107), .val (.int v113), .val (.int (if s9 = (0 : Int32) then (0 : Int32) else (if na = (65279 : Int32) then (1 : Int32) else (0 : Int32)))), .val (.int (if (if s9 = (0 : Int32) then s9 else (if na = (65279 : Int32) then (0 : Int32) else s9)) = (0 : Int32) then (0 : Int32) else (if nb = (65279 : Int32) then (1 : Int32) else (0 : Int32)))), .val (.int v135), .val (.int v139)] [])) t
    refine XS.aload X143.here hx rfl (hb hby at_276) rfl rfl ?_
    exact k
  refine OFinW.go sg146 ?_
  obtain ⟨cq147, kq147, q147a, q147b, q147c⟩ := isOf hZ e143 (((E1.keep Kq117).keep Kq119).keep Kq133)
  obtain ⟨_, _, ⟨T147, L147, k147, n147⟩, -, X147, ⟨Lc147, hQ147, l147, y147, z147⟩, st147⟩ := X143.virtualBack hx (y := (⟨"org/counterpath/text/LineColumn", "column", "()I"⟩ : MethodName)) (z := (⟨"org/counterpath/text/LineColumn", "column", "()I"⟩ : MethodName)) hown (mvT hZ (hw _ (List.mem_of_getElem? (i := 47) rfl))) (mvT hZ (hw _ (List.mem_of_getElem? (i := 48) rfl))) (notFace_of_selects (args := #[]) (mvT hZ (hw _ (List.mem_of_getElem? (i := 50) rfl)))) (mvT hZ (hw _ (List.mem_of_getElem? (i := 50) rfl))) (mvT hZ (hw _ (List.mem_of_getElem? (i := 49) rfl))) (by decide) (backOf (W := 0) (rm6 l Z aZ hw [] o9 (if dd = (10 : Int32) then (1 : Int32) else (c9 + (1 : Int32))) T133.heap n0 (Nat.le_trans Z0 K133.1) P133_1) hZ (hw _ (List.mem_of_getElem? (i := 51) rfl)) (hw _ (List.mem_of_getElem? (i := 7) rfl)) (by decide) (by decide)) q147a q147c (g := (mkF m 278 #[.val (.int q0), .val (.int q1), .val (.int q2), .val (.int q3), .val (.int q4), .val (.int tf), .val (.int na), .val (.int nb), .val (.int cc), .val (.int dd), .val (.ref o9), .val (.int l0), .val (.int c0), .val (.int v102), .val (.int v107), .val (.int v113), .val (.int (if s9 = (0 : Int32) then (0 : Int32) else (if na = (65279 : Int32) then (1 : Int32) else (0 : Int32)))), .val (.int (if (if s9 = (0 : Int32) then s9 else (if na = (65279 : Int32) then (0 : Int32) else s9)) = (0 : Int32) then (0 : Int32) else (if nb = (65279 : Int32) then (1 : Int32) else (0 : Int32)))), .val (.int v135), .val (.int v139)] [(.ref o9)])) rfl (by rw [hml]; rfl) (Steps.refl _) (argsL := []) (rest := []) (lenOf pd_1 rfl) rfl (by show 2 * 0 + _ ≤ _; exact Nat.le_of_eq rfl) (hb hby at_278) (fun _ _ => ⟨rfl, e143, (by decide : 5 + 0 ≤ _), (by decide : 23 + 0 ≤ _)⟩)
  dsimp only [Pt.U, Pt.locs, Pt.cells, Pt.slots] at X147 l147 y147 z147 st147 hQ147
  subst l147 y147 z147
  obtain ⟨rfl, N147q, e147⟩ := hQ147
  have N147 := Fr.app N143 N147q
  refine OFinW.tr st147 ?_
  have sg149 : ∀ t, Steps p.tables e below (T147.setTop (mkF m 283 #[.val (.int q0), .val (.int q1), .val (.int q2), .val (.int q3), .val (.int q4), .val (.int tf), .val (.int na), .val (.int nb), .val (.int cc), .val (.int dd), .val (.ref o9), .val (.int l0), .val (.int c0), .val (.int v102), .val (.int v107), .val (.int v113), .val (.int (if s9 = (0 : Int32) then (0 : Int32) else (if na = (65279 : Int32) then (1 : Int32) else (0 : Int32)))), .val (.int (if (if s9 = (0 : Int32) then s9 else (if na = (65279 : Int32) then (0 : Int32) else s9)) = (0 : Int32) then (0 : Int32) else (if nb = (65279 : Int32) then (1 : Int32) else (0 : Int32)))), .val (.int v135), .val (.int v139)] [(.int v139), (.int (if dd = (10 : Int32) then (1 : Int32) else (c9 + (1 : Int32))))])) t → Steps p.tables e below (T147.setTop (mkF m 281 #[.val (.int q0), .val (.int q1), .val (.int q2), .val (.int q3), .val (.int q4), .val (.int tf), .val (.int na), .val (.int nb), .val (.int cc), .val (.int dd), .val (.ref o9), .val (.int l0), .val (.int c0), .val (.int v102), .val (.int v107), .val (.int v113), .val (.int (if s9 = (0 : Int32) then (0 : Int32) else (if na = (65279 : Int32) then (1 : Int32) else (0 : Int32)))), .val (.int (if (if s9 = (0 : Int32) then s9 else (if na = (65279 : Int32) then (0 : Int32) else s9)) = (0 : Int32) then (0 : Int32) else (if nb = (65279 : Int32) then (1 : Int32) else (0 : Int32)))), .val (.int v135), .val (.int v139)] [(.int (if dd = (10 : Int32) then (1 : Int32) else (c9 + (1 : Int32))))])) t := by
    intro t k
    show Steps p.tables e below (T147.setTop (mkF m 281 #[.val (.int q0), .val (.int q1), .val (.int q2), .val (.int q3), .val (.int q4), .val (.int tf), .val (.int na), .val (.int nb), .val (.int cc), .val (.int dd), .val (.ref o9), .val (.int l0), .val (.int c0), .val (.int v102), .val (.int v107), .val (.int v113), .val (.int (if s9 = (0 : Int32) then (0 : Int32) else (if na = (65279 : Int32) then (1 : Int32) else (0 : Int32)))), .val (.int (if (if s9 = (0 : Int32) then s9 else (if na = (65279 : Int32) then (0 : Int32) else s9)) = (0 : Int32) then (0 : Int32) else (if nb = (65279 : Int32) then (1 : Int32) else (0 : Int32)))), .val (.int v135), .val (.int v139)] [(.int (if dd = (10 : Int32) then (1 : Int32) else (c9 + (1 : Int32))))])) t
    refine XS.iload X147.here hx rfl (hb hby at_281) rfl ?_
    exact k
  refine OFinW.go sg149 ?_
  have c148 : (if dd = (10 : Int32) then (1 : Int32) else (c9 + (1 : Int32))) = v139 := (by rw [e_v139, hc])
  have sg150 : ∀ t, Steps p.tables e below (T147.setTop (mkF m 292 #[.val (.int q0), .val (.int q1), .val (.int q2), .val (.int q3), .val (.int q4), .val (.int tf), .val (.int na), .val (.int nb), .val (.int cc), .val (.int dd), .val (.ref o9), .val (.int l0), .val (.int c0), .val (.int v102), .val (.int v107), .val (.int v113), .val (.int (if s9 = (0 : Int32) then (0 : Int32) else (if na = (65279 : Int32) then (1 : Int32) else (0 : Int32)))), .val (.int (if (if s9 = (0 : Int32) then s9 else (if na = (65279 : Int32) then (0 : Int32) else s9)) = (0 : Int32) then (0 : Int32) else (if nb = (65279 : Int32) then (1 : Int32) else (0 : Int32)))), .val (.int v135), .val (.int v139)] [(.int (65279 : Int32)), (.ref o9)])) t → Steps p.tables e below (T147.setTop (mkF m 283 #[.val (.int q0), .val (.int q1), .val (.int q2), .val (.int q3), .val (.int q4), .val (.int tf), .val (.int na), .val (.int nb), .val (.int cc), .val (.int dd), .val (.ref o9), .val (.int l0), .val (.int c0), .val (.int v102), .val (.int v107), .val (.int v113), .val (.int (if s9 = (0 : Int32) then (0 : Int32) else (if na = (65279 : Int32) then (1 : Int32) else (0 : Int32)))), .val (.int (if (if s9 = (0 : Int32) then s9 else (if na = (65279 : Int32) then (0 : Int32) else s9)) = (0 : Int32) then (0 : Int32) else (if nb = (65279 : Int32) then (1 : Int32) else (0 : Int32)))), .val (.int v135), .val (.int v139)] [(.int v139), (.int (if dd = (10 : Int32) then (1 : Int32) else (c9 + (1 : Int32))))])) t := by
    intro t k
    show Steps p.tables e below (T147.setTop (mkF m 283 #[.val (.int q0), .val (.int q1), .val (.int q2), .val (.int q3), .val (.int q4), .val (.int tf), .val (.int na), .val (.int nb), .val (.int cc), .val (.int dd), .val (.ref o9), .val (.int l0), .val (.int c0), .val (.int v102), .val (.int v107), .val (.int v113), .val (.int (if s9 = (0 : Int32) then (0 : Int32) else (if na = (65279 : Int32) then (1 : Int32) else (0 : Int32)))), .val (.int (if (if s9 = (0 : Int32) then s9 else (if na = (65279 : Int32) then (0 : Int32) else s9)) = (0 : Int32) then (0 : Int32) else (if nb = (65279 : Int32) then (1 : Int32) else (0 : Int32)))), .val (.int v135), .val (.int v139)] [(.int v139), (.int (if dd = (10 : Int32) then (1 : Int32) else (c9 + (1 : Int32))))])) t
    refine XS.icmpYes X147.here hx rfl (pc0 := 283) (pc' := 288) rfl (hb hby at_283) rfl (teq c148).1 (by decide) (by decide) ?_
    show Steps p.tables e below (T147.setTop (mkF m 288 #[.val (.int q0), .val (.int q1), .val (.int q2), .val (.int q3), .val (.int q4), .val (.int tf), .val (.int na), .val (.int nb), .val (.int cc), .val (.int dd), .val (.ref o9), .val (.int l0), .val (.int c0), .val (.int v102), .val (.int v107), .val (.int v113), .val (.int (if s9 = (0 : Int32) then (0 : Int32) else (if na = (65279 : Int32) then (1 : Int32) else (0 : Int32)))), .val (.int (if (if s9 = (0 : Int32) then s9 else (if na = (65279 : Int32) then (0 : Int32) else s9)) = (0 : Int32) then (0 : Int32) else (if nb = (65279 : Int32) then (1 : Int32) else (0 : Int32)))), .val (.int v135), .val (.int v139)] [])) t
    refine XS.aload X147.here hx rfl (hb hby at_288) rfl rfl ?_
    show Steps p.tables e below (T147.setTop (mkF m 290 #[.val (.int q0), .val (.int q1), .val (.int q2), .val (.int q3), .val (.int q4), .val (.int tf), .val (.int na), .val (.int nb), .val (.int cc), .val (.int dd), .val (.ref o9), .val (.int l0), .val (.int c0), .val (.int v102), .val (.int v107), .val (.int v113), .val (.int (if s9 = (0 : Int32) then (0 : Int32) else (if na = (65279 : Int32) then (1 : Int32) else (0 : Int32)))), .val (.int (if (if s9 = (0 : Int32) then s9 else (if na = (65279 : Int32) then (0 : Int32) else s9)) = (0 : Int32) then (0 : Int32) else (if nb = (65279 : Int32) then (1 : Int32) else (0 : Int32)))), .val (.int v135), .val (.int v139)] [(.ref o9)])) t
    refine X147.ldcInt hx hown (mvT hZ (hw _ (List.mem_of_getElem? (i := 4) rfl))) (g := (mkF m 290 #[.val (.int q0), .val (.int q1), .val (.int q2), .val (.int q3), .val (.int q4), .val (.int tf), .val (.int na), .val (.int nb), .val (.int cc), .val (.int dd), .val (.ref o9), .val (.int l0), .val (.int c0), .val (.int v102), .val (.int v107), .val (.int v113), .val (.int (if s9 = (0 : Int32) then (0 : Int32) else (if na = (65279 : Int32) then (1 : Int32) else (0 : Int32)))), .val (.int (if (if s9 = (0 : Int32) then s9 else (if na = (65279 : Int32) then (0 : Int32) else s9)) = (0 : Int32) then (0 : Int32) else (if nb = (65279 : Int32) then (1 : Int32) else (0 : Int32)))), .val (.int v135), .val (.int v139)] [(.ref o9)])) rfl (hb hby at_290) _ ?_
    exact k
  refine OFinW.go sg150 ?_
  obtain ⟨cq151, kq151, q151a, q151b, q151c⟩ := isOf hZ e147 (((E1.keep Kq117).keep Kq119).keep Kq133)
  obtain ⟨_, _, ⟨T151, L151, k151, n151⟩, -, X151, ⟨Lc151, hQ151, l151, y151, z151⟩, st151⟩ := X147.virtualBack hx (y := (⟨"org/counterpath/text/LineColumn", "skips", "(I)Z"⟩ : MethodName)) (z := (⟨"org/counterpath/text/LineColumn", "skips", "(I)Z"⟩ : MethodName)) hown (mvT hZ (hw _ (List.mem_of_getElem? (i := 36) rfl))) (mvT hZ (hw _ (List.mem_of_getElem? (i := 37) rfl))) (notFace_of_selects (args := #[]) (mvT hZ (hw _ (List.mem_of_getElem? (i := 39) rfl)))) (mvT hZ (hw _ (List.mem_of_getElem? (i := 39) rfl))) (mvT hZ (hw _ (List.mem_of_getElem? (i := 38) rfl))) (by decide) (backOf (W := 0) (rm4 l Z aZ hw [] o9 (65279 : Int32) (if dd = (10 : Int32) then (l9 + (1 : Int32)) else l9) (if dd = (10 : Int32) then (1 : Int32) else (c9 + (1 : Int32))) (0 : Int32) mx9 (ch9 + (1 : Int64)) T133.heap n0 (Nat.le_trans Z0 K133.1) (((E1.keep Kq117).keep Kq119).keep Kq133) P133_0 P133_1 P133_2 P133_3 P133_4 g_o9) hZ (hw _ (List.mem_of_getElem? (i := 40) rfl)) (hw _ (List.mem_of_getElem? (i := 7) rfl)) (by decide) (by decide)) q151a q151c (g := (mkF m 292 #[.val (.int q0), .val (.int q1), .val (.int q2), .val (.int q3), .val (.int q4), .val (.int tf), .val (.int na), .val (.int nb), .val (.int cc), .val (.int dd), .val (.ref o9), .val (.int l0), .val (.int c0), .val (.int v102), .val (.int v107), .val (.int v113), .val (.int (if s9 = (0 : Int32) then (0 : Int32) else (if na = (65279 : Int32) then (1 : Int32) else (0 : Int32)))), .val (.int (if (if s9 = (0 : Int32) then s9 else (if na = (65279 : Int32) then (0 : Int32) else s9)) = (0 : Int32) then (0 : Int32) else (if nb = (65279 : Int32) then (1 : Int32) else (0 : Int32)))), .val (.int v135), .val (.int v139)] [(.int (65279 : Int32)), (.ref o9)])) rfl (by rw [hml]; rfl) (Steps.refl _) (argsL := [(.int (65279 : Int32))]) (rest := []) (lenOf pd_0 rfl) rfl (by show 2 * 0 + _ ≤ _; exact Nat.le_of_eq rfl) (hb hby at_292) (fun _ _ => ⟨rfl, e147, (by decide : 5 + 0 ≤ _), (by decide : 23 + 0 ≤ _)⟩)
  dsimp only [Pt.U, Pt.locs, Pt.cells, Pt.slots] at X151 l151 y151 z151 st151 hQ151
  subst l151 y151 z151
  obtain ⟨rfl, N151q, Kq151, P151_0, P151_1, P151_2, P151_3, P151_4⟩ := hQ151
  have N151 := Fr.app N147 N151q
  refine OFinW.tr st151 ?_
  have K151 : Keep h0 T151.heap [] := K133.trans Kq151 (allS (Or.inr sz_o9) all0)
  have c152 : (if (0 : Int32) = (0 : Int32) then (0 : Int32) else (if (65279 : Int32) = (65279 : Int32) then (1 : Int32) else (0 : Int32))) = (0 : Int32) := (by simp)
  have sg153 : ∀ t, Steps p.tables e below (T151.setTop (mkF m 303 #[.val (.int q0), .val (.int q1), .val (.int q2), .val (.int q3), .val (.int q4), .val (.int tf), .val (.int na), .val (.int nb), .val (.int cc), .val (.int dd), .val (.ref o9), .val (.int l0), .val (.int c0), .val (.int v102), .val (.int v107), .val (.int v113), .val (.int (if s9 = (0 : Int32) then (0 : Int32) else (if na = (65279 : Int32) then (1 : Int32) else (0 : Int32)))), .val (.int (if (if s9 = (0 : Int32) then s9 else (if na = (65279 : Int32) then (0 : Int32) else s9)) = (0 : Int32) then (0 : Int32) else (if nb = (65279 : Int32) then (1 : Int32) else (0 : Int32)))), .val (.int v135), .val (.int v139)] [(.int (1 : Int32))])) t → Steps p.tables e below (T151.setTop (mkF m 295 #[.val (.int q0), .val (.int q1), .val (.int q2), .val (.int q3), .val (.int q4), .val (.int tf), .val (.int na), .val (.int nb), .val (.int cc), .val (.int dd), .val (.ref o9), .val (.int l0), .val (.int c0), .val (.int v102), .val (.int v107), .val (.int v113), .val (.int (if s9 = (0 : Int32) then (0 : Int32) else (if na = (65279 : Int32) then (1 : Int32) else (0 : Int32)))), .val (.int (if (if s9 = (0 : Int32) then s9 else (if na = (65279 : Int32) then (0 : Int32) else s9)) = (0 : Int32) then (0 : Int32) else (if nb = (65279 : Int32) then (1 : Int32) else (0 : Int32)))), .val (.int v135), .val (.int v139)] [(.int (if (0 : Int32) = (0 : Int32) then (0 : Int32) else (if (65279 : Int32) = (65279 : Int32) then (1 : Int32) else (0 : Int32))))])) t := by
    intro t k
    show Steps p.tables e below (T151.setTop (mkF m 295 #[.val (.int q0), .val (.int q1), .val (.int q2), .val (.int q3), .val (.int q4), .val (.int tf), .val (.int na), .val (.int nb), .val (.int cc), .val (.int dd), .val (.ref o9), .val (.int l0), .val (.int c0), .val (.int v102), .val (.int v107), .val (.int v113), .val (.int (if s9 = (0 : Int32) then (0 : Int32) else (if na = (65279 : Int32) then (1 : Int32) else (0 : Int32)))), .val (.int (if (if s9 = (0 : Int32) then s9 else (if na = (65279 : Int32) then (0 : Int32) else s9)) = (0 : Int32) then (0 : Int32) else (if nb = (65279 : Int32) then (1 : Int32) else (0 : Int32)))), .val (.int v135), .val (.int v139)] [(.int (if (0 : Int32) = (0 : Int32) then (0 : Int32) else (if (65279 : Int32) = (65279 : Int32) then (1 : Int32) else (0 : Int32))))])) t
    refine XS.ifNo X151.here hx rfl (hb hby at_295) rfl ((if0 _ _).trans (teq c152).2) ?_
    show Steps p.tables e below (T151.setTop (mkF m 298 #[.val (.int q0), .val (.int q1), .val (.int q2), .val (.int q3), .val (.int q4), .val (.int tf), .val (.int na), .val (.int nb), .val (.int cc), .val (.int dd), .val (.ref o9), .val (.int l0), .val (.int c0), .val (.int v102), .val (.int v107), .val (.int v113), .val (.int (if s9 = (0 : Int32) then (0 : Int32) else (if na = (65279 : Int32) then (1 : Int32) else (0 : Int32)))), .val (.int (if (if s9 = (0 : Int32) then s9 else (if na = (65279 : Int32) then (0 : Int32) else s9)) = (0 : Int32) then (0 : Int32) else (if nb = (65279 : Int32) then (1 : Int32) else (0 : Int32)))), .val (.int v135), .val (.int v139)] [])) t
    refine XS.iconst X151.here hx rfl (hb hby at_298) ?_
    show Steps p.tables e below (T151.setTop (mkF m 299 #[.val (.int q0), .val (.int q1), .val (.int q2), .val (.int q3), .val (.int q4), .val (.int tf), .val (.int na), .val (.int nb), .val (.int cc), .val (.int dd), .val (.ref o9), .val (.int l0), .val (.int c0), .val (.int v102), .val (.int v107), .val (.int v113), .val (.int (if s9 = (0 : Int32) then (0 : Int32) else (if na = (65279 : Int32) then (1 : Int32) else (0 : Int32)))), .val (.int (if (if s9 = (0 : Int32) then s9 else (if na = (65279 : Int32) then (0 : Int32) else s9)) = (0 : Int32) then (0 : Int32) else (if nb = (65279 : Int32) then (1 : Int32) else (0 : Int32)))), .val (.int v135), .val (.int v139)] [(.int (1 : Int32))])) t
    refine XS.goto X151.here hx rfl (pc0 := 299) (pc' := 303) rfl (hb hby at_299) (by decide) (by decide) ?_
    exact k
  refine OFinW.go sg153 ?_
  exact OFinW.retN X151 hS (Nat.le_trans (Nat.le_trans (Nat.le_trans (Nat.le_trans hk Kq117.1) Kq119.1) Kq133.1) Kq151.1) hx hret (by simp) hlk (hb hby at_303) rfl ⟨rfl, N151⟩ (by decide) (by decide)
theorem pd_3 : parseMethodDescriptor "(II)I" = some ⟨[.int, .int], some .int⟩ := by decide +kernel
theorem pd_4 : parseMethodDescriptor "(Ljava/lang/String;JLjava/lang/String;)V" = some ⟨[(.object "java/lang/String"), .long, (.object "java/lang/String")], none⟩ := by decide +kernel
set_option maxHeartbeats 40000000 in
theorem rm0 (l : Launch) (Z : State) (aZ : Array Value) (hw : ∀ d ∈ tables_1, d.before aZ Z = true) (ws : List Jvm.Cond) (q0 : Int32) (q1 : Int32) (q2 : Int32) (q3 : Int32) (q4 : Int32) (h0 : Heap) (n0 : Nat) (Z0 : n0 ≤ h0.size) (O0 : Old Z n0 h0) :
    MetFree l x (head1 (Jvm.Cond.code x code maxLocals ret :: ws) room_1) (fun a U => a = #[(.int q0), (.int q1), (.int q2), (.int q3), (.int q4)] ∧ Z.Warmed39 U.vm ∧ U.heap = h0) (fun _ _ _ _ _ => True) (fun _ U o U' => ∃ v L, o = .returned v ∧ Q0 Z q0 q1 q2 q3 q4 h0 n0 v U'.heap L ∧ ReturnedEndW U o U' L room_1.cells room_1.slots) := by
  refine MetFree.of_bodySF (plainFor_of_name pn_0) hisR ?_
  intro p e s m args below meth c s₁ Bd hml0 hP hK
  obtain ⟨rfl, hZ, hh⟩ := hP
  have hx := Bd.exec
  have hby := Bd.bytes
  have hret := Bd.returns
  have hlk : meth.locks = false := BodyLoose.notSynchronized Bd
  have hml : c.maxLocals = 20 := hml0
  have hown : s.vm.findClass "org/counterpath/text/LineColumnSkipsPinLaw" = some m.cls := findClass_of_methodNamed Bd.named
  have hnm := (name_of_methodNamed Bd.named Bd.method).1
  have X0 : Stand p l e room_1 (s.setVm s.vm) m #[(.int q0), (.int q1), (.int q2), (.int q3), (.int q4)] below meth c s₁ [] 0 0 := Stand.of_body Bd
  have hS : s.Since s.vm h0.size := State.WarmedH.since (State.WarmedH.refl s) _
  have hk : h0.size ≤ h0.size := Nat.le_refl _
  have hstr : ∀ a ∈ Bundle.stringAtoms, a.before aZ Z = true := fun d hd => hw d ((by decide +kernel : ∀ d ∈ Bundle.stringAtoms, d ∈ tables_1) d hd)
  have e0 : s₁.heap = h0 := by rw [← hh, Bd.state]; rfl
  have N0 := Fr.nil n0
  have K0 : Keep h0 h0 [] := Keep.refl _ _
  have pre0 : ∀ t, Steps p.tables e below (s₁.setTop (mkF m 0 #[.val (.int q0), .val (.int q1), .val (.int q2), .val (.int q3), .val (.int q4), .unset, .unset, .unset, .unset, .unset, .unset, .unset, .unset, .unset, .unset, .unset, .unset, .unset, .unset, .unset] [])) t → Steps p.tables e below (s₁.setTop (entryFrame m #[(.int q0), (.int q1), (.int q2), (.int q3), (.int q4)] maxLocals)) t := fun t k => castTop (ef_0 m q0 q1 q2 q3 q4) k
  show OFinW p e below s (Q0 Z q0 q1 q2 q3 q4 h0 n0) room_1.cells room_1.slots _
  refine OFinW.go pre0 ?_
  have sg103 : ∀ t, Steps p.tables e below (s₁.setTop (mkF m 3 #[.val (.int q0), .val (.int q1), .val (.int q2), .val (.int q3), .val (.int q4), .unset, .unset, .unset, .unset, .unset, .unset, .unset, .unset, .unset, .unset, .unset, .unset, .unset, .unset, .unset] [(.int (q0 &&& (1 : Int32)))])) t → Steps p.tables e below (s₁.setTop (mkF m 0 #[.val (.int q0), .val (.int q1), .val (.int q2), .val (.int q3), .val (.int q4), .unset, .unset, .unset, .unset, .unset, .unset, .unset, .unset, .unset, .unset, .unset, .unset, .unset, .unset, .unset] [])) t := by
    intro t k
    show Steps p.tables e below (s₁.setTop (mkF m 0 #[.val (.int q0), .val (.int q1), .val (.int q2), .val (.int q3), .val (.int q4), .unset, .unset, .unset, .unset, .unset, .unset, .unset, .unset, .unset, .unset, .unset, .unset, .unset, .unset, .unset] [])) t
    refine XS.iloadN X0.here hx rfl (hb hby at_0) rfl ?_
    show Steps p.tables e below (s₁.setTop (mkF m 1 #[.val (.int q0), .val (.int q1), .val (.int q2), .val (.int q3), .val (.int q4), .unset, .unset, .unset, .unset, .unset, .unset, .unset, .unset, .unset, .unset, .unset, .unset, .unset, .unset, .unset] [(.int q0)])) t
    refine XS.iconst X0.here hx rfl (hb hby at_1) ?_
    show Steps p.tables e below (s₁.setTop (mkF m 2 #[.val (.int q0), .val (.int q1), .val (.int q2), .val (.int q3), .val (.int q4), .unset, .unset, .unset, .unset, .unset, .unset, .unset, .unset, .unset, .unset, .unset, .unset, .unset, .unset, .unset] [(.int (1 : Int32)), (.int q0)])) t
    refine XS.iand X0.here hx rfl (hb hby at_2) rfl ?_
    exact k
  refine OFinW.go sg103 ?_
  obtain ⟨v102, e_v102⟩ : ∃ z : Int32, z = (if (q0 &&& (1 : Int32)) = (0 : Int32) then (0 : Int32) else (1 : Int32)) := ⟨_, rfl⟩
  have sg104 : ∀ t, Steps p.tables e below (s₁.setTop (mkF m 11 #[.val (.int q0), .val (.int q1), .val (.int q2), .val (.int q3), .val (.int q4), .unset, .unset, .unset, .unset, .unset, .unset, .unset, .unset, .unset, .unset, .unset, .unset, .unset, .unset, .unset] [(.int v102)])) t → Steps p.tables e below (s₁.setTop (mkF m 3 #[.val (.int q0), .val (.int q1), .val (.int q2), .val (.int q3), .val (.int q4), .unset, .unset, .unset, .unset, .unset, .unset, .unset, .unset, .unset, .unset, .unset, .unset, .unset, .unset, .unset] [(.int (q0 &&& (1 : Int32)))])) t := by
    intro t k
    by_cases c101 : (q0 &&& (1 : Int32)) = (0 : Int32)
    · show Steps p.tables e below (s₁.setTop (mkF m 3 #[.val (.int q0), .val (.int q1), .val (.int q2), .val (.int q3), .val (.int q4), .unset, .unset, .unset, .unset, .unset, .unset, .unset, .unset, .unset, .unset, .unset, .unset, .unset, .unset, .unset] [(.int (q0 &&& (1 : Int32)))])) t
      refine XS.ifYes X0.here hx rfl (pc0 := 3) (pc' := 10) rfl (hb hby at_3) rfl ((if0 _ _).trans (teq c101).1) (by decide) (by decide) ?_
      show Steps p.tables e below (s₁.setTop (mkF m 10 #[.val (.int q0), .val (.int q1), .val (.int q2), .val (.int q3), .val (.int q4), .unset, .unset, .unset, .unset, .unset, .unset, .unset, .unset, .unset, .unset, .unset, .unset, .unset, .unset, .unset] [])) t
      refine XS.iconst X0.here hx rfl (hb hby at_10) ?_
      have e_v102' := e_v102
      try rw [if_pos c101] at e_v102'
      subst e_v102'
      exact k
    · show Steps p.tables e below (s₁.setTop (mkF m 3 #[.val (.int q0), .val (.int q1), .val (.int q2), .val (.int q3), .val (.int q4), .unset, .unset, .unset, .unset, .unset, .unset, .unset, .unset, .unset, .unset, .unset, .unset, .unset, .unset, .unset] [(.int (q0 &&& (1 : Int32)))])) t
      refine XS.ifNo X0.here hx rfl (hb hby at_3) rfl ((if0 _ _).trans (feq c101).1) ?_
      show Steps p.tables e below (s₁.setTop (mkF m 6 #[.val (.int q0), .val (.int q1), .val (.int q2), .val (.int q3), .val (.int q4), .unset, .unset, .unset, .unset, .unset, .unset, .unset, .unset, .unset, .unset, .unset, .unset, .unset, .unset, .unset] [])) t
      refine XS.iconst X0.here hx rfl (hb hby at_6) ?_
      show Steps p.tables e below (s₁.setTop (mkF m 7 #[.val (.int q0), .val (.int q1), .val (.int q2), .val (.int q3), .val (.int q4), .unset, .unset, .unset, .unset, .unset, .unset, .unset, .unset, .unset, .unset, .unset, .unset, .unset, .unset, .unset] [(.int (1 : Int32))])) t
      refine XS.goto X0.here hx rfl (pc0 := 7) (pc' := 11) rfl (hb hby at_7) (by decide) (by decide) ?_
      have e_v102' := e_v102
      try rw [if_neg c101] at e_v102'
      subst e_v102'
      exact k
  refine OFinW.go sg104 ?_
  have sg105 : ∀ t, Steps p.tables e below (s₁.setTop (mkF m 19 #[.val (.int q0), .val (.int q1), .val (.int q2), .val (.int q3), .val (.int q4), .val (.int v102), .unset, .unset, .unset, .unset, .unset, .unset, .unset, .unset, .unset, .unset, .unset, .unset, .unset, .unset] [(.int q1), (.int (((q0.toUInt32 >>> ((1 : Int32) &&& 31).toUInt32).toInt32) &&& (3 : Int32)))])) t → Steps p.tables e below (s₁.setTop (mkF m 11 #[.val (.int q0), .val (.int q1), .val (.int q2), .val (.int q3), .val (.int q4), .unset, .unset, .unset, .unset, .unset, .unset, .unset, .unset, .unset, .unset, .unset, .unset, .unset, .unset, .unset] [(.int v102)])) t := by
    intro t k
    show Steps p.tables e below (s₁.setTop (mkF m 11 #[.val (.int q0), .val (.int q1), .val (.int q2), .val (.int q3), .val (.int q4), .unset, .unset, .unset, .unset, .unset, .unset, .unset, .unset, .unset, .unset, .unset, .unset, .unset, .unset, .unset] [(.int v102)])) t
    refine XS.istore X0.here hx rfl (hb hby at_11) rfl (l' := #[.val (.int q0), .val (.int q1), .val (.int q2), .val (.int q3), .val (.int q4), .val (.int v102), .unset, .unset, .unset, .unset, .unset, .unset, .unset, .unset, .unset, .unset, .unset, .unset, .unset, .unset]) rfl ?_
    show Steps p.tables e below (s₁.setTop (mkF m 13 #[.val (.int q0), .val (.int q1), .val (.int q2), .val (.int q3), .val (.int q4), .val (.int v102), .unset, .unset, .unset, .unset, .unset, .unset, .unset, .unset, .unset, .unset, .unset, .unset, .unset, .unset] [])) t
    refine XS.iloadN X0.here hx rfl (hb hby at_13) rfl ?_
    show Steps p.tables e below (s₁.setTop (mkF m 14 #[.val (.int q0), .val (.int q1), .val (.int q2), .val (.int q3), .val (.int q4), .val (.int v102), .unset, .unset, .unset, .unset, .unset, .unset, .unset, .unset, .unset, .unset, .unset, .unset, .unset, .unset] [(.int q0)])) t
    refine XS.iconst X0.here hx rfl (hb hby at_14) ?_
    show Steps p.tables e below (s₁.setTop (mkF m 15 #[.val (.int q0), .val (.int q1), .val (.int q2), .val (.int q3), .val (.int q4), .val (.int v102), .unset, .unset, .unset, .unset, .unset, .unset, .unset, .unset, .unset, .unset, .unset, .unset, .unset, .unset] [(.int (1 : Int32)), (.int q0)])) t
    refine XS.iushr X0.here hx rfl (hb hby at_15) rfl ?_
    show Steps p.tables e below (s₁.setTop (mkF m 16 #[.val (.int q0), .val (.int q1), .val (.int q2), .val (.int q3), .val (.int q4), .val (.int v102), .unset, .unset, .unset, .unset, .unset, .unset, .unset, .unset, .unset, .unset, .unset, .unset, .unset, .unset] [(.int ((q0.toUInt32 >>> ((1 : Int32) &&& 31).toUInt32).toInt32))])) t
    refine XS.iconst X0.here hx rfl (hb hby at_16) ?_
    show Steps p.tables e below (s₁.setTop (mkF m 17 #[.val (.int q0), .val (.int q1), .val (.int q2), .val (.int q3), .val (.int q4), .val (.int v102), .unset, .unset, .unset, .unset, .unset, .unset, .unset, .unset, .unset, .unset, .unset, .unset, .unset, .unset] [(.int (3 : Int32)), (.int ((q0.toUInt32 >>> ((1 : Int32) &&& 31).toUInt32).toInt32))])) t
    refine XS.iand X0.here hx rfl (hb hby at_17) rfl ?_
    show Steps p.tables e below (s₁.setTop (mkF m 18 #[.val (.int q0), .val (.int q1), .val (.int q2), .val (.int q3), .val (.int q4), .val (.int v102), .unset, .unset, .unset, .unset, .unset, .unset, .unset, .unset, .unset, .unset, .unset, .unset, .unset, .unset] [(.int (((q0.toUInt32 >>> ((1 : Int32) &&& 31).toUInt32).toInt32) &&& (3 : Int32)))])) t
    refine XS.iloadN X0.here hx rfl (hb hby at_18) rfl ?_
    exact k
  refine OFinW.go sg105 ?_
  obtain ⟨_, _, ⟨T106, L106, k106, n106⟩, -, X106, ⟨Lc106, hQ106, l106, y106, z106⟩, st106⟩ := Jvm.LawKit.callS X0 hx (y := (⟨"org/counterpath/text/LineColumnSkipsPinLaw", "pick", "(II)I"⟩ : MethodName)) hown (mvT hZ (hw _ (List.mem_of_getElem? (i := 0) rfl))) (mvT hZ (hw _ (List.mem_of_getElem? (i := 1) rfl))) (mvT hZ (hw _ (List.mem_of_getElem? (i := 2) rfl))) (mvT hZ (hw _ (List.mem_of_getElem? (i := 3) rfl))) (by decide) (backOf (W := 0) (rm1 l Z aZ hw [] (((q0.toUInt32 >>> ((1 : Int32) &&& 31).toUInt32).toInt32) &&& (3 : Int32)) q1 h0 n0 (Nat.le_trans Z0 K0.1) ) hZ (hw _ (List.mem_of_getElem? (i := 3) rfl)) (hw _ (List.mem_of_getElem? (i := 2) rfl)) (by decide) (by decide)) (g := (mkF m 19 #[.val (.int q0), .val (.int q1), .val (.int q2), .val (.int q3), .val (.int q4), .val (.int v102), .unset, .unset, .unset, .unset, .unset, .unset, .unset, .unset, .unset, .unset, .unset, .unset, .unset, .unset] [(.int q1), (.int (((q0.toUInt32 >>> ((1 : Int32) &&& 31).toUInt32).toInt32) &&& (3 : Int32)))])) rfl (by rw [hml]; rfl) (argsL := [(.int (((q0.toUInt32 >>> ((1 : Int32) &&& 31).toUInt32).toInt32) &&& (3 : Int32))), (.int q1)]) (rest := []) (lenOf pd_3 rfl) rfl (by show 2 * 0 + _ ≤ _; exact Nat.le_of_eq rfl) (hb hby at_19) (fun _ _ => ⟨rfl, e0, (by decide : 0 + 0 ≤ _), (by decide : 0 + 0 ≤ _)⟩)
  dsimp only [Pt.U, Pt.locs, Pt.cells, Pt.slots] at X106 l106 y106 z106 st106 hQ106
  subst l106 y106 z106
  obtain ⟨rfl, N106q, e106⟩ := hQ106
  have N106 := Fr.app N0 N106q
  refine OFinW.go st106 ?_
  have sg107 : ∀ t, Steps p.tables e below (T106.setTop (mkF m 30 #[.val (.int q0), .val (.int q1), .val (.int q2), .val (.int q3), .val (.int q4), .val (.int v102), .val (.int (own_f1 (((q0.toUInt32 >>> ((1 : Int32) &&& 31).toUInt32).toInt32) &&& (3 : Int32)) q1)), .unset, .unset, .unset, .unset, .unset, .unset, .unset, .unset, .unset, .unset, .unset, .unset, .unset] [(.int q2), (.int (((q0.toUInt32 >>> ((3 : Int32) &&& 31).toUInt32).toInt32) &&& (3 : Int32)))])) t → Steps p.tables e below (T106.setTop (mkF m 22 #[.val (.int q0), .val (.int q1), .val (.int q2), .val (.int q3), .val (.int q4), .val (.int v102), .unset, .unset, .unset, .unset, .unset, .unset, .unset, .unset, .unset, .unset, .unset, .unset, .unset, .unset] [(.int (own_f1 (((q0.toUInt32 >>> ((1 : Int32) &&& 31).toUInt32).toInt32) &&& (3 : Int32)) q1))])) t := by
    intro t k
    show Steps p.tables e below (T106.setTop (mkF m 22 #[.val (.int q0), .val (.int q1), .val (.int q2), .val (.int q3), .val (.int q4), .val (.int v102), .unset, .unset, .unset, .unset, .unset, .unset, .unset, .unset, .unset, .unset, .unset, .unset, .unset, .unset] [(.int (own_f1 (((q0.toUInt32 >>> ((1 : Int32) &&& 31).toUInt32).toInt32) &&& (3 : Int32)) q1))])) t
    refine XS.istore X106.here hx rfl (hb hby at_22) rfl (l' := #[.val (.int q0), .val (.int q1), .val (.int q2), .val (.int q3), .val (.int q4), .val (.int v102), .val (.int (own_f1 (((q0.toUInt32 >>> ((1 : Int32) &&& 31).toUInt32).toInt32) &&& (3 : Int32)) q1)), .unset, .unset, .unset, .unset, .unset, .unset, .unset, .unset, .unset, .unset, .unset, .unset, .unset]) rfl ?_
    show Steps p.tables e below (T106.setTop (mkF m 24 #[.val (.int q0), .val (.int q1), .val (.int q2), .val (.int q3), .val (.int q4), .val (.int v102), .val (.int (own_f1 (((q0.toUInt32 >>> ((1 : Int32) &&& 31).toUInt32).toInt32) &&& (3 : Int32)) q1)), .unset, .unset, .unset, .unset, .unset, .unset, .unset, .unset, .unset, .unset, .unset, .unset, .unset] [])) t
    refine XS.iloadN X106.here hx rfl (hb hby at_24) rfl ?_
    show Steps p.tables e below (T106.setTop (mkF m 25 #[.val (.int q0), .val (.int q1), .val (.int q2), .val (.int q3), .val (.int q4), .val (.int v102), .val (.int (own_f1 (((q0.toUInt32 >>> ((1 : Int32) &&& 31).toUInt32).toInt32) &&& (3 : Int32)) q1)), .unset, .unset, .unset, .unset, .unset, .unset, .unset, .unset, .unset, .unset, .unset, .unset, .unset] [(.int q0)])) t
    refine XS.iconst X106.here hx rfl (hb hby at_25) ?_
    show Steps p.tables e below (T106.setTop (mkF m 26 #[.val (.int q0), .val (.int q1), .val (.int q2), .val (.int q3), .val (.int q4), .val (.int v102), .val (.int (own_f1 (((q0.toUInt32 >>> ((1 : Int32) &&& 31).toUInt32).toInt32) &&& (3 : Int32)) q1)), .unset, .unset, .unset, .unset, .unset, .unset, .unset, .unset, .unset, .unset, .unset, .unset, .unset] [(.int (3 : Int32)), (.int q0)])) t
    refine XS.iushr X106.here hx rfl (hb hby at_26) rfl ?_
    show Steps p.tables e below (T106.setTop (mkF m 27 #[.val (.int q0), .val (.int q1), .val (.int q2), .val (.int q3), .val (.int q4), .val (.int v102), .val (.int (own_f1 (((q0.toUInt32 >>> ((1 : Int32) &&& 31).toUInt32).toInt32) &&& (3 : Int32)) q1)), .unset, .unset, .unset, .unset, .unset, .unset, .unset, .unset, .unset, .unset, .unset, .unset, .unset] [(.int ((q0.toUInt32 >>> ((3 : Int32) &&& 31).toUInt32).toInt32))])) t
    refine XS.iconst X106.here hx rfl (hb hby at_27) ?_
    show Steps p.tables e below (T106.setTop (mkF m 28 #[.val (.int q0), .val (.int q1), .val (.int q2), .val (.int q3), .val (.int q4), .val (.int v102), .val (.int (own_f1 (((q0.toUInt32 >>> ((1 : Int32) &&& 31).toUInt32).toInt32) &&& (3 : Int32)) q1)), .unset, .unset, .unset, .unset, .unset, .unset, .unset, .unset, .unset, .unset, .unset, .unset, .unset] [(.int (3 : Int32)), (.int ((q0.toUInt32 >>> ((3 : Int32) &&& 31).toUInt32).toInt32))])) t
    refine XS.iand X106.here hx rfl (hb hby at_28) rfl ?_
    show Steps p.tables e below (T106.setTop (mkF m 29 #[.val (.int q0), .val (.int q1), .val (.int q2), .val (.int q3), .val (.int q4), .val (.int v102), .val (.int (own_f1 (((q0.toUInt32 >>> ((1 : Int32) &&& 31).toUInt32).toInt32) &&& (3 : Int32)) q1)), .unset, .unset, .unset, .unset, .unset, .unset, .unset, .unset, .unset, .unset, .unset, .unset, .unset] [(.int (((q0.toUInt32 >>> ((3 : Int32) &&& 31).toUInt32).toInt32) &&& (3 : Int32)))])) t
    refine XS.iloadN X106.here hx rfl (hb hby at_29) rfl ?_
    exact k
  refine OFinW.go sg107 ?_
  obtain ⟨_, _, ⟨T108, L108, k108, n108⟩, -, X108, ⟨Lc108, hQ108, l108, y108, z108⟩, st108⟩ := Jvm.LawKit.callS X106 hx (y := (⟨"org/counterpath/text/LineColumnSkipsPinLaw", "pick", "(II)I"⟩ : MethodName)) hown (mvT hZ (hw _ (List.mem_of_getElem? (i := 0) rfl))) (mvT hZ (hw _ (List.mem_of_getElem? (i := 1) rfl))) (mvT hZ (hw _ (List.mem_of_getElem? (i := 2) rfl))) (mvT hZ (hw _ (List.mem_of_getElem? (i := 3) rfl))) (by decide) (backOf (W := 0) (rm1 l Z aZ hw [] (((q0.toUInt32 >>> ((3 : Int32) &&& 31).toUInt32).toInt32) &&& (3 : Int32)) q2 h0 n0 (Nat.le_trans Z0 K0.1) ) hZ (hw _ (List.mem_of_getElem? (i := 3) rfl)) (hw _ (List.mem_of_getElem? (i := 2) rfl)) (by decide) (by decide)) (g := (mkF m 30 #[.val (.int q0), .val (.int q1), .val (.int q2), .val (.int q3), .val (.int q4), .val (.int v102), .val (.int (own_f1 (((q0.toUInt32 >>> ((1 : Int32) &&& 31).toUInt32).toInt32) &&& (3 : Int32)) q1)), .unset, .unset, .unset, .unset, .unset, .unset, .unset, .unset, .unset, .unset, .unset, .unset, .unset] [(.int q2), (.int (((q0.toUInt32 >>> ((3 : Int32) &&& 31).toUInt32).toInt32) &&& (3 : Int32)))])) rfl (by rw [hml]; rfl) (argsL := [(.int (((q0.toUInt32 >>> ((3 : Int32) &&& 31).toUInt32).toInt32) &&& (3 : Int32))), (.int q2)]) (rest := []) (lenOf pd_3 rfl) rfl (by show 2 * 0 + _ ≤ _; exact Nat.le_of_eq rfl) (hb hby at_30) (fun _ _ => ⟨rfl, e106, (by decide : 0 + 0 ≤ _), (by decide : 0 + 0 ≤ _)⟩)
  dsimp only [Pt.U, Pt.locs, Pt.cells, Pt.slots] at X108 l108 y108 z108 st108 hQ108
  subst l108 y108 z108
  obtain ⟨rfl, N108q, e108⟩ := hQ108
  have N108 := Fr.app N106 N108q
  refine OFinW.go st108 ?_
  have sg111 : ∀ t, Steps p.tables e below (T108.setTop (mkF m 40 #[.val (.int q0), .val (.int q1), .val (.int q2), .val (.int q3), .val (.int q4), .val (.int v102), .val (.int (own_f1 (((q0.toUInt32 >>> ((1 : Int32) &&& 31).toUInt32).toInt32) &&& (3 : Int32)) q1)), .val (.int (own_f1 (((q0.toUInt32 >>> ((3 : Int32) &&& 31).toUInt32).toInt32) &&& (3 : Int32)) q2)), .unset, .unset, .unset, .unset, .unset, .unset, .unset, .unset, .unset, .unset, .unset, .unset] [(.int (((q0.toUInt32 >>> ((5 : Int32) &&& 31).toUInt32).toInt32) &&& (1 : Int32)))])) t → Steps p.tables e below (T108.setTop (mkF m 33 #[.val (.int q0), .val (.int q1), .val (.int q2), .val (.int q3), .val (.int q4), .val (.int v102), .val (.int (own_f1 (((q0.toUInt32 >>> ((1 : Int32) &&& 31).toUInt32).toInt32) &&& (3 : Int32)) q1)), .unset, .unset, .unset, .unset, .unset, .unset, .unset, .unset, .unset, .unset, .unset, .unset, .unset] [(.int (own_f1 (((q0.toUInt32 >>> ((3 : Int32) &&& 31).toUInt32).toInt32) &&& (3 : Int32)) q2))])) t := by
    intro t k
    show Steps p.tables e below (T108.setTop (mkF m 33 #[.val (.int q0), .val (.int q1), .val (.int q2), .val (.int q3), .val (.int q4), .val (.int v102), .val (.int (own_f1 (((q0.toUInt32 >>> ((1 : Int32) &&& 31).toUInt32).toInt32) &&& (3 : Int32)) q1)), .unset, .unset, .unset, .unset, .unset, .unset, .unset, .unset, .unset, .unset, .unset, .unset, .unset] [(.int (own_f1 (((q0.toUInt32 >>> ((3 : Int32) &&& 31).toUInt32).toInt32) &&& (3 : Int32)) q2))])) t
    refine XS.istore X108.here hx rfl (hb hby at_33) rfl (l' := #[.val (.int q0), .val (.int q1), .val (.int q2), .val (.int q3), .val (.int q4), .val (.int v102), .val (.int (own_f1 (((q0.toUInt32 >>> ((1 : Int32) &&& 31).toUInt32).toInt32) &&& (3 : Int32)) q1)), .val (.int (own_f1 (((q0.toUInt32 >>> ((3 : Int32) &&& 31).toUInt32).toInt32) &&& (3 : Int32)) q2)), .unset, .unset, .unset, .unset, .unset, .unset, .unset, .unset, .unset, .unset, .unset, .unset]) rfl ?_
    show Steps p.tables e below (T108.setTop (mkF m 35 #[.val (.int q0), .val (.int q1), .val (.int q2), .val (.int q3), .val (.int q4), .val (.int v102), .val (.int (own_f1 (((q0.toUInt32 >>> ((1 : Int32) &&& 31).toUInt32).toInt32) &&& (3 : Int32)) q1)), .val (.int (own_f1 (((q0.toUInt32 >>> ((3 : Int32) &&& 31).toUInt32).toInt32) &&& (3 : Int32)) q2)), .unset, .unset, .unset, .unset, .unset, .unset, .unset, .unset, .unset, .unset, .unset, .unset] [])) t
    refine XS.iloadN X108.here hx rfl (hb hby at_35) rfl ?_
    show Steps p.tables e below (T108.setTop (mkF m 36 #[.val (.int q0), .val (.int q1), .val (.int q2), .val (.int q3), .val (.int q4), .val (.int v102), .val (.int (own_f1 (((q0.toUInt32 >>> ((1 : Int32) &&& 31).toUInt32).toInt32) &&& (3 : Int32)) q1)), .val (.int (own_f1 (((q0.toUInt32 >>> ((3 : Int32) &&& 31).toUInt32).toInt32) &&& (3 : Int32)) q2)), .unset, .unset, .unset, .unset, .unset, .unset, .unset, .unset, .unset, .unset, .unset, .unset] [(.int q0)])) t
    refine XS.iconst X108.here hx rfl (hb hby at_36) ?_
    show Steps p.tables e below (T108.setTop (mkF m 37 #[.val (.int q0), .val (.int q1), .val (.int q2), .val (.int q3), .val (.int q4), .val (.int v102), .val (.int (own_f1 (((q0.toUInt32 >>> ((1 : Int32) &&& 31).toUInt32).toInt32) &&& (3 : Int32)) q1)), .val (.int (own_f1 (((q0.toUInt32 >>> ((3 : Int32) &&& 31).toUInt32).toInt32) &&& (3 : Int32)) q2)), .unset, .unset, .unset, .unset, .unset, .unset, .unset, .unset, .unset, .unset, .unset, .unset] [(.int (5 : Int32)), (.int q0)])) t
    refine XS.iushr X108.here hx rfl (hb hby at_37) rfl ?_
    show Steps p.tables e below (T108.setTop (mkF m 38 #[.val (.int q0), .val (.int q1), .val (.int q2), .val (.int q3), .val (.int q4), .val (.int v102), .val (.int (own_f1 (((q0.toUInt32 >>> ((1 : Int32) &&& 31).toUInt32).toInt32) &&& (3 : Int32)) q1)), .val (.int (own_f1 (((q0.toUInt32 >>> ((3 : Int32) &&& 31).toUInt32).toInt32) &&& (3 : Int32)) q2)), .unset, .unset, .unset, .unset, .unset, .unset, .unset, .unset, .unset, .unset, .unset, .unset] [(.int ((q0.toUInt32 >>> ((5 : Int32) &&& 31).toUInt32).toInt32))])) t
    refine XS.iconst X108.here hx rfl (hb hby at_38) ?_
    show Steps p.tables e below (T108.setTop (mkF m 39 #[.val (.int q0), .val (.int q1), .val (.int q2), .val (.int q3), .val (.int q4), .val (.int v102), .val (.int (own_f1 (((q0.toUInt32 >>> ((1 : Int32) &&& 31).toUInt32).toInt32) &&& (3 : Int32)) q1)), .val (.int (own_f1 (((q0.toUInt32 >>> ((3 : Int32) &&& 31).toUInt32).toInt32) &&& (3 : Int32)) q2)), .unset, .unset, .unset, .unset, .unset, .unset, .unset, .unset, .unset, .unset, .unset, .unset] [(.int (1 : Int32)), (.int ((q0.toUInt32 >>> ((5 : Int32) &&& 31).toUInt32).toInt32))])) t
    refine XS.iand X108.here hx rfl (hb hby at_39) rfl ?_
    exact k
  refine OFinW.go sg111 ?_
  obtain ⟨v110, e_v110⟩ : ∃ z : Int32, z = (if (((q0.toUInt32 >>> ((5 : Int32) &&& 31).toUInt32).toInt32) &&& (1 : Int32)) = (0 : Int32) then (q3.toUInt32.toUInt16.toUInt32.toInt32) else (10 : Int32)) := ⟨_, rfl⟩
  have sg112 : ∀ t, Steps p.tables e below (T108.setTop (mkF m 50 #[.val (.int q0), .val (.int q1), .val (.int q2), .val (.int q3), .val (.int q4), .val (.int v102), .val (.int (own_f1 (((q0.toUInt32 >>> ((1 : Int32) &&& 31).toUInt32).toInt32) &&& (3 : Int32)) q1)), .val (.int (own_f1 (((q0.toUInt32 >>> ((3 : Int32) &&& 31).toUInt32).toInt32) &&& (3 : Int32)) q2)), .unset, .unset, .unset, .unset, .unset, .unset, .unset, .unset, .unset, .unset, .unset, .unset] [(.int v110)])) t → Steps p.tables e below (T108.setTop (mkF m 40 #[.val (.int q0), .val (.int q1), .val (.int q2), .val (.int q3), .val (.int q4), .val (.int v102), .val (.int (own_f1 (((q0.toUInt32 >>> ((1 : Int32) &&& 31).toUInt32).toInt32) &&& (3 : Int32)) q1)), .val (.int (own_f1 (((q0.toUInt32 >>> ((3 : Int32) &&& 31).toUInt32).toInt32) &&& (3 : Int32)) q2)), .unset, .unset, .unset, .unset, .unset, .unset, .unset, .unset, .unset, .unset, .unset, .unset] [(.int (((q0.toUInt32 >>> ((5 : Int32) &&& 31).toUInt32).toInt32) &&& (1 : Int32)))])) t := by
    intro t k
    by_cases c109 : (((q0.toUInt32 >>> ((5 : Int32) &&& 31).toUInt32).toInt32) &&& (1 : Int32)) = (0 : Int32)
    · show Steps p.tables e below (T108.setTop (mkF m 40 #[.val (.int q0), .val (.int q1), .val (.int q2), .val (.int q3), .val (.int q4), .val (.int v102), .val (.int (own_f1 (((q0.toUInt32 >>> ((1 : Int32) &&& 31).toUInt32).toInt32) &&& (3 : Int32)) q1)), .val (.int (own_f1 (((q0.toUInt32 >>> ((3 : Int32) &&& 31).toUInt32).toInt32) &&& (3 : Int32)) q2)), .unset, .unset, .unset, .unset, .unset, .unset, .unset, .unset, .unset, .unset, .unset, .unset] [(.int (((q0.toUInt32 >>> ((5 : Int32) &&& 31).toUInt32).toInt32) &&& (1 : Int32)))])) t
      refine XS.ifYes X108.here hx rfl (pc0 := 40) (pc' := 48) rfl (hb hby at_40) rfl ((if0 _ _).trans (teq c109).1) (by decide) (by decide) ?_
      show Steps p.tables e below (T108.setTop (mkF m 48 #[.val (.int q0), .val (.int q1), .val (.int q2), .val (.int q3), .val (.int q4), .val (.int v102), .val (.int (own_f1 (((q0.toUInt32 >>> ((1 : Int32) &&& 31).toUInt32).toInt32) &&& (3 : Int32)) q1)), .val (.int (own_f1 (((q0.toUInt32 >>> ((3 : Int32) &&& 31).toUInt32).toInt32) &&& (3 : Int32)) q2)), .unset, .unset, .unset, .unset, .unset, .unset, .unset, .unset, .unset, .unset, .unset, .unset] [])) t
      refine XS.iloadN X108.here hx rfl (hb hby at_48) rfl ?_
      show Steps p.tables e below (T108.setTop (mkF m 49 #[.val (.int q0), .val (.int q1), .val (.int q2), .val (.int q3), .val (.int q4), .val (.int v102), .val (.int (own_f1 (((q0.toUInt32 >>> ((1 : Int32) &&& 31).toUInt32).toInt32) &&& (3 : Int32)) q1)), .val (.int (own_f1 (((q0.toUInt32 >>> ((3 : Int32) &&& 31).toUInt32).toInt32) &&& (3 : Int32)) q2)), .unset, .unset, .unset, .unset, .unset, .unset, .unset, .unset, .unset, .unset, .unset, .unset] [(.int q3)])) t
      refine XS.i2c X108.here hx rfl (hb hby at_49) rfl ?_
      have e_v110' := e_v110
      try rw [if_pos c109] at e_v110'
      subst e_v110'
      exact k
    · show Steps p.tables e below (T108.setTop (mkF m 40 #[.val (.int q0), .val (.int q1), .val (.int q2), .val (.int q3), .val (.int q4), .val (.int v102), .val (.int (own_f1 (((q0.toUInt32 >>> ((1 : Int32) &&& 31).toUInt32).toInt32) &&& (3 : Int32)) q1)), .val (.int (own_f1 (((q0.toUInt32 >>> ((3 : Int32) &&& 31).toUInt32).toInt32) &&& (3 : Int32)) q2)), .unset, .unset, .unset, .unset, .unset, .unset, .unset, .unset, .unset, .unset, .unset, .unset] [(.int (((q0.toUInt32 >>> ((5 : Int32) &&& 31).toUInt32).toInt32) &&& (1 : Int32)))])) t
      refine XS.ifNo X108.here hx rfl (hb hby at_40) rfl ((if0 _ _).trans (feq c109).1) ?_
      show Steps p.tables e below (T108.setTop (mkF m 43 #[.val (.int q0), .val (.int q1), .val (.int q2), .val (.int q3), .val (.int q4), .val (.int v102), .val (.int (own_f1 (((q0.toUInt32 >>> ((1 : Int32) &&& 31).toUInt32).toInt32) &&& (3 : Int32)) q1)), .val (.int (own_f1 (((q0.toUInt32 >>> ((3 : Int32) &&& 31).toUInt32).toInt32) &&& (3 : Int32)) q2)), .unset, .unset, .unset, .unset, .unset, .unset, .unset, .unset, .unset, .unset, .unset, .unset] [])) t
      refine XS.bipush X108.here hx rfl (hb hby at_43) ?_
      show Steps p.tables e below (T108.setTop (mkF m 45 #[.val (.int q0), .val (.int q1), .val (.int q2), .val (.int q3), .val (.int q4), .val (.int v102), .val (.int (own_f1 (((q0.toUInt32 >>> ((1 : Int32) &&& 31).toUInt32).toInt32) &&& (3 : Int32)) q1)), .val (.int (own_f1 (((q0.toUInt32 >>> ((3 : Int32) &&& 31).toUInt32).toInt32) &&& (3 : Int32)) q2)), .unset, .unset, .unset, .unset, .unset, .unset, .unset, .unset, .unset, .unset, .unset, .unset] [(.int (10 : Int32))])) t
      refine XS.goto X108.here hx rfl (pc0 := 45) (pc' := 50) rfl (hb hby at_45) (by decide) (by decide) ?_
      have e_v110' := e_v110
      try rw [if_neg c109] at e_v110'
      subst e_v110'
      exact k
  refine OFinW.go sg112 ?_
  have sg113 : ∀ t, Steps p.tables e below (T108.setTop (mkF m 57 #[.val (.int q0), .val (.int q1), .val (.int q2), .val (.int q3), .val (.int q4), .val (.int v102), .val (.int (own_f1 (((q0.toUInt32 >>> ((1 : Int32) &&& 31).toUInt32).toInt32) &&& (3 : Int32)) q1)), .val (.int (own_f1 (((q0.toUInt32 >>> ((3 : Int32) &&& 31).toUInt32).toInt32) &&& (3 : Int32)) q2)), .val (.int v110), .val (.int (q4.toUInt32.toUInt16.toUInt32.toInt32)), .unset, .unset, .unset, .unset, .unset, .unset, .unset, .unset, .unset, .unset] [])) t → Steps p.tables e below (T108.setTop (mkF m 50 #[.val (.int q0), .val (.int q1), .val (.int q2), .val (.int q3), .val (.int q4), .val (.int v102), .val (.int (own_f1 (((q0.toUInt32 >>> ((1 : Int32) &&& 31).toUInt32).toInt32) &&& (3 : Int32)) q1)), .val (.int (own_f1 (((q0.toUInt32 >>> ((3 : Int32) &&& 31).toUInt32).toInt32) &&& (3 : Int32)) q2)), .unset, .unset, .unset, .unset, .unset, .unset, .unset, .unset, .unset, .unset, .unset, .unset] [(.int v110)])) t := by
    intro t k
    show Steps p.tables e below (T108.setTop (mkF m 50 #[.val (.int q0), .val (.int q1), .val (.int q2), .val (.int q3), .val (.int q4), .val (.int v102), .val (.int (own_f1 (((q0.toUInt32 >>> ((1 : Int32) &&& 31).toUInt32).toInt32) &&& (3 : Int32)) q1)), .val (.int (own_f1 (((q0.toUInt32 >>> ((3 : Int32) &&& 31).toUInt32).toInt32) &&& (3 : Int32)) q2)), .unset, .unset, .unset, .unset, .unset, .unset, .unset, .unset, .unset, .unset, .unset, .unset] [(.int v110)])) t
    refine XS.istore X108.here hx rfl (hb hby at_50) rfl (l' := #[.val (.int q0), .val (.int q1), .val (.int q2), .val (.int q3), .val (.int q4), .val (.int v102), .val (.int (own_f1 (((q0.toUInt32 >>> ((1 : Int32) &&& 31).toUInt32).toInt32) &&& (3 : Int32)) q1)), .val (.int (own_f1 (((q0.toUInt32 >>> ((3 : Int32) &&& 31).toUInt32).toInt32) &&& (3 : Int32)) q2)), .val (.int v110), .unset, .unset, .unset, .unset, .unset, .unset, .unset, .unset, .unset, .unset, .unset]) rfl ?_
    show Steps p.tables e below (T108.setTop (mkF m 52 #[.val (.int q0), .val (.int q1), .val (.int q2), .val (.int q3), .val (.int q4), .val (.int v102), .val (.int (own_f1 (((q0.toUInt32 >>> ((1 : Int32) &&& 31).toUInt32).toInt32) &&& (3 : Int32)) q1)), .val (.int (own_f1 (((q0.toUInt32 >>> ((3 : Int32) &&& 31).toUInt32).toInt32) &&& (3 : Int32)) q2)), .val (.int v110), .unset, .unset, .unset, .unset, .unset, .unset, .unset, .unset, .unset, .unset, .unset] [])) t
    refine XS.iload X108.here hx rfl (hb hby at_52) rfl ?_
    show Steps p.tables e below (T108.setTop (mkF m 54 #[.val (.int q0), .val (.int q1), .val (.int q2), .val (.int q3), .val (.int q4), .val (.int v102), .val (.int (own_f1 (((q0.toUInt32 >>> ((1 : Int32) &&& 31).toUInt32).toInt32) &&& (3 : Int32)) q1)), .val (.int (own_f1 (((q0.toUInt32 >>> ((3 : Int32) &&& 31).toUInt32).toInt32) &&& (3 : Int32)) q2)), .val (.int v110), .unset, .unset, .unset, .unset, .unset, .unset, .unset, .unset, .unset, .unset, .unset] [(.int q4)])) t
    refine XS.i2c X108.here hx rfl (hb hby at_54) rfl ?_
    show Steps p.tables e below (T108.setTop (mkF m 55 #[.val (.int q0), .val (.int q1), .val (.int q2), .val (.int q3), .val (.int q4), .val (.int v102), .val (.int (own_f1 (((q0.toUInt32 >>> ((1 : Int32) &&& 31).toUInt32).toInt32) &&& (3 : Int32)) q1)), .val (.int (own_f1 (((q0.toUInt32 >>> ((3 : Int32) &&& 31).toUInt32).toInt32) &&& (3 : Int32)) q2)), .val (.int v110), .unset, .unset, .unset, .unset, .unset, .unset, .unset, .unset, .unset, .unset, .unset] [(.int (q4.toUInt32.toUInt16.toUInt32.toInt32))])) t
    refine XS.istore X108.here hx rfl (hb hby at_55) rfl (l' := #[.val (.int q0), .val (.int q1), .val (.int q2), .val (.int q3), .val (.int q4), .val (.int v102), .val (.int (own_f1 (((q0.toUInt32 >>> ((1 : Int32) &&& 31).toUInt32).toInt32) &&& (3 : Int32)) q1)), .val (.int (own_f1 (((q0.toUInt32 >>> ((3 : Int32) &&& 31).toUInt32).toInt32) &&& (3 : Int32)) q2)), .val (.int v110), .val (.int (q4.toUInt32.toUInt16.toUInt32.toInt32)), .unset, .unset, .unset, .unset, .unset, .unset, .unset, .unset, .unset, .unset]) rfl ?_
    exact k
  refine OFinW.go sg113 ?_
  obtain ⟨T114, h114, X114, e114, E114, A114, D114, -, st114⟩ := newO X108 hx hZ hown (hw _ (List.mem_of_getElem? (i := 5) rfl)) (hw _ (List.mem_of_getElem? (i := 6) rfl)) (hw _ (List.mem_of_getElem? (i := 7) rfl)) e108 (g := (mkF m 57 #[.val (.int q0), .val (.int q1), .val (.int q2), .val (.int q3), .val (.int q4), .val (.int v102), .val (.int (own_f1 (((q0.toUInt32 >>> ((1 : Int32) &&& 31).toUInt32).toInt32) &&& (3 : Int32)) q1)), .val (.int (own_f1 (((q0.toUInt32 >>> ((3 : Int32) &&& 31).toUInt32).toInt32) &&& (3 : Int32)) q2)), .val (.int v110), .val (.int (q4.toUInt32.toUInt16.toUInt32.toInt32)), .unset, .unset, .unset, .unset, .unset, .unset, .unset, .unset, .unset, .unset] [])) rfl (hb hby at_57) (by decide) (by decide)
  obtain ⟨b114, g114⟩ : ∃ z, z = h0.size := ⟨_, rfl⟩
  rw [← g114] at A114 D114 st114
  refine OFinW.go st114 ?_
  have g_b114 : n0 ≤ b114 := Nat.le_trans (Nat.le_trans Z0 K0.1) (Nat.le_of_eq g114.symm)
  have sz_b114 : h0.size ≤ b114 := Nat.le_trans K0.1 (Nat.le_of_eq g114.symm)
  have K114 : Keep h0 h114 [] := K0.ext E114
  have F114__line : Fld Z h114 b114 "org/counterpath/text/LineColumn" "_line" "I" (.int (0 : Int32)) := D114 (Or.inl (hw _ (List.mem_of_getElem? (i := 25) rfl))) (ty := .int) (by decide)
  have F114__column : Fld Z h114 b114 "org/counterpath/text/LineColumn" "_column" "I" (.int (0 : Int32)) := D114 (Or.inl (hw _ (List.mem_of_getElem? (i := 27) rfl))) (ty := .int) (by decide)
  have F114__atStart : Fld Z h114 b114 "org/counterpath/text/LineColumn" "_atStart" "Z" (.int (0 : Int32)) := D114 (Or.inl (hw _ (List.mem_of_getElem? (i := 29) rfl))) (ty := .boolean) (by decide)
  have F114__file : Fld Z h114 b114 "org/counterpath/text/LineColumn" "_file" "Ljava/lang/String;" .null := D114 (Or.inr (hw _ (List.mem_of_getElem? (i := 31) rfl))) (ty := (.object "java/lang/String")) (by decide)
  have F114__maxCharacters : Fld Z h114 b114 "org/counterpath/text/LineColumn" "_maxCharacters" "J" (.long (0 : Int64)) := D114 (Or.inr (hw _ (List.mem_of_getElem? (i := 33) rfl))) (ty := .long) (by decide)
  have F114__tooLong : Fld Z h114 b114 "org/counterpath/text/LineColumn" "_tooLong" "Ljava/lang/String;" .null := D114 (Or.inr (hw _ (List.mem_of_getElem? (i := 35) rfl))) (ty := (.object "java/lang/String")) (by decide)
  have F114__characters : Fld Z h114 b114 "org/counterpath/text/LineColumn" "_characters" "J" (.long (0 : Int64)) := D114 (Or.inl (hw _ (List.mem_of_getElem? (i := 58) rfl))) (ty := .long) (by decide)
  have sg115 : ∀ t, Steps p.tables e below (T114.setTop (mkF m 61 #[.val (.int q0), .val (.int q1), .val (.int q2), .val (.int q3), .val (.int q4), .val (.int v102), .val (.int (own_f1 (((q0.toUInt32 >>> ((1 : Int32) &&& 31).toUInt32).toInt32) &&& (3 : Int32)) q1)), .val (.int (own_f1 (((q0.toUInt32 >>> ((3 : Int32) &&& 31).toUInt32).toInt32) &&& (3 : Int32)) q2)), .val (.int v110), .val (.int (q4.toUInt32.toUInt16.toUInt32.toInt32)), .unset, .unset, .unset, .unset, .unset, .unset, .unset, .unset, .unset, .unset] [(.ref b114), (.ref b114)])) t → Steps p.tables e below (T114.setTop (mkF m 60 #[.val (.int q0), .val (.int q1), .val (.int q2), .val (.int q3), .val (.int q4), .val (.int v102), .val (.int (own_f1 (((q0.toUInt32 >>> ((1 : Int32) &&& 31).toUInt32).toInt32) &&& (3 : Int32)) q1)), .val (.int (own_f1 (((q0.toUInt32 >>> ((3 : Int32) &&& 31).toUInt32).toInt32) &&& (3 : Int32)) q2)), .val (.int v110), .val (.int (q4.toUInt32.toUInt16.toUInt32.toInt32)), .unset, .unset, .unset, .unset, .unset, .unset, .unset, .unset, .unset, .unset] [(.ref b114)])) t := by
    intro t k
    show Steps p.tables e below (T114.setTop (mkF m 60 #[.val (.int q0), .val (.int q1), .val (.int q2), .val (.int q3), .val (.int q4), .val (.int v102), .val (.int (own_f1 (((q0.toUInt32 >>> ((1 : Int32) &&& 31).toUInt32).toInt32) &&& (3 : Int32)) q1)), .val (.int (own_f1 (((q0.toUInt32 >>> ((3 : Int32) &&& 31).toUInt32).toInt32) &&& (3 : Int32)) q2)), .val (.int v110), .val (.int (q4.toUInt32.toUInt16.toUInt32.toInt32)), .unset, .unset, .unset, .unset, .unset, .unset, .unset, .unset, .unset, .unset] [(.ref b114)])) t
    refine XS.dup X114.here hx rfl (hb hby at_60) rfl rfl ?_
    exact k
  refine OFinW.go sg115 ?_
  obtain ⟨b116, T116, h116, k116, X116, e116, E116, hS, hk, hZ, hown, st116⟩ := ldcS X114 hx hZ hown (hw _ (List.mem_of_getElem? (i := 8) rfl)) hstr e114 hS (Nat.le_trans hk E114.1) (g := (mkF m 61 #[.val (.int q0), .val (.int q1), .val (.int q2), .val (.int q3), .val (.int q4), .val (.int v102), .val (.int (own_f1 (((q0.toUInt32 >>> ((1 : Int32) &&& 31).toUInt32).toInt32) &&& (3 : Int32)) q1)), .val (.int (own_f1 (((q0.toUInt32 >>> ((3 : Int32) &&& 31).toUInt32).toInt32) &&& (3 : Int32)) q2)), .val (.int v110), .val (.int (q4.toUInt32.toUInt16.toUInt32.toInt32)), .unset, .unset, .unset, .unset, .unset, .unset, .unset, .unset, .unset, .unset] [(.ref b114), (.ref b114)])) rfl (hb hby at_61) (n := 4) (by decide) (by decide) (by decide) (by decide)
  refine OFinW.go st116 ?_
  have K116 : Keep h0 h116 [] := K114.ext E116
  have sg117 : ∀ t, Steps p.tables e below (T116.setTop (mkF m 66 #[.val (.int q0), .val (.int q1), .val (.int q2), .val (.int q3), .val (.int q4), .val (.int v102), .val (.int (own_f1 (((q0.toUInt32 >>> ((1 : Int32) &&& 31).toUInt32).toInt32) &&& (3 : Int32)) q1)), .val (.int (own_f1 (((q0.toUInt32 >>> ((3 : Int32) &&& 31).toUInt32).toInt32) &&& (3 : Int32)) q2)), .val (.int v110), .val (.int (q4.toUInt32.toUInt16.toUInt32.toInt32)), .unset, .unset, .unset, .unset, .unset, .unset, .unset, .unset, .unset, .unset] [(.long (2 : Int64)), (.ref b116), (.ref b114), (.ref b114)])) t → Steps p.tables e below (T116.setTop (mkF m 63 #[.val (.int q0), .val (.int q1), .val (.int q2), .val (.int q3), .val (.int q4), .val (.int v102), .val (.int (own_f1 (((q0.toUInt32 >>> ((1 : Int32) &&& 31).toUInt32).toInt32) &&& (3 : Int32)) q1)), .val (.int (own_f1 (((q0.toUInt32 >>> ((3 : Int32) &&& 31).toUInt32).toInt32) &&& (3 : Int32)) q2)), .val (.int v110), .val (.int (q4.toUInt32.toUInt16.toUInt32.toInt32)), .unset, .unset, .unset, .unset, .unset, .unset, .unset, .unset, .unset, .unset] [(.ref b116), (.ref b114), (.ref b114)])) t := by
    intro t k
    show Steps p.tables e below (T116.setTop (mkF m 63 #[.val (.int q0), .val (.int q1), .val (.int q2), .val (.int q3), .val (.int q4), .val (.int v102), .val (.int (own_f1 (((q0.toUInt32 >>> ((1 : Int32) &&& 31).toUInt32).toInt32) &&& (3 : Int32)) q1)), .val (.int (own_f1 (((q0.toUInt32 >>> ((3 : Int32) &&& 31).toUInt32).toInt32) &&& (3 : Int32)) q2)), .val (.int v110), .val (.int (q4.toUInt32.toUInt16.toUInt32.toInt32)), .unset, .unset, .unset, .unset, .unset, .unset, .unset, .unset, .unset, .unset] [(.ref b116), (.ref b114), (.ref b114)])) t
    refine X116.ldc2Long hx hown (mvT hZ (hw _ (List.mem_of_getElem? (i := 16) rfl))) (g := (mkF m 63 #[.val (.int q0), .val (.int q1), .val (.int q2), .val (.int q3), .val (.int q4), .val (.int v102), .val (.int (own_f1 (((q0.toUInt32 >>> ((1 : Int32) &&& 31).toUInt32).toInt32) &&& (3 : Int32)) q1)), .val (.int (own_f1 (((q0.toUInt32 >>> ((3 : Int32) &&& 31).toUInt32).toInt32) &&& (3 : Int32)) q2)), .val (.int v110), .val (.int (q4.toUInt32.toUInt16.toUInt32.toInt32)), .unset, .unset, .unset, .unset, .unset, .unset, .unset, .unset, .unset, .unset] [(.ref b116), (.ref b114), (.ref b114)])) rfl (hb hby at_63) _ ?_
    exact k
  refine OFinW.go sg117 ?_
  obtain ⟨b118, T118, h118, k118, X118, e118, E118, hS, hk, hZ, hown, st118⟩ := ldcS X116 hx hZ hown (hw _ (List.mem_of_getElem? (i := 17) rfl)) hstr e116 hS hk (g := (mkF m 66 #[.val (.int q0), .val (.int q1), .val (.int q2), .val (.int q3), .val (.int q4), .val (.int v102), .val (.int (own_f1 (((q0.toUInt32 >>> ((1 : Int32) &&& 31).toUInt32).toInt32) &&& (3 : Int32)) q1)), .val (.int (own_f1 (((q0.toUInt32 >>> ((3 : Int32) &&& 31).toUInt32).toInt32) &&& (3 : Int32)) q2)), .val (.int v110), .val (.int (q4.toUInt32.toUInt16.toUInt32.toInt32)), .unset, .unset, .unset, .unset, .unset, .unset, .unset, .unset, .unset, .unset] [(.long (2 : Int64)), (.ref b116), (.ref b114), (.ref b114)])) rfl (hb hby at_66) (n := 4) (by decide) (by decide) (by decide) (by decide)
  refine OFinW.go st118 ?_
  have K118 : Keep h0 h118 [] := K116.ext E118
  obtain ⟨_, _, ⟨T119, L119, k119, n119⟩, -, X119, ⟨Lc119, hQ119, l119, y119, z119⟩, st119⟩ := X118.specialBack hx (y := (⟨"org/counterpath/text/LineColumn", "<init>", "(Ljava/lang/String;JLjava/lang/String;)V"⟩ : MethodName)) rfl hown (mvT hZ (hw _ (List.mem_of_getElem? (i := 18) rfl))) (mvT hZ (hw _ (List.mem_of_getElem? (i := 19) rfl))) (mvT hZ (hw _ (List.mem_of_getElem? (i := 20) rfl))) (by decide) (backOf (W := 1) (rm2 l Z aZ hw [] b114 b116 (2 : Int64) b118 h118 n0 (Nat.le_trans Z0 K118.1) ((A114.ext E116).ext E118) ((F114__line.ext E116).ext E118) ((F114__column.ext E116).ext E118) ((F114__atStart.ext E116).ext E118) ((F114__file.ext E116).ext E118) ((F114__maxCharacters.ext E116).ext E118) ((F114__tooLong.ext E116).ext E118) ((F114__characters.ext E116).ext E118) g_b114) hZ (hw _ (List.mem_of_getElem? (i := 20) rfl)) (hw _ (List.mem_of_getElem? (i := 7) rfl)) (by decide) (by decide)) (g := (mkF m 68 #[.val (.int q0), .val (.int q1), .val (.int q2), .val (.int q3), .val (.int q4), .val (.int v102), .val (.int (own_f1 (((q0.toUInt32 >>> ((1 : Int32) &&& 31).toUInt32).toInt32) &&& (3 : Int32)) q1)), .val (.int (own_f1 (((q0.toUInt32 >>> ((3 : Int32) &&& 31).toUInt32).toInt32) &&& (3 : Int32)) q2)), .val (.int v110), .val (.int (q4.toUInt32.toUInt16.toUInt32.toInt32)), .unset, .unset, .unset, .unset, .unset, .unset, .unset, .unset, .unset, .unset] [(.ref b118), (.long (2 : Int64)), (.ref b116), (.ref b114), (.ref b114)])) rfl (by rw [hml]; rfl) (Steps.refl _) (a := b114) (argsL := [(.ref b116), (.long (2 : Int64)), (.ref b118)]) (rest := [(.ref b114)]) (lenOf pd_4 rfl) rfl (by show 2 * 0 + _ ≤ _; exact Nat.le_of_eq rfl) (hb hby at_68) (fun _ _ => ⟨rfl, e118, (by decide : 5 + 0 ≤ _), (by decide : 23 + 0 ≤ _)⟩)
  dsimp only [Pt.U, Pt.locs, Pt.cells, Pt.slots] at X119 l119 y119 z119 st119 hQ119
  subst l119 y119 z119
  obtain ⟨rfl, N119q, Kq119, P119_0, P119_1, P119_2, P119_3, P119_4⟩ := hQ119
  have N119 := Fr.app N108 N119q
  refine OFinW.tr st119 ?_
  have K119 : Keep h0 T119.heap [] := K118.trans Kq119 (allS (Or.inr sz_b114) all0)
  have sg121 : ∀ t, Steps p.tables e below (T119.setTop (mkF m 81 #[.val (.int q0), .val (.int q1), .val (.int q2), .val (.int q3), .val (.int q4), .val (.int v102), .val (.int (own_f1 (((q0.toUInt32 >>> ((1 : Int32) &&& 31).toUInt32).toInt32) &&& (3 : Int32)) q1)), .val (.int (own_f1 (((q0.toUInt32 >>> ((3 : Int32) &&& 31).toUInt32).toInt32) &&& (3 : Int32)) q2)), .val (.int v110), .val (.int (q4.toUInt32.toUInt16.toUInt32.toInt32)), .val (.ref b114), .val (.int (1 : Int32)), .val (.int (1 : Int32)), .unset, .unset, .unset, .unset, .unset, .unset, .unset] [(.int v102)])) t → Steps p.tables e below (T119.setTop (mkF m 71 #[.val (.int q0), .val (.int q1), .val (.int q2), .val (.int q3), .val (.int q4), .val (.int v102), .val (.int (own_f1 (((q0.toUInt32 >>> ((1 : Int32) &&& 31).toUInt32).toInt32) &&& (3 : Int32)) q1)), .val (.int (own_f1 (((q0.toUInt32 >>> ((3 : Int32) &&& 31).toUInt32).toInt32) &&& (3 : Int32)) q2)), .val (.int v110), .val (.int (q4.toUInt32.toUInt16.toUInt32.toInt32)), .unset, .unset, .unset, .unset, .unset, .unset, .unset, .unset, .unset, .unset] [(.ref b114)])) t := by
    intro t k
    show Steps p.tables e below (T119.setTop (mkF m 71 #[.val (.int q0), .val (.int q1), .val (.int q2), .val (.int q3), .val (.int q4), .val (.int v102), .val (.int (own_f1 (((q0.toUInt32 >>> ((1 : Int32) &&& 31).toUInt32).toInt32) &&& (3 : Int32)) q1)), .val (.int (own_f1 (((q0.toUInt32 >>> ((3 : Int32) &&& 31).toUInt32).toInt32) &&& (3 : Int32)) q2)), .val (.int v110), .val (.int (q4.toUInt32.toUInt16.toUInt32.toInt32)), .unset, .unset, .unset, .unset, .unset, .unset, .unset, .unset, .unset, .unset] [(.ref b114)])) t
    refine XS.astore X119.here hx rfl (hb hby at_71) rfl rfl (l' := #[.val (.int q0), .val (.int q1), .val (.int q2), .val (.int q3), .val (.int q4), .val (.int v102), .val (.int (own_f1 (((q0.toUInt32 >>> ((1 : Int32) &&& 31).toUInt32).toInt32) &&& (3 : Int32)) q1)), .val (.int (own_f1 (((q0.toUInt32 >>> ((3 : Int32) &&& 31).toUInt32).toInt32) &&& (3 : Int32)) q2)), .val (.int v110), .val (.int (q4.toUInt32.toUInt16.toUInt32.toInt32)), .val (.ref b114), .unset, .unset, .unset, .unset, .unset, .unset, .unset, .unset, .unset]) rfl ?_
    show Steps p.tables e below (T119.setTop (mkF m 73 #[.val (.int q0), .val (.int q1), .val (.int q2), .val (.int q3), .val (.int q4), .val (.int v102), .val (.int (own_f1 (((q0.toUInt32 >>> ((1 : Int32) &&& 31).toUInt32).toInt32) &&& (3 : Int32)) q1)), .val (.int (own_f1 (((q0.toUInt32 >>> ((3 : Int32) &&& 31).toUInt32).toInt32) &&& (3 : Int32)) q2)), .val (.int v110), .val (.int (q4.toUInt32.toUInt16.toUInt32.toInt32)), .val (.ref b114), .unset, .unset, .unset, .unset, .unset, .unset, .unset, .unset, .unset] [])) t
    refine XS.iconst X119.here hx rfl (hb hby at_73) ?_
    show Steps p.tables e below (T119.setTop (mkF m 74 #[.val (.int q0), .val (.int q1), .val (.int q2), .val (.int q3), .val (.int q4), .val (.int v102), .val (.int (own_f1 (((q0.toUInt32 >>> ((1 : Int32) &&& 31).toUInt32).toInt32) &&& (3 : Int32)) q1)), .val (.int (own_f1 (((q0.toUInt32 >>> ((3 : Int32) &&& 31).toUInt32).toInt32) &&& (3 : Int32)) q2)), .val (.int v110), .val (.int (q4.toUInt32.toUInt16.toUInt32.toInt32)), .val (.ref b114), .unset, .unset, .unset, .unset, .unset, .unset, .unset, .unset, .unset] [(.int (1 : Int32))])) t
    refine XS.istore X119.here hx rfl (hb hby at_74) rfl (l' := #[.val (.int q0), .val (.int q1), .val (.int q2), .val (.int q3), .val (.int q4), .val (.int v102), .val (.int (own_f1 (((q0.toUInt32 >>> ((1 : Int32) &&& 31).toUInt32).toInt32) &&& (3 : Int32)) q1)), .val (.int (own_f1 (((q0.toUInt32 >>> ((3 : Int32) &&& 31).toUInt32).toInt32) &&& (3 : Int32)) q2)), .val (.int v110), .val (.int (q4.toUInt32.toUInt16.toUInt32.toInt32)), .val (.ref b114), .val (.int (1 : Int32)), .unset, .unset, .unset, .unset, .unset, .unset, .unset, .unset]) rfl ?_
    show Steps p.tables e below (T119.setTop (mkF m 76 #[.val (.int q0), .val (.int q1), .val (.int q2), .val (.int q3), .val (.int q4), .val (.int v102), .val (.int (own_f1 (((q0.toUInt32 >>> ((1 : Int32) &&& 31).toUInt32).toInt32) &&& (3 : Int32)) q1)), .val (.int (own_f1 (((q0.toUInt32 >>> ((3 : Int32) &&& 31).toUInt32).toInt32) &&& (3 : Int32)) q2)), .val (.int v110), .val (.int (q4.toUInt32.toUInt16.toUInt32.toInt32)), .val (.ref b114), .val (.int (1 : Int32)), .unset, .unset, .unset, .unset, .unset, .unset, .unset, .unset] [])) t
    refine XS.iconst X119.here hx rfl (hb hby at_76) ?_
    show Steps p.tables e below (T119.setTop (mkF m 77 #[.val (.int q0), .val (.int q1), .val (.int q2), .val (.int q3), .val (.int q4), .val (.int v102), .val (.int (own_f1 (((q0.toUInt32 >>> ((1 : Int32) &&& 31).toUInt32).toInt32) &&& (3 : Int32)) q1)), .val (.int (own_f1 (((q0.toUInt32 >>> ((3 : Int32) &&& 31).toUInt32).toInt32) &&& (3 : Int32)) q2)), .val (.int v110), .val (.int (q4.toUInt32.toUInt16.toUInt32.toInt32)), .val (.ref b114), .val (.int (1 : Int32)), .unset, .unset, .unset, .unset, .unset, .unset, .unset, .unset] [(.int (1 : Int32))])) t
    refine XS.istore X119.here hx rfl (hb hby at_77) rfl (l' := #[.val (.int q0), .val (.int q1), .val (.int q2), .val (.int q3), .val (.int q4), .val (.int v102), .val (.int (own_f1 (((q0.toUInt32 >>> ((1 : Int32) &&& 31).toUInt32).toInt32) &&& (3 : Int32)) q1)), .val (.int (own_f1 (((q0.toUInt32 >>> ((3 : Int32) &&& 31).toUInt32).toInt32) &&& (3 : Int32)) q2)), .val (.int v110), .val (.int (q4.toUInt32.toUInt16.toUInt32.toInt32)), .val (.ref b114), .val (.int (1 : Int32)), .val (.int (1 : Int32)), .unset, .unset, .unset, .unset, .unset, .unset, .unset]) rfl ?_
    show Steps p.tables e below (T119.setTop (mkF m 79 #[.val (.int q0), .val (.int q1), .val (.int q2), .val (.int q3), .val (.int q4), .val (.int v102), .val (.int (own_f1 (((q0.toUInt32 >>> ((1 : Int32) &&& 31).toUInt32).toInt32) &&& (3 : Int32)) q1)), .val (.int (own_f1 (((q0.toUInt32 >>> ((3 : Int32) &&& 31).toUInt32).toInt32) &&& (3 : Int32)) q2)), .val (.int v110), .val (.int (q4.toUInt32.toUInt16.toUInt32.toInt32)), .val (.ref b114), .val (.int (1 : Int32)), .val (.int (1 : Int32)), .unset, .unset, .unset, .unset, .unset, .unset, .unset] [])) t
    refine XS.iload X119.here hx rfl (hb hby at_79) rfl ?_
    exact k
  refine OFinW.go sg121 ?_
  by_cases c122 : v102 = (0 : Int32)
  · have sg123 : ∀ t, Steps p.tables e below (T119.setTop (mkF m 113 #[.val (.int q0), .val (.int q1), .val (.int q2), .val (.int q3), .val (.int q4), .val (.int v102), .val (.int (own_f1 (((q0.toUInt32 >>> ((1 : Int32) &&& 31).toUInt32).toInt32) &&& (3 : Int32)) q1)), .val (.int (own_f1 (((q0.toUInt32 >>> ((3 : Int32) &&& 31).toUInt32).toInt32) &&& (3 : Int32)) q2)), .val (.int v110), .val (.int (q4.toUInt32.toUInt16.toUInt32.toInt32)), .val (.ref b114), .val (.int (1 : Int32)), .val (.int (1 : Int32)), .unset, .unset, .unset, .unset, .unset, .unset, .unset] [])) t → Steps p.tables e below (T119.setTop (mkF m 81 #[.val (.int q0), .val (.int q1), .val (.int q2), .val (.int q3), .val (.int q4), .val (.int v102), .val (.int (own_f1 (((q0.toUInt32 >>> ((1 : Int32) &&& 31).toUInt32).toInt32) &&& (3 : Int32)) q1)), .val (.int (own_f1 (((q0.toUInt32 >>> ((3 : Int32) &&& 31).toUInt32).toInt32) &&& (3 : Int32)) q2)), .val (.int v110), .val (.int (q4.toUInt32.toUInt16.toUInt32.toInt32)), .val (.ref b114), .val (.int (1 : Int32)), .val (.int (1 : Int32)), .unset, .unset, .unset, .unset, .unset, .unset, .unset] [(.int v102)])) t := by
      intro t k
      show Steps p.tables e below (T119.setTop (mkF m 81 #[.val (.int q0), .val (.int q1), .val (.int q2), .val (.int q3), .val (.int q4), .val (.int v102), .val (.int (own_f1 (((q0.toUInt32 >>> ((1 : Int32) &&& 31).toUInt32).toInt32) &&& (3 : Int32)) q1)), .val (.int (own_f1 (((q0.toUInt32 >>> ((3 : Int32) &&& 31).toUInt32).toInt32) &&& (3 : Int32)) q2)), .val (.int v110), .val (.int (q4.toUInt32.toUInt16.toUInt32.toInt32)), .val (.ref b114), .val (.int (1 : Int32)), .val (.int (1 : Int32)), .unset, .unset, .unset, .unset, .unset, .unset, .unset] [(.int v102)])) t
      refine XS.ifYes X119.here hx rfl (pc0 := 81) (pc' := 113) rfl (hb hby at_81) rfl ((if0 _ _).trans (teq c122).1) (by decide) (by decide) ?_
      exact k
    refine OFinW.go sg123 ?_
    exact pt0_113 Z aZ hw q0 q1 q2 q3 q4 h0 n0 Z0  v102 (own_f1 (((q0.toUInt32 >>> ((1 : Int32) &&& 31).toUInt32).toInt32) &&& (3 : Int32)) q1) (own_f1 (((q0.toUInt32 >>> ((3 : Int32) &&& 31).toUInt32).toInt32) &&& (3 : Int32)) q2) v110 (q4.toUInt32.toUInt16.toUInt32.toInt32) b114 (1 : Int32) (1 : Int32) (1 : Int32) (1 : Int32) (1 : Int32) (2 : Int64) (0 : Int64) T119.heap X119 hx hZ hby hml hown hnm hS (Nat.le_trans hk Kq119.1) hstr hret hlk rfl K119 N119 ((((O0.ext E114).ext E116).ext E118).keep Kq119 (allS g_b114 all0)) g_b114 sz_b114 (((A114.ext E116).ext E118).keep Kq119) P119_0 P119_1 P119_2 P119_3 P119_4 (by first | rfl | (simp [c122]; done)) (by first | rfl | (simp [c122]; done)) (by simp [c122]) (by decide) (by first | decide | (split <;> decide))
  · have sg124 : ∀ t, Steps p.tables e below (T119.setTop (mkF m 88 #[.val (.int q0), .val (.int q1), .val (.int q2), .val (.int q3), .val (.int q4), .val (.int v102), .val (.int (own_f1 (((q0.toUInt32 >>> ((1 : Int32) &&& 31).toUInt32).toInt32) &&& (3 : Int32)) q1)), .val (.int (own_f1 (((q0.toUInt32 >>> ((3 : Int32) &&& 31).toUInt32).toInt32) &&& (3 : Int32)) q2)), .val (.int v110), .val (.int (q4.toUInt32.toUInt16.toUInt32.toInt32)), .val (.ref b114), .val (.int (1 : Int32)), .val (.int (1 : Int32)), .unset, .unset, .unset, .unset, .unset, .unset, .unset] [(.int v110), (.ref b114)])) t → Steps p.tables e below (T119.setTop (mkF m 81 #[.val (.int q0), .val (.int q1), .val (.int q2), .val (.int q3), .val (.int q4), .val (.int v102), .val (.int (own_f1 (((q0.toUInt32 >>> ((1 : Int32) &&& 31).toUInt32).toInt32) &&& (3 : Int32)) q1)), .val (.int (own_f1 (((q0.toUInt32 >>> ((3 : Int32) &&& 31).toUInt32).toInt32) &&& (3 : Int32)) q2)), .val (.int v110), .val (.int (q4.toUInt32.toUInt16.toUInt32.toInt32)), .val (.ref b114), .val (.int (1 : Int32)), .val (.int (1 : Int32)), .unset, .unset, .unset, .unset, .unset, .unset, .unset] [(.int v102)])) t := by
      intro t k
      show Steps p.tables e below (T119.setTop (mkF m 81 #[.val (.int q0), .val (.int q1), .val (.int q2), .val (.int q3), .val (.int q4), .val (.int v102), .val (.int (own_f1 (((q0.toUInt32 >>> ((1 : Int32) &&& 31).toUInt32).toInt32) &&& (3 : Int32)) q1)), .val (.int (own_f1 (((q0.toUInt32 >>> ((3 : Int32) &&& 31).toUInt32).toInt32) &&& (3 : Int32)) q2)), .val (.int v110), .val (.int (q4.toUInt32.toUInt16.toUInt32.toInt32)), .val (.ref b114), .val (.int (1 : Int32)), .val (.int (1 : Int32)), .unset, .unset, .unset, .unset, .unset, .unset, .unset] [(.int v102)])) t
      refine XS.ifNo X119.here hx rfl (hb hby at_81) rfl ((if0 _ _).trans (feq c122).1) ?_
      show Steps p.tables e below (T119.setTop (mkF m 84 #[.val (.int q0), .val (.int q1), .val (.int q2), .val (.int q3), .val (.int q4), .val (.int v102), .val (.int (own_f1 (((q0.toUInt32 >>> ((1 : Int32) &&& 31).toUInt32).toInt32) &&& (3 : Int32)) q1)), .val (.int (own_f1 (((q0.toUInt32 >>> ((3 : Int32) &&& 31).toUInt32).toInt32) &&& (3 : Int32)) q2)), .val (.int v110), .val (.int (q4.toUInt32.toUInt16.toUInt32.toInt32)), .val (.ref b114), .val (.int (1 : Int32)), .val (.int (1 : Int32)), .unset, .unset, .unset, .unset, .unset, .unset, .unset] [])) t
      refine XS.aload X119.here hx rfl (hb hby at_84) rfl rfl ?_
      show Steps p.tables e below (T119.setTop (mkF m 86 #[.val (.int q0), .val (.int q1), .val (.int q2), .val (.int q3), .val (.int q4), .val (.int v102), .val (.int (own_f1 (((q0.toUInt32 >>> ((1 : Int32) &&& 31).toUInt32).toInt32) &&& (3 : Int32)) q1)), .val (.int (own_f1 (((q0.toUInt32 >>> ((3 : Int32) &&& 31).toUInt32).toInt32) &&& (3 : Int32)) q2)), .val (.int v110), .val (.int (q4.toUInt32.toUInt16.toUInt32.toInt32)), .val (.ref b114), .val (.int (1 : Int32)), .val (.int (1 : Int32)), .unset, .unset, .unset, .unset, .unset, .unset, .unset] [(.ref b114)])) t
      refine XS.iload X119.here hx rfl (hb hby at_86) rfl ?_
      exact k
    refine OFinW.go sg124 ?_
    obtain ⟨cq125, kq125, q125a, q125b, q125c⟩ := isOf hZ rfl (((A114.ext E116).ext E118).keep Kq119)
    obtain ⟨_, _, ⟨T125, L125, k125, n125⟩, -, X125, ⟨Lc125, hQ125, l125, y125, z125⟩, st125⟩ := X119.virtualBack hx (y := (⟨"org/counterpath/text/LineColumn", "take", "(C)V"⟩ : MethodName)) (z := (⟨"org/counterpath/text/LineColumn", "take", "(C)V"⟩ : MethodName)) hown (mvT hZ (hw _ (List.mem_of_getElem? (i := 52) rfl))) (mvT hZ (hw _ (List.mem_of_getElem? (i := 53) rfl))) (notFace_of_selects (args := #[]) (mvT hZ (hw _ (List.mem_of_getElem? (i := 55) rfl)))) (mvT hZ (hw _ (List.mem_of_getElem? (i := 55) rfl))) (mvT hZ (hw _ (List.mem_of_getElem? (i := 54) rfl))) (by decide) (backOf (W := 0) (rm7 l Z aZ hw [] b114 v110 (1 : Int32) (1 : Int32) (1 : Int32) (2 : Int64) (0 : Int64) T119.heap n0 (Nat.le_trans Z0 K119.1) (((A114.ext E116).ext E118).keep Kq119) P119_0 P119_1 P119_2 P119_3 P119_4 (by decide) (by decide) g_b114) hZ (hw _ (List.mem_of_getElem? (i := 56) rfl)) (hw _ (List.mem_of_getElem? (i := 7) rfl)) (by decide) (by decide)) q125a q125c (g := (mkF m 88 #[.val (.int q0), .val (.int q1), .val (.int q2), .val (.int q3), .val (.int q4), .val (.int v102), .val (.int (own_f1 (((q0.toUInt32 >>> ((1 : Int32) &&& 31).toUInt32).toInt32) &&& (3 : Int32)) q1)), .val (.int (own_f1 (((q0.toUInt32 >>> ((3 : Int32) &&& 31).toUInt32).toInt32) &&& (3 : Int32)) q2)), .val (.int v110), .val (.int (q4.toUInt32.toUInt16.toUInt32.toInt32)), .val (.ref b114), .val (.int (1 : Int32)), .val (.int (1 : Int32)), .unset, .unset, .unset, .unset, .unset, .unset, .unset] [(.int v110), (.ref b114)])) rfl (by rw [hml]; rfl) (Steps.refl _) (argsL := [(.int v110)]) (rest := []) (lenOf pd_2 rfl) rfl (by show 2 * 0 + _ ≤ _; exact Nat.le_of_eq rfl) (hb hby at_88) (fun _ _ => ⟨rfl, rfl, (by decide : 5 + 0 ≤ _), (by decide : 23 + 0 ≤ _)⟩)
    dsimp only [Pt.U, Pt.locs, Pt.cells, Pt.slots] at X125 l125 y125 z125 st125 hQ125
    subst l125 y125 z125
    obtain ⟨rfl, N125q, Kq125, P125_0, P125_1, P125_2, P125_3, P125_4⟩ := hQ125
    have N125 := Fr.app N119 N125q
    refine OFinW.tr st125 ?_
    have K125 : Keep h0 T125.heap [] := K119.trans Kq125 (allS (Or.inr sz_b114) all0)
    have sg129 : ∀ t, Steps p.tables e below (T125.setTop (mkF m 95 #[.val (.int q0), .val (.int q1), .val (.int q2), .val (.int q3), .val (.int q4), .val (.int v102), .val (.int (own_f1 (((q0.toUInt32 >>> ((1 : Int32) &&& 31).toUInt32).toInt32) &&& (3 : Int32)) q1)), .val (.int (own_f1 (((q0.toUInt32 >>> ((3 : Int32) &&& 31).toUInt32).toInt32) &&& (3 : Int32)) q2)), .val (.int v110), .val (.int (q4.toUInt32.toUInt16.toUInt32.toInt32)), .val (.ref b114), .val (.int (1 : Int32)), .val (.int (1 : Int32)), .unset, .unset, .unset, .unset, .unset, .unset, .unset] [(.int (10 : Int32)), (.int v110)])) t → Steps p.tables e below (T125.setTop (mkF m 91 #[.val (.int q0), .val (.int q1), .val (.int q2), .val (.int q3), .val (.int q4), .val (.int v102), .val (.int (own_f1 (((q0.toUInt32 >>> ((1 : Int32) &&& 31).toUInt32).toInt32) &&& (3 : Int32)) q1)), .val (.int (own_f1 (((q0.toUInt32 >>> ((3 : Int32) &&& 31).toUInt32).toInt32) &&& (3 : Int32)) q2)), .val (.int v110), .val (.int (q4.toUInt32.toUInt16.toUInt32.toInt32)), .val (.ref b114), .val (.int (1 : Int32)), .val (.int (1 : Int32)), .unset, .unset, .unset, .unset, .unset, .unset, .unset] [])) t := by
      intro t k
      show Steps p.tables e below (T125.setTop (mkF m 91 #[.val (.int q0), .val (.int q1), .val (.int q2), .val (.int q3), .val (.int q4), .val (.int v102), .val (.int (own_f1 (((q0.toUInt32 >>> ((1 : Int32) &&& 31).toUInt32).toInt32) &&& (3 : Int32)) q1)), .val (.int (own_f1 (((q0.toUInt32 >>> ((3 : Int32) &&& 31).toUInt32).toInt32) &&& (3 : Int32)) q2)), .val (.int v110), .val (.int (q4.toUInt32.toUInt16.toUInt32.toInt32)), .val (.ref b114), .val (.int (1 : Int32)), .val (.int (1 : Int32)), .unset, .unset, .unset, .unset, .unset, .unset, .unset] [])) t
      refine XS.iload X125.here hx rfl (hb hby at_91) rfl ?_
      show Steps p.tables e below (T125.setTop (mkF m 93 #[.val (.int q0), .val (.int q1), .val (.int q2), .val (.int q3), .val (.int q4), .val (.int v102), .val (.int (own_f1 (((q0.toUInt32 >>> ((1 : Int32) &&& 31).toUInt32).toInt32) &&& (3 : Int32)) q1)), .val (.int (own_f1 (((q0.toUInt32 >>> ((3 : Int32) &&& 31).toUInt32).toInt32) &&& (3 : Int32)) q2)), .val (.int v110), .val (.int (q4.toUInt32.toUInt16.toUInt32.toInt32)), .val (.ref b114), .val (.int (1 : Int32)), .val (.int (1 : Int32)), .unset, .unset, .unset, .unset, .unset, .unset, .unset] [(.int v110)])) t
      refine XS.bipush X125.here hx rfl (hb hby at_93) ?_
      exact k
    refine OFinW.go sg129 ?_
    obtain ⟨v127, e_v127⟩ : ∃ z : Int32, z = (if v110 = (10 : Int32) then (2 : Int32) else (1 : Int32)) := ⟨_, rfl⟩
    obtain ⟨v128, e_v128⟩ : ∃ z : Int32, z = (if v110 = (10 : Int32) then (1 : Int32) else (2 : Int32)) := ⟨_, rfl⟩
    have sg130 : ∀ t, Steps p.tables e below (T125.setTop (mkF m 113 #[.val (.int q0), .val (.int q1), .val (.int q2), .val (.int q3), .val (.int q4), .val (.int v102), .val (.int (own_f1 (((q0.toUInt32 >>> ((1 : Int32) &&& 31).toUInt32).toInt32) &&& (3 : Int32)) q1)), .val (.int (own_f1 (((q0.toUInt32 >>> ((3 : Int32) &&& 31).toUInt32).toInt32) &&& (3 : Int32)) q2)), .val (.int v110), .val (.int (q4.toUInt32.toUInt16.toUInt32.toInt32)), .val (.ref b114), .val (.int v127), .val (.int v128), .unset, .unset, .unset, .unset, .unset, .unset, .unset] [])) t → Steps p.tables e below (T125.setTop (mkF m 95 #[.val (.int q0), .val (.int q1), .val (.int q2), .val (.int q3), .val (.int q4), .val (.int v102), .val (.int (own_f1 (((q0.toUInt32 >>> ((1 : Int32) &&& 31).toUInt32).toInt32) &&& (3 : Int32)) q1)), .val (.int (own_f1 (((q0.toUInt32 >>> ((3 : Int32) &&& 31).toUInt32).toInt32) &&& (3 : Int32)) q2)), .val (.int v110), .val (.int (q4.toUInt32.toUInt16.toUInt32.toInt32)), .val (.ref b114), .val (.int (1 : Int32)), .val (.int (1 : Int32)), .unset, .unset, .unset, .unset, .unset, .unset, .unset] [(.int (10 : Int32)), (.int v110)])) t := by
      intro t k
      by_cases c126 : v110 = (10 : Int32)
      · show Steps p.tables e below (T125.setTop (mkF m 95 #[.val (.int q0), .val (.int q1), .val (.int q2), .val (.int q3), .val (.int q4), .val (.int v102), .val (.int (own_f1 (((q0.toUInt32 >>> ((1 : Int32) &&& 31).toUInt32).toInt32) &&& (3 : Int32)) q1)), .val (.int (own_f1 (((q0.toUInt32 >>> ((3 : Int32) &&& 31).toUInt32).toInt32) &&& (3 : Int32)) q2)), .val (.int v110), .val (.int (q4.toUInt32.toUInt16.toUInt32.toInt32)), .val (.ref b114), .val (.int (1 : Int32)), .val (.int (1 : Int32)), .unset, .unset, .unset, .unset, .unset, .unset, .unset] [(.int (10 : Int32)), (.int v110)])) t
        refine XS.icmpNo X125.here hx rfl (hb hby at_95) rfl (teq c126).2 ?_
        show Steps p.tables e below (T125.setTop (mkF m 98 #[.val (.int q0), .val (.int q1), .val (.int q2), .val (.int q3), .val (.int q4), .val (.int v102), .val (.int (own_f1 (((q0.toUInt32 >>> ((1 : Int32) &&& 31).toUInt32).toInt32) &&& (3 : Int32)) q1)), .val (.int (own_f1 (((q0.toUInt32 >>> ((3 : Int32) &&& 31).toUInt32).toInt32) &&& (3 : Int32)) q2)), .val (.int v110), .val (.int (q4.toUInt32.toUInt16.toUInt32.toInt32)), .val (.ref b114), .val (.int (1 : Int32)), .val (.int (1 : Int32)), .unset, .unset, .unset, .unset, .unset, .unset, .unset] [])) t
        refine XS.iconst X125.here hx rfl (hb hby at_98) ?_
        show Steps p.tables e below (T125.setTop (mkF m 99 #[.val (.int q0), .val (.int q1), .val (.int q2), .val (.int q3), .val (.int q4), .val (.int v102), .val (.int (own_f1 (((q0.toUInt32 >>> ((1 : Int32) &&& 31).toUInt32).toInt32) &&& (3 : Int32)) q1)), .val (.int (own_f1 (((q0.toUInt32 >>> ((3 : Int32) &&& 31).toUInt32).toInt32) &&& (3 : Int32)) q2)), .val (.int v110), .val (.int (q4.toUInt32.toUInt16.toUInt32.toInt32)), .val (.ref b114), .val (.int (1 : Int32)), .val (.int (1 : Int32)), .unset, .unset, .unset, .unset, .unset, .unset, .unset] [(.int (2 : Int32))])) t
        refine XS.istore X125.here hx rfl (hb hby at_99) rfl (l' := #[.val (.int q0), .val (.int q1), .val (.int q2), .val (.int q3), .val (.int q4), .val (.int v102), .val (.int (own_f1 (((q0.toUInt32 >>> ((1 : Int32) &&& 31).toUInt32).toInt32) &&& (3 : Int32)) q1)), .val (.int (own_f1 (((q0.toUInt32 >>> ((3 : Int32) &&& 31).toUInt32).toInt32) &&& (3 : Int32)) q2)), .val (.int v110), .val (.int (q4.toUInt32.toUInt16.toUInt32.toInt32)), .val (.ref b114), .val (.int (2 : Int32)), .val (.int (1 : Int32)), .unset, .unset, .unset, .unset, .unset, .unset, .unset]) rfl ?_
        show Steps p.tables e below (T125.setTop (mkF m 101 #[.val (.int q0), .val (.int q1), .val (.int q2), .val (.int q3), .val (.int q4), .val (.int v102), .val (.int (own_f1 (((q0.toUInt32 >>> ((1 : Int32) &&& 31).toUInt32).toInt32) &&& (3 : Int32)) q1)), .val (.int (own_f1 (((q0.toUInt32 >>> ((3 : Int32) &&& 31).toUInt32).toInt32) &&& (3 : Int32)) q2)), .val (.int v110), .val (.int (q4.toUInt32.toUInt16.toUInt32.toInt32)), .val (.ref b114), .val (.int (2 : Int32)), .val (.int (1 : Int32)), .unset, .unset, .unset, .unset, .unset, .unset, .unset] [])) t
        refine XS.iconst X125.here hx rfl (hb hby at_101) ?_
        show Steps p.tables e below (T125.setTop (mkF m 102 #[.val (.int q0), .val (.int q1), .val (.int q2), .val (.int q3), .val (.int q4), .val (.int v102), .val (.int (own_f1 (((q0.toUInt32 >>> ((1 : Int32) &&& 31).toUInt32).toInt32) &&& (3 : Int32)) q1)), .val (.int (own_f1 (((q0.toUInt32 >>> ((3 : Int32) &&& 31).toUInt32).toInt32) &&& (3 : Int32)) q2)), .val (.int v110), .val (.int (q4.toUInt32.toUInt16.toUInt32.toInt32)), .val (.ref b114), .val (.int (2 : Int32)), .val (.int (1 : Int32)), .unset, .unset, .unset, .unset, .unset, .unset, .unset] [(.int (1 : Int32))])) t
        refine XS.istore X125.here hx rfl (hb hby at_102) rfl (l' := #[.val (.int q0), .val (.int q1), .val (.int q2), .val (.int q3), .val (.int q4), .val (.int v102), .val (.int (own_f1 (((q0.toUInt32 >>> ((1 : Int32) &&& 31).toUInt32).toInt32) &&& (3 : Int32)) q1)), .val (.int (own_f1 (((q0.toUInt32 >>> ((3 : Int32) &&& 31).toUInt32).toInt32) &&& (3 : Int32)) q2)), .val (.int v110), .val (.int (q4.toUInt32.toUInt16.toUInt32.toInt32)), .val (.ref b114), .val (.int (2 : Int32)), .val (.int (1 : Int32)), .unset, .unset, .unset, .unset, .unset, .unset, .unset]) rfl ?_
        show Steps p.tables e below (T125.setTop (mkF m 104 #[.val (.int q0), .val (.int q1), .val (.int q2), .val (.int q3), .val (.int q4), .val (.int v102), .val (.int (own_f1 (((q0.toUInt32 >>> ((1 : Int32) &&& 31).toUInt32).toInt32) &&& (3 : Int32)) q1)), .val (.int (own_f1 (((q0.toUInt32 >>> ((3 : Int32) &&& 31).toUInt32).toInt32) &&& (3 : Int32)) q2)), .val (.int v110), .val (.int (q4.toUInt32.toUInt16.toUInt32.toInt32)), .val (.ref b114), .val (.int (2 : Int32)), .val (.int (1 : Int32)), .unset, .unset, .unset, .unset, .unset, .unset, .unset] [])) t
        refine XS.goto X125.here hx rfl (pc0 := 104) (pc' := 113) rfl (hb hby at_104) (by decide) (by decide) ?_
        have e_v127' := e_v127
        try rw [if_pos c126] at e_v127'
        subst e_v127'
        have e_v128' := e_v128
        try rw [if_pos c126] at e_v128'
        subst e_v128'
        exact k
      · show Steps p.tables e below (T125.setTop (mkF m 95 #[.val (.int q0), .val (.int q1), .val (.int q2), .val (.int q3), .val (.int q4), .val (.int v102), .val (.int (own_f1 (((q0.toUInt32 >>> ((1 : Int32) &&& 31).toUInt32).toInt32) &&& (3 : Int32)) q1)), .val (.int (own_f1 (((q0.toUInt32 >>> ((3 : Int32) &&& 31).toUInt32).toInt32) &&& (3 : Int32)) q2)), .val (.int v110), .val (.int (q4.toUInt32.toUInt16.toUInt32.toInt32)), .val (.ref b114), .val (.int (1 : Int32)), .val (.int (1 : Int32)), .unset, .unset, .unset, .unset, .unset, .unset, .unset] [(.int (10 : Int32)), (.int v110)])) t
        refine XS.icmpYes X125.here hx rfl (pc0 := 95) (pc' := 107) rfl (hb hby at_95) rfl (feq c126).2 (by decide) (by decide) ?_
        show Steps p.tables e below (T125.setTop (mkF m 107 #[.val (.int q0), .val (.int q1), .val (.int q2), .val (.int q3), .val (.int q4), .val (.int v102), .val (.int (own_f1 (((q0.toUInt32 >>> ((1 : Int32) &&& 31).toUInt32).toInt32) &&& (3 : Int32)) q1)), .val (.int (own_f1 (((q0.toUInt32 >>> ((3 : Int32) &&& 31).toUInt32).toInt32) &&& (3 : Int32)) q2)), .val (.int v110), .val (.int (q4.toUInt32.toUInt16.toUInt32.toInt32)), .val (.ref b114), .val (.int (1 : Int32)), .val (.int (1 : Int32)), .unset, .unset, .unset, .unset, .unset, .unset, .unset] [])) t
        refine XS.iconst X125.here hx rfl (hb hby at_107) ?_
        show Steps p.tables e below (T125.setTop (mkF m 108 #[.val (.int q0), .val (.int q1), .val (.int q2), .val (.int q3), .val (.int q4), .val (.int v102), .val (.int (own_f1 (((q0.toUInt32 >>> ((1 : Int32) &&& 31).toUInt32).toInt32) &&& (3 : Int32)) q1)), .val (.int (own_f1 (((q0.toUInt32 >>> ((3 : Int32) &&& 31).toUInt32).toInt32) &&& (3 : Int32)) q2)), .val (.int v110), .val (.int (q4.toUInt32.toUInt16.toUInt32.toInt32)), .val (.ref b114), .val (.int (1 : Int32)), .val (.int (1 : Int32)), .unset, .unset, .unset, .unset, .unset, .unset, .unset] [(.int (1 : Int32))])) t
        refine XS.istore X125.here hx rfl (hb hby at_108) rfl (l' := #[.val (.int q0), .val (.int q1), .val (.int q2), .val (.int q3), .val (.int q4), .val (.int v102), .val (.int (own_f1 (((q0.toUInt32 >>> ((1 : Int32) &&& 31).toUInt32).toInt32) &&& (3 : Int32)) q1)), .val (.int (own_f1 (((q0.toUInt32 >>> ((3 : Int32) &&& 31).toUInt32).toInt32) &&& (3 : Int32)) q2)), .val (.int v110), .val (.int (q4.toUInt32.toUInt16.toUInt32.toInt32)), .val (.ref b114), .val (.int (1 : Int32)), .val (.int (1 : Int32)), .unset, .unset, .unset, .unset, .unset, .unset, .unset]) rfl ?_
        show Steps p.tables e below (T125.setTop (mkF m 110 #[.val (.int q0), .val (.int q1), .val (.int q2), .val (.int q3), .val (.int q4), .val (.int v102), .val (.int (own_f1 (((q0.toUInt32 >>> ((1 : Int32) &&& 31).toUInt32).toInt32) &&& (3 : Int32)) q1)), .val (.int (own_f1 (((q0.toUInt32 >>> ((3 : Int32) &&& 31).toUInt32).toInt32) &&& (3 : Int32)) q2)), .val (.int v110), .val (.int (q4.toUInt32.toUInt16.toUInt32.toInt32)), .val (.ref b114), .val (.int (1 : Int32)), .val (.int (1 : Int32)), .unset, .unset, .unset, .unset, .unset, .unset, .unset] [])) t
        refine XS.iconst X125.here hx rfl (hb hby at_110) ?_
        show Steps p.tables e below (T125.setTop (mkF m 111 #[.val (.int q0), .val (.int q1), .val (.int q2), .val (.int q3), .val (.int q4), .val (.int v102), .val (.int (own_f1 (((q0.toUInt32 >>> ((1 : Int32) &&& 31).toUInt32).toInt32) &&& (3 : Int32)) q1)), .val (.int (own_f1 (((q0.toUInt32 >>> ((3 : Int32) &&& 31).toUInt32).toInt32) &&& (3 : Int32)) q2)), .val (.int v110), .val (.int (q4.toUInt32.toUInt16.toUInt32.toInt32)), .val (.ref b114), .val (.int (1 : Int32)), .val (.int (1 : Int32)), .unset, .unset, .unset, .unset, .unset, .unset, .unset] [(.int (2 : Int32))])) t
        refine XS.istore X125.here hx rfl (hb hby at_111) rfl (l' := #[.val (.int q0), .val (.int q1), .val (.int q2), .val (.int q3), .val (.int q4), .val (.int v102), .val (.int (own_f1 (((q0.toUInt32 >>> ((1 : Int32) &&& 31).toUInt32).toInt32) &&& (3 : Int32)) q1)), .val (.int (own_f1 (((q0.toUInt32 >>> ((3 : Int32) &&& 31).toUInt32).toInt32) &&& (3 : Int32)) q2)), .val (.int v110), .val (.int (q4.toUInt32.toUInt16.toUInt32.toInt32)), .val (.ref b114), .val (.int (1 : Int32)), .val (.int (2 : Int32)), .unset, .unset, .unset, .unset, .unset, .unset, .unset]) rfl ?_
        have e_v127' := e_v127
        try rw [if_neg c126] at e_v127'
        subst e_v127'
        have e_v128' := e_v128
        try rw [if_neg c126] at e_v128'
        subst e_v128'
        exact k
    refine OFinW.go sg130 ?_
    exact pt0_113 Z aZ hw q0 q1 q2 q3 q4 h0 n0 Z0  v102 (own_f1 (((q0.toUInt32 >>> ((1 : Int32) &&& 31).toUInt32).toInt32) &&& (3 : Int32)) q1) (own_f1 (((q0.toUInt32 >>> ((3 : Int32) &&& 31).toUInt32).toInt32) &&& (3 : Int32)) q2) v110 (q4.toUInt32.toUInt16.toUInt32.toInt32) b114 v127 v128 (if v110 = (10 : Int32) then ((1 : Int32) + (1 : Int32)) else (1 : Int32)) (if v110 = (10 : Int32) then (1 : Int32) else ((1 : Int32) + (1 : Int32))) (0 : Int32) (2 : Int64) ((0 : Int64) + (1 : Int64)) T125.heap X125 hx hZ hby hml hown hnm hS (Nat.le_trans (Nat.le_trans hk Kq119.1) Kq125.1) hstr hret hlk rfl K125 N125 (((((O0.ext E114).ext E116).ext E118).keep Kq119 (allS g_b114 all0)).keep Kq125 (allS g_b114 all0)) g_b114 sz_b114 ((((A114.ext E116).ext E118).keep Kq119).keep Kq125) P125_0 P125_1 P125_2 P125_3 P125_4 (by first | rfl | (rw [e_v127]; rfl) | (simp [c122]; done)) (by first | rfl | (rw [e_v128]; rfl) | (simp [c122]; done)) (by simp [c122]) (by decide) (by first | decide | (split <;> decide))
set_option maxHeartbeats 40000000 in
theorem comes_1 {Post : Tables → Env → Array Value → State → Outcome → State → Prop} (hpost : ∀ tb e args s v u, (limb_1_1.after args s (.returned v) u = true ∧ limb_1_2.after args s (.returned v) u = true ∧ True) → ReturnedEndW s (.returned v) u (Jvm.fieldLocs frame_1_writes args s ++ Jvm.arrayLocs frame_1_arrays args s ++ Jvm.staticLocs frame_1_statics s) 16 2176 → Post tb e args s (.returned v) u) :
    ArmFor flags0 classFile x code maxLocals ret World_1 tables_1 room_1 Calls_1 rest_1 Pre_1 Post := by
  intro l hfl _ _ p e ha hc hk s m args below hf hA hF happ hP
  obtain ⟨hcalls, hrest, hpre⟩ := hP
  obtain ⟨-, -, -, hnamed, -, -, -, hat⟩ := (Spec.applies_iff hf).mp happ
  obtain ⟨hg, hn⟩ := and_e (Cond.before_iff.mp (show (Jvm.Cond.and given_1 narrow_1).before args s = true from hpre))
  obtain ⟨gg1, gg2⟩ := and_e hg
  obtain ⟨gg3, gg4⟩ := and_e gg2
  obtain ⟨gg5, gg6⟩ := and_e gg4
  obtain ⟨gg7, gg8⟩ := and_e gg6
  obtain ⟨gg9, gg10⟩ := and_e gg8
  obtain ⟨w0, w1, w2, w3, w4, rfl⟩ : ∃ w0 w1 w2 w3 w4 : Value, args = #[w0, w1, w2, w3, w4] := by
    have hs : args.size = 5 := by simpa [Cond.value, given_1] using gg1
    obtain ⟨L⟩ := args
    match L, hs with
    | [w0, w1, w2, w3, w4], _ => exact ⟨w0, w1, w2, w3, w4, rfl⟩
  have hw := fun d (hd : d ∈ tables_1) => atoms_spec (ws := Jvm.Cond.code x code maxLocals ret :: tables_1) hat d (List.mem_cons_of_mem _ hd)
  have hfit : Fit s := fun {y c} hc i hi => by
    obtain ⟨ha, rfl⟩ := Array.getElem?_eq_some_iff.mp hc
    have q := List.all_eq_true.mp ((Array.all_eq_true_iff_forall_mem.mp hF) _ (Array.getElem_mem ha)) i (List.mem_range.mpr hi)
    simpa [Array.getElem?_eq_getElem hi] using q
  obtain ⟨i0, ei0⟩ := is_v gg3
  obtain rfl : w0 = (.int i0) := Option.some.inj ei0
  obtain ⟨i1, ei1⟩ := is_v gg5
  obtain rfl : w1 = (.int i1) := Option.some.inj ei1
  obtain ⟨i2, ei2⟩ := is_v gg7
  obtain rfl : w2 = (.int i2) := Option.some.inj ei2
  obtain ⟨i3, ei3⟩ := is_v gg9
  obtain rfl : w3 = (.int i3) := Option.some.inj ei3
  obtain ⟨i4, ei4⟩ := is_v gg10
  obtain rfl : w4 = (.int i4) := Option.some.inj ei4
  obtain ⟨n, o, h1, h2, h3, _, L, rfl, ⟨rfl, N⟩, hq⟩ := rm0 l s _ hw tables_1 i0 i1 i2 i3 i4 s.heap s.heap.size (Nat.le_refl _) (Old.start s)  p e ha hc hk s m _ below hf ((Spec.applies_iff_loose hf).mp happ).1 ⟨rfl, State.Warmed39.refl s, rfl⟩ trivial
  refine ⟨n, _, h1, h2, h3, hpost _ _ _ _ _ _ ⟨Cond.after_iff.mpr rfl, Cond.after_iff.mpr (eq_i res_at (Term.int_eval (1)) rfl), trivial⟩ ⟨hq.1, hq.2.1, hq.2.2.1, (hq.2.2.2.sift fun y hy => Or.inr (N y hy)).mono (by decide) (by decide)⟩⟩
theorem main_1_1 : Claimed_1_1 := comes_1 fun _ _ _ _ _ _ h hF => ⟨h.1, hF⟩
theorem main_1_2 : Claimed_1_2 := comes_1 fun _ _ _ _ _ _ h hF => ⟨h.2.1, hF⟩
end Jvm.Pilot.@@N@@
namespace Jvm.Pilot.@@N@@
open Jvm Jvm.ClassFile Sem Op Lib Jvm.Free Jvm.Stand Jvm.Pilot.@@N@@.Jvm.D
/-! MADE BY PROGRAM (witnessworld.py) out of the Statement's table words and the real class files: 14 classes; the members and pool entries that the words name. The judged class is class 1, her method 2. -/
namespace start1
open Jvm.ClassFile
def u (s : String) : CpInfo := .utf8 (stringToUtf16 s)
/-- a pool by its gaps: so many unusable entries, then the entry; so many at the end -/
def gap : Nat → List CpInfo → List CpInfo
  | 0, r => r
  | n + 1, r => .unusable :: gap n r
def poolList (es : List (Nat × CpInfo)) (last : Nat) : List CpInfo := es.foldr (fun e r => gap e.1 (e.2 :: r)) (gap last [])
def pool (es : List (Nat × CpInfo)) (last : Nat) : Array CpInfo := ⟨poolList es last⟩
def fileOf (pool : Array CpInfo) (this : Nat) (attrs : Array Attribute := #[]) (ms : Array MethodInfo := #[]) (fl : Nat := 33) (sup : Nat := 0) (ifs : Array Nat := #[]) (fds : Array FieldInfo := #[]) : ClassFile where
  minorVersion := 0
  majorVersion := 65
  constantPool := pool
  accessFlags := fl
  thisClass := this
  superClass := sup
  interfaces := ifs
  fields := fds
  methods := ms
  attributes := attrs
def plain (name : String) (sup : Option ClassId) : Class where
  name := name
  kind := .ordinary
  loader := none
  accessFlags := 33
  super := sup
  interfaces := #[]
  cf := none
  fields := #[]
  methods := #[]
  instanceTypes := #[]
  staticTypes := #[]
  resolved := #[]
  callSites := []
  init := .initialized
  statics := none
  mirror := none

def pool0 : Array CpInfo := pool [(5, u "<init>"), (0, u "()V"), (1, .class_ 10), (1, u "java/lang/Object")] 113

def k0c0 : Code := { maxStack := 0, maxLocals := 1, code := object_method_1_code, exceptionTable := #[], attributes := #[] }
def k0m0 : Method := { name := "<init>", desc := "()V", sig := { parameters := [], returnType := none }, accessFlags := 1, code := some k0c0 }
/-- java/lang/Object -/
def k0 : Class := { plain "java/lang/Object" none with
  accessFlags := 33
  interfaces := #[]
  cf := some (fileOf pool0 8 #[] #[{ accessFlags := 1, nameIndex := 5, descriptorIndex := 6, attributes := #[] }] 33 0 #[] #[])
  fields := #[]
  methods := #[k0m0]
  instanceTypes := #[]
  staticTypes := #[]
  resolved := Array.replicate 124 none
  statics := none }

def pool1 : Array CpInfo := pool [(2, .class_ 4), (1, u "java/lang/Object"), (0, u "<init>"), (0, u "()V"), (0, .integer 65279), (0, .integer 65535), (0, .methodref 10 11), (0, .class_ 12), (0, .nameAndType 13 14), (0, u "org/counterpath/text/LineColumnSkipsPinLaw"), (0, u "pick"), (0, u "(II)I"), (0, .class_ 16), (0, u "org/counterpath/text/LineColumn"), (0, .string 18), (0, u "f"), (0, .long 2), (1, .string 22), (0, u "x"), (0, .methodref 15 24), (0, .nameAndType 5 25), (0, u "(Ljava/lang/String;JLjava/lang/String;)V"), (0, .methodref 15 27), (0, .nameAndType 28 29), (0, u "take"), (0, u "(C)V"), (0, .methodref 15 31), (0, .nameAndType 32 33), (0, u "skips"), (0, u "(I)Z"), (0, .methodref 15 35), (0, .nameAndType 36 37), (0, u "line"), (0, u "()I"), (0, .methodref 15 39), (0, .nameAndType 40 37), (0, u "column"), (3, u "law"), (0, u "(IIIII)Z")] 5

def k1m0 : Method := { name := "<init>", desc := "()V", sig := { parameters := [], returnType := none }, accessFlags := 1, code := none }
def k1c1 : Code := { maxStack := 4, maxLocals := 2, code := method_2_code, exceptionTable := #[], attributes := #[] }
def k1m1 : Method := { name := "pick", desc := "(II)I", sig := { parameters := [.int, .int], returnType := some .int }, accessFlags := 10, code := some k1c1 }
def k1c2 : Code := { maxStack := 6, maxLocals := 20, code := code, exceptionTable := #[], attributes := #[] }
def k1m2 : Method := { name := "law", desc := "(IIIII)Z", sig := { parameters := [.int, .int, .int, .int, .int], returnType := some .boolean }, accessFlags := 9, code := some k1c2 }
/-- org/counterpath/text/LineColumnSkipsPinLaw -/
def k1 : Class := { plain "org/counterpath/text/LineColumnSkipsPinLaw" (some 0) with
  accessFlags := 49
  interfaces := #[]
  cf := some (fileOf pool1 10 #[] #[{ accessFlags := 1, nameIndex := 5, descriptorIndex := 6, attributes := #[] }, { accessFlags := 10, nameIndex := 13, descriptorIndex := 14, attributes := #[] }, { accessFlags := 9, nameIndex := 44, descriptorIndex := 45, attributes := #[] }] 49 2 #[] #[])
  fields := #[]
  methods := #[k1m0, k1m1, k1m2]
  instanceTypes := #[]
  staticTypes := #[]
  resolved := Array.replicate 51 none
  statics := none }

def pool2 : Array CpInfo := pool [(6, .class_ 8), (1, u "org/counterpath/text/LineColumn"), (0, u "<init>"), (0, u "(Ljava/lang/String;JLjava/lang/String;)V"), (0, .methodref 12 13), (0, .class_ 14), (0, .nameAndType 9 15), (0, u "java/lang/Object"), (0, u "()V"), (0, .fieldref 6 17), (0, .nameAndType 18 19), (0, u "_line"), (0, u "I"), (0, .fieldref 6 21), (0, .nameAndType 22 19), (0, u "_column"), (0, .fieldref 6 24), (0, .nameAndType 25 26), (0, u "_atStart"), (0, u "Z"), (0, .fieldref 6 28), (0, .nameAndType 29 30), (0, u "_file"), (0, u "Ljava/lang/String;"), (0, .fieldref 6 32), (0, .nameAndType 33 34), (0, u "_maxCharacters"), (0, u "J"), (0, .fieldref 6 36), (0, .nameAndType 37 30), (0, u "_tooLong"), (0, .integer 65279), (0, .fieldref 6 40), (0, .nameAndType 41 34), (0, u "_characters"), (11, .integer 2147483647), (10, u "skips"), (0, u "(I)Z"), (1, u "take"), (0, u "(C)V"), (1, u "line"), (0, u "()I"), (0, u "column")] 2

def k2c0 : Code := { maxStack := 3, maxLocals := 5, code := prog_227_method_2_code, exceptionTable := #[], attributes := #[] }
def k2m0 : Method := { name := "<init>", desc := "(Ljava/lang/String;JLjava/lang/String;)V", sig := { parameters := [(.object "java/lang/String"), .long, (.object "java/lang/String")], returnType := none }, accessFlags := 1, code := some k2c0 }
def k2c1 : Code := { maxStack := 2, maxLocals := 2, code := prog_227_method_3_code, exceptionTable := #[], attributes := #[] }
def k2m1 : Method := { name := "skips", desc := "(I)Z", sig := { parameters := [.int], returnType := some .boolean }, accessFlags := 1, code := some k2c1 }
def k2c2 : Code := { maxStack := 5, maxLocals := 2, code := prog_227_method_4_code, exceptionTable := #[], attributes := #[] }
def k2m2 : Method := { name := "take", desc := "(C)V", sig := { parameters := [.char], returnType := none }, accessFlags := 1, code := some k2c2 }
def k2c3 : Code := { maxStack := 1, maxLocals := 1, code := prog_227_method_5_code, exceptionTable := #[], attributes := #[] }
def k2m3 : Method := { name := "line", desc := "()I", sig := { parameters := [], returnType := some .int }, accessFlags := 1, code := some k2c3 }
def k2c4 : Code := { maxStack := 1, maxLocals := 1, code := prog_227_method_6_code, exceptionTable := #[], attributes := #[] }
def k2m4 : Method := { name := "column", desc := "()I", sig := { parameters := [], returnType := some .int }, accessFlags := 1, code := some k2c4 }
/-- org/counterpath/text/LineColumn -/
def k2 : Class := { plain "org/counterpath/text/LineColumn" (some 0) with
  accessFlags := 49
  interfaces := #[]
  cf := some (fileOf pool2 6 #[] #[{ accessFlags := 1, nameIndex := 9, descriptorIndex := 10, attributes := #[] }, { accessFlags := 1, nameIndex := 64, descriptorIndex := 65, attributes := #[] }, { accessFlags := 1, nameIndex := 67, descriptorIndex := 68, attributes := #[] }, { accessFlags := 1, nameIndex := 70, descriptorIndex := 71, attributes := #[] }, { accessFlags := 1, nameIndex := 72, descriptorIndex := 71, attributes := #[] }] 49 12 #[] #[{ accessFlags := 18, nameIndex := 29, descriptorIndex := 30, attributes := #[] }, { accessFlags := 2, nameIndex := 18, descriptorIndex := 19, attributes := #[] }, { accessFlags := 2, nameIndex := 22, descriptorIndex := 19, attributes := #[] }, { accessFlags := 2, nameIndex := 25, descriptorIndex := 26, attributes := #[] }, { accessFlags := 2, nameIndex := 41, descriptorIndex := 34, attributes := #[] }, { accessFlags := 18, nameIndex := 33, descriptorIndex := 34, attributes := #[] }, { accessFlags := 18, nameIndex := 37, descriptorIndex := 30, attributes := #[] }])
  fields := #[{ name := "_file", type := (.object "java/lang/String"), accessFlags := 18, slot := 0, constantValue := 0 }, { name := "_line", type := .int, accessFlags := 2, slot := 1, constantValue := 0 }, { name := "_column", type := .int, accessFlags := 2, slot := 2, constantValue := 0 }, { name := "_atStart", type := .boolean, accessFlags := 2, slot := 3, constantValue := 0 }, { name := "_characters", type := .long, accessFlags := 2, slot := 4, constantValue := 0 }, { name := "_maxCharacters", type := .long, accessFlags := 18, slot := 5, constantValue := 0 }, { name := "_tooLong", type := (.object "java/lang/String"), accessFlags := 18, slot := 6, constantValue := 0 }]
  methods := #[k2m0, k2m1, k2m2, k2m3, k2m4]
  instanceTypes := #[(.object "java/lang/String"), .int, .int, .boolean, .long, .long, (.object "java/lang/String")]
  staticTypes := #[]
  resolved := Array.replicate 75 none
  statics := none }

def pool3 : Array CpInfo := pool [(1, .class_ 2), (0, u "java/io/Serializable"), (0, .class_ 4), (0, u "java/lang/Object")] 2

/-- java/io/Serializable -/
def k3 : Class := { plain "java/io/Serializable" (some 0) with
  accessFlags := 1537
  interfaces := #[]
  cf := some (fileOf pool3 1 #[] #[] 1537 3 #[] #[])
  fields := #[]
  methods := #[]
  instanceTypes := #[]
  staticTypes := #[]
  resolved := Array.replicate 7 none
  statics := none }

def pool4 : Array CpInfo := pool [(1, .class_ 2), (0, u "java/lang/Comparable"), (0, .class_ 4), (0, u "java/lang/Object")] 7

/-- java/lang/Comparable -/
def k4 : Class := { plain "java/lang/Comparable" (some 0) with
  accessFlags := 1537
  interfaces := #[]
  cf := some (fileOf pool4 1 #[] #[] 1537 3 #[] #[])
  fields := #[]
  methods := #[]
  instanceTypes := #[]
  staticTypes := #[]
  resolved := Array.replicate 12 none
  statics := none }

def pool5 : Array CpInfo := pool [(2, .class_ 4), (1, u "java/lang/CharSequence"), (42, .class_ 48), (0, u "java/lang/CharSequence$1CodePointIterator"), (10, .class_ 60), (0, u "java/lang/CharSequence$1CharIterator"), (5, .class_ 67), (0, u "java/lang/Object")] 63

/-- java/lang/CharSequence -/
def k5 : Class := { plain "java/lang/CharSequence" (some 0) with
  accessFlags := 1537
  interfaces := #[]
  cf := some (fileOf pool5 2 #[.nestMembers #[47, 59]] #[] 1537 66 #[] #[])
  fields := #[]
  methods := #[]
  instanceTypes := #[]
  staticTypes := #[]
  resolved := Array.replicate 131 none
  statics := none }

def pool6 : Array CpInfo := pool [(1, .class_ 2), (0, u "java/lang/constant/Constable"), (0, .class_ 4), (0, u "java/lang/Object")] 6

/-- java/lang/constant/Constable -/
def k6 : Class := { plain "java/lang/constant/Constable" (some 0) with
  accessFlags := 1537
  interfaces := #[]
  cf := some (fileOf pool6 1 #[] #[] 1537 3 #[] #[])
  fields := #[]
  methods := #[]
  instanceTypes := #[]
  staticTypes := #[]
  resolved := Array.replicate 11 none
  statics := none }

def pool7 : Array CpInfo := pool [(1, .class_ 2), (0, u "java/lang/constant/ConstantDesc"), (0, .class_ 4), (0, u "java/lang/Object")] 32

/-- java/lang/constant/ConstantDesc -/
def k7 : Class := { plain "java/lang/constant/ConstantDesc" (some 0) with
  accessFlags := 1537
  interfaces := #[]
  cf := some (fileOf pool7 1 #[] #[] 1537 3 #[] #[])
  fields := #[]
  methods := #[]
  instanceTypes := #[]
  staticTypes := #[]
  resolved := Array.replicate 37 none
  statics := none }

def pool8 : Array CpInfo := pool [(2, .class_ 4), (1, u "java/lang/Object"), (0, u "<init>"), (0, u "()V"), (3, .class_ 12), (1, u "java/lang/String"), (0, u "value"), (0, u "[B"), (2, u "coder"), (0, u "B"), (2, u "hash"), (0, u "I"), (2, u "hashIsZero"), (0, u "Z"), (13, u "COMPACT_STRINGS"), (534, .class_ 576), (0, u "java/lang/CharSequence"), (22, u "CASE_INSENSITIVE_ORDER"), (0, u "Ljava/util/Comparator;"), (500, u "serialPersistentFields"), (0, u "[Ljava/io/ObjectStreamField;"), (0, .class_ 1104), (0, u "java/lang/String$CaseInsensitiveComparator"), (1, .class_ 1107), (0, u "java/io/Serializable"), (0, .class_ 1109), (0, u "java/lang/Comparable"), (0, .class_ 1111), (0, u "java/lang/constant/Constable"), (0, .class_ 1113), (0, u "java/lang/constant/ConstantDesc"), (2, u "serialVersionUID"), (0, u "J"), (3, u "REPL"), (0, u "C"), (2, u "LATIN1"), (1, u "UTF16")] 323

def k8m0 : Method := { name := "<init>", desc := "()V", sig := { parameters := [], returnType := none }, accessFlags := 1, code := none }
/-- java/lang/String -/
def k8 : Class := { plain "java/lang/String" (some 0) with
  accessFlags := 49
  interfaces := #[3, 4, 5, 6, 7]
  cf := some (fileOf pool8 10 #[.nestMembers #[1103]] #[{ accessFlags := 1, nameIndex := 5, descriptorIndex := 6, attributes := #[] }] 49 2 #[1106, 1108, 575, 1110, 1112] #[{ accessFlags := 18, nameIndex := 13, descriptorIndex := 14, attributes := #[] }, { accessFlags := 18, nameIndex := 17, descriptorIndex := 18, attributes := #[] }, { accessFlags := 2, nameIndex := 21, descriptorIndex := 22, attributes := #[] }, { accessFlags := 2, nameIndex := 25, descriptorIndex := 26, attributes := #[] }, { accessFlags := 26, nameIndex := 1116, descriptorIndex := 1117, attributes := #[] }, { accessFlags := 24, nameIndex := 40, descriptorIndex := 26, attributes := #[] }, { accessFlags := 26, nameIndex := 1101, descriptorIndex := 1102, attributes := #[] }, { accessFlags := 26, nameIndex := 1121, descriptorIndex := 1122, attributes := #[] }, { accessFlags := 25, nameIndex := 599, descriptorIndex := 600, attributes := #[] }, { accessFlags := 24, nameIndex := 1125, descriptorIndex := 18, attributes := #[] }, { accessFlags := 24, nameIndex := 1127, descriptorIndex := 18, attributes := #[] }])
  fields := #[{ name := "value", type := (.array .byte), accessFlags := 18, slot := 0, constantValue := 0 }, { name := "coder", type := .byte, accessFlags := 18, slot := 1, constantValue := 0 }, { name := "hash", type := .int, accessFlags := 2, slot := 2, constantValue := 0 }, { name := "hashIsZero", type := .boolean, accessFlags := 2, slot := 3, constantValue := 0 }, { name := "serialVersionUID", type := .long, accessFlags := 26, slot := 0, constantValue := 0 }, { name := "COMPACT_STRINGS", type := .boolean, accessFlags := 24, slot := 1, constantValue := 0 }, { name := "serialPersistentFields", type := (.array (.object "java/io/ObjectStreamField")), accessFlags := 26, slot := 2, constantValue := 0 }, { name := "REPL", type := .char, accessFlags := 26, slot := 3, constantValue := 0 }, { name := "CASE_INSENSITIVE_ORDER", type := (.object "java/util/Comparator"), accessFlags := 25, slot := 4, constantValue := 0 }, { name := "LATIN1", type := .byte, accessFlags := 24, slot := 5, constantValue := 0 }, { name := "UTF16", type := .byte, accessFlags := 24, slot := 6, constantValue := 0 }]
  methods := #[k8m0]
  instanceTypes := #[(.array .byte), .byte, .int, .boolean]
  staticTypes := #[.long, .boolean, (.array (.object "java/io/ObjectStreamField")), .char, (.object "java/util/Comparator"), .byte, .byte]
  resolved := Array.replicate 1451 none
  statics := none }

def pool9 : Array CpInfo := pool [(1, u "java/lang/Cloneable"), (0, .class_ 1), (0, u "java/lang/Object"), (0, .class_ 3)] 3

/-- java/lang/Cloneable -/
def k9 : Class := { plain "java/lang/Cloneable" (some 0) with
  accessFlags := 1537
  interfaces := #[]
  cf := some (fileOf pool9 2 #[] #[] 1537 4 #[] #[])
  fields := #[]
  methods := #[]
  instanceTypes := #[]
  staticTypes := #[]
  resolved := Array.replicate 8 none
  statics := none }

/-- the primitive byte -/
def k10 : Class := { plain "byte" none with kind := .primitive 'B', accessFlags := 0x411 }
/-- [B -/
def k11 : Class := { plain "[B" (some 0) with kind := .array 10 .byte, interfaces := #[9, 3], accessFlags := 1041 }

/-- the primitive int -/
def k12 : Class := { plain "int" none with kind := .primitive 'I', accessFlags := 0x411 }
/-- [I -/
def k13 : Class := { plain "[I" (some 0) with kind := .array 12 .int, interfaces := #[9, 3], accessFlags := 1041 }

def heap : Heap := #[]
def classes : Array Class := #[k0, k1, k2, k3, k4, k5, k6, k7, k8, k9, k10, k11, k12, k13]
def interned : List (Array UInt16 × Addr) := []
def slotsUsed : Nat := 0
def theMethod : MethodId := ⟨1, 2⟩
def args0 : Array Value := #[.int 5, .int 3, .int 7, .int 8, .int 9]
def aboutOver (below : List Frame) : State where
  vm := { classes := classes, interned := interned.toArray }
  heap := heap
  slotsUsed := slotsUsed
  threads := #[{ frames := .invoking theMethod args0 :: below }]
def below0 : List Frame := [.native { method := ⟨0, 0⟩, args := #[] }]
def about1 : State := aboutOver below0
def p0 : Program := .bare "" "" ""
def e0 : Env := launch0.env 0 0 0
theorem w_frames : about1.frames = Frame.invoking theMethod args0 :: below0 := rfl
set_option maxRecDepth 65536 in
theorem w_args : argsFit about1.vm theMethod args0 = true := by decide +kernel
set_option maxRecDepth 65536 in
theorem w_heap : heapFits about1 = true := by decide +kernel
set_option maxRecDepth 65536 in
theorem w_runnable : about1.curStatus? = some .runnable := by decide +kernel
set_option maxRecDepth 65536 in
theorem w_alone : about1.alone = true := by decide +kernel
set_option maxRecDepth 65536 in
theorem w_named : about1.methodNamed? x = some theMethod := by decide +kernel
set_option maxRecDepth 65536 in
theorem w_hears : about1.hears theMethod below0 = true := by decide +kernel
set_option maxRecDepth 65536 in
theorem w_ripe : about1.ripe theMethod args0 below0 = true := by decide +kernel
theorem w_running : about1.status = .running := rfl
set_option maxRecDepth 65536 in
theorem w_room : about1.hasRoom e0.platform room_1 = true :=
  launch0.hasRoom_least _ room_1 (by decide +kernel) (by decide +kernel) (by decide +kernel) (by decide +kernel) (by decide +kernel) (by decide +kernel)
theorem allAtoms_all (ts : List Jvm.Cond) (a : Array Jvm.Value) (st : Jvm.State) : (allAtoms ts).before a st = ts.all (fun c => c.before a st) := by
  induction ts with
  | nil => rfl
  | cons c t ih =>
    show (Jvm.Cond.and c (allAtoms t)).before a st = _
    rw [Jvm.Cond.before_and, ih, List.all_cons]
def words1 : List Jvm.Cond := Jvm.Cond.code x code maxLocals ret :: tables_1
/-- a 'code' word, met by the world's own term for the bytes: nothing is compared byte by byte -/
theorem code_word {y : MethodName} {bytes : ByteArray} {mx : Nat} {rt : Option FieldType} {a : Array Value} {s : State} {m : MethodId} {meth : Method} {c : Code} (h1 : s.methodNamed? y = some m) (h2 : s.vm.method? m = some meth) (h3 : meth.code = some c) (h4 : c.code = bytes)
    (h5 : (c.maxLocals == mx && c.exceptionTable.isEmpty && decide (c.maxStack ≤ mostOperands) && decide (meth.sig.returnType = rt) && !meth.locks && decide (parseMethodDescriptor y.desc = some meth.sig)) = true) : (Jvm.Cond.code y bytes mx rt).before a s = true := by
  simp only [Bool.and_eq_true, beq_iff_eq, Bool.not_eq_true', decide_eq_true_eq] at h5
  obtain ⟨⟨⟨⟨⟨g1, g2⟩, g3⟩, g4⟩, g5⟩, g6⟩ := h5
  simp [Cond.before, Cond.holds, Cond.value, h1, h2, h3, h4, g1, g2, g3, g4, g5, g6]
def isCode : Jvm.Cond → Bool
  | .code _ _ _ _ => true
  | _ => false
theorem all_split {L : List Jvm.Cond} {P : Jvm.Cond → Bool} (h1 : L.all (fun c => isCode c || P c) = true) (h2 : ∀ c ∈ L.filter isCode, P c = true) : L.all P = true := by
  refine List.all_eq_true.mpr fun c hc => ?_
  have h := List.all_eq_true.mp h1 c hc
  rcases Bool.eq_false_or_eq_true (isCode c) with hi | hi
  · exact h2 c (List.mem_filter.mpr ⟨hc, hi⟩)
  · simpa [hi] using h
set_option maxRecDepth 65536 in
theorem w_c0 : (Jvm.Cond.code x code maxLocals ret).before args0 about1 = true := code_word (m := ⟨1, 2⟩) (meth := k1m2) (c := k1c2) (by decide +kernel) rfl rfl rfl (by decide +kernel)
set_option maxRecDepth 65536 in
theorem w_c1 : (Jvm.Cond.code ({ cls := "org/counterpath/text/LineColumnSkipsPinLaw", name := "pick", desc := "(II)I" } : Jvm.MethodName) method_2_code (2 : Nat) (Option.some Jvm.ClassFile.FieldType.int)).before args0 about1 = true := code_word (m := ⟨1, 1⟩) (meth := k1m1) (c := k1c1) (by decide +kernel) rfl rfl rfl (by decide +kernel)
set_option maxRecDepth 65536 in
theorem w_c2 : (Jvm.Cond.code ({ cls := "org/counterpath/text/LineColumn", name := "<init>", desc := "(Ljava/lang/String;JLjava/lang/String;)V" } : Jvm.MethodName) prog_227_method_2_code (5 : Nat) (Option.none : Option Jvm.ClassFile.FieldType)).before args0 about1 = true := code_word (m := ⟨2, 0⟩) (meth := k2m0) (c := k2c0) (by decide +kernel) rfl rfl rfl (by decide +kernel)
set_option maxRecDepth 65536 in
theorem w_c3 : (Jvm.Cond.code ({ cls := "java/lang/Object", name := "<init>", desc := "()V" } : Jvm.MethodName) object_method_1_code (1 : Nat) (Option.none : Option Jvm.ClassFile.FieldType)).before args0 about1 = true := code_word (m := ⟨0, 0⟩) (meth := k0m0) (c := k0c0) (by decide +kernel) rfl rfl rfl (by decide +kernel)
set_option maxRecDepth 65536 in
theorem w_c4 : (Jvm.Cond.code ({ cls := "org/counterpath/text/LineColumn", name := "skips", desc := "(I)Z" } : Jvm.MethodName) prog_227_method_3_code (2 : Nat) (Option.some Jvm.ClassFile.FieldType.boolean)).before args0 about1 = true := code_word (m := ⟨2, 1⟩) (meth := k2m1) (c := k2c1) (by decide +kernel) rfl rfl rfl (by decide +kernel)
set_option maxRecDepth 65536 in
theorem w_c5 : (Jvm.Cond.code ({ cls := "org/counterpath/text/LineColumn", name := "line", desc := "()I" } : Jvm.MethodName) prog_227_method_5_code (1 : Nat) (Option.some Jvm.ClassFile.FieldType.int)).before args0 about1 = true := code_word (m := ⟨2, 3⟩) (meth := k2m3) (c := k2c3) (by decide +kernel) rfl rfl rfl (by decide +kernel)
set_option maxRecDepth 65536 in
theorem w_c6 : (Jvm.Cond.code ({ cls := "org/counterpath/text/LineColumn", name := "column", desc := "()I" } : Jvm.MethodName) prog_227_method_6_code (1 : Nat) (Option.some Jvm.ClassFile.FieldType.int)).before args0 about1 = true := code_word (m := ⟨2, 4⟩) (meth := k2m4) (c := k2c4) (by decide +kernel) rfl rfl rfl (by decide +kernel)
set_option maxRecDepth 65536 in
theorem w_c7 : (Jvm.Cond.code ({ cls := "org/counterpath/text/LineColumn", name := "take", desc := "(C)V" } : Jvm.MethodName) prog_227_method_4_code (2 : Nat) (Option.none : Option Jvm.ClassFile.FieldType)).before args0 about1 = true := code_word (m := ⟨2, 2⟩) (meth := k2m2) (c := k2c2) (by decide +kernel) rfl rfl rfl (by decide +kernel)
def codes1 : List Jvm.Cond := [Jvm.Cond.code x code maxLocals ret, Jvm.Cond.code ({ cls := "org/counterpath/text/LineColumnSkipsPinLaw", name := "pick", desc := "(II)I" } : Jvm.MethodName) method_2_code (2 : Nat) (Option.some Jvm.ClassFile.FieldType.int), Jvm.Cond.code ({ cls := "org/counterpath/text/LineColumn", name := "<init>", desc := "(Ljava/lang/String;JLjava/lang/String;)V" } : Jvm.MethodName) prog_227_method_2_code (5 : Nat) (Option.none : Option Jvm.ClassFile.FieldType), Jvm.Cond.code ({ cls := "java/lang/Object", name := "<init>", desc := "()V" } : Jvm.MethodName) object_method_1_code (1 : Nat) (Option.none : Option Jvm.ClassFile.FieldType), Jvm.Cond.code ({ cls := "org/counterpath/text/LineColumn", name := "skips", desc := "(I)Z" } : Jvm.MethodName) prog_227_method_3_code (2 : Nat) (Option.some Jvm.ClassFile.FieldType.boolean), Jvm.Cond.code ({ cls := "org/counterpath/text/LineColumn", name := "line", desc := "()I" } : Jvm.MethodName) prog_227_method_5_code (1 : Nat) (Option.some Jvm.ClassFile.FieldType.int), Jvm.Cond.code ({ cls := "org/counterpath/text/LineColumn", name := "column", desc := "()I" } : Jvm.MethodName) prog_227_method_6_code (1 : Nat) (Option.some Jvm.ClassFile.FieldType.int), Jvm.Cond.code ({ cls := "org/counterpath/text/LineColumn", name := "take", desc := "(C)V" } : Jvm.MethodName) prog_227_method_4_code (2 : Nat) (Option.none : Option Jvm.ClassFile.FieldType)]
set_option maxRecDepth 65536 in
theorem codes_eq : words1.filter isCode = codes1 := rfl
theorem w_codes : ∀ c ∈ words1.filter isCode, c.before args0 about1 = true := by
  rw [codes_eq]
  intro c hc
  simp only [codes1, List.mem_cons, List.not_mem_nil, or_false] at hc
  rcases hc with rfl | rfl | rfl | rfl | rfl | rfl | rfl | rfl
  · exact w_c0
  · exact w_c1
  · exact w_c2
  · exact w_c3
  · exact w_c4
  · exact w_c5
  · exact w_c6
  · exact w_c7
set_option maxRecDepth 65536 in
theorem w_t1 : (words1.take 24).all (fun c => isCode c || c.before args0 about1) = true := by decide +kernel
set_option maxRecDepth 65536 in
theorem w_t2 : ((words1.drop 24).take 24).all (fun c => isCode c || c.before args0 about1) = true := by decide +kernel
set_option maxRecDepth 65536 in
theorem w_t3 : ((words1.drop 24).drop 24).all (fun c => isCode c || c.before args0 about1) = true := by decide +kernel
theorem w_tables : (allAtoms (Jvm.Cond.code x code maxLocals ret :: tables_1)).before args0 about1 = true := by
  rw [allAtoms_all]
  show words1.all (fun c => c.before args0 about1) = true
  refine all_split ?_ w_codes
  rw [← List.take_append_drop 24 words1, List.all_append, w_t1, ← List.take_append_drop 24 (words1.drop 24), List.all_append, w_t2, w_t3]
  rfl
set_option maxRecDepth 65536 in
theorem w_case : (Jvm.Cond.and given_1 narrow_1).before args0 about1 = true := by decide +kernel
theorem w_applies : (headSpec (Jvm.Cond.code x code maxLocals ret :: tables_1) room_1).applies x e0.platform about1 = true :=
  (Spec.applies_iff w_frames).mpr ⟨w_running, w_runnable, w_alone, w_named, w_hears, w_ripe, w_room, w_tables⟩
theorem atStart : AtStart classFile x code maxLocals ret World_1 tables_1 room_1 Calls_1 rest_1 Pre_1 launch0 p0 e0 about1 theMethod args0 below0 :=
  ⟨lists_1, trivial, launch0.admits_env _ _ _, launch0.least_env, fairChoices_fair.cas, fairChoices_fair.clock, w_frames, w_args, w_heap, w_applies, trivial, trivial, w_case⟩
end start1
theorem witness_1 : WitnessClaimed_1 := ⟨start1.p0, start1.e0, start1.about1, start1.theMethod, start1.args0, start1.below0, start1.atStart⟩
end Jvm.Pilot.@@N@@
