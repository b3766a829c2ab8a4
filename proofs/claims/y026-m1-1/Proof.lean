import JvmDerived
import JvmDerived.Pilot.@@N@@Statement
import JvmDerived.Pilot.@@N@@Code
set_option linter.unusedVariables false
set_option linter.unusedSimpArgs false
set_option maxRecDepth 65536
namespace Jvm.Pilot.@@N@@
open Jvm Jvm.ClassFile Sem Op Lib Jvm.Free Jvm.Stand Jvm.LawKit Jvm.RoadKit Bundle Jvm.Pilot.@@N@@.Jvm.D
/-- the run goes on from S to a return that Q says, within so many new cells and slots -/
def OFin (p : Program) (e : Env) (below : List Frame) (s : State) (Q : Option Value → Heap → List Loc → Prop) (cells slots : Nat) (S : State) : Prop :=
  ∃ s₂ o, Steps p.tables e below S s₂ ∧ s₂.status = .running ∧ Ended s₂ below o ∧ ∃ v L, o = .returned v ∧ Q v s₂.heap L ∧ FrameEnd s o s₂ L cells slots
section Own
variable {p : Program} {l : Launch} {e : Env} {R : Room} {s : State} {m : MethodId} {args : Array Value} {below : List Frame} {meth : Method} {c : Code} {T S S' : State} {locs : List Loc} {cells slots k n : Nat} {Q : Option Value → Heap → List Loc → Prop} {pc : Nat} {Ls : Array Slot} {rest : List Value}
theorem OFin.go (st : ∀ t, Steps p.tables e below S' t → Steps p.tables e below S t) (F : OFin p e below s Q cells slots S') : OFin p e below s Q cells slots S := by
  obtain ⟨s₂, o, h, r⟩ := F
  exact ⟨s₂, o, st _ h, r⟩
theorem OFin.tr (st : Steps p.tables e below S S') (F : OFin p e below s Q cells slots S') : OFin p e below s Q cells slots S := by
  obtain ⟨s₂, o, h, r⟩ := F
  exact ⟨s₂, o, st.trans h, r⟩
theorem OFin.ends (X : Stand p l e R s m args below meth c T locs k n) {v : Option Value} (hv : meth.sig.returnType = none → v = none) (hlk : meth.locks = false) (hq : Q v T.heap locs) (hk : k ≤ cells) (hn : n ≤ slots)
    (st : ∀ fs, (∀ (f : JFrame) (acts : List Action), f.method = m → f.locked = none → f.entered = [] → (doReturn e (T.setTop f) acts v).1 = T.setFrames fs) → Steps p.tables e below S (T.setFrames fs)) : OFin p e below s Q cells slots S := by
  obtain ⟨fs, hr, hrun, hended, hW, hsame⟩ := X.leave (v := v) hv hlk
  exact ⟨_, _, st fs hr, hrun, hended, _, _, rfl, hq, ⟨_, rfl⟩, hW, hsame.mono hk hn⟩
theorem OFin.retN (X : Stand p l e R s m args below meth c T locs k n) (hx : p.tables.exec = Jvm.exec) {z w : Int32} {t : FieldType} (hret : meth.sig.returnType = some t) (ht : t = .boolean ∨ t = .byte ∨ t = .char ∨ t = .short) (hlk : meth.locks = false)
    (hd : decode c.code pc = .ok (.ireturn, 1)) (hz : nar t z = w) (hq : Q (some (.int w)) T.heap locs) (hk : k ≤ cells) (hn : n ≤ slots) : OFin p e below s Q cells slots (T.setTop (mkF m pc Ls (.int z :: rest))) :=
  OFin.ends X (v := some (.int w)) (fun h => by rw [hret] at h; cases h) hlk hq hk hn fun fs hr => Jvm.RoadKit.retN X hx hret ht hd (by rw [hz]; exact hr)
theorem OFin.retI (X : Stand p l e R s m args below meth c T locs k n) (hx : p.tables.exec = Jvm.exec) {z : Int32} (hret : meth.sig.returnType = some .int) (hlk : meth.locks = false)
    (hd : decode c.code pc = .ok (.ireturn, 1)) (hq : Q (some (.int z)) T.heap locs) (hk : k ≤ cells) (hn : n ≤ slots) : OFin p e below s Q cells slots (T.setTop (mkF m pc Ls (.int z :: rest))) :=
  OFin.ends X (v := some (.int z)) (fun h => by rw [hret] at h; cases h) hlk hq hk hn fun fs hr => retOut X hx hret rfl (Or.inl ⟨rfl, Or.inl rfl, z, rfl⟩) hd hr
theorem OFin.retL (X : Stand p l e R s m args below meth c T locs k n) (hx : p.tables.exec = Jvm.exec) {z : Int64} (hret : meth.sig.returnType = some .long) (hlk : meth.locks = false)
    (hd : decode c.code pc = .ok (.lreturn, 1)) (hq : Q (some (.long z)) T.heap locs) (hk : k ≤ cells) (hn : n ≤ slots) : OFin p e below s Q cells slots (T.setTop (mkF m pc Ls (.long z :: rest))) :=
  OFin.ends X (v := some (.long z)) (fun h => by rw [hret] at h; cases h) hlk hq hk hn fun fs hr => retOut X hx hret rfl (Or.inr (Or.inl ⟨rfl, rfl, z, rfl⟩)) hd hr
theorem OFin.retA (X : Stand p l e R s m args below meth c T locs k n) (hx : p.tables.exec = Jvm.exec) {w : Value} {t : FieldType} (hret : meth.sig.returnType = some t) (ht : t.isReference = true) (hw : w.isRef = true) (hnr : narrow t w = w) (hlk : meth.locks = false)
    (hd : decode c.code pc = .ok (.areturn, 1)) (hq : Q (some w) T.heap locs) (hk : k ≤ cells) (hn : n ≤ slots) : OFin p e below s Q cells slots (T.setTop (mkF m pc Ls (w :: rest))) :=
  OFin.ends X (v := some w) (fun h => by rw [hret] at h; cases h) hlk hq hk hn fun fs hr => retOut X hx hret hnr (Or.inr (Or.inr (Or.inr (Or.inr ⟨rfl, ht, hw⟩)))) hd hr
theorem OFin.retV (X : Stand p l e R s m args below meth c T locs k n) (hx : p.tables.exec = Jvm.exec) (hret : meth.sig.returnType = none) (hlk : meth.locks = false)
    (hd : decode c.code pc = .ok (.return_, 1)) (hq : Q none T.heap locs) (hk : k ≤ cells) (hn : n ≤ slots) : OFin p e below s Q cells slots (T.setTop (mkF m pc Ls [])) :=
  OFin.ends X (v := none) (fun _ => rfl) hlk hq hk hn fun fs hr => X.returnOut hx hret hd hr
end Own
theorem d3_0 : decode method_2_code 0 = .ok (.iload_n 0, 1) := by decide +kernel
theorem d3_1 : decode method_2_code 1 = .ok (.bipush 32, 2) := by decide +kernel
theorem d3_3 : decode method_2_code 3 = .ok (.if_icmp .eq 21, 3) := by decide +kernel
theorem d3_6 : decode method_2_code 6 = .ok (.iload_n 0, 1) := by decide +kernel
theorem d3_7 : decode method_2_code 7 = .ok (.bipush 9, 2) := by decide +kernel
theorem d3_9 : decode method_2_code 9 = .ok (.if_icmp .eq 15, 3) := by decide +kernel
theorem d3_12 : decode method_2_code 12 = .ok (.iload_n 0, 1) := by decide +kernel
theorem d3_13 : decode method_2_code 13 = .ok (.bipush 10, 2) := by decide +kernel
theorem d3_15 : decode method_2_code 15 = .ok (.if_icmp .eq 9, 3) := by decide +kernel
theorem d3_18 : decode method_2_code 18 = .ok (.iload_n 0, 1) := by decide +kernel
theorem d3_19 : decode method_2_code 19 = .ok (.bipush 13, 2) := by decide +kernel
theorem d3_21 : decode method_2_code 21 = .ok (.if_icmp .ne 7, 3) := by decide +kernel
theorem d3_24 : decode method_2_code 24 = .ok (.iconst 1, 1) := by decide +kernel
theorem d3_25 : decode method_2_code 25 = .ok (.goto 4, 3) := by decide +kernel
theorem d3_28 : decode method_2_code 28 = .ok (.iconst 0, 1) := by decide +kernel
theorem d3_29 : decode method_2_code 29 = .ok (.ireturn, 1) := by decide +kernel
theorem pn_0 : plainName "com/example/rida/rida/check/LineBreaksIsWhitespacePinLaw" = true := by first | (simp [plainName, overriddenIn]; done) | decide +kernel
theorem ef_3 (m : MethodId) (x0 : Int32) : entryFrame m #[(.int x0)] 1 = mkF m 0 #[.val (.int x0)] [] := by first | (simp [entryFrame, mkF, argsToLocals, Value.category]; done) | rfl
def own_f3 (q0 : Int32) : Int32 := (if q0 = (32 : Int32) then (1 : Int32) else (if q0 = (9 : Int32) then (1 : Int32) else (if q0 = (10 : Int32) then (1 : Int32) else (if q0 = (13 : Int32) then (1 : Int32) else (0 : Int32)))))
def Q3 (Z : State) (q0 : Int32) (h0 : Heap) (n0 : Nat) (v : Option Value) (h : Heap) (L : List Loc) : Prop := v = some (.int (own_f3 q0)) ∧ Fr n0 L ∧ h = h0
set_option maxHeartbeats 40000000 in
theorem rm3 (l : Launch) (Z : State) (aZ : Array Value) (hw : ∀ d ∈ tables_1, d.before aZ Z = true) (ws : List Jvm.Cond) (q0 : Int32) (h0 : Heap) (n0 : Nat) (Z0 : n0 ≤ h0.size) :
    MetFree l (⟨"com/example/rida/rida/check/LineBreaksIsWhitespacePinLaw", "jsonWhitespace", "(I)Z"⟩ : MethodName) (head1 (Jvm.Cond.code (⟨"com/example/rida/rida/check/LineBreaksIsWhitespacePinLaw", "jsonWhitespace", "(I)Z"⟩ : MethodName) method_2_code 1 (some .boolean) :: ws) ({ frames := 0, cells := 0, slots := 0, locals := 0 } : Room)) (fun a U => a = #[(.int q0)] ∧ Z.Warmed39 U.vm ∧ U.heap = h0) (fun _ _ _ _ _ => True) (fun _ U o U' => ∃ v L, o = .returned v ∧ Q3 Z q0 h0 n0 v U'.heap L ∧ FrameEnd U o U' L ({ frames := 0, cells := 0, slots := 0, locals := 0 } : Room).cells ({ frames := 0, cells := 0, slots := 0, locals := 0 } : Room).slots) := by
  refine MetFree.of_bodySF (plainFor_of_name pn_0) hisR ?_
  intro p e s m args below meth c s₁ Bd hml0 hP hK
  obtain ⟨rfl, hZ, hh⟩ := hP
  have hx := Bd.exec
  have hby := Bd.bytes
  have hret := Bd.returns
  have hlk : meth.locks = false := BodyLoose.notSynchronized Bd
  have hml : c.maxLocals = 1 := hml0
  have hown : s.vm.findClass "com/example/rida/rida/check/LineBreaksIsWhitespacePinLaw" = some m.cls := findClass_of_methodNamed Bd.named
  have hnm := (name_of_methodNamed Bd.named Bd.method).1
  have X0 : Stand p l e ({ frames := 0, cells := 0, slots := 0, locals := 0 } : Room) s m #[(.int q0)] below meth c s₁ [] 0 0 := Stand.of_body Bd
  have e0 : s₁.heap = h0 := by rw [← hh, Bd.state]; rfl
  have N0 := Fr.nil n0
  have K0 : Keep h0 h0 [] := Keep.refl _ _
  have pre0 : ∀ t, Steps p.tables e below (s₁.setTop (mkF m 0 #[.val (.int q0)] [])) t → Steps p.tables e below (s₁.setTop (entryFrame m #[(.int q0)] 1)) t := fun t k => castTop (ef_3 m q0) k
  show OFin p e below s (Q3 Z q0 h0 n0) ({ frames := 0, cells := 0, slots := 0, locals := 0 } : Room).cells ({ frames := 0, cells := 0, slots := 0, locals := 0 } : Room).slots _
  refine OFin.go pre0 ?_
  have sg101 : ∀ t, Steps p.tables e below (s₁.setTop (mkF m 3 #[.val (.int q0)] [(.int (32 : Int32)), (.int q0)])) t → Steps p.tables e below (s₁.setTop (mkF m 0 #[.val (.int q0)] [])) t := by
    intro t k
    show Steps p.tables e below (s₁.setTop (mkF m 0 #[.val (.int q0)] [])) t
    refine XS.iloadN X0.here hx rfl (hb hby d3_0) rfl ?_
    show Steps p.tables e below (s₁.setTop (mkF m 1 #[.val (.int q0)] [(.int q0)])) t
    refine XS.bipush X0.here hx rfl (hb hby d3_1) ?_
    exact k
  refine OFin.go sg101 ?_
  by_cases c102 : q0 = (32 : Int32)
  · have sg103 : ∀ t, Steps p.tables e below (s₁.setTop (mkF m 29 #[.val (.int q0)] [(.int (1 : Int32))])) t → Steps p.tables e below (s₁.setTop (mkF m 3 #[.val (.int q0)] [(.int (32 : Int32)), (.int q0)])) t := by
      intro t k
      show Steps p.tables e below (s₁.setTop (mkF m 3 #[.val (.int q0)] [(.int (32 : Int32)), (.int q0)])) t
      refine XS.icmpYes X0.here hx rfl (pc0 := 3) (pc' := 24) rfl (hb hby d3_3) rfl (teq c102).1 (by decide) (by decide) ?_
      show Steps p.tables e below (s₁.setTop (mkF m 24 #[.val (.int q0)] [])) t
      refine XS.iconst X0.here hx rfl (hb hby d3_24) ?_
      show Steps p.tables e below (s₁.setTop (mkF m 25 #[.val (.int q0)] [(.int (1 : Int32))])) t
      refine XS.goto X0.here hx rfl (pc0 := 25) (pc' := 29) rfl (hb hby d3_25) (by decide) (by decide) ?_
      exact k
    refine OFin.go sg103 ?_
    exact OFin.retN X0 hx hret (by simp) hlk (hb hby d3_29) rfl (by rw [e0]; exact ⟨(congrArg (fun z => some (Value.int z)) (show (1 : Int32) = own_f3 q0 from (by rw [own_f3, if_pos c102]))), N0, rfl⟩) (by decide) (by decide)
  · have sg104 : ∀ t, Steps p.tables e below (s₁.setTop (mkF m 9 #[.val (.int q0)] [(.int (9 : Int32)), (.int q0)])) t → Steps p.tables e below (s₁.setTop (mkF m 3 #[.val (.int q0)] [(.int (32 : Int32)), (.int q0)])) t := by
      intro t k
      show Steps p.tables e below (s₁.setTop (mkF m 3 #[.val (.int q0)] [(.int (32 : Int32)), (.int q0)])) t
      refine XS.icmpNo X0.here hx rfl (hb hby d3_3) rfl (feq c102).1 ?_
      show Steps p.tables e below (s₁.setTop (mkF m 6 #[.val (.int q0)] [])) t
      refine XS.iloadN X0.here hx rfl (hb hby d3_6) rfl ?_
      show Steps p.tables e below (s₁.setTop (mkF m 7 #[.val (.int q0)] [(.int q0)])) t
      refine XS.bipush X0.here hx rfl (hb hby d3_7) ?_
      exact k
    refine OFin.go sg104 ?_
    by_cases c105 : q0 = (9 : Int32)
    · have sg106 : ∀ t, Steps p.tables e below (s₁.setTop (mkF m 29 #[.val (.int q0)] [(.int (1 : Int32))])) t → Steps p.tables e below (s₁.setTop (mkF m 9 #[.val (.int q0)] [(.int (9 : Int32)), (.int q0)])) t := by
        intro t k
        show Steps p.tables e below (s₁.setTop (mkF m 9 #[.val (.int q0)] [(.int (9 : Int32)), (.int q0)])) t
        refine XS.icmpYes X0.here hx rfl (pc0 := 9) (pc' := 24) rfl (hb hby d3_9) rfl (teq c105).1 (by decide) (by decide) ?_
        show Steps p.tables e below (s₁.setTop (mkF m 24 #[.val (.int q0)] [])) t
        refine XS.iconst X0.here hx rfl (hb hby d3_24) ?_
        show Steps p.tables e below (s₁.setTop (mkF m 25 #[.val (.int q0)] [(.int (1 : Int32))])) t
        refine XS.goto X0.here hx rfl (pc0 := 25) (pc' := 29) rfl (hb hby d3_25) (by decide) (by decide) ?_
        exact k
      refine OFin.go sg106 ?_
      exact OFin.retN X0 hx hret (by simp) hlk (hb hby d3_29) rfl (by rw [e0]; exact ⟨(congrArg (fun z => some (Value.int z)) (show (1 : Int32) = own_f3 q0 from (by rw [own_f3, if_neg c102, if_pos c105]))), N0, rfl⟩) (by decide) (by decide)
    · have sg107 : ∀ t, Steps p.tables e below (s₁.setTop (mkF m 15 #[.val (.int q0)] [(.int (10 : Int32)), (.int q0)])) t → Steps p.tables e below (s₁.setTop (mkF m 9 #[.val (.int q0)] [(.int (9 : Int32)), (.int q0)])) t := by
        intro t k
        show Steps p.tables e below (s₁.setTop (mkF m 9 #[.val (.int q0)] [(.int (9 : Int32)), (.int q0)])) t
        refine XS.icmpNo X0.here hx rfl (hb hby d3_9) rfl (feq c105).1 ?_
        show Steps p.tables e below (s₁.setTop (mkF m 12 #[.val (.int q0)] [])) t
        refine XS.iloadN X0.here hx rfl (hb hby d3_12) rfl ?_
        show Steps p.tables e below (s₁.setTop (mkF m 13 #[.val (.int q0)] [(.int q0)])) t
        refine XS.bipush X0.here hx rfl (hb hby d3_13) ?_
        exact k
      refine OFin.go sg107 ?_
      by_cases c108 : q0 = (10 : Int32)
      · have sg109 : ∀ t, Steps p.tables e below (s₁.setTop (mkF m 29 #[.val (.int q0)] [(.int (1 : Int32))])) t → Steps p.tables e below (s₁.setTop (mkF m 15 #[.val (.int q0)] [(.int (10 : Int32)), (.int q0)])) t := by
          intro t k
          show Steps p.tables e below (s₁.setTop (mkF m 15 #[.val (.int q0)] [(.int (10 : Int32)), (.int q0)])) t
          refine XS.icmpYes X0.here hx rfl (pc0 := 15) (pc' := 24) rfl (hb hby d3_15) rfl (teq c108).1 (by decide) (by decide) ?_
          show Steps p.tables e below (s₁.setTop (mkF m 24 #[.val (.int q0)] [])) t
          refine XS.iconst X0.here hx rfl (hb hby d3_24) ?_
          show Steps p.tables e below (s₁.setTop (mkF m 25 #[.val (.int q0)] [(.int (1 : Int32))])) t
          refine XS.goto X0.here hx rfl (pc0 := 25) (pc' := 29) rfl (hb hby d3_25) (by decide) (by decide) ?_
          exact k
        refine OFin.go sg109 ?_
        exact OFin.retN X0 hx hret (by simp) hlk (hb hby d3_29) rfl (by rw [e0]; exact ⟨(congrArg (fun z => some (Value.int z)) (show (1 : Int32) = own_f3 q0 from (by rw [own_f3, if_neg c102, if_neg c105, if_pos c108]))), N0, rfl⟩) (by decide) (by decide)
      · have sg110 : ∀ t, Steps p.tables e below (s₁.setTop (mkF m 21 #[.val (.int q0)] [(.int (13 : Int32)), (.int q0)])) t → Steps p.tables e below (s₁.setTop (mkF m 15 #[.val (.int q0)] [(.int (10 : Int32)), (.int q0)])) t := by
          intro t k
          show Steps p.tables e below (s₁.setTop (mkF m 15 #[.val (.int q0)] [(.int (10 : Int32)), (.int q0)])) t
          refine XS.icmpNo X0.here hx rfl (hb hby d3_15) rfl (feq c108).1 ?_
          show Steps p.tables e below (s₁.setTop (mkF m 18 #[.val (.int q0)] [])) t
          refine XS.iloadN X0.here hx rfl (hb hby d3_18) rfl ?_
          show Steps p.tables e below (s₁.setTop (mkF m 19 #[.val (.int q0)] [(.int q0)])) t
          refine XS.bipush X0.here hx rfl (hb hby d3_19) ?_
          exact k
        refine OFin.go sg110 ?_
        by_cases c111 : q0 = (13 : Int32)
        · have sg112 : ∀ t, Steps p.tables e below (s₁.setTop (mkF m 29 #[.val (.int q0)] [(.int (1 : Int32))])) t → Steps p.tables e below (s₁.setTop (mkF m 21 #[.val (.int q0)] [(.int (13 : Int32)), (.int q0)])) t := by
            intro t k
            show Steps p.tables e below (s₁.setTop (mkF m 21 #[.val (.int q0)] [(.int (13 : Int32)), (.int q0)])) t
            refine XS.icmpNo X0.here hx rfl (hb hby d3_21) rfl (teq c111).2 ?_
            show Steps p.tables e below (s₁.setTop (mkF m 24 #[.val (.int q0)] [])) t
            refine XS.iconst X0.here hx rfl (hb hby d3_24) ?_
            show Steps p.tables e below (s₁.setTop (mkF m 25 #[.val (.int q0)] [(.int (1 : Int32))])) t
            refine XS.goto X0.here hx rfl (pc0 := 25) (pc' := 29) rfl (hb hby d3_25) (by decide) (by decide) ?_
            exact k
          refine OFin.go sg112 ?_
          exact OFin.retN X0 hx hret (by simp) hlk (hb hby d3_29) rfl (by rw [e0]; exact ⟨(congrArg (fun z => some (Value.int z)) (show (1 : Int32) = own_f3 q0 from (by rw [own_f3, if_neg c102, if_neg c105, if_neg c108, if_pos c111]))), N0, rfl⟩) (by decide) (by decide)
        · have sg113 : ∀ t, Steps p.tables e below (s₁.setTop (mkF m 29 #[.val (.int q0)] [(.int (0 : Int32))])) t → Steps p.tables e below (s₁.setTop (mkF m 21 #[.val (.int q0)] [(.int (13 : Int32)), (.int q0)])) t := by
            intro t k
            show Steps p.tables e below (s₁.setTop (mkF m 21 #[.val (.int q0)] [(.int (13 : Int32)), (.int q0)])) t
            refine XS.icmpYes X0.here hx rfl (pc0 := 21) (pc' := 28) rfl (hb hby d3_21) rfl (feq c111).2 (by decide) (by decide) ?_
            show Steps p.tables e below (s₁.setTop (mkF m 28 #[.val (.int q0)] [])) t
            refine XS.iconst X0.here hx rfl (hb hby d3_28) ?_
            exact k
          refine OFin.go sg113 ?_
          exact OFin.retN X0 hx hret (by simp) hlk (hb hby d3_29) rfl (by rw [e0]; exact ⟨(congrArg (fun z => some (Value.int z)) (show (0 : Int32) = own_f3 q0 from (by rw [own_f3, if_neg c102, if_neg c105, if_neg c108, if_neg c111]))), N0, rfl⟩) (by decide) (by decide)
theorem d4_0 : decode method_3_code 0 = .ok (.iload_n 0, 1) := by decide +kernel
theorem d4_1 : decode method_3_code 1 = .ok (.bipush 10, 2) := by decide +kernel
theorem d4_3 : decode method_3_code 3 = .ok (.if_icmp .ne 5, 3) := by decide +kernel
theorem d4_6 : decode method_3_code 6 = .ok (.iconst 1, 1) := by decide +kernel
theorem d4_7 : decode method_3_code 7 = .ok (.ireturn, 1) := by decide +kernel
theorem d4_8 : decode method_3_code 8 = .ok (.iload_n 0, 1) := by decide +kernel
theorem d4_9 : decode method_3_code 9 = .ok (.bipush 13, 2) := by decide +kernel
theorem d4_11 : decode method_3_code 11 = .ok (.if_icmp .ne 13, 3) := by decide +kernel
theorem d4_14 : decode method_3_code 14 = .ok (.iload_n 1, 1) := by decide +kernel
theorem d4_15 : decode method_3_code 15 = .ok (.ifCond .ne 7, 3) := by decide +kernel
theorem d4_18 : decode method_3_code 18 = .ok (.iconst 1, 1) := by decide +kernel
theorem d4_19 : decode method_3_code 19 = .ok (.goto 4, 3) := by decide +kernel
theorem d4_22 : decode method_3_code 22 = .ok (.iconst 0, 1) := by decide +kernel
theorem d4_23 : decode method_3_code 23 = .ok (.ireturn, 1) := by decide +kernel
theorem d4_24 : decode method_3_code 24 = .ok (.iconst 0, 1) := by decide +kernel
theorem d4_25 : decode method_3_code 25 = .ok (.ireturn, 1) := by decide +kernel
theorem ef_4 (m : MethodId) (x0 : Int32) (x1 : Int32) : entryFrame m #[(.int x0), (.int x1)] 2 = mkF m 0 #[.val (.int x0), .val (.int x1)] [] := by first | (simp [entryFrame, mkF, argsToLocals, Value.category]; done) | rfl
def own_f4 (q0 : Int32) (q1 : Int32) : Int32 := (if q0 = (10 : Int32) then (1 : Int32) else (if q0 = (13 : Int32) then (if q1 = (0 : Int32) then (1 : Int32) else (0 : Int32)) else (0 : Int32)))
def Q4 (Z : State) (q0 : Int32) (q1 : Int32) (h0 : Heap) (n0 : Nat) (v : Option Value) (h : Heap) (L : List Loc) : Prop := v = some (.int (own_f4 q0 q1)) ∧ Fr n0 L ∧ h = h0
set_option maxHeartbeats 40000000 in
theorem rm4 (l : Launch) (Z : State) (aZ : Array Value) (hw : ∀ d ∈ tables_1, d.before aZ Z = true) (ws : List Jvm.Cond) (q0 : Int32) (q1 : Int32) (h0 : Heap) (n0 : Nat) (Z0 : n0 ≤ h0.size) :
    MetFree l (⟨"com/example/rida/rida/check/LineBreaksIsWhitespacePinLaw", "breaksLine", "(IZ)Z"⟩ : MethodName) (head1 (Jvm.Cond.code (⟨"com/example/rida/rida/check/LineBreaksIsWhitespacePinLaw", "breaksLine", "(IZ)Z"⟩ : MethodName) method_3_code 2 (some .boolean) :: ws) ({ frames := 0, cells := 0, slots := 0, locals := 0 } : Room)) (fun a U => a = #[(.int q0), (.int q1)] ∧ Z.Warmed39 U.vm ∧ U.heap = h0) (fun _ _ _ _ _ => True) (fun _ U o U' => ∃ v L, o = .returned v ∧ Q4 Z q0 q1 h0 n0 v U'.heap L ∧ FrameEnd U o U' L ({ frames := 0, cells := 0, slots := 0, locals := 0 } : Room).cells ({ frames := 0, cells := 0, slots := 0, locals := 0 } : Room).slots) := by
  refine MetFree.of_bodySF (plainFor_of_name pn_0) hisR ?_
  intro p e s m args below meth c s₁ Bd hml0 hP hK
  obtain ⟨rfl, hZ, hh⟩ := hP
  have hx := Bd.exec
  have hby := Bd.bytes
  have hret := Bd.returns
  have hlk : meth.locks = false := BodyLoose.notSynchronized Bd
  have hml : c.maxLocals = 2 := hml0
  have hown : s.vm.findClass "com/example/rida/rida/check/LineBreaksIsWhitespacePinLaw" = some m.cls := findClass_of_methodNamed Bd.named
  have hnm := (name_of_methodNamed Bd.named Bd.method).1
  have X0 : Stand p l e ({ frames := 0, cells := 0, slots := 0, locals := 0 } : Room) s m #[(.int q0), (.int q1)] below meth c s₁ [] 0 0 := Stand.of_body Bd
  have e0 : s₁.heap = h0 := by rw [← hh, Bd.state]; rfl
  have N0 := Fr.nil n0
  have K0 : Keep h0 h0 [] := Keep.refl _ _
  have pre0 : ∀ t, Steps p.tables e below (s₁.setTop (mkF m 0 #[.val (.int q0), .val (.int q1)] [])) t → Steps p.tables e below (s₁.setTop (entryFrame m #[(.int q0), (.int q1)] 2)) t := fun t k => castTop (ef_4 m q0 q1) k
  show OFin p e below s (Q4 Z q0 q1 h0 n0) ({ frames := 0, cells := 0, slots := 0, locals := 0 } : Room).cells ({ frames := 0, cells := 0, slots := 0, locals := 0 } : Room).slots _
  refine OFin.go pre0 ?_
  have sg101 : ∀ t, Steps p.tables e below (s₁.setTop (mkF m 3 #[.val (.int q0), .val (.int q1)] [(.int (10 : Int32)), (.int q0)])) t → Steps p.tables e below (s₁.setTop (mkF m 0 #[.val (.int q0), .val (.int q1)] [])) t := by
    intro t k
    show Steps p.tables e below (s₁.setTop (mkF m 0 #[.val (.int q0), .val (.int q1)] [])) t
    refine XS.iloadN X0.here hx rfl (hb hby d4_0) rfl ?_
    show Steps p.tables e below (s₁.setTop (mkF m 1 #[.val (.int q0), .val (.int q1)] [(.int q0)])) t
    refine XS.bipush X0.here hx rfl (hb hby d4_1) ?_
    exact k
  refine OFin.go sg101 ?_
  by_cases c102 : q0 = (10 : Int32)
  · have sg103 : ∀ t, Steps p.tables e below (s₁.setTop (mkF m 7 #[.val (.int q0), .val (.int q1)] [(.int (1 : Int32))])) t → Steps p.tables e below (s₁.setTop (mkF m 3 #[.val (.int q0), .val (.int q1)] [(.int (10 : Int32)), (.int q0)])) t := by
      intro t k
      show Steps p.tables e below (s₁.setTop (mkF m 3 #[.val (.int q0), .val (.int q1)] [(.int (10 : Int32)), (.int q0)])) t
      refine XS.icmpNo X0.here hx rfl (hb hby d4_3) rfl (teq c102).2 ?_
      show Steps p.tables e below (s₁.setTop (mkF m 6 #[.val (.int q0), .val (.int q1)] [])) t
      refine XS.iconst X0.here hx rfl (hb hby d4_6) ?_
      exact k
    refine OFin.go sg103 ?_
    exact OFin.retN X0 hx hret (by simp) hlk (hb hby d4_7) rfl (by rw [e0]; exact ⟨(congrArg (fun z => some (Value.int z)) (show (1 : Int32) = own_f4 q0 q1 from (by rw [own_f4, if_pos c102]))), N0, rfl⟩) (by decide) (by decide)
  · have sg104 : ∀ t, Steps p.tables e below (s₁.setTop (mkF m 11 #[.val (.int q0), .val (.int q1)] [(.int (13 : Int32)), (.int q0)])) t → Steps p.tables e below (s₁.setTop (mkF m 3 #[.val (.int q0), .val (.int q1)] [(.int (10 : Int32)), (.int q0)])) t := by
      intro t k
      show Steps p.tables e below (s₁.setTop (mkF m 3 #[.val (.int q0), .val (.int q1)] [(.int (10 : Int32)), (.int q0)])) t
      refine XS.icmpYes X0.here hx rfl (pc0 := 3) (pc' := 8) rfl (hb hby d4_3) rfl (feq c102).2 (by decide) (by decide) ?_
      show Steps p.tables e below (s₁.setTop (mkF m 8 #[.val (.int q0), .val (.int q1)] [])) t
      refine XS.iloadN X0.here hx rfl (hb hby d4_8) rfl ?_
      show Steps p.tables e below (s₁.setTop (mkF m 9 #[.val (.int q0), .val (.int q1)] [(.int q0)])) t
      refine XS.bipush X0.here hx rfl (hb hby d4_9) ?_
      exact k
    refine OFin.go sg104 ?_
    by_cases c105 : q0 = (13 : Int32)
    · have sg106 : ∀ t, Steps p.tables e below (s₁.setTop (mkF m 15 #[.val (.int q0), .val (.int q1)] [(.int q1)])) t → Steps p.tables e below (s₁.setTop (mkF m 11 #[.val (.int q0), .val (.int q1)] [(.int (13 : Int32)), (.int q0)])) t := by
        intro t k
        show Steps p.tables e below (s₁.setTop (mkF m 11 #[.val (.int q0), .val (.int q1)] [(.int (13 : Int32)), (.int q0)])) t
        refine XS.icmpNo X0.here hx rfl (hb hby d4_11) rfl (teq c105).2 ?_
        show Steps p.tables e below (s₁.setTop (mkF m 14 #[.val (.int q0), .val (.int q1)] [])) t
        refine XS.iloadN X0.here hx rfl (hb hby d4_14) rfl ?_
        exact k
      refine OFin.go sg106 ?_
      by_cases c107 : q1 = (0 : Int32)
      · have sg108 : ∀ t, Steps p.tables e below (s₁.setTop (mkF m 23 #[.val (.int q0), .val (.int q1)] [(.int (1 : Int32))])) t → Steps p.tables e below (s₁.setTop (mkF m 15 #[.val (.int q0), .val (.int q1)] [(.int q1)])) t := by
          intro t k
          show Steps p.tables e below (s₁.setTop (mkF m 15 #[.val (.int q0), .val (.int q1)] [(.int q1)])) t
          refine XS.ifNo X0.here hx rfl (hb hby d4_15) rfl ((if0 _ _).trans (teq c107).2) ?_
          show Steps p.tables e below (s₁.setTop (mkF m 18 #[.val (.int q0), .val (.int q1)] [])) t
          refine XS.iconst X0.here hx rfl (hb hby d4_18) ?_
          show Steps p.tables e below (s₁.setTop (mkF m 19 #[.val (.int q0), .val (.int q1)] [(.int (1 : Int32))])) t
          refine XS.goto X0.here hx rfl (pc0 := 19) (pc' := 23) rfl (hb hby d4_19) (by decide) (by decide) ?_
          exact k
        refine OFin.go sg108 ?_
        exact OFin.retN X0 hx hret (by simp) hlk (hb hby d4_23) rfl (by rw [e0]; exact ⟨(congrArg (fun z => some (Value.int z)) (show (1 : Int32) = own_f4 q0 q1 from (by rw [own_f4, if_neg c102, if_pos c105, if_pos c107]))), N0, rfl⟩) (by decide) (by decide)
      · have sg109 : ∀ t, Steps p.tables e below (s₁.setTop (mkF m 23 #[.val (.int q0), .val (.int q1)] [(.int (0 : Int32))])) t → Steps p.tables e below (s₁.setTop (mkF m 15 #[.val (.int q0), .val (.int q1)] [(.int q1)])) t := by
          intro t k
          show Steps p.tables e below (s₁.setTop (mkF m 15 #[.val (.int q0), .val (.int q1)] [(.int q1)])) t
          refine XS.ifYes X0.here hx rfl (pc0 := 15) (pc' := 22) rfl (hb hby d4_15) rfl ((if0 _ _).trans (feq c107).2) (by decide) (by decide) ?_
          show Steps p.tables e below (s₁.setTop (mkF m 22 #[.val (.int q0), .val (.int q1)] [])) t
          refine XS.iconst X0.here hx rfl (hb hby d4_22) ?_
          exact k
        refine OFin.go sg109 ?_
        exact OFin.retN X0 hx hret (by simp) hlk (hb hby d4_23) rfl (by rw [e0]; exact ⟨(congrArg (fun z => some (Value.int z)) (show (0 : Int32) = own_f4 q0 q1 from (by rw [own_f4, if_neg c102, if_pos c105, if_neg c107]))), N0, rfl⟩) (by decide) (by decide)
    · have sg110 : ∀ t, Steps p.tables e below (s₁.setTop (mkF m 25 #[.val (.int q0), .val (.int q1)] [(.int (0 : Int32))])) t → Steps p.tables e below (s₁.setTop (mkF m 11 #[.val (.int q0), .val (.int q1)] [(.int (13 : Int32)), (.int q0)])) t := by
        intro t k
        show Steps p.tables e below (s₁.setTop (mkF m 11 #[.val (.int q0), .val (.int q1)] [(.int (13 : Int32)), (.int q0)])) t
        refine XS.icmpYes X0.here hx rfl (pc0 := 11) (pc' := 24) rfl (hb hby d4_11) rfl (feq c105).2 (by decide) (by decide) ?_
        show Steps p.tables e below (s₁.setTop (mkF m 24 #[.val (.int q0), .val (.int q1)] [])) t
        refine XS.iconst X0.here hx rfl (hb hby d4_24) ?_
        exact k
      refine OFin.go sg110 ?_
      exact OFin.retN X0 hx hret (by simp) hlk (hb hby d4_25) rfl (by rw [e0]; exact ⟨(congrArg (fun z => some (Value.int z)) (show (0 : Int32) = own_f4 q0 q1 from (by rw [own_f4, if_neg c102, if_neg c105]))), N0, rfl⟩) (by decide) (by decide)
theorem d2_0 : decode method_4_code 0 = .ok (.iload_n 0, 1) := by decide +kernel
theorem d2_1 : decode method_4_code 1 = .ok (.invokestatic 7, 3) := by decide +kernel
theorem d2_4 : decode method_4_code 4 = .ok (.ifCond .eq 15, 3) := by decide +kernel
theorem d2_7 : decode method_4_code 7 = .ok (.iload_n 0, 1) := by decide +kernel
theorem d2_8 : decode method_4_code 8 = .ok (.iload_n 1, 1) := by decide +kernel
theorem d2_9 : decode method_4_code 9 = .ok (.invokestatic 13, 3) := by decide +kernel
theorem d2_12 : decode method_4_code 12 = .ok (.ifCond .ne 7, 3) := by decide +kernel
theorem d2_15 : decode method_4_code 15 = .ok (.iconst 1, 1) := by decide +kernel
theorem d2_16 : decode method_4_code 16 = .ok (.goto 4, 3) := by decide +kernel
theorem d2_19 : decode method_4_code 19 = .ok (.iconst 0, 1) := by decide +kernel
theorem d2_20 : decode method_4_code 20 = .ok (.ireturn, 1) := by decide +kernel
theorem pd_0 : parseMethodDescriptor "(I)Z" = some ⟨[.int], some .boolean⟩ := by decide +kernel
theorem pd_1 : parseMethodDescriptor "(IZ)Z" = some ⟨[.int, .boolean], some .boolean⟩ := by decide +kernel
theorem ef_2 (m : MethodId) (x0 : Int32) (x1 : Int32) : entryFrame m #[(.int x0), (.int x1)] 2 = mkF m 0 #[.val (.int x0), .val (.int x1)] [] := by first | (simp [entryFrame, mkF, argsToLocals, Value.category]; done) | rfl
def own_f2 (q0 : Int32) (q1 : Int32) : Int32 := (if (own_f3 q0) = (0 : Int32) then (0 : Int32) else (if (own_f4 q0 q1) = (0 : Int32) then (1 : Int32) else (0 : Int32)))
def Q2 (Z : State) (q0 : Int32) (q1 : Int32) (h0 : Heap) (n0 : Nat) (v : Option Value) (h : Heap) (L : List Loc) : Prop := v = some (.int (own_f2 q0 q1)) ∧ Fr n0 L ∧ h = h0
set_option maxHeartbeats 40000000 in
theorem rm2 (l : Launch) (Z : State) (aZ : Array Value) (hw : ∀ d ∈ tables_1, d.before aZ Z = true) (ws : List Jvm.Cond) (q0 : Int32) (q1 : Int32) (h0 : Heap) (n0 : Nat) (Z0 : n0 ≤ h0.size) :
    MetFree l (⟨"com/example/rida/rida/check/LineBreaksIsWhitespacePinLaw", "expected", "(IZ)Z"⟩ : MethodName) (head1 (Jvm.Cond.code (⟨"com/example/rida/rida/check/LineBreaksIsWhitespacePinLaw", "expected", "(IZ)Z"⟩ : MethodName) method_4_code 2 (some .boolean) :: ws) ({ frames := 1, cells := 0, slots := 0, locals := 13 } : Room)) (fun a U => a = #[(.int q0), (.int q1)] ∧ Z.Warmed39 U.vm ∧ U.heap = h0) (fun _ _ _ _ _ => True) (fun _ U o U' => ∃ v L, o = .returned v ∧ Q2 Z q0 q1 h0 n0 v U'.heap L ∧ FrameEnd U o U' L ({ frames := 1, cells := 0, slots := 0, locals := 13 } : Room).cells ({ frames := 1, cells := 0, slots := 0, locals := 13 } : Room).slots) := by
  refine MetFree.of_bodySF (plainFor_of_name pn_0) hisR ?_
  intro p e s m args below meth c s₁ Bd hml0 hP hK
  obtain ⟨rfl, hZ, hh⟩ := hP
  have hx := Bd.exec
  have hby := Bd.bytes
  have hret := Bd.returns
  have hlk : meth.locks = false := BodyLoose.notSynchronized Bd
  have hml : c.maxLocals = 2 := hml0
  have hown : s.vm.findClass "com/example/rida/rida/check/LineBreaksIsWhitespacePinLaw" = some m.cls := findClass_of_methodNamed Bd.named
  have hnm := (name_of_methodNamed Bd.named Bd.method).1
  have X0 : Stand p l e ({ frames := 1, cells := 0, slots := 0, locals := 13 } : Room) s m #[(.int q0), (.int q1)] below meth c s₁ [] 0 0 := Stand.of_body Bd
  have e0 : s₁.heap = h0 := by rw [← hh, Bd.state]; rfl
  have N0 := Fr.nil n0
  have K0 : Keep h0 h0 [] := Keep.refl _ _
  have pre0 : ∀ t, Steps p.tables e below (s₁.setTop (mkF m 0 #[.val (.int q0), .val (.int q1)] [])) t → Steps p.tables e below (s₁.setTop (entryFrame m #[(.int q0), (.int q1)] 2)) t := fun t k => castTop (ef_2 m q0 q1) k
  show OFin p e below s (Q2 Z q0 q1 h0 n0) ({ frames := 1, cells := 0, slots := 0, locals := 13 } : Room).cells ({ frames := 1, cells := 0, slots := 0, locals := 13 } : Room).slots _
  refine OFin.go pre0 ?_
  have sg101 : ∀ t, Steps p.tables e below (s₁.setTop (mkF m 1 #[.val (.int q0), .val (.int q1)] [(.int q0)])) t → Steps p.tables e below (s₁.setTop (mkF m 0 #[.val (.int q0), .val (.int q1)] [])) t := by
    intro t k
    show Steps p.tables e below (s₁.setTop (mkF m 0 #[.val (.int q0), .val (.int q1)] [])) t
    refine XS.iloadN X0.here hx rfl (hb hby d2_0) rfl ?_
    exact k
  refine OFin.go sg101 ?_
  obtain ⟨_, _, ⟨T102, L102, k102, n102⟩, -, X102, ⟨Lc102, hQ102, l102, y102, z102⟩, st102⟩ := Jvm.LawKit.callS X0 hx (y := (⟨"com/example/rida/rida/check/LineBreaksIsWhitespacePinLaw", "jsonWhitespace", "(I)Z"⟩ : MethodName)) hown (mvT hZ (hw _ (List.mem_of_getElem? (i := 14) rfl))) (mvT hZ (hw _ (List.mem_of_getElem? (i := 15) rfl))) (mvT hZ (hw _ (List.mem_of_getElem? (i := 12) rfl))) (mvT hZ (hw _ (List.mem_of_getElem? (i := 16) rfl))) (by decide) (backOf (W := 0) (rm3 l Z aZ hw [] q0 h0 n0 (Nat.le_trans Z0 K0.1) ) hZ (hw _ (List.mem_of_getElem? (i := 16) rfl)) (hw _ (List.mem_of_getElem? (i := 12) rfl)) (by decide) (by decide)) (g := (mkF m 1 #[.val (.int q0), .val (.int q1)] [(.int q0)])) rfl (by rw [hml]; rfl) (argsL := [(.int q0)]) (rest := []) (lenOf pd_0 rfl) rfl (by show 2 * 0 + _ ≤ _; exact Nat.le_of_eq rfl) (hb hby d2_1) (fun _ _ => ⟨rfl, e0, (by decide : 0 + 0 ≤ _), (by decide : 0 + 0 ≤ _)⟩)
  dsimp only [Pt.U, Pt.locs, Pt.cells, Pt.slots] at X102 l102 y102 z102 st102 hQ102
  subst l102 y102 z102
  obtain ⟨rfl, N102q, e102⟩ := hQ102
  have N102 := Fr.app N0 N102q
  refine OFin.go st102 ?_
  by_cases c103 : (own_f3 q0) = (0 : Int32)
  · have sg104 : ∀ t, Steps p.tables e below (T102.setTop (mkF m 20 #[.val (.int q0), .val (.int q1)] [(.int (0 : Int32))])) t → Steps p.tables e below (T102.setTop (mkF m 4 #[.val (.int q0), .val (.int q1)] [(.int (own_f3 q0))])) t := by
      intro t k
      show Steps p.tables e below (T102.setTop (mkF m 4 #[.val (.int q0), .val (.int q1)] [(.int (own_f3 q0))])) t
      refine XS.ifYes X102.here hx rfl (pc0 := 4) (pc' := 19) rfl (hb hby d2_4) rfl ((if0 _ _).trans (teq c103).1) (by decide) (by decide) ?_
      show Steps p.tables e below (T102.setTop (mkF m 19 #[.val (.int q0), .val (.int q1)] [])) t
      refine XS.iconst X102.here hx rfl (hb hby d2_19) ?_
      exact k
    refine OFin.go sg104 ?_
    exact OFin.retN X102 hx hret (by simp) hlk (hb hby d2_20) rfl (by rw [e102]; exact ⟨(congrArg (fun z => some (Value.int z)) (show (0 : Int32) = own_f2 q0 q1 from (by rw [own_f2, if_pos c103]))), N102, rfl⟩) (by decide) (by decide)
  · have sg105 : ∀ t, Steps p.tables e below (T102.setTop (mkF m 9 #[.val (.int q0), .val (.int q1)] [(.int q1), (.int q0)])) t → Steps p.tables e below (T102.setTop (mkF m 4 #[.val (.int q0), .val (.int q1)] [(.int (own_f3 q0))])) t := by
      intro t k
      show Steps p.tables e below (T102.setTop (mkF m 4 #[.val (.int q0), .val (.int q1)] [(.int (own_f3 q0))])) t
      refine XS.ifNo X102.here hx rfl (hb hby d2_4) rfl ((if0 _ _).trans (feq c103).1) ?_
      show Steps p.tables e below (T102.setTop (mkF m 7 #[.val (.int q0), .val (.int q1)] [])) t
      refine XS.iloadN X102.here hx rfl (hb hby d2_7) rfl ?_
      show Steps p.tables e below (T102.setTop (mkF m 8 #[.val (.int q0), .val (.int q1)] [(.int q0)])) t
      refine XS.iloadN X102.here hx rfl (hb hby d2_8) rfl ?_
      exact k
    refine OFin.go sg105 ?_
    obtain ⟨_, _, ⟨T106, L106, k106, n106⟩, -, X106, ⟨Lc106, hQ106, l106, y106, z106⟩, st106⟩ := Jvm.LawKit.callS X102 hx (y := (⟨"com/example/rida/rida/check/LineBreaksIsWhitespacePinLaw", "breaksLine", "(IZ)Z"⟩ : MethodName)) hown (mvT hZ (hw _ (List.mem_of_getElem? (i := 17) rfl))) (mvT hZ (hw _ (List.mem_of_getElem? (i := 18) rfl))) (mvT hZ (hw _ (List.mem_of_getElem? (i := 12) rfl))) (mvT hZ (hw _ (List.mem_of_getElem? (i := 19) rfl))) (by decide) (backOf (W := 0) (rm4 l Z aZ hw [] q0 q1 h0 n0 (Nat.le_trans Z0 K0.1) ) hZ (hw _ (List.mem_of_getElem? (i := 19) rfl)) (hw _ (List.mem_of_getElem? (i := 12) rfl)) (by decide) (by decide)) (g := (mkF m 9 #[.val (.int q0), .val (.int q1)] [(.int q1), (.int q0)])) rfl (by rw [hml]; rfl) (argsL := [(.int q0), (.int q1)]) (rest := []) (lenOf pd_1 rfl) rfl (by show 2 * 0 + _ ≤ _; exact Nat.le_of_eq rfl) (hb hby d2_9) (fun _ _ => ⟨rfl, e102, (by decide : 0 + 0 ≤ _), (by decide : 0 + 0 ≤ _)⟩)
    dsimp only [Pt.U, Pt.locs, Pt.cells, Pt.slots] at X106 l106 y106 z106 st106 hQ106
    subst l106 y106 z106
    obtain ⟨rfl, N106q, e106⟩ := hQ106
    have N106 := Fr.app N102 N106q
    refine OFin.go st106 ?_
    by_cases c107 : (own_f4 q0 q1) = (0 : Int32)
    · have sg108 : ∀ t, Steps p.tables e below (T106.setTop (mkF m 20 #[.val (.int q0), .val (.int q1)] [(.int (1 : Int32))])) t → Steps p.tables e below (T106.setTop (mkF m 12 #[.val (.int q0), .val (.int q1)] [(.int (own_f4 q0 q1))])) t := by
        intro t k
        show Steps p.tables e below (T106.setTop (mkF m 12 #[.val (.int q0), .val (.int q1)] [(.int (own_f4 q0 q1))])) t
        refine XS.ifNo X106.here hx rfl (hb hby d2_12) rfl ((if0 _ _).trans (teq c107).2) ?_
        show Steps p.tables e below (T106.setTop (mkF m 15 #[.val (.int q0), .val (.int q1)] [])) t
        refine XS.iconst X106.here hx rfl (hb hby d2_15) ?_
        show Steps p.tables e below (T106.setTop (mkF m 16 #[.val (.int q0), .val (.int q1)] [(.int (1 : Int32))])) t
        refine XS.goto X106.here hx rfl (pc0 := 16) (pc' := 20) rfl (hb hby d2_16) (by decide) (by decide) ?_
        exact k
      refine OFin.go sg108 ?_
      exact OFin.retN X106 hx hret (by simp) hlk (hb hby d2_20) rfl (by rw [e106]; exact ⟨(congrArg (fun z => some (Value.int z)) (show (1 : Int32) = own_f2 q0 q1 from (by rw [own_f2, if_neg c103, if_pos c107]))), N106, rfl⟩) (by decide) (by decide)
    · have sg109 : ∀ t, Steps p.tables e below (T106.setTop (mkF m 20 #[.val (.int q0), .val (.int q1)] [(.int (0 : Int32))])) t → Steps p.tables e below (T106.setTop (mkF m 12 #[.val (.int q0), .val (.int q1)] [(.int (own_f4 q0 q1))])) t := by
        intro t k
        show Steps p.tables e below (T106.setTop (mkF m 12 #[.val (.int q0), .val (.int q1)] [(.int (own_f4 q0 q1))])) t
        refine XS.ifYes X106.here hx rfl (pc0 := 12) (pc' := 19) rfl (hb hby d2_12) rfl ((if0 _ _).trans (feq c107).2) (by decide) (by decide) ?_
        show Steps p.tables e below (T106.setTop (mkF m 19 #[.val (.int q0), .val (.int q1)] [])) t
        refine XS.iconst X106.here hx rfl (hb hby d2_19) ?_
        exact k
      refine OFin.go sg109 ?_
      exact OFin.retN X106 hx hret (by simp) hlk (hb hby d2_20) rfl (by rw [e106]; exact ⟨(congrArg (fun z => some (Value.int z)) (show (0 : Int32) = own_f2 q0 q1 from (by rw [own_f2, if_neg c103, if_neg c107]))), N106, rfl⟩) (by decide) (by decide)
theorem d1_0 : decode prog_2_method_4_code 0 = .ok (.iload_n 1, 1) := by decide +kernel
theorem d1_1 : decode prog_2_method_4_code 1 = .ok (.bipush 32, 2) := by decide +kernel
theorem d1_3 : decode prog_2_method_4_code 3 = .ok (.if_icmp .eq 22, 3) := by decide +kernel
theorem d1_6 : decode prog_2_method_4_code 6 = .ok (.iload_n 1, 1) := by decide +kernel
theorem d1_7 : decode prog_2_method_4_code 7 = .ok (.bipush 9, 2) := by decide +kernel
theorem d1_9 : decode prog_2_method_4_code 9 = .ok (.if_icmp .eq 16, 3) := by decide +kernel
theorem d1_12 : decode prog_2_method_4_code 12 = .ok (.iload_n 1, 1) := by decide +kernel
theorem d1_13 : decode prog_2_method_4_code 13 = .ok (.bipush 13, 2) := by decide +kernel
theorem d1_15 : decode prog_2_method_4_code 15 = .ok (.if_icmp .ne 14, 3) := by decide +kernel
theorem d1_18 : decode prog_2_method_4_code 18 = .ok (.aload_n 0, 1) := by decide +kernel
theorem d1_19 : decode prog_2_method_4_code 19 = .ok (.getfield 29, 3) := by decide +kernel
theorem d1_22 : decode prog_2_method_4_code 22 = .ok (.ifCond .eq 7, 3) := by decide +kernel
theorem d1_25 : decode prog_2_method_4_code 25 = .ok (.iconst 1, 1) := by decide +kernel
theorem d1_26 : decode prog_2_method_4_code 26 = .ok (.goto 4, 3) := by decide +kernel
theorem d1_29 : decode prog_2_method_4_code 29 = .ok (.iconst 0, 1) := by decide +kernel
theorem d1_30 : decode prog_2_method_4_code 30 = .ok (.ireturn, 1) := by decide +kernel
theorem pn_1 : plainName "com/example/rida/rida/check/LineBreaks" = true := by first | (simp [plainName, overriddenIn]; done) | decide +kernel
theorem ef_1 (m : MethodId) (x0 : Addr) (x1 : Int32) : entryFrame m #[(.ref x0), (.int x1)] 2 = mkF m 0 #[.val (.ref x0), .val (.int x1)] [] := by first | (simp [entryFrame, mkF, argsToLocals, Value.category]; done) | rfl
def own_f1 (a0 : Addr) (q1 : Int32) (w2 : Int32) : Int32 := (if q1 = (32 : Int32) then (1 : Int32) else (if q1 = (9 : Int32) then (1 : Int32) else (if q1 = (13 : Int32) then (if w2 = (0 : Int32) then (0 : Int32) else (1 : Int32)) else (0 : Int32))))
def Q1 (Z : State) (a0 : Addr) (q1 : Int32) (w2 : Int32) (h0 : Heap) (n0 : Nat) (v : Option Value) (h : Heap) (L : List Loc) : Prop := v = some (.int (own_f1 a0 q1 w2)) ∧ Fr n0 L ∧ h = h0
set_option maxHeartbeats 40000000 in
theorem rm1 (l : Launch) (Z : State) (aZ : Array Value) (hw : ∀ d ∈ tables_1, d.before aZ Z = true) (ws : List Jvm.Cond) (a0 : Addr) (q1 : Int32) (w2 : Int32) (h0 : Heap) (n0 : Nat) (Z0 : n0 ≤ h0.size) (F1 : Fld Z h0 a0 "com/example/rida/rida/check/LineBreaks" "crIsWhitespace" "Z" (.int w2)) :
    MetFree l (⟨"com/example/rida/rida/check/LineBreaks", "isWhitespace", "(B)Z"⟩ : MethodName) (head1 (Jvm.Cond.code (⟨"com/example/rida/rida/check/LineBreaks", "isWhitespace", "(B)Z"⟩ : MethodName) prog_2_method_4_code 2 (some .boolean) :: ws) ({ frames := 0, cells := 0, slots := 0, locals := 0 } : Room)) (fun a U => a = #[(.ref a0), (.int q1)] ∧ Z.Warmed39 U.vm ∧ U.heap = h0) (fun _ _ _ _ _ => True) (fun _ U o U' => ∃ v L, o = .returned v ∧ Q1 Z a0 q1 w2 h0 n0 v U'.heap L ∧ FrameEnd U o U' L ({ frames := 0, cells := 0, slots := 0, locals := 0 } : Room).cells ({ frames := 0, cells := 0, slots := 0, locals := 0 } : Room).slots) := by
  refine MetFree.of_bodySF (plainFor_of_name pn_1) hisR ?_
  intro p e s m args below meth c s₁ Bd hml0 hP hK
  obtain ⟨rfl, hZ, hh⟩ := hP
  have hx := Bd.exec
  have hby := Bd.bytes
  have hret := Bd.returns
  have hlk : meth.locks = false := BodyLoose.notSynchronized Bd
  have hml : c.maxLocals = 2 := hml0
  have hown : s.vm.findClass "com/example/rida/rida/check/LineBreaks" = some m.cls := findClass_of_methodNamed Bd.named
  have hnm := (name_of_methodNamed Bd.named Bd.method).1
  have X0 : Stand p l e ({ frames := 0, cells := 0, slots := 0, locals := 0 } : Room) s m #[(.ref a0), (.int q1)] below meth c s₁ [] 0 0 := Stand.of_body Bd
  have e0 : s₁.heap = h0 := by rw [← hh, Bd.state]; rfl
  have N0 := Fr.nil n0
  have K0 : Keep h0 h0 [] := Keep.refl _ _
  have pre0 : ∀ t, Steps p.tables e below (s₁.setTop (mkF m 0 #[.val (.ref a0), .val (.int q1)] [])) t → Steps p.tables e below (s₁.setTop (entryFrame m #[(.ref a0), (.int q1)] 2)) t := fun t k => castTop (ef_1 m a0 q1) k
  show OFin p e below s (Q1 Z a0 q1 w2 h0 n0) ({ frames := 0, cells := 0, slots := 0, locals := 0 } : Room).cells ({ frames := 0, cells := 0, slots := 0, locals := 0 } : Room).slots _
  refine OFin.go pre0 ?_
  have sg101 : ∀ t, Steps p.tables e below (s₁.setTop (mkF m 3 #[.val (.ref a0), .val (.int q1)] [(.int (32 : Int32)), (.int q1)])) t → Steps p.tables e below (s₁.setTop (mkF m 0 #[.val (.ref a0), .val (.int q1)] [])) t := by
    intro t k
    show Steps p.tables e below (s₁.setTop (mkF m 0 #[.val (.ref a0), .val (.int q1)] [])) t
    refine XS.iloadN X0.here hx rfl (hb hby d1_0) rfl ?_
    show Steps p.tables e below (s₁.setTop (mkF m 1 #[.val (.ref a0), .val (.int q1)] [(.int q1)])) t
    refine XS.bipush X0.here hx rfl (hb hby d1_1) ?_
    exact k
  refine OFin.go sg101 ?_
  by_cases c102 : q1 = (32 : Int32)
  · have sg103 : ∀ t, Steps p.tables e below (s₁.setTop (mkF m 30 #[.val (.ref a0), .val (.int q1)] [(.int (1 : Int32))])) t → Steps p.tables e below (s₁.setTop (mkF m 3 #[.val (.ref a0), .val (.int q1)] [(.int (32 : Int32)), (.int q1)])) t := by
      intro t k
      show Steps p.tables e below (s₁.setTop (mkF m 3 #[.val (.ref a0), .val (.int q1)] [(.int (32 : Int32)), (.int q1)])) t
      refine XS.icmpYes X0.here hx rfl (pc0 := 3) (pc' := 25) rfl (hb hby d1_3) rfl (teq c102).1 (by decide) (by decide) ?_
      show Steps p.tables e below (s₁.setTop (mkF m 25 #[.val (.ref a0), .val (.int q1)] [])) t
      refine XS.iconst X0.here hx rfl (hb hby d1_25) ?_
      show Steps p.tables e below (s₁.setTop (mkF m 26 #[.val (.ref a0), .val (.int q1)] [(.int (1 : Int32))])) t
      refine XS.goto X0.here hx rfl (pc0 := 26) (pc' := 30) rfl (hb hby d1_26) (by decide) (by decide) ?_
      exact k
    refine OFin.go sg103 ?_
    exact OFin.retN X0 hx hret (by simp) hlk (hb hby d1_30) rfl (by rw [e0]; exact ⟨(congrArg (fun z => some (Value.int z)) (show (1 : Int32) = own_f1 a0 q1 w2 from (by rw [own_f1, if_pos c102]))), N0, rfl⟩) (by decide) (by decide)
  · have sg104 : ∀ t, Steps p.tables e below (s₁.setTop (mkF m 9 #[.val (.ref a0), .val (.int q1)] [(.int (9 : Int32)), (.int q1)])) t → Steps p.tables e below (s₁.setTop (mkF m 3 #[.val (.ref a0), .val (.int q1)] [(.int (32 : Int32)), (.int q1)])) t := by
      intro t k
      show Steps p.tables e below (s₁.setTop (mkF m 3 #[.val (.ref a0), .val (.int q1)] [(.int (32 : Int32)), (.int q1)])) t
      refine XS.icmpNo X0.here hx rfl (hb hby d1_3) rfl (feq c102).1 ?_
      show Steps p.tables e below (s₁.setTop (mkF m 6 #[.val (.ref a0), .val (.int q1)] [])) t
      refine XS.iloadN X0.here hx rfl (hb hby d1_6) rfl ?_
      show Steps p.tables e below (s₁.setTop (mkF m 7 #[.val (.ref a0), .val (.int q1)] [(.int q1)])) t
      refine XS.bipush X0.here hx rfl (hb hby d1_7) ?_
      exact k
    refine OFin.go sg104 ?_
    by_cases c105 : q1 = (9 : Int32)
    · have sg106 : ∀ t, Steps p.tables e below (s₁.setTop (mkF m 30 #[.val (.ref a0), .val (.int q1)] [(.int (1 : Int32))])) t → Steps p.tables e below (s₁.setTop (mkF m 9 #[.val (.ref a0), .val (.int q1)] [(.int (9 : Int32)), (.int q1)])) t := by
        intro t k
        show Steps p.tables e below (s₁.setTop (mkF m 9 #[.val (.ref a0), .val (.int q1)] [(.int (9 : Int32)), (.int q1)])) t
        refine XS.icmpYes X0.here hx rfl (pc0 := 9) (pc' := 25) rfl (hb hby d1_9) rfl (teq c105).1 (by decide) (by decide) ?_
        show Steps p.tables e below (s₁.setTop (mkF m 25 #[.val (.ref a0), .val (.int q1)] [])) t
        refine XS.iconst X0.here hx rfl (hb hby d1_25) ?_
        show Steps p.tables e below (s₁.setTop (mkF m 26 #[.val (.ref a0), .val (.int q1)] [(.int (1 : Int32))])) t
        refine XS.goto X0.here hx rfl (pc0 := 26) (pc' := 30) rfl (hb hby d1_26) (by decide) (by decide) ?_
        exact k
      refine OFin.go sg106 ?_
      exact OFin.retN X0 hx hret (by simp) hlk (hb hby d1_30) rfl (by rw [e0]; exact ⟨(congrArg (fun z => some (Value.int z)) (show (1 : Int32) = own_f1 a0 q1 w2 from (by rw [own_f1, if_neg c102, if_pos c105]))), N0, rfl⟩) (by decide) (by decide)
    · have sg107 : ∀ t, Steps p.tables e below (s₁.setTop (mkF m 15 #[.val (.ref a0), .val (.int q1)] [(.int (13 : Int32)), (.int q1)])) t → Steps p.tables e below (s₁.setTop (mkF m 9 #[.val (.ref a0), .val (.int q1)] [(.int (9 : Int32)), (.int q1)])) t := by
        intro t k
        show Steps p.tables e below (s₁.setTop (mkF m 9 #[.val (.ref a0), .val (.int q1)] [(.int (9 : Int32)), (.int q1)])) t
        refine XS.icmpNo X0.here hx rfl (hb hby d1_9) rfl (feq c105).1 ?_
        show Steps p.tables e below (s₁.setTop (mkF m 12 #[.val (.ref a0), .val (.int q1)] [])) t
        refine XS.iloadN X0.here hx rfl (hb hby d1_12) rfl ?_
        show Steps p.tables e below (s₁.setTop (mkF m 13 #[.val (.ref a0), .val (.int q1)] [(.int q1)])) t
        refine XS.bipush X0.here hx rfl (hb hby d1_13) ?_
        exact k
      refine OFin.go sg107 ?_
      by_cases c108 : q1 = (13 : Int32)
      · have sg109 : ∀ t, Steps p.tables e below (s₁.setTop (mkF m 19 #[.val (.ref a0), .val (.int q1)] [(.ref a0)])) t → Steps p.tables e below (s₁.setTop (mkF m 15 #[.val (.ref a0), .val (.int q1)] [(.int (13 : Int32)), (.int q1)])) t := by
          intro t k
          show Steps p.tables e below (s₁.setTop (mkF m 15 #[.val (.ref a0), .val (.int q1)] [(.int (13 : Int32)), (.int q1)])) t
          refine XS.icmpNo X0.here hx rfl (hb hby d1_15) rfl (teq c108).2 ?_
          show Steps p.tables e below (s₁.setTop (mkF m 18 #[.val (.ref a0), .val (.int q1)] [])) t
          refine XS.aloadN X0.here hx rfl (hb hby d1_18) rfl rfl ?_
          exact k
        refine OFin.go sg109 ?_
        obtain ⟨T110, X110, e110, st110⟩ := getF X0 hx hZ hown (host := "") (Or.inl (hw _ (List.mem_of_getElem? (i := 20) rfl))) Via.refl e0 F1 (g := (mkF m 19 #[.val (.ref a0), .val (.int q1)] [(.ref a0)])) rfl rfl (hb hby d1_19)
        refine OFin.go st110 ?_
        by_cases c111 : w2 = (0 : Int32)
        · have sg112 : ∀ t, Steps p.tables e below (T110.setTop (mkF m 30 #[.val (.ref a0), .val (.int q1)] [(.int (0 : Int32))])) t → Steps p.tables e below (T110.setTop (mkF m 22 #[.val (.ref a0), .val (.int q1)] [(.int w2)])) t := by
            intro t k
            show Steps p.tables e below (T110.setTop (mkF m 22 #[.val (.ref a0), .val (.int q1)] [(.int w2)])) t
            refine XS.ifYes X110.here hx rfl (pc0 := 22) (pc' := 29) rfl (hb hby d1_22) rfl ((if0 _ _).trans (teq c111).1) (by decide) (by decide) ?_
            show Steps p.tables e below (T110.setTop (mkF m 29 #[.val (.ref a0), .val (.int q1)] [])) t
            refine XS.iconst X110.here hx rfl (hb hby d1_29) ?_
            exact k
          refine OFin.go sg112 ?_
          exact OFin.retN X110 hx hret (by simp) hlk (hb hby d1_30) rfl (by rw [e110]; exact ⟨(congrArg (fun z => some (Value.int z)) (show (0 : Int32) = own_f1 a0 q1 w2 from (by rw [own_f1, if_neg c102, if_neg c105, if_pos c108, if_pos c111]))), N0, rfl⟩) (by decide) (by decide)
        · have sg113 : ∀ t, Steps p.tables e below (T110.setTop (mkF m 30 #[.val (.ref a0), .val (.int q1)] [(.int (1 : Int32))])) t → Steps p.tables e below (T110.setTop (mkF m 22 #[.val (.ref a0), .val (.int q1)] [(.int w2)])) t := by
            intro t k
            show Steps p.tables e below (T110.setTop (mkF m 22 #[.val (.ref a0), .val (.int q1)] [(.int w2)])) t
            refine XS.ifNo X110.here hx rfl (hb hby d1_22) rfl ((if0 _ _).trans (feq c111).1) ?_
            show Steps p.tables e below (T110.setTop (mkF m 25 #[.val (.ref a0), .val (.int q1)] [])) t
            refine XS.iconst X110.here hx rfl (hb hby d1_25) ?_
            show Steps p.tables e below (T110.setTop (mkF m 26 #[.val (.ref a0), .val (.int q1)] [(.int (1 : Int32))])) t
            refine XS.goto X110.here hx rfl (pc0 := 26) (pc' := 30) rfl (hb hby d1_26) (by decide) (by decide) ?_
            exact k
          refine OFin.go sg113 ?_
          exact OFin.retN X110 hx hret (by simp) hlk (hb hby d1_30) rfl (by rw [e110]; exact ⟨(congrArg (fun z => some (Value.int z)) (show (1 : Int32) = own_f1 a0 q1 w2 from (by rw [own_f1, if_neg c102, if_neg c105, if_pos c108, if_neg c111]))), N0, rfl⟩) (by decide) (by decide)
      · have sg114 : ∀ t, Steps p.tables e below (s₁.setTop (mkF m 30 #[.val (.ref a0), .val (.int q1)] [(.int (0 : Int32))])) t → Steps p.tables e below (s₁.setTop (mkF m 15 #[.val (.ref a0), .val (.int q1)] [(.int (13 : Int32)), (.int q1)])) t := by
          intro t k
          show Steps p.tables e below (s₁.setTop (mkF m 15 #[.val (.ref a0), .val (.int q1)] [(.int (13 : Int32)), (.int q1)])) t
          refine XS.icmpYes X0.here hx rfl (pc0 := 15) (pc' := 29) rfl (hb hby d1_15) rfl (feq c108).2 (by decide) (by decide) ?_
          show Steps p.tables e below (s₁.setTop (mkF m 29 #[.val (.ref a0), .val (.int q1)] [])) t
          refine XS.iconst X0.here hx rfl (hb hby d1_29) ?_
          exact k
        refine OFin.go sg114 ?_
        exact OFin.retN X0 hx hret (by simp) hlk (hb hby d1_30) rfl (by rw [e0]; exact ⟨(congrArg (fun z => some (Value.int z)) (show (0 : Int32) = own_f1 a0 q1 w2 from (by rw [own_f1, if_neg c102, if_neg c105, if_neg c108]))), N0, rfl⟩) (by decide) (by decide)
theorem own_eqint {args : Array Value} {first s : State} {o : Option Outcome} {idx : List Nat} {t : Term} {z : Int32} (h : (Cond.eq t (.int z)).value args first o s idx = some true) : t.eval args first o idx s = some (.int z) := by
  obtain ⟨x, y, h1, h2, k1, k2⟩ := cmp_v (Or.inl h)
  have h3 : y = .int z := Option.some.inj (h2.symm.trans (Term.int_eval z))
  subst h3
  obtain ⟨u, rfl⟩ : ∃ u, x = .int u := k2
  have q : (Cond.eq t (.int z)).value args first o s idx = some (decide (u = z)) := by simp [Cond.value, h1, h2]
  rw [h1, gotT q h]
theorem own_byte (x : Int32) (k : Int32) (h0 : 0 ≤ k.toInt) (h1 : k.toInt < 128) : (x.toInt8.toInt32) = k ↔ (x &&& (255 : Int32)) = k := by
  have a := c_i2b x
  have b := c_mask x 255 8 (by decide) (by decide)
  rw [← Int32.toInt_inj, ← Int32.toInt_inj]
  simp only [show ((2 ^ 8 : Nat) : Int) = 256 from rfl] at b
  omega
theorem own_one (x : Int32) (a : Addr) : own_f1 a x.toInt8.toInt32 0 = own_f2 (x &&& (255 : Int32)) 0 := by
  have e1 := own_byte x 32 (by decide) (by decide)
  have e2 := own_byte x 9 (by decide) (by decide)
  have e3 := own_byte x 13 (by decide) (by decide)
  generalize x.toInt8.toInt32 = b at *
  generalize (x &&& (255 : Int32)) = u at *
  unfold own_f1 own_f2 own_f3 own_f4
  by_cases p1 : u = 32
  · have := e1.mpr p1; subst p1 this; decide
  by_cases p2 : u = 9
  · have := e2.mpr p2; subst p2 this; decide
  by_cases p3 : u = 13
  · have := e3.mpr p3; subst p3 this; decide
  have q1 := mt e1.mp p1
  have q2 := mt e2.mp p2
  have q3 := mt e3.mp p3
  by_cases p4 : u = 10 <;> simp [p1, p2, p3, p4, q1, q2, q3]
theorem own_two (x : Int32) (a : Addr) : own_f1 a x.toInt8.toInt32 1 = own_f2 (x &&& (255 : Int32)) 1 := by
  have e1 := own_byte x 32 (by decide) (by decide)
  have e2 := own_byte x 9 (by decide) (by decide)
  have e3 := own_byte x 13 (by decide) (by decide)
  generalize x.toInt8.toInt32 = b at *
  generalize (x &&& (255 : Int32)) = u at *
  unfold own_f1 own_f2 own_f3 own_f4
  by_cases p1 : u = 32
  · have := e1.mpr p1; subst p1 this; decide
  by_cases p2 : u = 9
  · have := e2.mpr p2; subst p2 this; decide
  by_cases p3 : u = 13
  · have := e3.mpr p3; subst p3 this; decide
  have q1 := mt e1.mp p1
  have q2 := mt e2.mp p2
  have q3 := mt e3.mp p3
  by_cases p4 : u = 10 <;> simp [p1, p2, p3, p4, q1, q2, q3]
theorem pd_2 : parseMethodDescriptor "(B)Z" = some ⟨[.byte], some .boolean⟩ := by decide +kernel
theorem ef_0 (m : MethodId) (x0 : Int32) : entryFrame m #[(.int x0)] maxLocals = mkF m 0 #[.val (.int x0), .unset, .unset, .unset, .unset] [] := by first | (simp [entryFrame, mkF, argsToLocals, Value.category, maxLocals]; done) | rfl
def Q0 (Z : State) (q0 : Int32) (o1 : Addr) (o2 : Addr) (h0 : Heap) (n0 : Nat) (v : Option Value) (h : Heap) (L : List Loc) : Prop := v = some (.int (1 : Int32)) ∧ Fr n0 L
set_option maxHeartbeats 40000000 in
theorem rm0 (l : Launch) (Z : State) (aZ : Array Value) (hw : ∀ d ∈ tables_1, d.before aZ Z = true) (ws : List Jvm.Cond) (q0 : Int32) (o1 : Addr) (o2 : Addr) (h0 : Heap) (n0 : Nat) (Z0 : n0 ≤ h0.size) (O0 : Old Z n0 h0) (S1 : Sta Z Z.heap "com/example/rida/rida/check/LineBreaks" "LF_AND_CR" "Lcom/example/rida/rida/check/LineBreaks;" (.ref o1)) (S2 : Sta Z Z.heap "com/example/rida/rida/check/LineBreaks" "LF" "Lcom/example/rida/rida/check/LineBreaks;" (.ref o2)) (E1 : Exa Z h0 o1 "com/example/rida/rida/check/LineBreaks") (E2 : Exa Z h0 o2 "com/example/rida/rida/check/LineBreaks") (F1 : Fld Z h0 o1 "com/example/rida/rida/check/LineBreaks" "crIsWhitespace" "Z" (.int (0 : Int32))) (F2 : Fld Z h0 o2 "com/example/rida/rida/check/LineBreaks" "crIsWhitespace" "Z" (.int (1 : Int32))) :
    MetFree l x (head1 (Jvm.Cond.code x code maxLocals ret :: ws) room_1) (fun a U => a = #[(.int q0)] ∧ Z.Warmed39 U.vm ∧ U.heap = h0) (fun _ _ _ _ _ => True) (fun _ U o U' => ∃ v L, o = .returned v ∧ Q0 Z q0 o1 o2 h0 n0 v U'.heap L ∧ FrameEnd U o U' L room_1.cells room_1.slots) := by
  refine MetFree.of_bodySF (plainFor_of_name pn_0) hisR ?_
  intro p e s m args below meth c s₁ Bd hml0 hP hK
  obtain ⟨rfl, hZ, hh⟩ := hP
  have hx := Bd.exec
  have hby := Bd.bytes
  have hret := Bd.returns
  have hlk : meth.locks = false := BodyLoose.notSynchronized Bd
  have hml : c.maxLocals = 5 := hml0
  have hown : s.vm.findClass "com/example/rida/rida/check/LineBreaksIsWhitespacePinLaw" = some m.cls := findClass_of_methodNamed Bd.named
  have hnm := (name_of_methodNamed Bd.named Bd.method).1
  have X0 : Stand p l e room_1 s m #[(.int q0)] below meth c s₁ [] 0 0 := Stand.of_body Bd
  have e0 : s₁.heap = h0 := by rw [← hh, Bd.state]; rfl
  have N0 := Fr.nil n0
  have K0 : Keep h0 h0 [] := Keep.refl _ _
  have pre0 : ∀ t, Steps p.tables e below (s₁.setTop (mkF m 0 #[.val (.int q0), .unset, .unset, .unset, .unset] [])) t → Steps p.tables e below (s₁.setTop (entryFrame m #[(.int q0)] maxLocals)) t := fun t k => castTop (ef_0 m q0) k
  show OFin p e below s (Q0 Z q0 o1 o2 h0 n0) room_1.cells room_1.slots _
  refine OFin.go pre0 ?_
  have sg101 : ∀ t, Steps p.tables e below (s₁.setTop (mkF m 9 #[.val (.int q0), .val (.int (q0.toInt8.toInt32)), .val (.int (q0 &&& (255 : Int32))), .unset, .unset] [])) t → Steps p.tables e below (s₁.setTop (mkF m 0 #[.val (.int q0), .unset, .unset, .unset, .unset] [])) t := by
    intro t k
    show Steps p.tables e below (s₁.setTop (mkF m 0 #[.val (.int q0), .unset, .unset, .unset, .unset] [])) t
    refine XS.iloadN X0.here hx rfl (hb hby at_0) rfl ?_
    show Steps p.tables e below (s₁.setTop (mkF m 1 #[.val (.int q0), .unset, .unset, .unset, .unset] [(.int q0)])) t
    refine XS.i2b X0.here hx rfl (hb hby at_1) rfl ?_
    show Steps p.tables e below (s₁.setTop (mkF m 2 #[.val (.int q0), .unset, .unset, .unset, .unset] [(.int (q0.toInt8.toInt32))])) t
    refine XS.istoreN X0.here hx rfl (hb hby at_2) rfl (l' := #[.val (.int q0), .val (.int (q0.toInt8.toInt32)), .unset, .unset, .unset]) rfl ?_
    show Steps p.tables e below (s₁.setTop (mkF m 3 #[.val (.int q0), .val (.int (q0.toInt8.toInt32)), .unset, .unset, .unset] [])) t
    refine XS.iloadN X0.here hx rfl (hb hby at_3) rfl ?_
    show Steps p.tables e below (s₁.setTop (mkF m 4 #[.val (.int q0), .val (.int (q0.toInt8.toInt32)), .unset, .unset, .unset] [(.int q0)])) t
    refine XS.sipush X0.here hx rfl (hb hby at_4) ?_
    show Steps p.tables e below (s₁.setTop (mkF m 7 #[.val (.int q0), .val (.int (q0.toInt8.toInt32)), .unset, .unset, .unset] [(.int (255 : Int32)), (.int q0)])) t
    refine XS.iand X0.here hx rfl (hb hby at_7) rfl ?_
    show Steps p.tables e below (s₁.setTop (mkF m 8 #[.val (.int q0), .val (.int (q0.toInt8.toInt32)), .unset, .unset, .unset] [(.int (q0 &&& (255 : Int32)))])) t
    refine XS.istoreN X0.here hx rfl (hb hby at_8) rfl (l' := #[.val (.int q0), .val (.int (q0.toInt8.toInt32)), .val (.int (q0 &&& (255 : Int32))), .unset, .unset]) rfl ?_
    exact k
  refine OFin.go sg101 ?_
  obtain ⟨T102, X102, e102, st102⟩ := getS2 X0 hx hZ hown (host := "") (Or.inl (hw _ (List.mem_of_getElem? (i := 0) rfl))) Via.refl e0 (S1.ext O0.2) (g := (mkF m 9 #[.val (.int q0), .val (.int (q0.toInt8.toInt32)), .val (.int (q0 &&& (255 : Int32))), .unset, .unset] [])) rfl (hb hby at_9)
  refine OFin.go st102 ?_
  have sg103 : ∀ t, Steps p.tables e below (T102.setTop (mkF m 13 #[.val (.int q0), .val (.int (q0.toInt8.toInt32)), .val (.int (q0 &&& (255 : Int32))), .unset, .unset] [(.int (q0.toInt8.toInt32)), (.ref o1)])) t → Steps p.tables e below (T102.setTop (mkF m 12 #[.val (.int q0), .val (.int (q0.toInt8.toInt32)), .val (.int (q0 &&& (255 : Int32))), .unset, .unset] [(.ref o1)])) t := by
    intro t k
    show Steps p.tables e below (T102.setTop (mkF m 12 #[.val (.int q0), .val (.int (q0.toInt8.toInt32)), .val (.int (q0 &&& (255 : Int32))), .unset, .unset] [(.ref o1)])) t
    refine XS.iloadN X102.here hx rfl (hb hby at_12) rfl ?_
    exact k
  refine OFin.go sg103 ?_
  obtain ⟨cq104, kq104, q104a, q104b, q104c⟩ := isOf hZ e102 E1
  obtain ⟨_, _, ⟨T104, L104, k104, n104⟩, -, X104, ⟨Lc104, hQ104, l104, y104, z104⟩, st104⟩ := X102.virtualBack hx (y := (⟨"com/example/rida/rida/check/LineBreaks", "isWhitespace", "(B)Z"⟩ : MethodName)) (z := (⟨"com/example/rida/rida/check/LineBreaks", "isWhitespace", "(B)Z"⟩ : MethodName)) hown (mvT hZ (hw _ (List.mem_of_getElem? (i := 3) rfl))) (mvT hZ (hw _ (List.mem_of_getElem? (i := 4) rfl))) (notFace_of_selects (args := #[]) (mvT hZ (hw _ (List.mem_of_getElem? (i := 6) rfl)))) (mvT hZ (hw _ (List.mem_of_getElem? (i := 6) rfl))) (mvT hZ (hw _ (List.mem_of_getElem? (i := 5) rfl))) (by decide) (backOf (W := 0) (rm1 l Z aZ hw [] o1 (q0.toInt8.toInt32) (0 : Int32) h0 n0 (Nat.le_trans Z0 K0.1) F1) hZ (hw _ (List.mem_of_getElem? (i := 7) rfl)) (hw _ (List.mem_of_getElem? (i := 1) rfl)) (by decide) (by decide)) q104a q104c (g := (mkF m 13 #[.val (.int q0), .val (.int (q0.toInt8.toInt32)), .val (.int (q0 &&& (255 : Int32))), .unset, .unset] [(.int (q0.toInt8.toInt32)), (.ref o1)])) rfl (by rw [hml]; rfl) (Steps.refl _) (argsL := [(.int (q0.toInt8.toInt32))]) (rest := []) (lenOf pd_2 rfl) rfl (by show 2 * 0 + _ ≤ _; exact Nat.le_of_eq rfl) (hb hby at_13) (fun _ _ => ⟨rfl, e102, (by decide : 0 + 0 ≤ _), (by decide : 0 + 0 ≤ _)⟩)
  dsimp only [Pt.U, Pt.locs, Pt.cells, Pt.slots] at X104 l104 y104 z104 st104 hQ104
  subst l104 y104 z104
  obtain ⟨rfl, N104q, e104⟩ := hQ104
  have N104 := Fr.app N0 N104q
  refine OFin.tr st104 ?_
  have sg105 : ∀ t, Steps p.tables e below (T104.setTop (mkF m 17 #[.val (.int q0), .val (.int (q0.toInt8.toInt32)), .val (.int (q0 &&& (255 : Int32))), .val (.int (own_f1 o1 (q0.toInt8.toInt32) (0 : Int32))), .unset] [])) t → Steps p.tables e below (T104.setTop (mkF m 16 #[.val (.int q0), .val (.int (q0.toInt8.toInt32)), .val (.int (q0 &&& (255 : Int32))), .unset, .unset] [(.int (own_f1 o1 (q0.toInt8.toInt32) (0 : Int32)))])) t := by
    intro t k
    show Steps p.tables e below (T104.setTop (mkF m 16 #[.val (.int q0), .val (.int (q0.toInt8.toInt32)), .val (.int (q0 &&& (255 : Int32))), .unset, .unset] [(.int (own_f1 o1 (q0.toInt8.toInt32) (0 : Int32)))])) t
    refine XS.istoreN X104.here hx rfl (hb hby at_16) rfl (l' := #[.val (.int q0), .val (.int (q0.toInt8.toInt32)), .val (.int (q0 &&& (255 : Int32))), .val (.int (own_f1 o1 (q0.toInt8.toInt32) (0 : Int32))), .unset]) rfl ?_
    exact k
  refine OFin.go sg105 ?_
  obtain ⟨T106, X106, e106, st106⟩ := getS2 X104 hx hZ hown (host := "") (Or.inl (hw _ (List.mem_of_getElem? (i := 8) rfl))) Via.refl e104 (S2.ext O0.2) (g := (mkF m 17 #[.val (.int q0), .val (.int (q0.toInt8.toInt32)), .val (.int (q0 &&& (255 : Int32))), .val (.int (own_f1 o1 (q0.toInt8.toInt32) (0 : Int32))), .unset] [])) rfl (hb hby at_17)
  refine OFin.go st106 ?_
  have sg107 : ∀ t, Steps p.tables e below (T106.setTop (mkF m 21 #[.val (.int q0), .val (.int (q0.toInt8.toInt32)), .val (.int (q0 &&& (255 : Int32))), .val (.int (own_f1 o1 (q0.toInt8.toInt32) (0 : Int32))), .unset] [(.int (q0.toInt8.toInt32)), (.ref o2)])) t → Steps p.tables e below (T106.setTop (mkF m 20 #[.val (.int q0), .val (.int (q0.toInt8.toInt32)), .val (.int (q0 &&& (255 : Int32))), .val (.int (own_f1 o1 (q0.toInt8.toInt32) (0 : Int32))), .unset] [(.ref o2)])) t := by
    intro t k
    show Steps p.tables e below (T106.setTop (mkF m 20 #[.val (.int q0), .val (.int (q0.toInt8.toInt32)), .val (.int (q0 &&& (255 : Int32))), .val (.int (own_f1 o1 (q0.toInt8.toInt32) (0 : Int32))), .unset] [(.ref o2)])) t
    refine XS.iloadN X106.here hx rfl (hb hby at_20) rfl ?_
    exact k
  refine OFin.go sg107 ?_
  obtain ⟨cq108, kq108, q108a, q108b, q108c⟩ := isOf hZ e106 E2
  obtain ⟨_, _, ⟨T108, L108, k108, n108⟩, -, X108, ⟨Lc108, hQ108, l108, y108, z108⟩, st108⟩ := X106.virtualBack hx (y := (⟨"com/example/rida/rida/check/LineBreaks", "isWhitespace", "(B)Z"⟩ : MethodName)) (z := (⟨"com/example/rida/rida/check/LineBreaks", "isWhitespace", "(B)Z"⟩ : MethodName)) hown (mvT hZ (hw _ (List.mem_of_getElem? (i := 3) rfl))) (mvT hZ (hw _ (List.mem_of_getElem? (i := 4) rfl))) (notFace_of_selects (args := #[]) (mvT hZ (hw _ (List.mem_of_getElem? (i := 6) rfl)))) (mvT hZ (hw _ (List.mem_of_getElem? (i := 6) rfl))) (mvT hZ (hw _ (List.mem_of_getElem? (i := 5) rfl))) (by decide) (backOf (W := 0) (rm1 l Z aZ hw [] o2 (q0.toInt8.toInt32) (1 : Int32) h0 n0 (Nat.le_trans Z0 K0.1) F2) hZ (hw _ (List.mem_of_getElem? (i := 7) rfl)) (hw _ (List.mem_of_getElem? (i := 1) rfl)) (by decide) (by decide)) q108a q108c (g := (mkF m 21 #[.val (.int q0), .val (.int (q0.toInt8.toInt32)), .val (.int (q0 &&& (255 : Int32))), .val (.int (own_f1 o1 (q0.toInt8.toInt32) (0 : Int32))), .unset] [(.int (q0.toInt8.toInt32)), (.ref o2)])) rfl (by rw [hml]; rfl) (Steps.refl _) (argsL := [(.int (q0.toInt8.toInt32))]) (rest := []) (lenOf pd_2 rfl) rfl (by show 2 * 0 + _ ≤ _; exact Nat.le_of_eq rfl) (hb hby at_21) (fun _ _ => ⟨rfl, e106, (by decide : 0 + 0 ≤ _), (by decide : 0 + 0 ≤ _)⟩)
  dsimp only [Pt.U, Pt.locs, Pt.cells, Pt.slots] at X108 l108 y108 z108 st108 hQ108
  subst l108 y108 z108
  obtain ⟨rfl, N108q, e108⟩ := hQ108
  have N108 := Fr.app N104 N108q
  refine OFin.tr st108 ?_
  have sg109 : ∀ t, Steps p.tables e below (T108.setTop (mkF m 29 #[.val (.int q0), .val (.int (q0.toInt8.toInt32)), .val (.int (q0 &&& (255 : Int32))), .val (.int (own_f1 o1 (q0.toInt8.toInt32) (0 : Int32))), .val (.int (own_f1 o2 (q0.toInt8.toInt32) (1 : Int32)))] [(.int (0 : Int32)), (.int (q0 &&& (255 : Int32))), (.int (own_f1 o1 (q0.toInt8.toInt32) (0 : Int32)))])) t → Steps p.tables e below (T108.setTop (mkF m 24 #[.val (.int q0), .val (.int (q0.toInt8.toInt32)), .val (.int (q0 &&& (255 : Int32))), .val (.int (own_f1 o1 (q0.toInt8.toInt32) (0 : Int32))), .unset] [(.int (own_f1 o2 (q0.toInt8.toInt32) (1 : Int32)))])) t := by
    intro t k
    show Steps p.tables e below (T108.setTop (mkF m 24 #[.val (.int q0), .val (.int (q0.toInt8.toInt32)), .val (.int (q0 &&& (255 : Int32))), .val (.int (own_f1 o1 (q0.toInt8.toInt32) (0 : Int32))), .unset] [(.int (own_f1 o2 (q0.toInt8.toInt32) (1 : Int32)))])) t
    refine XS.istore X108.here hx rfl (hb hby at_24) rfl (l' := #[.val (.int q0), .val (.int (q0.toInt8.toInt32)), .val (.int (q0 &&& (255 : Int32))), .val (.int (own_f1 o1 (q0.toInt8.toInt32) (0 : Int32))), .val (.int (own_f1 o2 (q0.toInt8.toInt32) (1 : Int32)))]) rfl ?_
    show Steps p.tables e below (T108.setTop (mkF m 26 #[.val (.int q0), .val (.int (q0.toInt8.toInt32)), .val (.int (q0 &&& (255 : Int32))), .val (.int (own_f1 o1 (q0.toInt8.toInt32) (0 : Int32))), .val (.int (own_f1 o2 (q0.toInt8.toInt32) (1 : Int32)))] [])) t
    refine XS.iloadN X108.here hx rfl (hb hby at_26) rfl ?_
    show Steps p.tables e below (T108.setTop (mkF m 27 #[.val (.int q0), .val (.int (q0.toInt8.toInt32)), .val (.int (q0 &&& (255 : Int32))), .val (.int (own_f1 o1 (q0.toInt8.toInt32) (0 : Int32))), .val (.int (own_f1 o2 (q0.toInt8.toInt32) (1 : Int32)))] [(.int (own_f1 o1 (q0.toInt8.toInt32) (0 : Int32)))])) t
    refine XS.iloadN X108.here hx rfl (hb hby at_27) rfl ?_
    show Steps p.tables e below (T108.setTop (mkF m 28 #[.val (.int q0), .val (.int (q0.toInt8.toInt32)), .val (.int (q0 &&& (255 : Int32))), .val (.int (own_f1 o1 (q0.toInt8.toInt32) (0 : Int32))), .val (.int (own_f1 o2 (q0.toInt8.toInt32) (1 : Int32)))] [(.int (q0 &&& (255 : Int32))), (.int (own_f1 o1 (q0.toInt8.toInt32) (0 : Int32)))])) t
    refine XS.iconst X108.here hx rfl (hb hby at_28) ?_
    exact k
  refine OFin.go sg109 ?_
  obtain ⟨_, _, ⟨T110, L110, k110, n110⟩, -, X110, ⟨Lc110, hQ110, l110, y110, z110⟩, st110⟩ := Jvm.LawKit.callS X108 hx (y := (⟨"com/example/rida/rida/check/LineBreaksIsWhitespacePinLaw", "expected", "(IZ)Z"⟩ : MethodName)) hown (mvT hZ (hw _ (List.mem_of_getElem? (i := 10) rfl))) (mvT hZ (hw _ (List.mem_of_getElem? (i := 11) rfl))) (mvT hZ (hw _ (List.mem_of_getElem? (i := 12) rfl))) (mvT hZ (hw _ (List.mem_of_getElem? (i := 13) rfl))) (by decide) (backOf (W := 1) (rm2 l Z aZ hw [] (q0 &&& (255 : Int32)) (0 : Int32) h0 n0 (Nat.le_trans Z0 K0.1) ) hZ (hw _ (List.mem_of_getElem? (i := 13) rfl)) (hw _ (List.mem_of_getElem? (i := 12) rfl)) (by decide) (by decide)) (g := (mkF m 29 #[.val (.int q0), .val (.int (q0.toInt8.toInt32)), .val (.int (q0 &&& (255 : Int32))), .val (.int (own_f1 o1 (q0.toInt8.toInt32) (0 : Int32))), .val (.int (own_f1 o2 (q0.toInt8.toInt32) (1 : Int32)))] [(.int (0 : Int32)), (.int (q0 &&& (255 : Int32))), (.int (own_f1 o1 (q0.toInt8.toInt32) (0 : Int32)))])) rfl (by rw [hml]; rfl) (argsL := [(.int (q0 &&& (255 : Int32))), (.int (0 : Int32))]) (rest := [(.int (own_f1 o1 (q0.toInt8.toInt32) (0 : Int32)))]) (lenOf pd_1 rfl) rfl (by show 2 * 0 + _ ≤ _; exact Nat.le_of_eq rfl) (hb hby at_29) (fun _ _ => ⟨rfl, e108, (by decide : 0 + 0 ≤ _), (by decide : 0 + 0 ≤ _)⟩)
  dsimp only [Pt.U, Pt.locs, Pt.cells, Pt.slots] at X110 l110 y110 z110 st110 hQ110
  subst l110 y110 z110
  obtain ⟨rfl, N110q, e110⟩ := hQ110
  have N110 := Fr.app N108 N110q
  refine OFin.go st110 ?_
  have c111 : (own_f1 o1 (q0.toInt8.toInt32) (0 : Int32)) = (own_f2 (q0 &&& (255 : Int32)) (0 : Int32)) := own_one _ _
  have sg112 : ∀ t, Steps p.tables e below (T110.setTop (mkF m 39 #[.val (.int q0), .val (.int (q0.toInt8.toInt32)), .val (.int (q0 &&& (255 : Int32))), .val (.int (own_f1 o1 (q0.toInt8.toInt32) (0 : Int32))), .val (.int (own_f1 o2 (q0.toInt8.toInt32) (1 : Int32)))] [(.int (1 : Int32)), (.int (q0 &&& (255 : Int32))), (.int (own_f1 o2 (q0.toInt8.toInt32) (1 : Int32)))])) t → Steps p.tables e below (T110.setTop (mkF m 32 #[.val (.int q0), .val (.int (q0.toInt8.toInt32)), .val (.int (q0 &&& (255 : Int32))), .val (.int (own_f1 o1 (q0.toInt8.toInt32) (0 : Int32))), .val (.int (own_f1 o2 (q0.toInt8.toInt32) (1 : Int32)))] [(.int (own_f2 (q0 &&& (255 : Int32)) (0 : Int32))), (.int (own_f1 o1 (q0.toInt8.toInt32) (0 : Int32)))])) t := by
    intro t k
    show Steps p.tables e below (T110.setTop (mkF m 32 #[.val (.int q0), .val (.int (q0.toInt8.toInt32)), .val (.int (q0 &&& (255 : Int32))), .val (.int (own_f1 o1 (q0.toInt8.toInt32) (0 : Int32))), .val (.int (own_f1 o2 (q0.toInt8.toInt32) (1 : Int32)))] [(.int (own_f2 (q0 &&& (255 : Int32)) (0 : Int32))), (.int (own_f1 o1 (q0.toInt8.toInt32) (0 : Int32)))])) t
    refine XS.icmpNo X110.here hx rfl (hb hby at_32) rfl (teq c111).2 ?_
    show Steps p.tables e below (T110.setTop (mkF m 35 #[.val (.int q0), .val (.int (q0.toInt8.toInt32)), .val (.int (q0 &&& (255 : Int32))), .val (.int (own_f1 o1 (q0.toInt8.toInt32) (0 : Int32))), .val (.int (own_f1 o2 (q0.toInt8.toInt32) (1 : Int32)))] [])) t
    refine XS.iload X110.here hx rfl (hb hby at_35) rfl ?_
    show Steps p.tables e below (T110.setTop (mkF m 37 #[.val (.int q0), .val (.int (q0.toInt8.toInt32)), .val (.int (q0 &&& (255 : Int32))), .val (.int (own_f1 o1 (q0.toInt8.toInt32) (0 : Int32))), .val (.int (own_f1 o2 (q0.toInt8.toInt32) (1 : Int32)))] [(.int (own_f1 o2 (q0.toInt8.toInt32) (1 : Int32)))])) t
    refine XS.iloadN X110.here hx rfl (hb hby at_37) rfl ?_
    show Steps p.tables e below (T110.setTop (mkF m 38 #[.val (.int q0), .val (.int (q0.toInt8.toInt32)), .val (.int (q0 &&& (255 : Int32))), .val (.int (own_f1 o1 (q0.toInt8.toInt32) (0 : Int32))), .val (.int (own_f1 o2 (q0.toInt8.toInt32) (1 : Int32)))] [(.int (q0 &&& (255 : Int32))), (.int (own_f1 o2 (q0.toInt8.toInt32) (1 : Int32)))])) t
    refine XS.iconst X110.here hx rfl (hb hby at_38) ?_
    exact k
  refine OFin.go sg112 ?_
  obtain ⟨_, _, ⟨T113, L113, k113, n113⟩, -, X113, ⟨Lc113, hQ113, l113, y113, z113⟩, st113⟩ := Jvm.LawKit.callS X110 hx (y := (⟨"com/example/rida/rida/check/LineBreaksIsWhitespacePinLaw", "expected", "(IZ)Z"⟩ : MethodName)) hown (mvT hZ (hw _ (List.mem_of_getElem? (i := 10) rfl))) (mvT hZ (hw _ (List.mem_of_getElem? (i := 11) rfl))) (mvT hZ (hw _ (List.mem_of_getElem? (i := 12) rfl))) (mvT hZ (hw _ (List.mem_of_getElem? (i := 13) rfl))) (by decide) (backOf (W := 1) (rm2 l Z aZ hw [] (q0 &&& (255 : Int32)) (1 : Int32) h0 n0 (Nat.le_trans Z0 K0.1) ) hZ (hw _ (List.mem_of_getElem? (i := 13) rfl)) (hw _ (List.mem_of_getElem? (i := 12) rfl)) (by decide) (by decide)) (g := (mkF m 39 #[.val (.int q0), .val (.int (q0.toInt8.toInt32)), .val (.int (q0 &&& (255 : Int32))), .val (.int (own_f1 o1 (q0.toInt8.toInt32) (0 : Int32))), .val (.int (own_f1 o2 (q0.toInt8.toInt32) (1 : Int32)))] [(.int (1 : Int32)), (.int (q0 &&& (255 : Int32))), (.int (own_f1 o2 (q0.toInt8.toInt32) (1 : Int32)))])) rfl (by rw [hml]; rfl) (argsL := [(.int (q0 &&& (255 : Int32))), (.int (1 : Int32))]) (rest := [(.int (own_f1 o2 (q0.toInt8.toInt32) (1 : Int32)))]) (lenOf pd_1 rfl) rfl (by show 2 * 0 + _ ≤ _; exact Nat.le_of_eq rfl) (hb hby at_39) (fun _ _ => ⟨rfl, e110, (by decide : 0 + 0 ≤ _), (by decide : 0 + 0 ≤ _)⟩)
  dsimp only [Pt.U, Pt.locs, Pt.cells, Pt.slots] at X113 l113 y113 z113 st113 hQ113
  subst l113 y113 z113
  obtain ⟨rfl, N113q, e113⟩ := hQ113
  have N113 := Fr.app N110 N113q
  refine OFin.go st113 ?_
  have c114 : (own_f1 o2 (q0.toInt8.toInt32) (1 : Int32)) = (own_f2 (q0 &&& (255 : Int32)) (1 : Int32)) := own_two _ _
  have sg115 : ∀ t, Steps p.tables e below (T113.setTop (mkF m 50 #[.val (.int q0), .val (.int (q0.toInt8.toInt32)), .val (.int (q0 &&& (255 : Int32))), .val (.int (own_f1 o1 (q0.toInt8.toInt32) (0 : Int32))), .val (.int (own_f1 o2 (q0.toInt8.toInt32) (1 : Int32)))] [(.int (1 : Int32))])) t → Steps p.tables e below (T113.setTop (mkF m 42 #[.val (.int q0), .val (.int (q0.toInt8.toInt32)), .val (.int (q0 &&& (255 : Int32))), .val (.int (own_f1 o1 (q0.toInt8.toInt32) (0 : Int32))), .val (.int (own_f1 o2 (q0.toInt8.toInt32) (1 : Int32)))] [(.int (own_f2 (q0 &&& (255 : Int32)) (1 : Int32))), (.int (own_f1 o2 (q0.toInt8.toInt32) (1 : Int32)))])) t := by
    intro t k
    show Steps p.tables e below (T113.setTop (mkF m 42 #[.val (.int q0), .val (.int (q0.toInt8.toInt32)), .val (.int (q0 &&& (255 : Int32))), .val (.int (own_f1 o1 (q0.toInt8.toInt32) (0 : Int32))), .val (.int (own_f1 o2 (q0.toInt8.toInt32) (1 : Int32)))] [(.int (own_f2 (q0 &&& (255 : Int32)) (1 : Int32))), (.int (own_f1 o2 (q0.toInt8.toInt32) (1 : Int32)))])) t
    refine XS.icmpNo X113.here hx rfl (hb hby at_42) rfl (teq c114).2 ?_
    show Steps p.tables e below (T113.setTop (mkF m 45 #[.val (.int q0), .val (.int (q0.toInt8.toInt32)), .val (.int (q0 &&& (255 : Int32))), .val (.int (own_f1 o1 (q0.toInt8.toInt32) (0 : Int32))), .val (.int (own_f1 o2 (q0.toInt8.toInt32) (1 : Int32)))] [])) t
    refine XS.iconst X113.here hx rfl (hb hby at_45) ?_
    show Steps p.tables e below (T113.setTop (mkF m 46 #[.val (.int q0), .val (.int (q0.toInt8.toInt32)), .val (.int (q0 &&& (255 : Int32))), .val (.int (own_f1 o1 (q0.toInt8.toInt32) (0 : Int32))), .val (.int (own_f1 o2 (q0.toInt8.toInt32) (1 : Int32)))] [(.int (1 : Int32))])) t
    refine XS.goto X113.here hx rfl (pc0 := 46) (pc' := 50) rfl (hb hby at_46) (by decide) (by decide) ?_
    exact k
  refine OFin.go sg115 ?_
  exact OFin.retN X113 hx hret (by simp) hlk (hb hby at_50) rfl (by rw [e113]; exact ⟨rfl, N113⟩) (by decide) (by decide)
set_option maxHeartbeats 40000000 in
theorem comes_1 {Post : Tables → Env → Array Value → State → Outcome → State → Prop} (hpost : ∀ tb e args s v u, (limb_1_1.after args s (.returned v) u = true ∧ limb_1_2.after args s (.returned v) u = true ∧ True) → FrameEnd s (.returned v) u (Jvm.fieldLocs frame_1_writes args s ++ Jvm.arrayLocs frame_1_arrays args s ++ Jvm.staticLocs frame_1_statics s) 0 0 → Post tb e args s (.returned v) u) :
    ArmFor flags0 classFile x code maxLocals ret World_1 tables_1 room_1 Calls_1 rest_1 Pre_1 Post := by
  intro l hfl _ _ p e ha hc hk s m args below hf hA hF happ hP
  obtain ⟨hcalls, hrest, hpre⟩ := hP
  obtain ⟨-, -, -, hnamed, -, -, -, hat⟩ := (Spec.applies_iff hf).mp happ
  obtain ⟨hg, hn⟩ := and_e (Cond.before_iff.mp (show (Jvm.Cond.and given_1 narrow_1).before args s = true from hpre))
  obtain ⟨gg1, gg2⟩ := and_e hg
  obtain ⟨w0, rfl⟩ : ∃ w0 : Value, args = #[w0] := by
    have hs : args.size = 1 := by simpa [Cond.value, given_1] using gg1
    obtain ⟨L⟩ := args
    match L, hs with
    | [w0], _ => exact ⟨w0, rfl⟩
  have hw := fun d (hd : d ∈ tables_1) => atoms_spec (ws := Jvm.Cond.code x code maxLocals ret :: tables_1) hat d (List.mem_cons_of_mem _ hd)
  have hfit : Fit s := fun {y c} hc i hi => by
    obtain ⟨ha, rfl⟩ := Array.getElem?_eq_some_iff.mp hc
    have q := List.all_eq_true.mp ((Array.all_eq_true_iff_forall_mem.mp hF) _ (Array.getElem_mem ha)) i (List.mem_range.mpr hi)
    simpa [Array.getElem?_eq_getElem hi] using q
  obtain ⟨i0, ei0⟩ := is_v gg2
  obtain rfl : w0 = (.int i0) := Option.some.inj ei0
  obtain ⟨n1, hn2⟩ := and_e (show narrow_1.value _ s none s [] = some true from hn)
  obtain ⟨n2, hn3⟩ := and_e hn2
  obtain ⟨n3, n4⟩ := and_e hn3
  obtain ⟨o1, ev1⟩ := exa_v n1
  obtain ⟨o2, ev2⟩ := exa_v n2
  have S1 := Sta.start ev1 (Or.inr ⟨(hw _ (List.mem_of_getElem? (i := 1) rfl)), (hw _ (List.mem_of_getElem? (i := 2) rfl))⟩)
  have S2 := Sta.start ev2 (Or.inr ⟨(hw _ (List.mem_of_getElem? (i := 1) rfl)), (hw _ (List.mem_of_getElem? (i := 9) rfl))⟩)
  have E1 := Exa.start ev1 n1
  have E2 := Exa.start ev2 n2
  have F1 := Fld.start ((fld_at ev1).symm.trans (own_eqint n3))
  have F2 := Fld.start ((fld_at ev2).symm.trans (own_eqint n4))
  obtain ⟨n, o, h1, h2, h3, _, L, rfl, ⟨rfl, N⟩, hq⟩ := rm0 l s _ hw tables_1 i0 o1 o2 s.heap s.heap.size (Nat.le_refl _) (Old.start s) S1 S2 E1 E2 F1 F2 p e ha hc hk s m _ below hf ((Spec.applies_iff_loose hf).mp happ).1 ⟨rfl, State.Warmed39.refl s, rfl⟩ trivial
  refine ⟨n, _, h1, h2, h3, hpost _ _ _ _ _ _ ⟨Cond.after_iff.mpr rfl, Cond.after_iff.mpr (eq_i res_at (Term.int_eval (1)) rfl), trivial⟩ ⟨hq.1, hq.2.1, (hq.2.2.sift fun y hy => Or.inr (N y hy)).mono (by decide) (by decide)⟩⟩
theorem main_1_1 : Claimed_1_1 := comes_1 fun _ _ _ _ _ _ h hF => ⟨h.1, hF⟩
theorem main_1_2 : Claimed_1_2 := comes_1 fun _ _ _ _ _ _ h hF => ⟨h.2.1, hF⟩
end Jvm.Pilot.@@N@@
namespace Jvm.Pilot.@@N@@
open Jvm Jvm.ClassFile Sem Op Lib Jvm.Free Jvm.Stand Jvm.Pilot.@@N@@.Jvm.D
/-! MADE BY PROGRAM (witnessworld.py) out of the Statement's table words and the real class files: 12 classes; the members and pool entries that the words name. The judged class is class 1, her method 4. -/
namespace start1
open Jvm.ClassFile
def u (s : String) : CpInfo := .utf8 (stringToUtf16 s)
/-- a pool by its gaps: so many unusable entries, then the entry; so many at the end -/
def gap : Nat → List CpInfo → List CpInfo
  | 0, r => r
  | n + 1, r => .unusable :: gap n r
def poolList (es : List (Nat × CpInfo)) (last : Nat) : List CpInfo := es.foldr (fun e r => gap e.1 (e.2 :: r)) (gap last [])
def pool (es : List (Nat × CpInfo)) (last : Nat) : Array CpInfo := ⟨poolList es last⟩
def fileOf (pool : Array CpInfo) (this : Nat) (attrs : Array Attribute := #[]) (ms : Array MethodInfo := #[]) (fl : Nat := 33) (sup : Nat := 0) (ifs : Array Nat := #[]) (fds : Array FieldInfo := #[]) : ClassFile where
  minorVersion := 0
  majorVersion := 65
  constantPool := pool
  accessFlags := fl
  thisClass := this
  superClass := sup
  interfaces := ifs
  fields := fds
  methods := ms
  attributes := attrs
def plain (name : String) (sup : Option ClassId) : Class where
  name := name
  kind := .ordinary
  loader := none
  accessFlags := 33
  super := sup
  interfaces := #[]
  cf := none
  fields := #[]
  methods := #[]
  instanceTypes := #[]
  staticTypes := #[]
  resolved := #[]
  callSites := []
  init := .initialized
  statics := none
  mirror := none

def pool0 : Array CpInfo := pool [(5, u "<init>"), (0, u "()V"), (1, .class_ 10), (1, u "java/lang/Object")] 113

def k0m0 : Method := { name := "<init>", desc := "()V", sig := { parameters := [], returnType := none }, accessFlags := 1, code := none }
/-- java/lang/Object -/
def k0 : Class := { plain "java/lang/Object" none with
  accessFlags := 33
  interfaces := #[]
  cf := some (fileOf pool0 8 #[] #[{ accessFlags := 1, nameIndex := 5, descriptorIndex := 6, attributes := #[] }] 33 0 #[] #[])
  fields := #[]
  methods := #[k0m0]
  instanceTypes := #[]
  staticTypes := #[]
  resolved := Array.replicate 124 none
  statics := none }

def pool1 : Array CpInfo := pool [(2, .class_ 4), (1, u "java/lang/Object"), (0, u "<init>"), (0, u "()V"), (0, .methodref 8 9), (0, .class_ 10), (0, .nameAndType 11 12), (0, u "com/example/rida/rida/check/LineBreaksIsWhitespacePinLaw"), (0, u "jsonWhitespace"), (0, u "(I)Z"), (0, .methodref 8 14), (0, .nameAndType 15 16), (0, u "breaksLine"), (0, u "(IZ)Z"), (0, .fieldref 18 19), (0, .class_ 20), (0, .nameAndType 21 22), (0, u "com/example/rida/rida/check/LineBreaks"), (0, u "LF_AND_CR"), (0, u "Lcom/example/rida/rida/check/LineBreaks;"), (0, .methodref 18 24), (0, .nameAndType 25 26), (0, u "isWhitespace"), (0, u "(B)Z"), (0, .fieldref 18 28), (0, .nameAndType 29 22), (0, u "LF"), (0, .methodref 8 31), (0, .nameAndType 32 16), (0, u "expected"), (3, u "law")] 2

def k1m0 : Method := { name := "<init>", desc := "()V", sig := { parameters := [], returnType := none }, accessFlags := 2, code := none }
def k1c1 : Code := { maxStack := 2, maxLocals := 1, code := method_2_code, exceptionTable := #[], attributes := #[] }
def k1m1 : Method := { name := "jsonWhitespace", desc := "(I)Z", sig := { parameters := [.int], returnType := some .boolean }, accessFlags := 10, code := some k1c1 }
def k1c2 : Code := { maxStack := 2, maxLocals := 2, code := method_3_code, exceptionTable := #[], attributes := #[] }
def k1m2 : Method := { name := "breaksLine", desc := "(IZ)Z", sig := { parameters := [.int, .boolean], returnType := some .boolean }, accessFlags := 10, code := some k1c2 }
def k1c3 : Code := { maxStack := 2, maxLocals := 2, code := method_4_code, exceptionTable := #[], attributes := #[] }
def k1m3 : Method := { name := "expected", desc := "(IZ)Z", sig := { parameters := [.int, .boolean], returnType := some .boolean }, accessFlags := 10, code := some k1c3 }
def k1c4 : Code := { maxStack := 3, maxLocals := 5, code := code, exceptionTable := #[], attributes := #[] }
def k1m4 : Method := { name := "law", desc := "(I)Z", sig := { parameters := [.int], returnType := some .boolean }, accessFlags := 9, code := some k1c4 }
/-- com/example/rida/rida/check/LineBreaksIsWhitespacePinLaw -/
def k1 : Class := { plain "com/example/rida/rida/check/LineBreaksIsWhitespacePinLaw" (some 0) with
  accessFlags := 49
  interfaces := #[]
  cf := some (fileOf pool1 8 #[] #[{ accessFlags := 2, nameIndex := 5, descriptorIndex := 6, attributes := #[] }, { accessFlags := 10, nameIndex := 11, descriptorIndex := 12, attributes := #[] }, { accessFlags := 10, nameIndex := 15, descriptorIndex := 16, attributes := #[] }, { accessFlags := 10, nameIndex := 32, descriptorIndex := 16, attributes := #[] }, { accessFlags := 9, nameIndex := 36, descriptorIndex := 12, attributes := #[] }] 49 2 #[] #[])
  fields := #[]
  methods := #[k1m0, k1m1, k1m2, k1m3, k1m4]
  instanceTypes := #[]
  staticTypes := #[]
  resolved := Array.replicate 39 none
  statics := none }

def pool2 : Array CpInfo := pool [(1, .class_ 2), (0, u "java/lang/constant/Constable"), (0, .class_ 4), (0, u "java/lang/Object")] 6

/-- java/lang/constant/Constable -/
def k2 : Class := { plain "java/lang/constant/Constable" (some 0) with
  accessFlags := 1537
  interfaces := #[]
  cf := some (fileOf pool2 1 #[] #[] 1537 3 #[] #[])
  fields := #[]
  methods := #[]
  instanceTypes := #[]
  staticTypes := #[]
  resolved := Array.replicate 11 none
  statics := none }

def pool3 : Array CpInfo := pool [(1, .class_ 2), (0, u "java/lang/Comparable"), (0, .class_ 4), (0, u "java/lang/Object")] 7

/-- java/lang/Comparable -/
def k3 : Class := { plain "java/lang/Comparable" (some 0) with
  accessFlags := 1537
  interfaces := #[]
  cf := some (fileOf pool3 1 #[] #[] 1537 3 #[] #[])
  fields := #[]
  methods := #[]
  instanceTypes := #[]
  staticTypes := #[]
  resolved := Array.replicate 12 none
  statics := none }

def pool4 : Array CpInfo := pool [(1, .class_ 2), (0, u "java/io/Serializable"), (0, .class_ 4), (0, u "java/lang/Object")] 2

/-- java/io/Serializable -/
def k4 : Class := { plain "java/io/Serializable" (some 0) with
  accessFlags := 1537
  interfaces := #[]
  cf := some (fileOf pool4 1 #[] #[] 1537 3 #[] #[])
  fields := #[]
  methods := #[]
  instanceTypes := #[]
  staticTypes := #[]
  resolved := Array.replicate 7 none
  statics := none }

def pool5 : Array CpInfo := pool [(2, .class_ 4), (1, u "java/lang/Enum"), (0, u "name"), (0, u "Ljava/lang/String;"), (2, u "ordinal"), (0, u "I"), (1, .class_ 14), (1, u "java/lang/Object"), (4, u "hash"), (86, .class_ 108), (1, u "java/lang/Enum$EnumDesc"), (2, .class_ 112), (0, u "java/lang/constant/Constable"), (0, .class_ 114), (0, u "java/lang/Comparable"), (0, .class_ 116), (0, u "java/io/Serializable")] 87

/-- java/lang/Enum -/
def k5 : Class := { plain "java/lang/Enum" (some 0) with
  accessFlags := 1057
  interfaces := #[2, 3, 4]
  cf := some (fileOf pool5 2 #[.nestMembers #[106]] #[] 1057 12 #[111, 113, 115] #[{ accessFlags := 18, nameIndex := 5, descriptorIndex := 6, attributes := #[] }, { accessFlags := 18, nameIndex := 9, descriptorIndex := 10, attributes := #[] }, { accessFlags := 2, nameIndex := 19, descriptorIndex := 10, attributes := #[] }])
  fields := #[{ name := "name", type := (.object "java/lang/String"), accessFlags := 18, slot := 0, constantValue := 0 }, { name := "ordinal", type := .int, accessFlags := 18, slot := 1, constantValue := 0 }, { name := "hash", type := .int, accessFlags := 2, slot := 2, constantValue := 0 }]
  methods := #[]
  instanceTypes := #[(.object "java/lang/String"), .int, .int]
  staticTypes := #[]
  resolved := Array.replicate 204 none
  statics := none }

def pool6 : Array CpInfo := pool [(1, .class_ 2), (0, u "com/example/rida/rida/check/LineBreaks"), (2, u "LF_AND_CR"), (0, u "Lcom/example/rida/rida/check/LineBreaks;"), (2, u "LF"), (2, u "$VALUES"), (0, u "[Lcom/example/rida/rida/check/LineBreaks;"), (6, .class_ 22), (1, u "java/lang/Enum"), (6, .fieldref 1 30), (0, .nameAndType 31 32), (0, u "crIsWhitespace"), (0, u "Z"), (2, u "notARecord"), (0, u "Ljava/lang/String;"), (58, u "isWhitespace"), (0, u "(B)Z")] 29

def k6c0 : Code := { maxStack := 2, maxLocals := 2, code := prog_2_method_4_code, exceptionTable := #[], attributes := #[] }
def k6m0 : Method := { name := "isWhitespace", desc := "(B)Z", sig := { parameters := [.byte], returnType := some .boolean }, accessFlags := 1, code := some k6c0 }
/-- com/example/rida/rida/check/LineBreaks -/
def k6 : Class := { plain "com/example/rida/rida/check/LineBreaks" (some 5) with
  accessFlags := 16433
  interfaces := #[]
  cf := some (fileOf pool6 1 #[] #[{ accessFlags := 1, nameIndex := 95, descriptorIndex := 96, attributes := #[] }] 16433 20 #[] #[{ accessFlags := 16409, nameIndex := 5, descriptorIndex := 6, attributes := #[] }, { accessFlags := 16409, nameIndex := 9, descriptorIndex := 6, attributes := #[] }, { accessFlags := 18, nameIndex := 31, descriptorIndex := 32, attributes := #[] }, { accessFlags := 18, nameIndex := 35, descriptorIndex := 36, attributes := #[] }, { accessFlags := 4122, nameIndex := 12, descriptorIndex := 13, attributes := #[] }])
  fields := #[{ name := "LF_AND_CR", type := (.object "com/example/rida/rida/check/LineBreaks"), accessFlags := 16409, slot := 0, constantValue := 0 }, { name := "LF", type := (.object "com/example/rida/rida/check/LineBreaks"), accessFlags := 16409, slot := 1, constantValue := 0 }, { name := "crIsWhitespace", type := .boolean, accessFlags := 18, slot := 3, constantValue := 0 }, { name := "notARecord", type := (.object "java/lang/String"), accessFlags := 18, slot := 4, constantValue := 0 }, { name := "$VALUES", type := (.array (.object "com/example/rida/rida/check/LineBreaks")), accessFlags := 4122, slot := 2, constantValue := 0 }]
  methods := #[k6m0]
  instanceTypes := #[(.object "java/lang/String"), .int, .int, .boolean, (.object "java/lang/String")]
  staticTypes := #[(.object "com/example/rida/rida/check/LineBreaks"), (.object "com/example/rida/rida/check/LineBreaks"), (.array (.object "com/example/rida/rida/check/LineBreaks"))]
  resolved := Array.replicate 126 none
  statics := some 0 }

def pool7 : Array CpInfo := pool [(1, u "java/lang/Cloneable"), (0, .class_ 1), (0, u "java/lang/Object"), (0, .class_ 3)] 3

/-- java/lang/Cloneable -/
def k7 : Class := { plain "java/lang/Cloneable" (some 0) with
  accessFlags := 1537
  interfaces := #[]
  cf := some (fileOf pool7 2 #[] #[] 1537 4 #[] #[])
  fields := #[]
  methods := #[]
  instanceTypes := #[]
  staticTypes := #[]
  resolved := Array.replicate 8 none
  statics := none }

/-- the primitive byte -/
def k8 : Class := { plain "byte" none with kind := .primitive 'B', accessFlags := 0x411 }
/-- [B -/
def k9 : Class := { plain "[B" (some 0) with kind := .array 8 .byte, interfaces := #[7, 4], accessFlags := 1041 }

/-- the primitive int -/
def k10 : Class := { plain "int" none with kind := .primitive 'I', accessFlags := 0x411 }
/-- [I -/
def k11 : Class := { plain "[I" (some 0) with kind := .array 10 .int, interfaces := #[7, 4], accessFlags := 1041 }

def heap : Heap := #[{ cls := 6, slots := #[.ref 1, .ref 2, .null], vm := .statics 6 },
  { cls := 6, slots := #[.null, .int 0, .int 0, .int 0, .null], vm := .none },
  { cls := 6, slots := #[.null, .int 1, .int 0, .int 1, .null], vm := .none }]
def classes : Array Class := #[k0, k1, k2, k3, k4, k5, k6, k7, k8, k9, k10, k11]
def interned : List (Array UInt16 × Addr) := []
def slotsUsed : Nat := 13
def theMethod : MethodId := ⟨1, 4⟩
def args0 : Array Value := #[.int 5]
def aboutOver (below : List Frame) : State where
  vm := { classes := classes, interned := interned.toArray }
  heap := heap
  slotsUsed := slotsUsed
  threads := #[{ frames := .invoking theMethod args0 :: below }]
def below0 : List Frame := [.native { method := ⟨0, 0⟩, args := #[] }]
def about1 : State := aboutOver below0
def p0 : Program := .bare "" "" ""
def e0 : Env := launch0.env 0 0 0
theorem w_frames : about1.frames = Frame.invoking theMethod args0 :: below0 := rfl
set_option maxRecDepth 65536 in
theorem w_args : argsFit about1.vm theMethod args0 = true := by decide +kernel
set_option maxRecDepth 65536 in
theorem w_heap : heapFits about1 = true := by decide +kernel
set_option maxRecDepth 65536 in
theorem w_runnable : about1.curStatus? = some .runnable := by decide +kernel
set_option maxRecDepth 65536 in
theorem w_alone : about1.alone = true := by decide +kernel
set_option maxRecDepth 65536 in
theorem w_named : about1.methodNamed? x = some theMethod := by decide +kernel
set_option maxRecDepth 65536 in
theorem w_hears : about1.hears theMethod below0 = true := by decide +kernel
set_option maxRecDepth 65536 in
theorem w_ripe : about1.ripe theMethod args0 below0 = true := by decide +kernel
theorem w_running : about1.status = .running := rfl
set_option maxRecDepth 65536 in
theorem w_room : about1.hasRoom e0.platform room_1 = true :=
  launch0.hasRoom_least _ room_1 (by decide +kernel) (by decide +kernel) (by decide +kernel) (by decide +kernel) (by decide +kernel) (by decide +kernel)
theorem allAtoms_all (ts : List Jvm.Cond) (a : Array Jvm.Value) (st : Jvm.State) : (allAtoms ts).before a st = ts.all (fun c => c.before a st) := by
  induction ts with
  | nil => rfl
  | cons c t ih =>
    show (Jvm.Cond.and c (allAtoms t)).before a st = _
    rw [Jvm.Cond.before_and, ih, List.all_cons]
def words1 : List Jvm.Cond := Jvm.Cond.code x code maxLocals ret :: tables_1
/-- a 'code' word, met by the world's own term for the bytes: nothing is compared byte by byte -/
theorem code_word {y : MethodName} {bytes : ByteArray} {mx : Nat} {rt : Option FieldType} {a : Array Value} {s : State} {m : MethodId} {meth : Method} {c : Code} (h1 : s.methodNamed? y = some m) (h2 : s.vm.method? m = some meth) (h3 : meth.code = some c) (h4 : c.code = bytes)
    (h5 : (c.maxLocals == mx && c.exceptionTable.isEmpty && decide (c.maxStack ≤ mostOperands) && decide (meth.sig.returnType = rt) && !meth.locks && decide (parseMethodDescriptor y.desc = some meth.sig)) = true) : (Jvm.Cond.code y bytes mx rt).before a s = true := by
  simp only [Bool.and_eq_true, beq_iff_eq, Bool.not_eq_true', decide_eq_true_eq] at h5
  obtain ⟨⟨⟨⟨⟨g1, g2⟩, g3⟩, g4⟩, g5⟩, g6⟩ := h5
  simp [Cond.before, Cond.holds, Cond.value, h1, h2, h3, h4, g1, g2, g3, g4, g5, g6]
def isCode : Jvm.Cond → Bool
  | .code _ _ _ _ => true
  | _ => false
theorem all_split {L : List Jvm.Cond} {P : Jvm.Cond → Bool} (h1 : L.all (fun c => isCode c || P c) = true) (h2 : ∀ c ∈ L.filter isCode, P c = true) : L.all P = true := by
  refine List.all_eq_true.mpr fun c hc => ?_
  have h := List.all_eq_true.mp h1 c hc
  rcases Bool.eq_false_or_eq_true (isCode c) with hi | hi
  · exact h2 c (List.mem_filter.mpr ⟨hc, hi⟩)
  · simpa [hi] using h
set_option maxRecDepth 65536 in
theorem w_c0 : (Jvm.Cond.code x code maxLocals ret).before args0 about1 = true := code_word (m := ⟨1, 4⟩) (meth := k1m4) (c := k1c4) (by decide +kernel) rfl rfl rfl (by decide +kernel)
set_option maxRecDepth 65536 in
theorem w_c1 : (Jvm.Cond.code ({ cls := "com/example/rida/rida/check/LineBreaks", name := "isWhitespace", desc := "(B)Z" } : Jvm.MethodName) prog_2_method_4_code (2 : Nat) (Option.some Jvm.ClassFile.FieldType.boolean)).before args0 about1 = true := code_word (m := ⟨6, 0⟩) (meth := k6m0) (c := k6c0) (by decide +kernel) rfl rfl rfl (by decide +kernel)
set_option maxRecDepth 65536 in
theorem w_c2 : (Jvm.Cond.code ({ cls := "com/example/rida/rida/check/LineBreaksIsWhitespacePinLaw", name := "expected", desc := "(IZ)Z" } : Jvm.MethodName) method_4_code (2 : Nat) (Option.some Jvm.ClassFile.FieldType.boolean)).before args0 about1 = true := code_word (m := ⟨1, 3⟩) (meth := k1m3) (c := k1c3) (by decide +kernel) rfl rfl rfl (by decide +kernel)
set_option maxRecDepth 65536 in
theorem w_c3 : (Jvm.Cond.code ({ cls := "com/example/rida/rida/check/LineBreaksIsWhitespacePinLaw", name := "jsonWhitespace", desc := "(I)Z" } : Jvm.MethodName) method_2_code (1 : Nat) (Option.some Jvm.ClassFile.FieldType.boolean)).before args0 about1 = true := code_word (m := ⟨1, 1⟩) (meth := k1m1) (c := k1c1) (by decide +kernel) rfl rfl rfl (by decide +kernel)
set_option maxRecDepth 65536 in
theorem w_c4 : (Jvm.Cond.code ({ cls := "com/example/rida/rida/check/LineBreaksIsWhitespacePinLaw", name := "breaksLine", desc := "(IZ)Z" } : Jvm.MethodName) method_3_code (2 : Nat) (Option.some Jvm.ClassFile.FieldType.boolean)).before args0 about1 = true := code_word (m := ⟨1, 2⟩) (meth := k1m2) (c := k1c2) (by decide +kernel) rfl rfl rfl (by decide +kernel)
def codes1 : List Jvm.Cond := [Jvm.Cond.code x code maxLocals ret, Jvm.Cond.code ({ cls := "com/example/rida/rida/check/LineBreaks", name := "isWhitespace", desc := "(B)Z" } : Jvm.MethodName) prog_2_method_4_code (2 : Nat) (Option.some Jvm.ClassFile.FieldType.boolean), Jvm.Cond.code ({ cls := "com/example/rida/rida/check/LineBreaksIsWhitespacePinLaw", name := "expected", desc := "(IZ)Z" } : Jvm.MethodName) method_4_code (2 : Nat) (Option.some Jvm.ClassFile.FieldType.boolean), Jvm.Cond.code ({ cls := "com/example/rida/rida/check/LineBreaksIsWhitespacePinLaw", name := "jsonWhitespace", desc := "(I)Z" } : Jvm.MethodName) method_2_code (1 : Nat) (Option.some Jvm.ClassFile.FieldType.boolean), Jvm.Cond.code ({ cls := "com/example/rida/rida/check/LineBreaksIsWhitespacePinLaw", name := "breaksLine", desc := "(IZ)Z" } : Jvm.MethodName) method_3_code (2 : Nat) (Option.some Jvm.ClassFile.FieldType.boolean)]
set_option maxRecDepth 65536 in
theorem codes_eq : words1.filter isCode = codes1 := rfl
theorem w_codes : ∀ c ∈ words1.filter isCode, c.before args0 about1 = true := by
  rw [codes_eq]
  intro c hc
  simp only [codes1, List.mem_cons, List.not_mem_nil, or_false] at hc
  rcases hc with rfl | rfl | rfl | rfl | rfl
  · exact w_c0
  · exact w_c1
  · exact w_c2
  · exact w_c3
  · exact w_c4
set_option maxRecDepth 65536 in
theorem w_t1 : words1.all (fun c => isCode c || c.before args0 about1) = true := by decide +kernel
theorem w_tables : (allAtoms (Jvm.Cond.code x code maxLocals ret :: tables_1)).before args0 about1 = true := by
  rw [allAtoms_all]
  show words1.all (fun c => c.before args0 about1) = true
  refine all_split ?_ w_codes
  rw [w_t1]
set_option maxRecDepth 65536 in
theorem w_case : (Jvm.Cond.and given_1 narrow_1).before args0 about1 = true := by decide +kernel
theorem w_applies : (headSpec (Jvm.Cond.code x code maxLocals ret :: tables_1) room_1).applies x e0.platform about1 = true :=
  (Spec.applies_iff w_frames).mpr ⟨w_running, w_runnable, w_alone, w_named, w_hears, w_ripe, w_room, w_tables⟩
theorem atStart : AtStart classFile x code maxLocals ret World_1 tables_1 room_1 Calls_1 rest_1 Pre_1 launch0 p0 e0 about1 theMethod args0 below0 :=
  ⟨lists_1, trivial, launch0.admits_env _ _ _, launch0.least_env, fairChoices_fair.cas, fairChoices_fair.clock, w_frames, w_args, w_heap, w_applies, trivial, trivial, w_case⟩
end start1
theorem witness_1 : WitnessClaimed_1 := ⟨start1.p0, start1.e0, start1.about1, start1.theMethod, start1.args0, start1.below0, start1.atStart⟩
end Jvm.Pilot.@@N@@
