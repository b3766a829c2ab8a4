import JvmDerived
import JvmDerived.Pilot.@@N@@Statement
import JvmDerived.Pilot.@@N@@Code
set_option linter.unusedVariables false
set_option linter.unusedSimpArgs false
set_option maxRecDepth 65536
namespace Jvm.Pilot.@@N@@
open Jvm Jvm.ClassFile Sem Op Lib Jvm.Free Jvm.Stand Jvm.LawKit Jvm.RoadKit Bundle Jvm.Pilot.@@N@@.Jvm.D
/-- the run goes on from S to a return that Q says, within so many new cells and slots -/
def OFin (p : Program) (e : Env) (below : List Frame) (s : State) (Q : Option Value → Heap → List Loc → Prop) (cells slots : Nat) (S : State) : Prop :=
  ∃ s₂ o, Steps p.tables e below S s₂ ∧ s₂.status = .running ∧ Ended s₂ below o ∧ ∃ v L, o = .returned v ∧ Q v s₂.heap L ∧ FrameEnd s o s₂ L cells slots
section Own
variable {p : Program} {l : Launch} {e : Env} {R : Room} {s : State} {m : MethodId} {args : Array Value} {below : List Frame} {meth : Method} {c : Code} {T S S' : State} {locs : List Loc} {cells slots k n : Nat} {Q : Option Value → Heap → List Loc → Prop} {pc : Nat} {Ls : Array Slot} {rest : List Value}
theorem OFin.go (st : ∀ t, Steps p.tables e below S' t → Steps p.tables e below S t) (F : OFin p e below s Q cells slots S') : OFin p e below s Q cells slots S := by
  obtain ⟨s₂, o, h, r⟩ := F
  exact ⟨s₂, o, st _ h, r⟩
theorem OFin.tr (st : Steps p.tables e below S S') (F : OFin p e below s Q cells slots S') : OFin p e below s Q cells slots S := by
  obtain ⟨s₂, o, h, r⟩ := F
  exact ⟨s₂, o, st.trans h, r⟩
theorem OFin.ends (X : Stand p l e R s m args below meth c T locs k n) {v : Option Value} (hv : meth.sig.returnType = none → v = none) (hlk : meth.locks = false) (hq : Q v T.heap locs) (hk : k ≤ cells) (hn : n ≤ slots)
    (st : ∀ fs, (∀ (f : JFrame) (acts : List Action), f.method = m → f.locked = none → f.entered = [] → (doReturn e (T.setTop f) acts v).1 = T.setFrames fs) → Steps p.tables e below S (T.setFrames fs)) : OFin p e below s Q cells slots S := by
  obtain ⟨fs, hr, hrun, hended, hW, hsame⟩ := X.leave (v := v) hv hlk
  exact ⟨_, _, st fs hr, hrun, hended, _, _, rfl, hq, ⟨_, rfl⟩, hW, hsame.mono hk hn⟩
theorem OFin.retN (X : Stand p l e R s m args below meth c T locs k n) (hx : p.tables.exec = Jvm.exec) {z w : Int32} {t : FieldType} (hret : meth.sig.returnType = some t) (ht : t = .boolean ∨ t = .byte ∨ t = .char ∨ t = .short) (hlk : meth.locks = false)
    (hd : decode c.code pc = .ok (.ireturn, 1)) (hz : nar t z = w) (hq : Q (some (.int w)) T.heap locs) (hk : k ≤ cells) (hn : n ≤ slots) : OFin p e below s Q cells slots (T.setTop (mkF m pc Ls (.int z :: rest))) :=
  OFin.ends X (v := some (.int w)) (fun h => by rw [hret] at h; cases h) hlk hq hk hn fun fs hr => Jvm.RoadKit.retN X hx hret ht hd (by rw [hz]; exact hr)
theorem OFin.retI (X : Stand p l e R s m args below meth c T locs k n) (hx : p.tables.exec = Jvm.exec) {z : Int32} (hret : meth.sig.returnType = some .int) (hlk : meth.locks = false)
    (hd : decode c.code pc = .ok (.ireturn, 1)) (hq : Q (some (.int z)) T.heap locs) (hk : k ≤ cells) (hn : n ≤ slots) : OFin p e below s Q cells slots (T.setTop (mkF m pc Ls (.int z :: rest))) :=
  OFin.ends X (v := some (.int z)) (fun h => by rw [hret] at h; cases h) hlk hq hk hn fun fs hr => retOut X hx hret rfl (Or.inl ⟨rfl, Or.inl rfl, z, rfl⟩) hd hr
theorem OFin.retL (X : Stand p l e R s m args below meth c T locs k n) (hx : p.tables.exec = Jvm.exec) {z : Int64} (hret : meth.sig.returnType = some .long) (hlk : meth.locks = false)
    (hd : decode c.code pc = .ok (.lreturn, 1)) (hq : Q (some (.long z)) T.heap locs) (hk : k ≤ cells) (hn : n ≤ slots) : OFin p e below s Q cells slots (T.setTop (mkF m pc Ls (.long z :: rest))) :=
  OFin.ends X (v := some (.long z)) (fun h => by rw [hret] at h; cases h) hlk hq hk hn fun fs hr => retOut X hx hret rfl (Or.inr (Or.inl ⟨rfl, rfl, z, rfl⟩)) hd hr
theorem OFin.retA (X : Stand p l e R s m args below meth c T locs k n) (hx : p.tables.exec = Jvm.exec) {w : Value} {t : FieldType} (hret : meth.sig.returnType = some t) (ht : t.isReference = true) (hw : w.isRef = true) (hnr : narrow t w = w) (hlk : meth.locks = false)
    (hd : decode c.code pc = .ok (.areturn, 1)) (hq : Q (some w) T.heap locs) (hk : k ≤ cells) (hn : n ≤ slots) : OFin p e below s Q cells slots (T.setTop (mkF m pc Ls (w :: rest))) :=
  OFin.ends X (v := some w) (fun h => by rw [hret] at h; cases h) hlk hq hk hn fun fs hr => retOut X hx hret hnr (Or.inr (Or.inr (Or.inr (Or.inr ⟨rfl, ht, hw⟩)))) hd hr
theorem OFin.retV (X : Stand p l e R s m args below meth c T locs k n) (hx : p.tables.exec = Jvm.exec) (hret : meth.sig.returnType = none) (hlk : meth.locks = false)
    (hd : decode c.code pc = .ok (.return_, 1)) (hq : Q none T.heap locs) (hk : k ≤ cells) (hn : n ≤ slots) : OFin p e below s Q cells slots (T.setTop (mkF m pc Ls [])) :=
  OFin.ends X (v := none) (fun _ => rfl) hlk hq hk hn fun fs hr => X.returnOut hx hret hd hr
end Own
theorem d1_0 : decode prog_24_method_11_code 0 = .ok (.iload_n 0, 1) := by decide +kernel
theorem d1_1 : decode prog_24_method_11_code 1 = .ok (.bipush 9, 2) := by decide +kernel
theorem d1_3 : decode prog_24_method_11_code 3 = .ok (.if_icmp .eq 51, 3) := by decide +kernel
theorem d1_6 : decode prog_24_method_11_code 6 = .ok (.iload_n 0, 1) := by decide +kernel
theorem d1_7 : decode prog_24_method_11_code 7 = .ok (.bipush 10, 2) := by decide +kernel
theorem d1_9 : decode prog_24_method_11_code 9 = .ok (.if_icmp .eq 45, 3) := by decide +kernel
theorem d1_12 : decode prog_24_method_11_code 12 = .ok (.iload_n 0, 1) := by decide +kernel
theorem d1_13 : decode prog_24_method_11_code 13 = .ok (.bipush 13, 2) := by decide +kernel
theorem d1_15 : decode prog_24_method_11_code 15 = .ok (.if_icmp .eq 39, 3) := by decide +kernel
theorem d1_18 : decode prog_24_method_11_code 18 = .ok (.iload_n 0, 1) := by decide +kernel
theorem d1_19 : decode prog_24_method_11_code 19 = .ok (.bipush 32, 2) := by decide +kernel
theorem d1_21 : decode prog_24_method_11_code 21 = .ok (.if_icmp .lt 9, 3) := by decide +kernel
theorem d1_24 : decode prog_24_method_11_code 24 = .ok (.iload_n 0, 1) := by decide +kernel
theorem d1_25 : decode prog_24_method_11_code 25 = .ok (.ldc 83, 2) := by decide +kernel
theorem d1_27 : decode prog_24_method_11_code 27 = .ok (.if_icmp .le 27, 3) := by decide +kernel
theorem d1_30 : decode prog_24_method_11_code 30 = .ok (.iload_n 0, 1) := by decide +kernel
theorem d1_31 : decode prog_24_method_11_code 31 = .ok (.ldc 84, 2) := by decide +kernel
theorem d1_33 : decode prog_24_method_11_code 33 = .ok (.if_icmp .lt 9, 3) := by decide +kernel
theorem d1_36 : decode prog_24_method_11_code 36 = .ok (.iload_n 0, 1) := by decide +kernel
theorem d1_37 : decode prog_24_method_11_code 37 = .ok (.ldc 85, 2) := by decide +kernel
theorem d1_39 : decode prog_24_method_11_code 39 = .ok (.if_icmp .le 15, 3) := by decide +kernel
theorem d1_42 : decode prog_24_method_11_code 42 = .ok (.iload_n 0, 1) := by decide +kernel
theorem d1_43 : decode prog_24_method_11_code 43 = .ok (.ldc 86, 2) := by decide +kernel
theorem d1_45 : decode prog_24_method_11_code 45 = .ok (.if_icmp .lt 13, 3) := by decide +kernel
theorem d1_48 : decode prog_24_method_11_code 48 = .ok (.iload_n 0, 1) := by decide +kernel
theorem d1_49 : decode prog_24_method_11_code 49 = .ok (.ldc 89, 2) := by decide +kernel
theorem d1_51 : decode prog_24_method_11_code 51 = .ok (.if_icmp .gt 7, 3) := by decide +kernel
theorem d1_54 : decode prog_24_method_11_code 54 = .ok (.iconst 1, 1) := by decide +kernel
theorem d1_55 : decode prog_24_method_11_code 55 = .ok (.goto 4, 3) := by decide +kernel
theorem d1_58 : decode prog_24_method_11_code 58 = .ok (.iconst 0, 1) := by decide +kernel
theorem d1_59 : decode prog_24_method_11_code 59 = .ok (.ireturn, 1) := by decide +kernel
theorem pn_0 : plainName "com/example/avvik/avvik/io/XsdValues" = true := by first | (simp [plainName, overriddenIn]; done) | decide +kernel
theorem ef_1 (m : MethodId) (x0 : Int32) : entryFrame m #[(.int x0)] 1 = mkF m 0 #[.val (.int x0)] [] := by first | (simp [entryFrame, mkF, argsToLocals, Value.category]; done) | rfl
def own_f1 (q0 : Int32) : Int32 := (if q0 = (9 : Int32) then (1 : Int32) else (if q0 = (10 : Int32) then (1 : Int32) else (if q0 = (13 : Int32) then (1 : Int32) else (if q0 < (32 : Int32) then (if q0 < (57344 : Int32) then (if q0 < (65536 : Int32) then (0 : Int32) else (if (1114111 : Int32) < q0 then (0 : Int32) else (1 : Int32))) else (if (65533 : Int32) < q0 then (if q0 < (65536 : Int32) then (0 : Int32) else (if (1114111 : Int32) < q0 then (0 : Int32) else (1 : Int32))) else (1 : Int32))) else (if (55295 : Int32) < q0 then (if q0 < (57344 : Int32) then (if q0 < (65536 : Int32) then (0 : Int32) else (if (1114111 : Int32) < q0 then (0 : Int32) else (1 : Int32))) else (if (65533 : Int32) < q0 then (if q0 < (65536 : Int32) then (0 : Int32) else (if (1114111 : Int32) < q0 then (0 : Int32) else (1 : Int32))) else (1 : Int32))) else (1 : Int32))))))
def Q1 (Z : State) (q0 : Int32) (h0 : Heap) (n0 : Nat) (v : Option Value) (h : Heap) (L : List Loc) : Prop := v = some (.int (own_f1 q0)) ∧ Fr n0 L ∧ h = h0
set_option maxHeartbeats 40000000 in
theorem rm1 (l : Launch) (Z : State) (aZ : Array Value) (hw : ∀ d ∈ tables_1, d.before aZ Z = true) (ws : List Jvm.Cond) (q0 : Int32) (h0 : Heap) (n0 : Nat) (Z0 : n0 ≤ h0.size) :
    MetFree l (⟨"com/example/avvik/avvik/io/XsdValues", "isXmlChar", "(I)Z"⟩ : MethodName) (head1 (Jvm.Cond.code (⟨"com/example/avvik/avvik/io/XsdValues", "isXmlChar", "(I)Z"⟩ : MethodName) prog_24_method_11_code 1 (some .boolean) :: ws) ({ frames := 0, cells := 0, slots := 0, locals := 0 } : Room)) (fun a U => a = #[(.int q0)] ∧ Z.Warmed39 U.vm ∧ U.heap = h0) (fun _ _ _ _ _ => True) (fun _ U o U' => ∃ v L, o = .returned v ∧ Q1 Z q0 h0 n0 v U'.heap L ∧ FrameEnd U o U' L ({ frames := 0, cells := 0, slots := 0, locals := 0 } : Room).cells ({ frames := 0, cells := 0, slots := 0, locals := 0 } : Room).slots) := by
  refine MetFree.of_bodySF (plainFor_of_name pn_0) hisR ?_
  intro p e s m args below meth c s₁ Bd hml0 hP hK
  obtain ⟨rfl, hZ, hh⟩ := hP
  have hx := Bd.exec
  have hby := Bd.bytes
  have hret := Bd.returns
  have hlk : meth.locks = false := BodyLoose.notSynchronized Bd
  have hml : c.maxLocals = 1 := hml0
  have hown : s.vm.findClass "com/example/avvik/avvik/io/XsdValues" = some m.cls := findClass_of_methodNamed Bd.named
  have hnm := (name_of_methodNamed Bd.named Bd.method).1
  have X0 : Stand p l e ({ frames := 0, cells := 0, slots := 0, locals := 0 } : Room) s m #[(.int q0)] below meth c s₁ [] 0 0 := Stand.of_body Bd
  have e0 : s₁.heap = h0 := by rw [← hh, Bd.state]; rfl
  have N0 := Fr.nil n0
  have K0 : Keep h0 h0 [] := Keep.refl _ _
  have pre0 : ∀ t, Steps p.tables e below (s₁.setTop (mkF m 0 #[.val (.int q0)] [])) t → Steps p.tables e below (s₁.setTop (entryFrame m #[(.int q0)] 1)) t := fun t k => castTop (ef_1 m q0) k
  show OFin p e below s (Q1 Z q0 h0 n0) ({ frames := 0, cells := 0, slots := 0, locals := 0 } : Room).cells ({ frames := 0, cells := 0, slots := 0, locals := 0 } : Room).slots _
  refine OFin.go pre0 ?_
  have sg1 : ∀ t, Steps p.tables e below (s₁.setTop (mkF m 3 #[.val (.int q0)] [(.int (9 : Int32)), (.int q0)])) t → Steps p.tables e below (s₁.setTop (mkF m 0 #[.val (.int q0)] [])) t := by
    intro t k
    show Steps p.tables e below (s₁.setTop (mkF m 0 #[.val (.int q0)] [])) t
    refine XS.iloadN X0.here hx rfl (hb hby d1_0) rfl ?_
    show Steps p.tables e below (s₁.setTop (mkF m 1 #[.val (.int q0)] [(.int q0)])) t
    refine XS.bipush X0.here hx rfl (hb hby d1_1) ?_
    exact k
  refine OFin.go sg1 ?_
  by_cases c2 : q0 = (9 : Int32)
  · have sg3 : ∀ t, Steps p.tables e below (s₁.setTop (mkF m 59 #[.val (.int q0)] [(.int (1 : Int32))])) t → Steps p.tables e below (s₁.setTop (mkF m 3 #[.val (.int q0)] [(.int (9 : Int32)), (.int q0)])) t := by
      intro t k
      show Steps p.tables e below (s₁.setTop (mkF m 3 #[.val (.int q0)] [(.int (9 : Int32)), (.int q0)])) t
      refine XS.icmpYes X0.here hx rfl (pc0 := 3) (pc' := 54) rfl (hb hby d1_3) rfl (teq c2).1 (by decide) (by decide) ?_
      show Steps p.tables e below (s₁.setTop (mkF m 54 #[.val (.int q0)] [])) t
      refine XS.iconst X0.here hx rfl (hb hby d1_54) ?_
      show Steps p.tables e below (s₁.setTop (mkF m 55 #[.val (.int q0)] [(.int (1 : Int32))])) t
      refine XS.goto X0.here hx rfl (pc0 := 55) (pc' := 59) rfl (hb hby d1_55) (by decide) (by decide) ?_
      exact k
    refine OFin.go sg3 ?_
    exact OFin.retN X0 hx hret (by simp) hlk (hb hby d1_59) rfl (by rw [e0]; exact ⟨(congrArg (fun z => some (Value.int z)) (show (1 : Int32) = own_f1 q0 from (by rw [own_f1, if_pos c2]))), N0, rfl⟩) (by decide) (by decide)
  · have sg4 : ∀ t, Steps p.tables e below (s₁.setTop (mkF m 9 #[.val (.int q0)] [(.int (10 : Int32)), (.int q0)])) t → Steps p.tables e below (s₁.setTop (mkF m 3 #[.val (.int q0)] [(.int (9 : Int32)), (.int q0)])) t := by
      intro t k
      show Steps p.tables e below (s₁.setTop (mkF m 3 #[.val (.int q0)] [(.int (9 : Int32)), (.int q0)])) t
      refine XS.icmpNo X0.here hx rfl (hb hby d1_3) rfl (feq c2).1 ?_
      show Steps p.tables e below (s₁.setTop (mkF m 6 #[.val (.int q0)] [])) t
      refine XS.iloadN X0.here hx rfl (hb hby d1_6) rfl ?_
      show Steps p.tables e below (s₁.setTop (mkF m 7 #[.val (.int q0)] [(.int q0)])) t
      refine XS.bipush X0.here hx rfl (hb hby d1_7) ?_
      exact k
    refine OFin.go sg4 ?_
    by_cases c5 : q0 = (10 : Int32)
    · have sg6 : ∀ t, Steps p.tables e below (s₁.setTop (mkF m 59 #[.val (.int q0)] [(.int (1 : Int32))])) t → Steps p.tables e below (s₁.setTop (mkF m 9 #[.val (.int q0)] [(.int (10 : Int32)), (.int q0)])) t := by
        intro t k
        show Steps p.tables e below (s₁.setTop (mkF m 9 #[.val (.int q0)] [(.int (10 : Int32)), (.int q0)])) t
        refine XS.icmpYes X0.here hx rfl (pc0 := 9) (pc' := 54) rfl (hb hby d1_9) rfl (teq c5).1 (by decide) (by decide) ?_
        show Steps p.tables e below (s₁.setTop (mkF m 54 #[.val (.int q0)] [])) t
        refine XS.iconst X0.here hx rfl (hb hby d1_54) ?_
        show Steps p.tables e below (s₁.setTop (mkF m 55 #[.val (.int q0)] [(.int (1 : Int32))])) t
        refine XS.goto X0.here hx rfl (pc0 := 55) (pc' := 59) rfl (hb hby d1_55) (by decide) (by decide) ?_
        exact k
      refine OFin.go sg6 ?_
      exact OFin.retN X0 hx hret (by simp) hlk (hb hby d1_59) rfl (by rw [e0]; exact ⟨(congrArg (fun z => some (Value.int z)) (show (1 : Int32) = own_f1 q0 from (by rw [own_f1, if_neg c2, if_pos c5]))), N0, rfl⟩) (by decide) (by decide)
    · have sg7 : ∀ t, Steps p.tables e below (s₁.setTop (mkF m 15 #[.val (.int q0)] [(.int (13 : Int32)), (.int q0)])) t → Steps p.tables e below (s₁.setTop (mkF m 9 #[.val (.int q0)] [(.int (10 : Int32)), (.int q0)])) t := by
        intro t k
        show Steps p.tables e below (s₁.setTop (mkF m 9 #[.val (.int q0)] [(.int (10 : Int32)), (.int q0)])) t
        refine XS.icmpNo X0.here hx rfl (hb hby d1_9) rfl (feq c5).1 ?_
        show Steps p.tables e below (s₁.setTop (mkF m 12 #[.val (.int q0)] [])) t
        refine XS.iloadN X0.here hx rfl (hb hby d1_12) rfl ?_
        show Steps p.tables e below (s₁.setTop (mkF m 13 #[.val (.int q0)] [(.int q0)])) t
        refine XS.bipush X0.here hx rfl (hb hby d1_13) ?_
        exact k
      refine OFin.go sg7 ?_
      by_cases c8 : q0 = (13 : Int32)
      · have sg9 : ∀ t, Steps p.tables e below (s₁.setTop (mkF m 59 #[.val (.int q0)] [(.int (1 : Int32))])) t → Steps p.tables e below (s₁.setTop (mkF m 15 #[.val (.int q0)] [(.int (13 : Int32)), (.int q0)])) t := by
          intro t k
          show Steps p.tables e below (s₁.setTop (mkF m 15 #[.val (.int q0)] [(.int (13 : Int32)), (.int q0)])) t
          refine XS.icmpYes X0.here hx rfl (pc0 := 15) (pc' := 54) rfl (hb hby d1_15) rfl (teq c8).1 (by decide) (by decide) ?_
          show Steps p.tables e below (s₁.setTop (mkF m 54 #[.val (.int q0)] [])) t
          refine XS.iconst X0.here hx rfl (hb hby d1_54) ?_
          show Steps p.tables e below (s₁.setTop (mkF m 55 #[.val (.int q0)] [(.int (1 : Int32))])) t
          refine XS.goto X0.here hx rfl (pc0 := 55) (pc' := 59) rfl (hb hby d1_55) (by decide) (by decide) ?_
          exact k
        refine OFin.go sg9 ?_
        exact OFin.retN X0 hx hret (by simp) hlk (hb hby d1_59) rfl (by rw [e0]; exact ⟨(congrArg (fun z => some (Value.int z)) (show (1 : Int32) = own_f1 q0 from (by rw [own_f1, if_neg c2, if_neg c5, if_pos c8]))), N0, rfl⟩) (by decide) (by decide)
      · have sg10 : ∀ t, Steps p.tables e below (s₁.setTop (mkF m 21 #[.val (.int q0)] [(.int (32 : Int32)), (.int q0)])) t → Steps p.tables e below (s₁.setTop (mkF m 15 #[.val (.int q0)] [(.int (13 : Int32)), (.int q0)])) t := by
          intro t k
          show Steps p.tables e below (s₁.setTop (mkF m 15 #[.val (.int q0)] [(.int (13 : Int32)), (.int q0)])) t
          refine XS.icmpNo X0.here hx rfl (hb hby d1_15) rfl (feq c8).1 ?_
          show Steps p.tables e below (s₁.setTop (mkF m 18 #[.val (.int q0)] [])) t
          refine XS.iloadN X0.here hx rfl (hb hby d1_18) rfl ?_
          show Steps p.tables e below (s₁.setTop (mkF m 19 #[.val (.int q0)] [(.int q0)])) t
          refine XS.bipush X0.here hx rfl (hb hby d1_19) ?_
          exact k
        refine OFin.go sg10 ?_
        by_cases c11 : q0 < (32 : Int32)
        · have sg12 : ∀ t, Steps p.tables e below (s₁.setTop (mkF m 33 #[.val (.int q0)] [(.int (57344 : Int32)), (.int q0)])) t → Steps p.tables e below (s₁.setTop (mkF m 21 #[.val (.int q0)] [(.int (32 : Int32)), (.int q0)])) t := by
            intro t k
            show Steps p.tables e below (s₁.setTop (mkF m 21 #[.val (.int q0)] [(.int (32 : Int32)), (.int q0)])) t
            refine XS.icmpYes X0.here hx rfl (pc0 := 21) (pc' := 30) rfl (hb hby d1_21) rfl (tlt c11).1 (by decide) (by decide) ?_
            show Steps p.tables e below (s₁.setTop (mkF m 30 #[.val (.int q0)] [])) t
            refine XS.iloadN X0.here hx rfl (hb hby d1_30) rfl ?_
            show Steps p.tables e below (s₁.setTop (mkF m 31 #[.val (.int q0)] [(.int q0)])) t
            refine X0.ldcInt hx hown (mvT hZ (hw _ (List.mem_of_getElem? (i := 17) rfl))) (g := (mkF m 31 #[.val (.int q0)] [(.int q0)])) rfl (hb hby d1_31) _ ?_
            exact k
          refine OFin.go sg12 ?_
          by_cases c13 : q0 < (57344 : Int32)
          · have sg14 : ∀ t, Steps p.tables e below (s₁.setTop (mkF m 45 #[.val (.int q0)] [(.int (65536 : Int32)), (.int q0)])) t → Steps p.tables e below (s₁.setTop (mkF m 33 #[.val (.int q0)] [(.int (57344 : Int32)), (.int q0)])) t := by
              intro t k
              show Steps p.tables e below (s₁.setTop (mkF m 33 #[.val (.int q0)] [(.int (57344 : Int32)), (.int q0)])) t
              refine XS.icmpYes X0.here hx rfl (pc0 := 33) (pc' := 42) rfl (hb hby d1_33) rfl (tlt c13).1 (by decide) (by decide) ?_
              show Steps p.tables e below (s₁.setTop (mkF m 42 #[.val (.int q0)] [])) t
              refine XS.iloadN X0.here hx rfl (hb hby d1_42) rfl ?_
              show Steps p.tables e below (s₁.setTop (mkF m 43 #[.val (.int q0)] [(.int q0)])) t
              refine X0.ldcInt hx hown (mvT hZ (hw _ (List.mem_of_getElem? (i := 18) rfl))) (g := (mkF m 43 #[.val (.int q0)] [(.int q0)])) rfl (hb hby d1_43) _ ?_
              exact k
            refine OFin.go sg14 ?_
            by_cases c15 : q0 < (65536 : Int32)
            · have sg16 : ∀ t, Steps p.tables e below (s₁.setTop (mkF m 59 #[.val (.int q0)] [(.int (0 : Int32))])) t → Steps p.tables e below (s₁.setTop (mkF m 45 #[.val (.int q0)] [(.int (65536 : Int32)), (.int q0)])) t := by
                intro t k
                show Steps p.tables e below (s₁.setTop (mkF m 45 #[.val (.int q0)] [(.int (65536 : Int32)), (.int q0)])) t
                refine XS.icmpYes X0.here hx rfl (pc0 := 45) (pc' := 58) rfl (hb hby d1_45) rfl (tlt c15).1 (by decide) (by decide) ?_
                show Steps p.tables e below (s₁.setTop (mkF m 58 #[.val (.int q0)] [])) t
                refine XS.iconst X0.here hx rfl (hb hby d1_58) ?_
                exact k
              refine OFin.go sg16 ?_
              exact OFin.retN X0 hx hret (by simp) hlk (hb hby d1_59) rfl (by rw [e0]; exact ⟨(congrArg (fun z => some (Value.int z)) (show (0 : Int32) = own_f1 q0 from (by rw [own_f1, if_neg c2, if_neg c5, if_neg c8, if_pos c11, if_pos c13, if_pos c15]))), N0, rfl⟩) (by decide) (by decide)
            · have sg17 : ∀ t, Steps p.tables e below (s₁.setTop (mkF m 51 #[.val (.int q0)] [(.int (1114111 : Int32)), (.int q0)])) t → Steps p.tables e below (s₁.setTop (mkF m 45 #[.val (.int q0)] [(.int (65536 : Int32)), (.int q0)])) t := by
                intro t k
                show Steps p.tables e below (s₁.setTop (mkF m 45 #[.val (.int q0)] [(.int (65536 : Int32)), (.int q0)])) t
                refine XS.icmpNo X0.here hx rfl (hb hby d1_45) rfl (flt c15).1 ?_
                show Steps p.tables e below (s₁.setTop (mkF m 48 #[.val (.int q0)] [])) t
                refine XS.iloadN X0.here hx rfl (hb hby d1_48) rfl ?_
                show Steps p.tables e below (s₁.setTop (mkF m 49 #[.val (.int q0)] [(.int q0)])) t
                refine X0.ldcInt hx hown (mvT hZ (hw _ (List.mem_of_getElem? (i := 25) rfl))) (g := (mkF m 49 #[.val (.int q0)] [(.int q0)])) rfl (hb hby d1_49) _ ?_
                exact k
              refine OFin.go sg17 ?_
              by_cases c18 : (1114111 : Int32) < q0
              · have sg19 : ∀ t, Steps p.tables e below (s₁.setTop (mkF m 59 #[.val (.int q0)] [(.int (0 : Int32))])) t → Steps p.tables e below (s₁.setTop (mkF m 51 #[.val (.int q0)] [(.int (1114111 : Int32)), (.int q0)])) t := by
                  intro t k
                  show Steps p.tables e below (s₁.setTop (mkF m 51 #[.val (.int q0)] [(.int (1114111 : Int32)), (.int q0)])) t
                  refine XS.icmpYes X0.here hx rfl (pc0 := 51) (pc' := 58) rfl (hb hby d1_51) rfl (tlt c18).2.2.1 (by decide) (by decide) ?_
                  show Steps p.tables e below (s₁.setTop (mkF m 58 #[.val (.int q0)] [])) t
                  refine XS.iconst X0.here hx rfl (hb hby d1_58) ?_
                  exact k
                refine OFin.go sg19 ?_
                exact OFin.retN X0 hx hret (by simp) hlk (hb hby d1_59) rfl (by rw [e0]; exact ⟨(congrArg (fun z => some (Value.int z)) (show (0 : Int32) = own_f1 q0 from (by rw [own_f1, if_neg c2, if_neg c5, if_neg c8, if_pos c11, if_pos c13, if_neg c15, if_pos c18]))), N0, rfl⟩) (by decide) (by decide)
              · have sg20 : ∀ t, Steps p.tables e below (s₁.setTop (mkF m 59 #[.val (.int q0)] [(.int (1 : Int32))])) t → Steps p.tables e below (s₁.setTop (mkF m 51 #[.val (.int q0)] [(.int (1114111 : Int32)), (.int q0)])) t := by
                  intro t k
                  show Steps p.tables e below (s₁.setTop (mkF m 51 #[.val (.int q0)] [(.int (1114111 : Int32)), (.int q0)])) t
                  refine XS.icmpNo X0.here hx rfl (hb hby d1_51) rfl (flt c18).2.2.1 ?_
                  show Steps p.tables e below (s₁.setTop (mkF m 54 #[.val (.int q0)] [])) t
                  refine XS.iconst X0.here hx rfl (hb hby d1_54) ?_
                  show Steps p.tables e below (s₁.setTop (mkF m 55 #[.val (.int q0)] [(.int (1 : Int32))])) t
                  refine XS.goto X0.here hx rfl (pc0 := 55) (pc' := 59) rfl (hb hby d1_55) (by decide) (by decide) ?_
                  exact k
                refine OFin.go sg20 ?_
                exact OFin.retN X0 hx hret (by simp) hlk (hb hby d1_59) rfl (by rw [e0]; exact ⟨(congrArg (fun z => some (Value.int z)) (show (1 : Int32) = own_f1 q0 from (by rw [own_f1, if_neg c2, if_neg c5, if_neg c8, if_pos c11, if_pos c13, if_neg c15, if_neg c18]))), N0, rfl⟩) (by decide) (by decide)
          · have sg21 : ∀ t, Steps p.tables e below (s₁.setTop (mkF m 39 #[.val (.int q0)] [(.int (65533 : Int32)), (.int q0)])) t → Steps p.tables e below (s₁.setTop (mkF m 33 #[.val (.int q0)] [(.int (57344 : Int32)), (.int q0)])) t := by
              intro t k
              show Steps p.tables e below (s₁.setTop (mkF m 33 #[.val (.int q0)] [(.int (57344 : Int32)), (.int q0)])) t
              refine XS.icmpNo X0.here hx rfl (hb hby d1_33) rfl (flt c13).1 ?_
              show Steps p.tables e below (s₁.setTop (mkF m 36 #[.val (.int q0)] [])) t
              refine XS.iloadN X0.here hx rfl (hb hby d1_36) rfl ?_
              show Steps p.tables e below (s₁.setTop (mkF m 37 #[.val (.int q0)] [(.int q0)])) t
              refine X0.ldcInt hx hown (mvT hZ (hw _ (List.mem_of_getElem? (i := 24) rfl))) (g := (mkF m 37 #[.val (.int q0)] [(.int q0)])) rfl (hb hby d1_37) _ ?_
              exact k
            refine OFin.go sg21 ?_
            by_cases c22 : (65533 : Int32) < q0
            · have sg23 : ∀ t, Steps p.tables e below (s₁.setTop (mkF m 45 #[.val (.int q0)] [(.int (65536 : Int32)), (.int q0)])) t → Steps p.tables e below (s₁.setTop (mkF m 39 #[.val (.int q0)] [(.int (65533 : Int32)), (.int q0)])) t := by
                intro t k
                show Steps p.tables e below (s₁.setTop (mkF m 39 #[.val (.int q0)] [(.int (65533 : Int32)), (.int q0)])) t
                refine XS.icmpNo X0.here hx rfl (hb hby d1_39) rfl (tlt c22).2.2.2 ?_
                show Steps p.tables e below (s₁.setTop (mkF m 42 #[.val (.int q0)] [])) t
                refine XS.iloadN X0.here hx rfl (hb hby d1_42) rfl ?_
                show Steps p.tables e below (s₁.setTop (mkF m 43 #[.val (.int q0)] [(.int q0)])) t
                refine X0.ldcInt hx hown (mvT hZ (hw _ (List.mem_of_getElem? (i := 18) rfl))) (g := (mkF m 43 #[.val (.int q0)] [(.int q0)])) rfl (hb hby d1_43) _ ?_
                exact k
              refine OFin.go sg23 ?_
              by_cases c24 : q0 < (65536 : Int32)
              · have sg25 : ∀ t, Steps p.tables e below (s₁.setTop (mkF m 59 #[.val (.int q0)] [(.int (0 : Int32))])) t → Steps p.tables e below (s₁.setTop (mkF m 45 #[.val (.int q0)] [(.int (65536 : Int32)), (.int q0)])) t := by
                  intro t k
                  show Steps p.tables e below (s₁.setTop (mkF m 45 #[.val (.int q0)] [(.int (65536 : Int32)), (.int q0)])) t
                  refine XS.icmpYes X0.here hx rfl (pc0 := 45) (pc' := 58) rfl (hb hby d1_45) rfl (tlt c24).1 (by decide) (by decide) ?_
                  show Steps p.tables e below (s₁.setTop (mkF m 58 #[.val (.int q0)] [])) t
                  refine XS.iconst X0.here hx rfl (hb hby d1_58) ?_
                  exact k
                refine OFin.go sg25 ?_
                exact OFin.retN X0 hx hret (by simp) hlk (hb hby d1_59) rfl (by rw [e0]; exact ⟨(congrArg (fun z => some (Value.int z)) (show (0 : Int32) = own_f1 q0 from (by rw [own_f1, if_neg c2, if_neg c5, if_neg c8, if_pos c11, if_neg c13, if_pos c22, if_pos c24]))), N0, rfl⟩) (by decide) (by decide)
              · have sg26 : ∀ t, Steps p.tables e below (s₁.setTop (mkF m 51 #[.val (.int q0)] [(.int (1114111 : Int32)), (.int q0)])) t → Steps p.tables e below (s₁.setTop (mkF m 45 #[.val (.int q0)] [(.int (65536 : Int32)), (.int q0)])) t := by
                  intro t k
                  show Steps p.tables e below (s₁.setTop (mkF m 45 #[.val (.int q0)] [(.int (65536 : Int32)), (.int q0)])) t
                  refine XS.icmpNo X0.here hx rfl (hb hby d1_45) rfl (flt c24).1 ?_
                  show Steps p.tables e below (s₁.setTop (mkF m 48 #[.val (.int q0)] [])) t
                  refine XS.iloadN X0.here hx rfl (hb hby d1_48) rfl ?_
                  show Steps p.tables e below (s₁.setTop (mkF m 49 #[.val (.int q0)] [(.int q0)])) t
                  refine X0.ldcInt hx hown (mvT hZ (hw _ (List.mem_of_getElem? (i := 25) rfl))) (g := (mkF m 49 #[.val (.int q0)] [(.int q0)])) rfl (hb hby d1_49) _ ?_
                  exact k
                refine OFin.go sg26 ?_
                by_cases c27 : (1114111 : Int32) < q0
                · have sg28 : ∀ t, Steps p.tables e below (s₁.setTop (mkF m 59 #[.val (.int q0)] [(.int (0 : Int32))])) t → Steps p.tables e below (s₁.setTop (mkF m 51 #[.val (.int q0)] [(.int (1114111 : Int32)), (.int q0)])) t := by
                    intro t k
                    show Steps p.tables e below (s₁.setTop (mkF m 51 #[.val (.int q0)] [(.int (1114111 : Int32)), (.int q0)])) t
                    refine XS.icmpYes X0.here hx rfl (pc0 := 51) (pc' := 58) rfl (hb hby d1_51) rfl (tlt c27).2.2.1 (by decide) (by decide) ?_
                    show Steps p.tables e below (s₁.setTop (mkF m 58 #[.val (.int q0)] [])) t
                    refine XS.iconst X0.here hx rfl (hb hby d1_58) ?_
                    exact k
                  refine OFin.go sg28 ?_
                  exact OFin.retN X0 hx hret (by simp) hlk (hb hby d1_59) rfl (by rw [e0]; exact ⟨(congrArg (fun z => some (Value.int z)) (show (0 : Int32) = own_f1 q0 from (by rw [own_f1, if_neg c2, if_neg c5, if_neg c8, if_pos c11, if_neg c13, if_pos c22, if_neg c24, if_pos c27]))), N0, rfl⟩) (by decide) (by decide)
                · have sg29 : ∀ t, Steps p.tables e below (s₁.setTop (mkF m 59 #[.val (.int q0)] [(.int (1 : Int32))])) t → Steps p.tables e below (s₁.setTop (mkF m 51 #[.val (.int q0)] [(.int (1114111 : Int32)), (.int q0)])) t := by
                    intro t k
                    show Steps p.tables e below (s₁.setTop (mkF m 51 #[.val (.int q0)] [(.int (1114111 : Int32)), (.int q0)])) t
                    refine XS.icmpNo X0.here hx rfl (hb hby d1_51) rfl (flt c27).2.2.1 ?_
                    show Steps p.tables e below (s₁.setTop (mkF m 54 #[.val (.int q0)] [])) t
                    refine XS.iconst X0.here hx rfl (hb hby d1_54) ?_
                    show Steps p.tables e below (s₁.setTop (mkF m 55 #[.val (.int q0)] [(.int (1 : Int32))])) t
                    refine XS.goto X0.here hx rfl (pc0 := 55) (pc' := 59) rfl (hb hby d1_55) (by decide) (by decide) ?_
                    exact k
                  refine OFin.go sg29 ?_
                  exact OFin.retN X0 hx hret (by simp) hlk (hb hby d1_59) rfl (by rw [e0]; exact ⟨(congrArg (fun z => some (Value.int z)) (show (1 : Int32) = own_f1 q0 from (by rw [own_f1, if_neg c2, if_neg c5, if_neg c8, if_pos c11, if_neg c13, if_pos c22, if_neg c24, if_neg c27]))), N0, rfl⟩) (by decide) (by decide)
            · have sg30 : ∀ t, Steps p.tables e below (s₁.setTop (mkF m 59 #[.val (.int q0)] [(.int (1 : Int32))])) t → Steps p.tables e below (s₁.setTop (mkF m 39 #[.val (.int q0)] [(.int (65533 : Int32)), (.int q0)])) t := by
                intro t k
                show Steps p.tables e below (s₁.setTop (mkF m 39 #[.val (.int q0)] [(.int (65533 : Int32)), (.int q0)])) t
                refine XS.icmpYes X0.here hx rfl (pc0 := 39) (pc' := 54) rfl (hb hby d1_39) rfl (flt c22).2.2.2 (by decide) (by decide) ?_
                show Steps p.tables e below (s₁.setTop (mkF m 54 #[.val (.int q0)] [])) t
                refine XS.iconst X0.here hx rfl (hb hby d1_54) ?_
                show Steps p.tables e below (s₁.setTop (mkF m 55 #[.val (.int q0)] [(.int (1 : Int32))])) t
                refine XS.goto X0.here hx rfl (pc0 := 55) (pc' := 59) rfl (hb hby d1_55) (by decide) (by decide) ?_
                exact k
              refine OFin.go sg30 ?_
              exact OFin.retN X0 hx hret (by simp) hlk (hb hby d1_59) rfl (by rw [e0]; exact ⟨(congrArg (fun z => some (Value.int z)) (show (1 : Int32) = own_f1 q0 from (by rw [own_f1, if_neg c2, if_neg c5, if_neg c8, if_pos c11, if_neg c13, if_neg c22]))), N0, rfl⟩) (by decide) (by decide)
        · have sg31 : ∀ t, Steps p.tables e below (s₁.setTop (mkF m 27 #[.val (.int q0)] [(.int (55295 : Int32)), (.int q0)])) t → Steps p.tables e below (s₁.setTop (mkF m 21 #[.val (.int q0)] [(.int (32 : Int32)), (.int q0)])) t := by
            intro t k
            show Steps p.tables e below (s₁.setTop (mkF m 21 #[.val (.int q0)] [(.int (32 : Int32)), (.int q0)])) t
            refine XS.icmpNo X0.here hx rfl (hb hby d1_21) rfl (flt c11).1 ?_
            show Steps p.tables e below (s₁.setTop (mkF m 24 #[.val (.int q0)] [])) t
            refine XS.iloadN X0.here hx rfl (hb hby d1_24) rfl ?_
            show Steps p.tables e below (s₁.setTop (mkF m 25 #[.val (.int q0)] [(.int q0)])) t
            refine X0.ldcInt hx hown (mvT hZ (hw _ (List.mem_of_getElem? (i := 23) rfl))) (g := (mkF m 25 #[.val (.int q0)] [(.int q0)])) rfl (hb hby d1_25) _ ?_
            exact k
          refine OFin.go sg31 ?_
          by_cases c32 : (55295 : Int32) < q0
          · have sg33 : ∀ t, Steps p.tables e below (s₁.setTop (mkF m 33 #[.val (.int q0)] [(.int (57344 : Int32)), (.int q0)])) t → Steps p.tables e below (s₁.setTop (mkF m 27 #[.val (.int q0)] [(.int (55295 : Int32)), (.int q0)])) t := by
              intro t k
              show Steps p.tables e below (s₁.setTop (mkF m 27 #[.val (.int q0)] [(.int (55295 : Int32)), (.int q0)])) t
              refine XS.icmpNo X0.here hx rfl (hb hby d1_27) rfl (tlt c32).2.2.2 ?_
              show Steps p.tables e below (s₁.setTop (mkF m 30 #[.val (.int q0)] [])) t
              refine XS.iloadN X0.here hx rfl (hb hby d1_30) rfl ?_
              show Steps p.tables e below (s₁.setTop (mkF m 31 #[.val (.int q0)] [(.int q0)])) t
              refine X0.ldcInt hx hown (mvT hZ (hw _ (List.mem_of_getElem? (i := 17) rfl))) (g := (mkF m 31 #[.val (.int q0)] [(.int q0)])) rfl (hb hby d1_31) _ ?_
              exact k
            refine OFin.go sg33 ?_
            by_cases c34 : q0 < (57344 : Int32)
            · have sg35 : ∀ t, Steps p.tables e below (s₁.setTop (mkF m 45 #[.val (.int q0)] [(.int (65536 : Int32)), (.int q0)])) t → Steps p.tables e below (s₁.setTop (mkF m 33 #[.val (.int q0)] [(.int (57344 : Int32)), (.int q0)])) t := by
                intro t k
                show Steps p.tables e below (s₁.setTop (mkF m 33 #[.val (.int q0)] [(.int (57344 : Int32)), (.int q0)])) t
                refine XS.icmpYes X0.here hx rfl (pc0 := 33) (pc' := 42) rfl (hb hby d1_33) rfl (tlt c34).1 (by decide) (by decide) ?_
                show Steps p.tables e below (s₁.setTop (mkF m 42 #[.val (.int q0)] [])) t
                refine XS.iloadN X0.here hx rfl (hb hby d1_42) rfl ?_
                show Steps p.tables e below (s₁.setTop (mkF m 43 #[.val (.int q0)] [(.int q0)])) t
                refine X0.ldcInt hx hown (mvT hZ (hw _ (List.mem_of_getElem? (i := 18) rfl))) (g := (mkF m 43 #[.val (.int q0)] [(.int q0)])) rfl (hb hby d1_43) _ ?_
                exact k
              refine OFin.go sg35 ?_
              by_cases c36 : q0 < (65536 : Int32)
              · have sg37 : ∀ t, Steps p.tables e below (s₁.setTop (mkF m 59 #[.val (.int q0)] [(.int (0 : Int32))])) t → Steps p.tables e below (s₁.setTop (mkF m 45 #[.val (.int q0)] [(.int (65536 : Int32)), (.int q0)])) t := by
                  intro t k
                  show Steps p.tables e below (s₁.setTop (mkF m 45 #[.val (.int q0)] [(.int (65536 : Int32)), (.int q0)])) t
                  refine XS.icmpYes X0.here hx rfl (pc0 := 45) (pc' := 58) rfl (hb hby d1_45) rfl (tlt c36).1 (by decide) (by decide) ?_
                  show Steps p.tables e below (s₁.setTop (mkF m 58 #[.val (.int q0)] [])) t
                  refine XS.iconst X0.here hx rfl (hb hby d1_58) ?_
                  exact k
                refine OFin.go sg37 ?_
                exact OFin.retN X0 hx hret (by simp) hlk (hb hby d1_59) rfl (by rw [e0]; exact ⟨(congrArg (fun z => some (Value.int z)) (show (0 : Int32) = own_f1 q0 from (by rw [own_f1, if_neg c2, if_neg c5, if_neg c8, if_neg c11, if_pos c32, if_pos c34, if_pos c36]))), N0, rfl⟩) (by decide) (by decide)
              · have sg38 : ∀ t, Steps p.tables e below (s₁.setTop (mkF m 51 #[.val (.int q0)] [(.int (1114111 : Int32)), (.int q0)])) t → Steps p.tables e below (s₁.setTop (mkF m 45 #[.val (.int q0)] [(.int (65536 : Int32)), (.int q0)])) t := by
                  intro t k
                  show Steps p.tables e below (s₁.setTop (mkF m 45 #[.val (.int q0)] [(.int (65536 : Int32)), (.int q0)])) t
                  refine XS.icmpNo X0.here hx rfl (hb hby d1_45) rfl (flt c36).1 ?_
                  show Steps p.tables e below (s₁.setTop (mkF m 48 #[.val (.int q0)] [])) t
                  refine XS.iloadN X0.here hx rfl (hb hby d1_48) rfl ?_
                  show Steps p.tables e below (s₁.setTop (mkF m 49 #[.val (.int q0)] [(.int q0)])) t
                  refine X0.ldcInt hx hown (mvT hZ (hw _ (List.mem_of_getElem? (i := 25) rfl))) (g := (mkF m 49 #[.val (.int q0)] [(.int q0)])) rfl (hb hby d1_49) _ ?_
                  exact k
                refine OFin.go sg38 ?_
                by_cases c39 : (1114111 : Int32) < q0
                · have sg40 : ∀ t, Steps p.tables e below (s₁.setTop (mkF m 59 #[.val (.int q0)] [(.int (0 : Int32))])) t → Steps p.tables e below (s₁.setTop (mkF m 51 #[.val (.int q0)] [(.int (1114111 : Int32)), (.int q0)])) t := by
                    intro t k
                    show Steps p.tables e below (s₁.setTop (mkF m 51 #[.val (.int q0)] [(.int (1114111 : Int32)), (.int q0)])) t
                    refine XS.icmpYes X0.here hx rfl (pc0 := 51) (pc' := 58) rfl (hb hby d1_51) rfl (tlt c39).2.2.1 (by decide) (by decide) ?_
                    show Steps p.tables e below (s₁.setTop (mkF m 58 #[.val (.int q0)] [])) t
                    refine XS.iconst X0.here hx rfl (hb hby d1_58) ?_
                    exact k
                  refine OFin.go sg40 ?_
                  exact OFin.retN X0 hx hret (by simp) hlk (hb hby d1_59) rfl (by rw [e0]; exact ⟨(congrArg (fun z => some (Value.int z)) (show (0 : Int32) = own_f1 q0 from (by rw [own_f1, if_neg c2, if_neg c5, if_neg c8, if_neg c11, if_pos c32, if_pos c34, if_neg c36, if_pos c39]))), N0, rfl⟩) (by decide) (by decide)
                · have sg41 : ∀ t, Steps p.tables e below (s₁.setTop (mkF m 59 #[.val (.int q0)] [(.int (1 : Int32))])) t → Steps p.tables e below (s₁.setTop (mkF m 51 #[.val (.int q0)] [(.int (1114111 : Int32)), (.int q0)])) t := by
                    intro t k
                    show Steps p.tables e below (s₁.setTop (mkF m 51 #[.val (.int q0)] [(.int (1114111 : Int32)), (.int q0)])) t
                    refine XS.icmpNo X0.here hx rfl (hb hby d1_51) rfl (flt c39).2.2.1 ?_
                    show Steps p.tables e below (s₁.setTop (mkF m 54 #[.val (.int q0)] [])) t
                    refine XS.iconst X0.here hx rfl (hb hby d1_54) ?_
                    show Steps p.tables e below (s₁.setTop (mkF m 55 #[.val (.int q0)] [(.int (1 : Int32))])) t
                    refine XS.goto X0.here hx rfl (pc0 := 55) (pc' := 59) rfl (hb hby d1_55) (by decide) (by decide) ?_
                    exact k
                  refine OFin.go sg41 ?_
                  exact OFin.retN X0 hx hret (by simp) hlk (hb hby d1_59) rfl (by rw [e0]; exact ⟨(congrArg (fun z => some (Value.int z)) (show (1 : Int32) = own_f1 q0 from (by rw [own_f1, if_neg c2, if_neg c5, if_neg c8, if_neg c11, if_pos c32, if_pos c34, if_neg c36, if_neg c39]))), N0, rfl⟩) (by decide) (by decide)
            · have sg42 : ∀ t, Steps p.tables e below (s₁.setTop (mkF m 39 #[.val (.int q0)] [(.int (65533 : Int32)), (.int q0)])) t → Steps p.tables e below (s₁.setTop (mkF m 33 #[.val (.int q0)] [(.int (57344 : Int32)), (.int q0)])) t := by
                intro t k
                show Steps p.tables e below (s₁.setTop (mkF m 33 #[.val (.int q0)] [(.int (57344 : Int32)), (.int q0)])) t
                refine XS.icmpNo X0.here hx rfl (hb hby d1_33) rfl (flt c34).1 ?_
                show Steps p.tables e below (s₁.setTop (mkF m 36 #[.val (.int q0)] [])) t
                refine XS.iloadN X0.here hx rfl (hb hby d1_36) rfl ?_
                show Steps p.tables e below (s₁.setTop (mkF m 37 #[.val (.int q0)] [(.int q0)])) t
                refine X0.ldcInt hx hown (mvT hZ (hw _ (List.mem_of_getElem? (i := 24) rfl))) (g := (mkF m 37 #[.val (.int q0)] [(.int q0)])) rfl (hb hby d1_37) _ ?_
                exact k
              refine OFin.go sg42 ?_
              by_cases c43 : (65533 : Int32) < q0
              · have sg44 : ∀ t, Steps p.tables e below (s₁.setTop (mkF m 45 #[.val (.int q0)] [(.int (65536 : Int32)), (.int q0)])) t → Steps p.tables e below (s₁.setTop (mkF m 39 #[.val (.int q0)] [(.int (65533 : Int32)), (.int q0)])) t := by
                  intro t k
                  show Steps p.tables e below (s₁.setTop (mkF m 39 #[.val (.int q0)] [(.int (65533 : Int32)), (.int q0)])) t
                  refine XS.icmpNo X0.here hx rfl (hb hby d1_39) rfl (tlt c43).2.2.2 ?_
                  show Steps p.tables e below (s₁.setTop (mkF m 42 #[.val (.int q0)] [])) t
                  refine XS.iloadN X0.here hx rfl (hb hby d1_42) rfl ?_
                  show Steps p.tables e below (s₁.setTop (mkF m 43 #[.val (.int q0)] [(.int q0)])) t
                  refine X0.ldcInt hx hown (mvT hZ (hw _ (List.mem_of_getElem? (i := 18) rfl))) (g := (mkF m 43 #[.val (.int q0)] [(.int q0)])) rfl (hb hby d1_43) _ ?_
                  exact k
                refine OFin.go sg44 ?_
                by_cases c45 : q0 < (65536 : Int32)
                · have sg46 : ∀ t, Steps p.tables e below (s₁.setTop (mkF m 59 #[.val (.int q0)] [(.int (0 : Int32))])) t → Steps p.tables e below (s₁.setTop (mkF m 45 #[.val (.int q0)] [(.int (65536 : Int32)), (.int q0)])) t := by
                    intro t k
                    show Steps p.tables e below (s₁.setTop (mkF m 45 #[.val (.int q0)] [(.int (65536 : Int32)), (.int q0)])) t
                    refine XS.icmpYes X0.here hx rfl (pc0 := 45) (pc' := 58) rfl (hb hby d1_45) rfl (tlt c45).1 (by decide) (by decide) ?_
                    show Steps p.tables e below (s₁.setTop (mkF m 58 #[.val (.int q0)] [])) t
                    refine XS.iconst X0.here hx rfl (hb hby d1_58) ?_
                    exact k
                  refine OFin.go sg46 ?_
                  exact OFin.retN X0 hx hret (by simp) hlk (hb hby d1_59) rfl (by rw [e0]; exact ⟨(congrArg (fun z => some (Value.int z)) (show (0 : Int32) = own_f1 q0 from (by rw [own_f1, if_neg c2, if_neg c5, if_neg c8, if_neg c11, if_pos c32, if_neg c34, if_pos c43, if_pos c45]))), N0, rfl⟩) (by decide) (by decide)
                · have sg47 : ∀ t, Steps p.tables e below (s₁.setTop (mkF m 51 #[.val (.int q0)] [(.int (1114111 : Int32)), (.int q0)])) t → Steps p.tables e below (s₁.setTop (mkF m 45 #[.val (.int q0)] [(.int (65536 : Int32)), (.int q0)])) t := by
                    intro t k
                    show Steps p.tables e below (s₁.setTop (mkF m 45 #[.val (.int q0)] [(.int (65536 : Int32)), (.int q0)])) t
                    refine XS.icmpNo X0.here hx rfl (hb hby d1_45) rfl (flt c45).1 ?_
                    show Steps p.tables e below (s₁.setTop (mkF m 48 #[.val (.int q0)] [])) t
                    refine XS.iloadN X0.here hx rfl (hb hby d1_48) rfl ?_
                    show Steps p.tables e below (s₁.setTop (mkF m 49 #[.val (.int q0)] [(.int q0)])) t
                    refine X0.ldcInt hx hown (mvT hZ (hw _ (List.mem_of_getElem? (i := 25) rfl))) (g := (mkF m 49 #[.val (.int q0)] [(.int q0)])) rfl (hb hby d1_49) _ ?_
                    exact k
                  refine OFin.go sg47 ?_
                  by_cases c48 : (1114111 : Int32) < q0
                  · have sg49 : ∀ t, Steps p.tables e below (s₁.setTop (mkF m 59 #[.val (.int q0)] [(.int (0 : Int32))])) t → Steps p.tables e below (s₁.setTop (mkF m 51 #[.val (.int q0)] [(.int (1114111 : Int32)), (.int q0)])) t := by
                      intro t k
                      show Steps p.tables e below (s₁.setTop (mkF m 51 #[.val (.int q0)] [(.int (1114111 : Int32)), (.int q0)])) t
                      refine XS.icmpYes X0.here hx rfl (pc0 := 51) (pc' := 58) rfl (hb hby d1_51) rfl (tlt c48).2.2.1 (by decide) (by decide) ?_
                      show Steps p.tables e below (s₁.setTop (mkF m 58 #[.val (.int q0)] [])) t
                      refine XS.iconst X0.here hx rfl (hb hby d1_58) ?_
                      exact k
                    refine OFin.go sg49 ?_
                    exact OFin.retN X0 hx hret (by simp) hlk (hb hby d1_59) rfl (by rw [e0]; exact ⟨(congrArg (fun z => some (Value.int z)) (show (0 : Int32) = own_f1 q0 from (by rw [own_f1, if_neg c2, if_neg c5, if_neg c8, if_neg c11, if_pos c32, if_neg c34, if_pos c43, if_neg c45, if_pos c48]))), N0, rfl⟩) (by decide) (by decide)
                  · have sg50 : ∀ t, Steps p.tables e below (s₁.setTop (mkF m 59 #[.val (.int q0)] [(.int (1 : Int32))])) t → Steps p.tables e below (s₁.setTop (mkF m 51 #[.val (.int q0)] [(.int (1114111 : Int32)), (.int q0)])) t := by
                      intro t k
                      show Steps p.tables e below (s₁.setTop (mkF m 51 #[.val (.int q0)] [(.int (1114111 : Int32)), (.int q0)])) t
                      refine XS.icmpNo X0.here hx rfl (hb hby d1_51) rfl (flt c48).2.2.1 ?_
                      show Steps p.tables e below (s₁.setTop (mkF m 54 #[.val (.int q0)] [])) t
                      refine XS.iconst X0.here hx rfl (hb hby d1_54) ?_
                      show Steps p.tables e below (s₁.setTop (mkF m 55 #[.val (.int q0)] [(.int (1 : Int32))])) t
                      refine XS.goto X0.here hx rfl (pc0 := 55) (pc' := 59) rfl (hb hby d1_55) (by decide) (by decide) ?_
                      exact k
                    refine OFin.go sg50 ?_
                    exact OFin.retN X0 hx hret (by simp) hlk (hb hby d1_59) rfl (by rw [e0]; exact ⟨(congrArg (fun z => some (Value.int z)) (show (1 : Int32) = own_f1 q0 from (by rw [own_f1, if_neg c2, if_neg c5, if_neg c8, if_neg c11, if_pos c32, if_neg c34, if_pos c43, if_neg c45, if_neg c48]))), N0, rfl⟩) (by decide) (by decide)
              · have sg51 : ∀ t, Steps p.tables e below (s₁.setTop (mkF m 59 #[.val (.int q0)] [(.int (1 : Int32))])) t → Steps p.tables e below (s₁.setTop (mkF m 39 #[.val (.int q0)] [(.int (65533 : Int32)), (.int q0)])) t := by
                  intro t k
                  show Steps p.tables e below (s₁.setTop (mkF m 39 #[.val (.int q0)] [(.int (65533 : Int32)), (.int q0)])) t
                  refine XS.icmpYes X0.here hx rfl (pc0 := 39) (pc' := 54) rfl (hb hby d1_39) rfl (flt c43).2.2.2 (by decide) (by decide) ?_
                  show Steps p.tables e below (s₁.setTop (mkF m 54 #[.val (.int q0)] [])) t
                  refine XS.iconst X0.here hx rfl (hb hby d1_54) ?_
                  show Steps p.tables e below (s₁.setTop (mkF m 55 #[.val (.int q0)] [(.int (1 : Int32))])) t
                  refine XS.goto X0.here hx rfl (pc0 := 55) (pc' := 59) rfl (hb hby d1_55) (by decide) (by decide) ?_
                  exact k
                refine OFin.go sg51 ?_
                exact OFin.retN X0 hx hret (by simp) hlk (hb hby d1_59) rfl (by rw [e0]; exact ⟨(congrArg (fun z => some (Value.int z)) (show (1 : Int32) = own_f1 q0 from (by rw [own_f1, if_neg c2, if_neg c5, if_neg c8, if_neg c11, if_pos c32, if_neg c34, if_neg c43]))), N0, rfl⟩) (by decide) (by decide)
          · have sg52 : ∀ t, Steps p.tables e below (s₁.setTop (mkF m 59 #[.val (.int q0)] [(.int (1 : Int32))])) t → Steps p.tables e below (s₁.setTop (mkF m 27 #[.val (.int q0)] [(.int (55295 : Int32)), (.int q0)])) t := by
              intro t k
              show Steps p.tables e below (s₁.setTop (mkF m 27 #[.val (.int q0)] [(.int (55295 : Int32)), (.int q0)])) t
              refine XS.icmpYes X0.here hx rfl (pc0 := 27) (pc' := 54) rfl (hb hby d1_27) rfl (flt c32).2.2.2 (by decide) (by decide) ?_
              show Steps p.tables e below (s₁.setTop (mkF m 54 #[.val (.int q0)] [])) t
              refine XS.iconst X0.here hx rfl (hb hby d1_54) ?_
              show Steps p.tables e below (s₁.setTop (mkF m 55 #[.val (.int q0)] [(.int (1 : Int32))])) t
              refine XS.goto X0.here hx rfl (pc0 := 55) (pc' := 59) rfl (hb hby d1_55) (by decide) (by decide) ?_
              exact k
            refine OFin.go sg52 ?_
            exact OFin.retN X0 hx hret (by simp) hlk (hb hby d1_59) rfl (by rw [e0]; exact ⟨(congrArg (fun z => some (Value.int z)) (show (1 : Int32) = own_f1 q0 from (by rw [own_f1, if_neg c2, if_neg c5, if_neg c8, if_neg c11, if_neg c32]))), N0, rfl⟩) (by decide) (by decide)
theorem d2_0 : decode method_2_code 0 = .ok (.iload_n 0, 1) := by decide +kernel
theorem d2_1 : decode method_2_code 1 = .ok (.ifCond .ge 5, 3) := by decide +kernel
theorem d2_4 : decode method_2_code 4 = .ok (.iconst 0, 1) := by decide +kernel
theorem d2_5 : decode method_2_code 5 = .ok (.ireturn, 1) := by decide +kernel
theorem d2_6 : decode method_2_code 6 = .ok (.iload_n 0, 1) := by decide +kernel
theorem d2_7 : decode method_2_code 7 = .ok (.bipush 32, 2) := by decide +kernel
theorem d2_9 : decode method_2_code 9 = .ok (.if_icmp .ge 27, 3) := by decide +kernel
theorem d2_12 : decode method_2_code 12 = .ok (.iload_n 0, 1) := by decide +kernel
theorem d2_13 : decode method_2_code 13 = .ok (.bipush 9, 2) := by decide +kernel
theorem d2_15 : decode method_2_code 15 = .ok (.if_icmp .eq 15, 3) := by decide +kernel
theorem d2_18 : decode method_2_code 18 = .ok (.iload_n 0, 1) := by decide +kernel
theorem d2_19 : decode method_2_code 19 = .ok (.bipush 10, 2) := by decide +kernel
theorem d2_21 : decode method_2_code 21 = .ok (.if_icmp .eq 9, 3) := by decide +kernel
theorem d2_24 : decode method_2_code 24 = .ok (.iload_n 0, 1) := by decide +kernel
theorem d2_25 : decode method_2_code 25 = .ok (.bipush 13, 2) := by decide +kernel
theorem d2_27 : decode method_2_code 27 = .ok (.if_icmp .ne 7, 3) := by decide +kernel
theorem d2_30 : decode method_2_code 30 = .ok (.iconst 1, 1) := by decide +kernel
theorem d2_31 : decode method_2_code 31 = .ok (.goto 4, 3) := by decide +kernel
theorem d2_34 : decode method_2_code 34 = .ok (.iconst 0, 1) := by decide +kernel
theorem d2_35 : decode method_2_code 35 = .ok (.ireturn, 1) := by decide +kernel
theorem d2_36 : decode method_2_code 36 = .ok (.iload_n 0, 1) := by decide +kernel
theorem d2_37 : decode method_2_code 37 = .ok (.ldc 7, 2) := by decide +kernel
theorem d2_39 : decode method_2_code 39 = .ok (.if_icmp .lt 11, 3) := by decide +kernel
theorem d2_42 : decode method_2_code 42 = .ok (.iload_n 0, 1) := by decide +kernel
theorem d2_43 : decode method_2_code 43 = .ok (.ldc 8, 2) := by decide +kernel
theorem d2_45 : decode method_2_code 45 = .ok (.if_icmp .gt 5, 3) := by decide +kernel
theorem d2_48 : decode method_2_code 48 = .ok (.iconst 0, 1) := by decide +kernel
theorem d2_49 : decode method_2_code 49 = .ok (.ireturn, 1) := by decide +kernel
theorem d2_50 : decode method_2_code 50 = .ok (.iload_n 0, 1) := by decide +kernel
theorem d2_51 : decode method_2_code 51 = .ok (.ldc 9, 2) := by decide +kernel
theorem d2_53 : decode method_2_code 53 = .ok (.if_icmp .eq 9, 3) := by decide +kernel
theorem d2_56 : decode method_2_code 56 = .ok (.iload_n 0, 1) := by decide +kernel
theorem d2_57 : decode method_2_code 57 = .ok (.ldc 10, 2) := by decide +kernel
theorem d2_59 : decode method_2_code 59 = .ok (.if_icmp .ne 5, 3) := by decide +kernel
theorem d2_62 : decode method_2_code 62 = .ok (.iconst 0, 1) := by decide +kernel
theorem d2_63 : decode method_2_code 63 = .ok (.ireturn, 1) := by decide +kernel
theorem d2_64 : decode method_2_code 64 = .ok (.iload_n 0, 1) := by decide +kernel
theorem d2_65 : decode method_2_code 65 = .ok (.ldc 11, 2) := by decide +kernel
theorem d2_67 : decode method_2_code 67 = .ok (.if_icmp .gt 7, 3) := by decide +kernel
theorem d2_70 : decode method_2_code 70 = .ok (.iconst 1, 1) := by decide +kernel
theorem d2_71 : decode method_2_code 71 = .ok (.goto 4, 3) := by decide +kernel
theorem d2_74 : decode method_2_code 74 = .ok (.iconst 0, 1) := by decide +kernel
theorem d2_75 : decode method_2_code 75 = .ok (.ireturn, 1) := by decide +kernel
theorem pn_1 : plainName "com/example/avvik/avvik/io/XsdValuesIsXmlCharPinLaw" = true := by first | (simp [plainName, overriddenIn]; done) | decide +kernel
theorem ef_2 (m : MethodId) (x0 : Int32) : entryFrame m #[(.int x0)] 1 = mkF m 0 #[.val (.int x0)] [] := by first | (simp [entryFrame, mkF, argsToLocals, Value.category]; done) | rfl
def own_f2 (q0 : Int32) : Int32 := (if q0 < (0 : Int32) then (0 : Int32) else (if q0 < (32 : Int32) then (if q0 = (9 : Int32) then (1 : Int32) else (if q0 = (10 : Int32) then (1 : Int32) else (if q0 = (13 : Int32) then (1 : Int32) else (0 : Int32)))) else (if q0 < (55296 : Int32) then (if q0 = (65534 : Int32) then (0 : Int32) else (if q0 = (65535 : Int32) then (0 : Int32) else (if (1114111 : Int32) < q0 then (0 : Int32) else (1 : Int32)))) else (if (57343 : Int32) < q0 then (if q0 = (65534 : Int32) then (0 : Int32) else (if q0 = (65535 : Int32) then (0 : Int32) else (if (1114111 : Int32) < q0 then (0 : Int32) else (1 : Int32)))) else (0 : Int32)))))
def Q2 (Z : State) (q0 : Int32) (h0 : Heap) (n0 : Nat) (v : Option Value) (h : Heap) (L : List Loc) : Prop := v = some (.int (own_f2 q0)) ∧ Fr n0 L ∧ h = h0
set_option maxHeartbeats 40000000 in
theorem rm2 (l : Launch) (Z : State) (aZ : Array Value) (hw : ∀ d ∈ tables_1, d.before aZ Z = true) (ws : List Jvm.Cond) (q0 : Int32) (h0 : Heap) (n0 : Nat) (Z0 : n0 ≤ h0.size) :
    MetFree l (⟨"com/example/avvik/avvik/io/XsdValuesIsXmlCharPinLaw", "reference", "(I)Z"⟩ : MethodName) (head1 (Jvm.Cond.code (⟨"com/example/avvik/avvik/io/XsdValuesIsXmlCharPinLaw", "reference", "(I)Z"⟩ : MethodName) method_2_code 1 (some .boolean) :: ws) ({ frames := 0, cells := 0, slots := 0, locals := 0 } : Room)) (fun a U => a = #[(.int q0)] ∧ Z.Warmed39 U.vm ∧ U.heap = h0) (fun _ _ _ _ _ => True) (fun _ U o U' => ∃ v L, o = .returned v ∧ Q2 Z q0 h0 n0 v U'.heap L ∧ FrameEnd U o U' L ({ frames := 0, cells := 0, slots := 0, locals := 0 } : Room).cells ({ frames := 0, cells := 0, slots := 0, locals := 0 } : Room).slots) := by
  refine MetFree.of_bodySF (plainFor_of_name pn_1) hisR ?_
  intro p e s m args below meth c s₁ Bd hml0 hP hK
  obtain ⟨rfl, hZ, hh⟩ := hP
  have hx := Bd.exec
  have hby := Bd.bytes
  have hret := Bd.returns
  have hlk : meth.locks = false := BodyLoose.notSynchronized Bd
  have hml : c.maxLocals = 1 := hml0
  have hown : s.vm.findClass "com/example/avvik/avvik/io/XsdValuesIsXmlCharPinLaw" = some m.cls := findClass_of_methodNamed Bd.named
  have hnm := (name_of_methodNamed Bd.named Bd.method).1
  have X0 : Stand p l e ({ frames := 0, cells := 0, slots := 0, locals := 0 } : Room) s m #[(.int q0)] below meth c s₁ [] 0 0 := Stand.of_body Bd
  have e0 : s₁.heap = h0 := by rw [← hh, Bd.state]; rfl
  have N0 := Fr.nil n0
  have K0 : Keep h0 h0 [] := Keep.refl _ _
  have pre0 : ∀ t, Steps p.tables e below (s₁.setTop (mkF m 0 #[.val (.int q0)] [])) t → Steps p.tables e below (s₁.setTop (entryFrame m #[(.int q0)] 1)) t := fun t k => castTop (ef_2 m q0) k
  show OFin p e below s (Q2 Z q0 h0 n0) ({ frames := 0, cells := 0, slots := 0, locals := 0 } : Room).cells ({ frames := 0, cells := 0, slots := 0, locals := 0 } : Room).slots _
  refine OFin.go pre0 ?_
  have sg1 : ∀ t, Steps p.tables e below (s₁.setTop (mkF m 1 #[.val (.int q0)] [(.int q0)])) t → Steps p.tables e below (s₁.setTop (mkF m 0 #[.val (.int q0)] [])) t := by
    intro t k
    show Steps p.tables e below (s₁.setTop (mkF m 0 #[.val (.int q0)] [])) t
    refine XS.iloadN X0.here hx rfl (hb hby d2_0) rfl ?_
    exact k
  refine OFin.go sg1 ?_
  by_cases c2 : q0 < (0 : Int32)
  · have sg3 : ∀ t, Steps p.tables e below (s₁.setTop (mkF m 5 #[.val (.int q0)] [(.int (0 : Int32))])) t → Steps p.tables e below (s₁.setTop (mkF m 1 #[.val (.int q0)] [(.int q0)])) t := by
      intro t k
      show Steps p.tables e below (s₁.setTop (mkF m 1 #[.val (.int q0)] [(.int q0)])) t
      refine XS.ifNo X0.here hx rfl (hb hby d2_1) rfl ((if0 _ _).trans (tlt c2).2.1) ?_
      show Steps p.tables e below (s₁.setTop (mkF m 4 #[.val (.int q0)] [])) t
      refine XS.iconst X0.here hx rfl (hb hby d2_4) ?_
      exact k
    refine OFin.go sg3 ?_
    exact OFin.retN X0 hx hret (by simp) hlk (hb hby d2_5) rfl (by rw [e0]; exact ⟨(congrArg (fun z => some (Value.int z)) (show (0 : Int32) = own_f2 q0 from (by rw [own_f2, if_pos c2]))), N0, rfl⟩) (by decide) (by decide)
  · have sg4 : ∀ t, Steps p.tables e below (s₁.setTop (mkF m 9 #[.val (.int q0)] [(.int (32 : Int32)), (.int q0)])) t → Steps p.tables e below (s₁.setTop (mkF m 1 #[.val (.int q0)] [(.int q0)])) t := by
      intro t k
      show Steps p.tables e below (s₁.setTop (mkF m 1 #[.val (.int q0)] [(.int q0)])) t
      refine XS.ifYes X0.here hx rfl (pc0 := 1) (pc' := 6) rfl (hb hby d2_1) rfl ((if0 _ _).trans (flt c2).2.1) (by decide) (by decide) ?_
      show Steps p.tables e below (s₁.setTop (mkF m 6 #[.val (.int q0)] [])) t
      refine XS.iloadN X0.here hx rfl (hb hby d2_6) rfl ?_
      show Steps p.tables e below (s₁.setTop (mkF m 7 #[.val (.int q0)] [(.int q0)])) t
      refine XS.bipush X0.here hx rfl (hb hby d2_7) ?_
      exact k
    refine OFin.go sg4 ?_
    by_cases c5 : q0 < (32 : Int32)
    · have sg6 : ∀ t, Steps p.tables e below (s₁.setTop (mkF m 15 #[.val (.int q0)] [(.int (9 : Int32)), (.int q0)])) t → Steps p.tables e below (s₁.setTop (mkF m 9 #[.val (.int q0)] [(.int (32 : Int32)), (.int q0)])) t := by
        intro t k
        show Steps p.tables e below (s₁.setTop (mkF m 9 #[.val (.int q0)] [(.int (32 : Int32)), (.int q0)])) t
        refine XS.icmpNo X0.here hx rfl (hb hby d2_9) rfl (tlt c5).2.1 ?_
        show Steps p.tables e below (s₁.setTop (mkF m 12 #[.val (.int q0)] [])) t
        refine XS.iloadN X0.here hx rfl (hb hby d2_12) rfl ?_
        show Steps p.tables e below (s₁.setTop (mkF m 13 #[.val (.int q0)] [(.int q0)])) t
        refine XS.bipush X0.here hx rfl (hb hby d2_13) ?_
        exact k
      refine OFin.go sg6 ?_
      by_cases c7 : q0 = (9 : Int32)
      · have sg8 : ∀ t, Steps p.tables e below (s₁.setTop (mkF m 35 #[.val (.int q0)] [(.int (1 : Int32))])) t → Steps p.tables e below (s₁.setTop (mkF m 15 #[.val (.int q0)] [(.int (9 : Int32)), (.int q0)])) t := by
          intro t k
          show Steps p.tables e below (s₁.setTop (mkF m 15 #[.val (.int q0)] [(.int (9 : Int32)), (.int q0)])) t
          refine XS.icmpYes X0.here hx rfl (pc0 := 15) (pc' := 30) rfl (hb hby d2_15) rfl (teq c7).1 (by decide) (by decide) ?_
          show Steps p.tables e below (s₁.setTop (mkF m 30 #[.val (.int q0)] [])) t
          refine XS.iconst X0.here hx rfl (hb hby d2_30) ?_
          show Steps p.tables e below (s₁.setTop (mkF m 31 #[.val (.int q0)] [(.int (1 : Int32))])) t
          refine XS.goto X0.here hx rfl (pc0 := 31) (pc' := 35) rfl (hb hby d2_31) (by decide) (by decide) ?_
          exact k
        refine OFin.go sg8 ?_
        exact OFin.retN X0 hx hret (by simp) hlk (hb hby d2_35) rfl (by rw [e0]; exact ⟨(congrArg (fun z => some (Value.int z)) (show (1 : Int32) = own_f2 q0 from (by rw [own_f2, if_neg c2, if_pos c5, if_pos c7]))), N0, rfl⟩) (by decide) (by decide)
      · have sg9 : ∀ t, Steps p.tables e below (s₁.setTop (mkF m 21 #[.val (.int q0)] [(.int (10 : Int32)), (.int q0)])) t → Steps p.tables e below (s₁.setTop (mkF m 15 #[.val (.int q0)] [(.int (9 : Int32)), (.int q0)])) t := by
          intro t k
          show Steps p.tables e below (s₁.setTop (mkF m 15 #[.val (.int q0)] [(.int (9 : Int32)), (.int q0)])) t
          refine XS.icmpNo X0.here hx rfl (hb hby d2_15) rfl (feq c7).1 ?_
          show Steps p.tables e below (s₁.setTop (mkF m 18 #[.val (.int q0)] [])) t
          refine XS.iloadN X0.here hx rfl (hb hby d2_18) rfl ?_
          show Steps p.tables e below (s₁.setTop (mkF m 19 #[.val (.int q0)] [(.int q0)])) t
          refine XS.bipush X0.here hx rfl (hb hby d2_19) ?_
          exact k
        refine OFin.go sg9 ?_
        by_cases c10 : q0 = (10 : Int32)
        · have sg11 : ∀ t, Steps p.tables e below (s₁.setTop (mkF m 35 #[.val (.int q0)] [(.int (1 : Int32))])) t → Steps p.tables e below (s₁.setTop (mkF m 21 #[.val (.int q0)] [(.int (10 : Int32)), (.int q0)])) t := by
            intro t k
            show Steps p.tables e below (s₁.setTop (mkF m 21 #[.val (.int q0)] [(.int (10 : Int32)), (.int q0)])) t
            refine XS.icmpYes X0.here hx rfl (pc0 := 21) (pc' := 30) rfl (hb hby d2_21) rfl (teq c10).1 (by decide) (by decide) ?_
            show Steps p.tables e below (s₁.setTop (mkF m 30 #[.val (.int q0)] [])) t
            refine XS.iconst X0.here hx rfl (hb hby d2_30) ?_
            show Steps p.tables e below (s₁.setTop (mkF m 31 #[.val (.int q0)] [(.int (1 : Int32))])) t
            refine XS.goto X0.here hx rfl (pc0 := 31) (pc' := 35) rfl (hb hby d2_31) (by decide) (by decide) ?_
            exact k
          refine OFin.go sg11 ?_
          exact OFin.retN X0 hx hret (by simp) hlk (hb hby d2_35) rfl (by rw [e0]; exact ⟨(congrArg (fun z => some (Value.int z)) (show (1 : Int32) = own_f2 q0 from (by rw [own_f2, if_neg c2, if_pos c5, if_neg c7, if_pos c10]))), N0, rfl⟩) (by decide) (by decide)
        · have sg12 : ∀ t, Steps p.tables e below (s₁.setTop (mkF m 27 #[.val (.int q0)] [(.int (13 : Int32)), (.int q0)])) t → Steps p.tables e below (s₁.setTop (mkF m 21 #[.val (.int q0)] [(.int (10 : Int32)), (.int q0)])) t := by
            intro t k
            show Steps p.tables e below (s₁.setTop (mkF m 21 #[.val (.int q0)] [(.int (10 : Int32)), (.int q0)])) t
            refine XS.icmpNo X0.here hx rfl (hb hby d2_21) rfl (feq c10).1 ?_
            show Steps p.tables e below (s₁.setTop (mkF m 24 #[.val (.int q0)] [])) t
            refine XS.iloadN X0.here hx rfl (hb hby d2_24) rfl ?_
            show Steps p.tables e below (s₁.setTop (mkF m 25 #[.val (.int q0)] [(.int q0)])) t
            refine XS.bipush X0.here hx rfl (hb hby d2_25) ?_
            exact k
          refine OFin.go sg12 ?_
          by_cases c13 : q0 = (13 : Int32)
          · have sg14 : ∀ t, Steps p.tables e below (s₁.setTop (mkF m 35 #[.val (.int q0)] [(.int (1 : Int32))])) t → Steps p.tables e below (s₁.setTop (mkF m 27 #[.val (.int q0)] [(.int (13 : Int32)), (.int q0)])) t := by
              intro t k
              show Steps p.tables e below (s₁.setTop (mkF m 27 #[.val (.int q0)] [(.int (13 : Int32)), (.int q0)])) t
              refine XS.icmpNo X0.here hx rfl (hb hby d2_27) rfl (teq c13).2 ?_
              show Steps p.tables e below (s₁.setTop (mkF m 30 #[.val (.int q0)] [])) t
              refine XS.iconst X0.here hx rfl (hb hby d2_30) ?_
              show Steps p.tables e below (s₁.setTop (mkF m 31 #[.val (.int q0)] [(.int (1 : Int32))])) t
              refine XS.goto X0.here hx rfl (pc0 := 31) (pc' := 35) rfl (hb hby d2_31) (by decide) (by decide) ?_
              exact k
            refine OFin.go sg14 ?_
            exact OFin.retN X0 hx hret (by simp) hlk (hb hby d2_35) rfl (by rw [e0]; exact ⟨(congrArg (fun z => some (Value.int z)) (show (1 : Int32) = own_f2 q0 from (by rw [own_f2, if_neg c2, if_pos c5, if_neg c7, if_neg c10, if_pos c13]))), N0, rfl⟩) (by decide) (by decide)
          · have sg15 : ∀ t, Steps p.tables e below (s₁.setTop (mkF m 35 #[.val (.int q0)] [(.int (0 : Int32))])) t → Steps p.tables e below (s₁.setTop (mkF m 27 #[.val (.int q0)] [(.int (13 : Int32)), (.int q0)])) t := by
              intro t k
              show Steps p.tables e below (s₁.setTop (mkF m 27 #[.val (.int q0)] [(.int (13 : Int32)), (.int q0)])) t
              refine XS.icmpYes X0.here hx rfl (pc0 := 27) (pc' := 34) rfl (hb hby d2_27) rfl (feq c13).2 (by decide) (by decide) ?_
              show Steps p.tables e below (s₁.setTop (mkF m 34 #[.val (.int q0)] [])) t
              refine XS.iconst X0.here hx rfl (hb hby d2_34) ?_
              exact k
            refine OFin.go sg15 ?_
            exact OFin.retN X0 hx hret (by simp) hlk (hb hby d2_35) rfl (by rw [e0]; exact ⟨(congrArg (fun z => some (Value.int z)) (show (0 : Int32) = own_f2 q0 from (by rw [own_f2, if_neg c2, if_pos c5, if_neg c7, if_neg c10, if_neg c13]))), N0, rfl⟩) (by decide) (by decide)
    · have sg16 : ∀ t, Steps p.tables e below (s₁.setTop (mkF m 39 #[.val (.int q0)] [(.int (55296 : Int32)), (.int q0)])) t → Steps p.tables e below (s₁.setTop (mkF m 9 #[.val (.int q0)] [(.int (32 : Int32)), (.int q0)])) t := by
        intro t k
        show Steps p.tables e below (s₁.setTop (mkF m 9 #[.val (.int q0)] [(.int (32 : Int32)), (.int q0)])) t
        refine XS.icmpYes X0.here hx rfl (pc0 := 9) (pc' := 36) rfl (hb hby d2_9) rfl (flt c5).2.1 (by decide) (by decide) ?_
        show Steps p.tables e below (s₁.setTop (mkF m 36 #[.val (.int q0)] [])) t
        refine XS.iloadN X0.here hx rfl (hb hby d2_36) rfl ?_
        show Steps p.tables e below (s₁.setTop (mkF m 37 #[.val (.int q0)] [(.int q0)])) t
        refine X0.ldcInt hx hown (mvT hZ (hw _ (List.mem_of_getElem? (i := 2) rfl))) (g := (mkF m 37 #[.val (.int q0)] [(.int q0)])) rfl (hb hby d2_37) _ ?_
        exact k
      refine OFin.go sg16 ?_
      by_cases c17 : q0 < (55296 : Int32)
      · have sg18 : ∀ t, Steps p.tables e below (s₁.setTop (mkF m 53 #[.val (.int q0)] [(.int (65534 : Int32)), (.int q0)])) t → Steps p.tables e below (s₁.setTop (mkF m 39 #[.val (.int q0)] [(.int (55296 : Int32)), (.int q0)])) t := by
          intro t k
          show Steps p.tables e below (s₁.setTop (mkF m 39 #[.val (.int q0)] [(.int (55296 : Int32)), (.int q0)])) t
          refine XS.icmpYes X0.here hx rfl (pc0 := 39) (pc' := 50) rfl (hb hby d2_39) rfl (tlt c17).1 (by decide) (by decide) ?_
          show Steps p.tables e below (s₁.setTop (mkF m 50 #[.val (.int q0)] [])) t
          refine XS.iloadN X0.here hx rfl (hb hby d2_50) rfl ?_
          show Steps p.tables e below (s₁.setTop (mkF m 51 #[.val (.int q0)] [(.int q0)])) t
          refine X0.ldcInt hx hown (mvT hZ (hw _ (List.mem_of_getElem? (i := 6) rfl))) (g := (mkF m 51 #[.val (.int q0)] [(.int q0)])) rfl (hb hby d2_51) _ ?_
          exact k
        refine OFin.go sg18 ?_
        by_cases c19 : q0 = (65534 : Int32)
        · have sg20 : ∀ t, Steps p.tables e below (s₁.setTop (mkF m 63 #[.val (.int q0)] [(.int (0 : Int32))])) t → Steps p.tables e below (s₁.setTop (mkF m 53 #[.val (.int q0)] [(.int (65534 : Int32)), (.int q0)])) t := by
            intro t k
            show Steps p.tables e below (s₁.setTop (mkF m 53 #[.val (.int q0)] [(.int (65534 : Int32)), (.int q0)])) t
            refine XS.icmpYes X0.here hx rfl (pc0 := 53) (pc' := 62) rfl (hb hby d2_53) rfl (teq c19).1 (by decide) (by decide) ?_
            show Steps p.tables e below (s₁.setTop (mkF m 62 #[.val (.int q0)] [])) t
            refine XS.iconst X0.here hx rfl (hb hby d2_62) ?_
            exact k
          refine OFin.go sg20 ?_
          exact OFin.retN X0 hx hret (by simp) hlk (hb hby d2_63) rfl (by rw [e0]; exact ⟨(congrArg (fun z => some (Value.int z)) (show (0 : Int32) = own_f2 q0 from (by rw [own_f2, if_neg c2, if_neg c5, if_pos c17, if_pos c19]))), N0, rfl⟩) (by decide) (by decide)
        · have sg21 : ∀ t, Steps p.tables e below (s₁.setTop (mkF m 59 #[.val (.int q0)] [(.int (65535 : Int32)), (.int q0)])) t → Steps p.tables e below (s₁.setTop (mkF m 53 #[.val (.int q0)] [(.int (65534 : Int32)), (.int q0)])) t := by
            intro t k
            show Steps p.tables e below (s₁.setTop (mkF m 53 #[.val (.int q0)] [(.int (65534 : Int32)), (.int q0)])) t
            refine XS.icmpNo X0.here hx rfl (hb hby d2_53) rfl (feq c19).1 ?_
            show Steps p.tables e below (s₁.setTop (mkF m 56 #[.val (.int q0)] [])) t
            refine XS.iloadN X0.here hx rfl (hb hby d2_56) rfl ?_
            show Steps p.tables e below (s₁.setTop (mkF m 57 #[.val (.int q0)] [(.int q0)])) t
            refine X0.ldcInt hx hown (mvT hZ (hw _ (List.mem_of_getElem? (i := 7) rfl))) (g := (mkF m 57 #[.val (.int q0)] [(.int q0)])) rfl (hb hby d2_57) _ ?_
            exact k
          refine OFin.go sg21 ?_
          by_cases c22 : q0 = (65535 : Int32)
          · have sg23 : ∀ t, Steps p.tables e below (s₁.setTop (mkF m 63 #[.val (.int q0)] [(.int (0 : Int32))])) t → Steps p.tables e below (s₁.setTop (mkF m 59 #[.val (.int q0)] [(.int (65535 : Int32)), (.int q0)])) t := by
              intro t k
              show Steps p.tables e below (s₁.setTop (mkF m 59 #[.val (.int q0)] [(.int (65535 : Int32)), (.int q0)])) t
              refine XS.icmpNo X0.here hx rfl (hb hby d2_59) rfl (teq c22).2 ?_
              show Steps p.tables e below (s₁.setTop (mkF m 62 #[.val (.int q0)] [])) t
              refine XS.iconst X0.here hx rfl (hb hby d2_62) ?_
              exact k
            refine OFin.go sg23 ?_
            exact OFin.retN X0 hx hret (by simp) hlk (hb hby d2_63) rfl (by rw [e0]; exact ⟨(congrArg (fun z => some (Value.int z)) (show (0 : Int32) = own_f2 q0 from (by rw [own_f2, if_neg c2, if_neg c5, if_pos c17, if_neg c19, if_pos c22]))), N0, rfl⟩) (by decide) (by decide)
          · have sg24 : ∀ t, Steps p.tables e below (s₁.setTop (mkF m 67 #[.val (.int q0)] [(.int (1114111 : Int32)), (.int q0)])) t → Steps p.tables e below (s₁.setTop (mkF m 59 #[.val (.int q0)] [(.int (65535 : Int32)), (.int q0)])) t := by
              intro t k
              show Steps p.tables e below (s₁.setTop (mkF m 59 #[.val (.int q0)] [(.int (65535 : Int32)), (.int q0)])) t
              refine XS.icmpYes X0.here hx rfl (pc0 := 59) (pc' := 64) rfl (hb hby d2_59) rfl (feq c22).2 (by decide) (by decide) ?_
              show Steps p.tables e below (s₁.setTop (mkF m 64 #[.val (.int q0)] [])) t
              refine XS.iloadN X0.here hx rfl (hb hby d2_64) rfl ?_
              show Steps p.tables e below (s₁.setTop (mkF m 65 #[.val (.int q0)] [(.int q0)])) t
              refine X0.ldcInt hx hown (mvT hZ (hw _ (List.mem_of_getElem? (i := 9) rfl))) (g := (mkF m 65 #[.val (.int q0)] [(.int q0)])) rfl (hb hby d2_65) _ ?_
              exact k
            refine OFin.go sg24 ?_
            by_cases c25 : (1114111 : Int32) < q0
            · have sg26 : ∀ t, Steps p.tables e below (s₁.setTop (mkF m 75 #[.val (.int q0)] [(.int (0 : Int32))])) t → Steps p.tables e below (s₁.setTop (mkF m 67 #[.val (.int q0)] [(.int (1114111 : Int32)), (.int q0)])) t := by
                intro t k
                show Steps p.tables e below (s₁.setTop (mkF m 67 #[.val (.int q0)] [(.int (1114111 : Int32)), (.int q0)])) t
                refine XS.icmpYes X0.here hx rfl (pc0 := 67) (pc' := 74) rfl (hb hby d2_67) rfl (tlt c25).2.2.1 (by decide) (by decide) ?_
                show Steps p.tables e below (s₁.setTop (mkF m 74 #[.val (.int q0)] [])) t
                refine XS.iconst X0.here hx rfl (hb hby d2_74) ?_
                exact k
              refine OFin.go sg26 ?_
              exact OFin.retN X0 hx hret (by simp) hlk (hb hby d2_75) rfl (by rw [e0]; exact ⟨(congrArg (fun z => some (Value.int z)) (show (0 : Int32) = own_f2 q0 from (by rw [own_f2, if_neg c2, if_neg c5, if_pos c17, if_neg c19, if_neg c22, if_pos c25]))), N0, rfl⟩) (by decide) (by decide)
            · have sg27 : ∀ t, Steps p.tables e below (s₁.setTop (mkF m 75 #[.val (.int q0)] [(.int (1 : Int32))])) t → Steps p.tables e below (s₁.setTop (mkF m 67 #[.val (.int q0)] [(.int (1114111 : Int32)), (.int q0)])) t := by
                intro t k
                show Steps p.tables e below (s₁.setTop (mkF m 67 #[.val (.int q0)] [(.int (1114111 : Int32)), (.int q0)])) t
                refine XS.icmpNo X0.here hx rfl (hb hby d2_67) rfl (flt c25).2.2.1 ?_
                show Steps p.tables e below (s₁.setTop (mkF m 70 #[.val (.int q0)] [])) t
                refine XS.iconst X0.here hx rfl (hb hby d2_70) ?_
                show Steps p.tables e below (s₁.setTop (mkF m 71 #[.val (.int q0)] [(.int (1 : Int32))])) t
                refine XS.goto X0.here hx rfl (pc0 := 71) (pc' := 75) rfl (hb hby d2_71) (by decide) (by decide) ?_
                exact k
              refine OFin.go sg27 ?_
              exact OFin.retN X0 hx hret (by simp) hlk (hb hby d2_75) rfl (by rw [e0]; exact ⟨(congrArg (fun z => some (Value.int z)) (show (1 : Int32) = own_f2 q0 from (by rw [own_f2, if_neg c2, if_neg c5, if_pos c17, if_neg c19, if_neg c22, if_neg c25]))), N0, rfl⟩) (by decide) (by decide)
      · have sg28 : ∀ t, Steps p.tables e below (s₁.setTop (mkF m 45 #[.val (.int q0)] [(.int (57343 : Int32)), (.int q0)])) t → Steps p.tables e below (s₁.setTop (mkF m 39 #[.val (.int q0)] [(.int (55296 : Int32)), (.int q0)])) t := by
          intro t k
          show Steps p.tables e below (s₁.setTop (mkF m 39 #[.val (.int q0)] [(.int (55296 : Int32)), (.int q0)])) t
          refine XS.icmpNo X0.here hx rfl (hb hby d2_39) rfl (flt c17).1 ?_
          show Steps p.tables e below (s₁.setTop (mkF m 42 #[.val (.int q0)] [])) t
          refine XS.iloadN X0.here hx rfl (hb hby d2_42) rfl ?_
          show Steps p.tables e below (s₁.setTop (mkF m 43 #[.val (.int q0)] [(.int q0)])) t
          refine X0.ldcInt hx hown (mvT hZ (hw _ (List.mem_of_getElem? (i := 3) rfl))) (g := (mkF m 43 #[.val (.int q0)] [(.int q0)])) rfl (hb hby d2_43) _ ?_
          exact k
        refine OFin.go sg28 ?_
        by_cases c29 : (57343 : Int32) < q0
        · have sg30 : ∀ t, Steps p.tables e below (s₁.setTop (mkF m 53 #[.val (.int q0)] [(.int (65534 : Int32)), (.int q0)])) t → Steps p.tables e below (s₁.setTop (mkF m 45 #[.val (.int q0)] [(.int (57343 : Int32)), (.int q0)])) t := by
            intro t k
            show Steps p.tables e below (s₁.setTop (mkF m 45 #[.val (.int q0)] [(.int (57343 : Int32)), (.int q0)])) t
            refine XS.icmpYes X0.here hx rfl (pc0 := 45) (pc' := 50) rfl (hb hby d2_45) rfl (tlt c29).2.2.1 (by decide) (by decide) ?_
            show Steps p.tables e below (s₁.setTop (mkF m 50 #[.val (.int q0)] [])) t
            refine XS.iloadN X0.here hx rfl (hb hby d2_50) rfl ?_
            show Steps p.tables e below (s₁.setTop (mkF m 51 #[.val (.int q0)] [(.int q0)])) t
            refine X0.ldcInt hx hown (mvT hZ (hw _ (List.mem_of_getElem? (i := 6) rfl))) (g := (mkF m 51 #[.val (.int q0)] [(.int q0)])) rfl (hb hby d2_51) _ ?_
            exact k
          refine OFin.go sg30 ?_
          by_cases c31 : q0 = (65534 : Int32)
          · have sg32 : ∀ t, Steps p.tables e below (s₁.setTop (mkF m 63 #[.val (.int q0)] [(.int (0 : Int32))])) t → Steps p.tables e below (s₁.setTop (mkF m 53 #[.val (.int q0)] [(.int (65534 : Int32)), (.int q0)])) t := by
              intro t k
              show Steps p.tables e below (s₁.setTop (mkF m 53 #[.val (.int q0)] [(.int (65534 : Int32)), (.int q0)])) t
              refine XS.icmpYes X0.here hx rfl (pc0 := 53) (pc' := 62) rfl (hb hby d2_53) rfl (teq c31).1 (by decide) (by decide) ?_
              show Steps p.tables e below (s₁.setTop (mkF m 62 #[.val (.int q0)] [])) t
              refine XS.iconst X0.here hx rfl (hb hby d2_62) ?_
              exact k
            refine OFin.go sg32 ?_
            exact OFin.retN X0 hx hret (by simp) hlk (hb hby d2_63) rfl (by rw [e0]; exact ⟨(congrArg (fun z => some (Value.int z)) (show (0 : Int32) = own_f2 q0 from (by rw [own_f2, if_neg c2, if_neg c5, if_neg c17, if_pos c29, if_pos c31]))), N0, rfl⟩) (by decide) (by decide)
          · have sg33 : ∀ t, Steps p.tables e below (s₁.setTop (mkF m 59 #[.val (.int q0)] [(.int (65535 : Int32)), (.int q0)])) t → Steps p.tables e below (s₁.setTop (mkF m 53 #[.val (.int q0)] [(.int (65534 : Int32)), (.int q0)])) t := by
              intro t k
              show Steps p.tables e below (s₁.setTop (mkF m 53 #[.val (.int q0)] [(.int (65534 : Int32)), (.int q0)])) t
              refine XS.icmpNo X0.here hx rfl (hb hby d2_53) rfl (feq c31).1 ?_
              show Steps p.tables e below (s₁.setTop (mkF m 56 #[.val (.int q0)] [])) t
              refine XS.iloadN X0.here hx rfl (hb hby d2_56) rfl ?_
              show Steps p.tables e below (s₁.setTop (mkF m 57 #[.val (.int q0)] [(.int q0)])) t
              refine X0.ldcInt hx hown (mvT hZ (hw _ (List.mem_of_getElem? (i := 7) rfl))) (g := (mkF m 57 #[.val (.int q0)] [(.int q0)])) rfl (hb hby d2_57) _ ?_
              exact k
            refine OFin.go sg33 ?_
            by_cases c34 : q0 = (65535 : Int32)
            · have sg35 : ∀ t, Steps p.tables e below (s₁.setTop (mkF m 63 #[.val (.int q0)] [(.int (0 : Int32))])) t → Steps p.tables e below (s₁.setTop (mkF m 59 #[.val (.int q0)] [(.int (65535 : Int32)), (.int q0)])) t := by
                intro t k
                show Steps p.tables e below (s₁.setTop (mkF m 59 #[.val (.int q0)] [(.int (65535 : Int32)), (.int q0)])) t
                refine XS.icmpNo X0.here hx rfl (hb hby d2_59) rfl (teq c34).2 ?_
                show Steps p.tables e below (s₁.setTop (mkF m 62 #[.val (.int q0)] [])) t
                refine XS.iconst X0.here hx rfl (hb hby d2_62) ?_
                exact k
              refine OFin.go sg35 ?_
              exact OFin.retN X0 hx hret (by simp) hlk (hb hby d2_63) rfl (by rw [e0]; exact ⟨(congrArg (fun z => some (Value.int z)) (show (0 : Int32) = own_f2 q0 from (by rw [own_f2, if_neg c2, if_neg c5, if_neg c17, if_pos c29, if_neg c31, if_pos c34]))), N0, rfl⟩) (by decide) (by decide)
            · have sg36 : ∀ t, Steps p.tables e below (s₁.setTop (mkF m 67 #[.val (.int q0)] [(.int (1114111 : Int32)), (.int q0)])) t → Steps p.tables e below (s₁.setTop (mkF m 59 #[.val (.int q0)] [(.int (65535 : Int32)), (.int q0)])) t := by
                intro t k
                show Steps p.tables e below (s₁.setTop (mkF m 59 #[.val (.int q0)] [(.int (65535 : Int32)), (.int q0)])) t
                refine XS.icmpYes X0.here hx rfl (pc0 := 59) (pc' := 64) rfl (hb hby d2_59) rfl (feq c34).2 (by decide) (by decide) ?_
                show Steps p.tables e below (s₁.setTop (mkF m 64 #[.val (.int q0)] [])) t
                refine XS.iloadN X0.here hx rfl (hb hby d2_64) rfl ?_
                show Steps p.tables e below (s₁.setTop (mkF m 65 #[.val (.int q0)] [(.int q0)])) t
                refine X0.ldcInt hx hown (mvT hZ (hw _ (List.mem_of_getElem? (i := 9) rfl))) (g := (mkF m 65 #[.val (.int q0)] [(.int q0)])) rfl (hb hby d2_65) _ ?_
                exact k
              refine OFin.go sg36 ?_
              by_cases c37 : (1114111 : Int32) < q0
              · have sg38 : ∀ t, Steps p.tables e below (s₁.setTop (mkF m 75 #[.val (.int q0)] [(.int (0 : Int32))])) t → Steps p.tables e below (s₁.setTop (mkF m 67 #[.val (.int q0)] [(.int (1114111 : Int32)), (.int q0)])) t := by
                  intro t k
                  show Steps p.tables e below (s₁.setTop (mkF m 67 #[.val (.int q0)] [(.int (1114111 : Int32)), (.int q0)])) t
                  refine XS.icmpYes X0.here hx rfl (pc0 := 67) (pc' := 74) rfl (hb hby d2_67) rfl (tlt c37).2.2.1 (by decide) (by decide) ?_
                  show Steps p.tables e below (s₁.setTop (mkF m 74 #[.val (.int q0)] [])) t
                  refine XS.iconst X0.here hx rfl (hb hby d2_74) ?_
                  exact k
                refine OFin.go sg38 ?_
                exact OFin.retN X0 hx hret (by simp) hlk (hb hby d2_75) rfl (by rw [e0]; exact ⟨(congrArg (fun z => some (Value.int z)) (show (0 : Int32) = own_f2 q0 from (by rw [own_f2, if_neg c2, if_neg c5, if_neg c17, if_pos c29, if_neg c31, if_neg c34, if_pos c37]))), N0, rfl⟩) (by decide) (by decide)
              · have sg39 : ∀ t, Steps p.tables e below (s₁.setTop (mkF m 75 #[.val (.int q0)] [(.int (1 : Int32))])) t → Steps p.tables e below (s₁.setTop (mkF m 67 #[.val (.int q0)] [(.int (1114111 : Int32)), (.int q0)])) t := by
                  intro t k
                  show Steps p.tables e below (s₁.setTop (mkF m 67 #[.val (.int q0)] [(.int (1114111 : Int32)), (.int q0)])) t
                  refine XS.icmpNo X0.here hx rfl (hb hby d2_67) rfl (flt c37).2.2.1 ?_
                  show Steps p.tables e below (s₁.setTop (mkF m 70 #[.val (.int q0)] [])) t
                  refine XS.iconst X0.here hx rfl (hb hby d2_70) ?_
                  show Steps p.tables e below (s₁.setTop (mkF m 71 #[.val (.int q0)] [(.int (1 : Int32))])) t
                  refine XS.goto X0.here hx rfl (pc0 := 71) (pc' := 75) rfl (hb hby d2_71) (by decide) (by decide) ?_
                  exact k
                refine OFin.go sg39 ?_
                exact OFin.retN X0 hx hret (by simp) hlk (hb hby d2_75) rfl (by rw [e0]; exact ⟨(congrArg (fun z => some (Value.int z)) (show (1 : Int32) = own_f2 q0 from (by rw [own_f2, if_neg c2, if_neg c5, if_neg c17, if_pos c29, if_neg c31, if_neg c34, if_neg c37]))), N0, rfl⟩) (by decide) (by decide)
        · have sg40 : ∀ t, Steps p.tables e below (s₁.setTop (mkF m 49 #[.val (.int q0)] [(.int (0 : Int32))])) t → Steps p.tables e below (s₁.setTop (mkF m 45 #[.val (.int q0)] [(.int (57343 : Int32)), (.int q0)])) t := by
            intro t k
            show Steps p.tables e below (s₁.setTop (mkF m 45 #[.val (.int q0)] [(.int (57343 : Int32)), (.int q0)])) t
            refine XS.icmpNo X0.here hx rfl (hb hby d2_45) rfl (flt c29).2.2.1 ?_
            show Steps p.tables e below (s₁.setTop (mkF m 48 #[.val (.int q0)] [])) t
            refine XS.iconst X0.here hx rfl (hb hby d2_48) ?_
            exact k
          refine OFin.go sg40 ?_
          exact OFin.retN X0 hx hret (by simp) hlk (hb hby d2_49) rfl (by rw [e0]; exact ⟨(congrArg (fun z => some (Value.int z)) (show (0 : Int32) = own_f2 q0 from (by rw [own_f2, if_neg c2, if_neg c5, if_neg c17, if_neg c29]))), N0, rfl⟩) (by decide) (by decide)
theorem own_same (c : Int32) : own_f1 c = own_f2 c := by
  unfold own_f1 own_f2
  simp only [Int32.lt_iff_toInt_lt, ← Int32.toInt_inj]
  generalize c.toInt = z
  simp only [show (9 : Int32).toInt = 9 from rfl, show (10 : Int32).toInt = 10 from rfl, show (13 : Int32).toInt = 13 from rfl, show (32 : Int32).toInt = 32 from rfl, show (0 : Int32).toInt = 0 from rfl, show (55295 : Int32).toInt = 55295 from rfl, show (55296 : Int32).toInt = 55296 from rfl, show (57343 : Int32).toInt = 57343 from rfl, show (57344 : Int32).toInt = 57344 from rfl, show (65533 : Int32).toInt = 65533 from rfl, show (65534 : Int32).toInt = 65534 from rfl, show (65535 : Int32).toInt = 65535 from rfl, show (65536 : Int32).toInt = 65536 from rfl, show (1114111 : Int32).toInt = 1114111 from rfl]
  repeat' split
  all_goals first | rfl | omega
theorem own_ints (l : List Int32) (i : Nat) : ∃ w, (l.map Value.int).getD i (.int 0) = .int w := by
  induction l generalizing i with
  | nil => exact ⟨0, rfl⟩
  | cons x l ih =>
    cases i with
    | zero => exact ⟨x, rfl⟩
    | succ i => exact ih i
theorem own_idx (x : Int32) : ¬ ((x &&& (2147483647 : Int32)) % (17 : Int32) < 0) ∧ (x &&& (2147483647 : Int32)) % (17 : Int32) < 17 := by
  have a := c_and x 2147483647 (by decide)
  have b := (c_irem (x &&& (2147483647 : Int32)) 17 17 rfl).1 a.1
  rw [Int32.lt_iff_toInt_lt, Int32.lt_iff_toInt_lt]
  simp only [show (0 : Int32).toInt = 0 from rfl, show (17 : Int32).toInt = 17 from rfl]
  omega
theorem pd_0 : parseMethodDescriptor "(I)Z" = some ⟨[.int], some .boolean⟩ := by decide +kernel
theorem ef_0 (m : MethodId) (x0 : Int32) (x1 : Int32) (x2 : Int32) : entryFrame m #[(.int x0), (.int x1), (.int x2)] maxLocals = mkF m 0 #[.val (.int x0), .val (.int x1), .val (.int x2), .unset, .unset, .unset, .unset, .unset] [] := by first | (simp [entryFrame, mkF, argsToLocals, Value.category, maxLocals]; done) | rfl
def Q0 (Z : State) (q0 : Int32) (q1 : Int32) (q2 : Int32) (h0 : Heap) (n0 : Nat) (v : Option Value) (h : Heap) (L : List Loc) : Prop := v = some (.int (1 : Int32)) ∧ Fr n0 L
set_option maxHeartbeats 40000000 in
theorem rm0 (l : Launch) (Z : State) (aZ : Array Value) (hw : ∀ d ∈ tables_1, d.before aZ Z = true) (ws : List Jvm.Cond) (q0 : Int32) (q1 : Int32) (q2 : Int32) (h0 : Heap) (n0 : Nat) (Z0 : n0 ≤ h0.size) (O0 : Old Z n0 h0) :
    MetFree l x (head1 (Jvm.Cond.code x code maxLocals ret :: ws) room_1) (fun a U => a = #[(.int q0), (.int q1), (.int q2)] ∧ Z.Warmed39 U.vm ∧ U.heap = h0) (fun _ _ _ _ _ => True) (fun _ U o U' => ∃ v L, o = .returned v ∧ Q0 Z q0 q1 q2 h0 n0 v U'.heap L ∧ FrameEnd U o U' L room_1.cells room_1.slots) := by
  refine MetFree.of_bodySF (plainFor_of_name pn_1) hisR ?_
  intro p e s m args below meth c s₁ Bd hml0 hP hK
  obtain ⟨rfl, hZ, hh⟩ := hP
  have hx := Bd.exec
  have hby := Bd.bytes
  have hret := Bd.returns
  have hlk : meth.locks = false := BodyLoose.notSynchronized Bd
  have hml : c.maxLocals = 8 := hml0
  have hown : s.vm.findClass "com/example/avvik/avvik/io/XsdValuesIsXmlCharPinLaw" = some m.cls := findClass_of_methodNamed Bd.named
  have hnm := (name_of_methodNamed Bd.named Bd.method).1
  have X0 : Stand p l e room_1 s m #[(.int q0), (.int q1), (.int q2)] below meth c s₁ [] 0 0 := Stand.of_body Bd
  have e0 : s₁.heap = h0 := by rw [← hh, Bd.state]; rfl
  have N0 := Fr.nil n0
  have K0 : Keep h0 h0 [] := Keep.refl _ _
  have pre0 : ∀ t, Steps p.tables e below (s₁.setTop (mkF m 0 #[.val (.int q0), .val (.int q1), .val (.int q2), .unset, .unset, .unset, .unset, .unset] [])) t → Steps p.tables e below (s₁.setTop (entryFrame m #[(.int q0), (.int q1), (.int q2)] maxLocals)) t := fun t k => castTop (ef_0 m q0 q1 q2) k
  show OFin p e below s (Q0 Z q0 q1 q2 h0 n0) room_1.cells room_1.slots _
  refine OFin.go pre0 ?_
  have sg1 : ∀ t, Steps p.tables e below (s₁.setTop (mkF m 2 #[.val (.int q0), .val (.int q1), .val (.int q2), .unset, .unset, .unset, .unset, .unset] [(.int (17 : Int32))])) t → Steps p.tables e below (s₁.setTop (mkF m 0 #[.val (.int q0), .val (.int q1), .val (.int q2), .unset, .unset, .unset, .unset, .unset] [])) t := by
    intro t k
    show Steps p.tables e below (s₁.setTop (mkF m 0 #[.val (.int q0), .val (.int q1), .val (.int q2), .unset, .unset, .unset, .unset, .unset] [])) t
    refine XS.bipush X0.here hx rfl (hb hby at_0) ?_
    exact k
  refine OFin.go sg1 ?_
  obtain ⟨T2, h2, k2, X2, e2, E2, A2, st2⟩ := newP X0 hx hZ (hw _ (List.mem_of_getElem? (i := 0) rfl)) e0 (g := (mkF m 2 #[.val (.int q0), .val (.int q1), .val (.int q2), .unset, .unset, .unset, .unset, .unset] [(.int (17 : Int32))])) rfl (hb hby at_2) rfl (by decide) (cap := 17) (by decide) (by decide) (by decide) (by decide)
  obtain ⟨b2, g2⟩ : ∃ z, z = h0.size := ⟨_, rfl⟩
  rw [← g2] at A2 st2
  refine OFin.go st2 ?_
  have g_b2 : n0 ≤ b2 := Nat.le_trans (Nat.le_trans Z0 K0.1) (Nat.le_of_eq g2.symm)
  have sz_b2 : h0.size ≤ b2 := Nat.le_trans K0.1 (Nat.le_of_eq g2.symm)
  have K2 : Keep h0 h2 [] := K0.ext E2
  have V2 : Arv Z h2 b2 k2 .int (17 : Int32) [(.int (0 : Int32)), (.int (0 : Int32)), (.int (0 : Int32)), (.int (0 : Int32)), (.int (0 : Int32)), (.int (0 : Int32)), (.int (0 : Int32)), (.int (0 : Int32)), (.int (0 : Int32)), (.int (0 : Int32)), (.int (0 : Int32)), (.int (0 : Int32)), (.int (0 : Int32)), (.int (0 : Int32)), (.int (0 : Int32)), (.int (0 : Int32)), (.int (0 : Int32))] (.int (0 : Int32)) := (Arv.new A2 (by decide)).pad (pad_rep [] (.int (0 : Int32)) 17)
  have sg3 : ∀ t, Steps p.tables e below (T2.setTop (mkF m 7 #[.val (.int q0), .val (.int q1), .val (.int q2), .unset, .unset, .unset, .unset, .unset] [(.int (0 : Int32)), (.int (0 : Int32)), (.ref b2), (.ref b2)])) t → Steps p.tables e below (T2.setTop (mkF m 4 #[.val (.int q0), .val (.int q1), .val (.int q2), .unset, .unset, .unset, .unset, .unset] [(.ref b2)])) t := by
    intro t k
    show Steps p.tables e below (T2.setTop (mkF m 4 #[.val (.int q0), .val (.int q1), .val (.int q2), .unset, .unset, .unset, .unset, .unset] [(.ref b2)])) t
    refine XS.dup X2.here hx rfl (hb hby at_4) rfl rfl ?_
    show Steps p.tables e below (T2.setTop (mkF m 5 #[.val (.int q0), .val (.int q1), .val (.int q2), .unset, .unset, .unset, .unset, .unset] [(.ref b2), (.ref b2)])) t
    refine XS.iconst X2.here hx rfl (hb hby at_5) ?_
    show Steps p.tables e below (T2.setTop (mkF m 6 #[.val (.int q0), .val (.int q1), .val (.int q2), .unset, .unset, .unset, .unset, .unset] [(.int (0 : Int32)), (.ref b2), (.ref b2)])) t
    refine XS.iconst X2.here hx rfl (hb hby at_6) ?_
    exact k
  refine OFin.go sg3 ?_
  obtain ⟨cl4, Ar4, q4, S4, M4, H4, G4⟩ := V2
  have hin4 : ¬ ((0 : Int32) < 0 ∨ cl4.slots.size ≤ ((0 : Int32)).toNatClampNeg) := inb_of S4 ⟨by decide, by decide⟩
  obtain ⟨T4, h4, X4, e4, W4, st4⟩ := stI X2 hx hZ e2 Ar4 (j := (0 : Int32)) hin4 (g := (mkF m 7 #[.val (.int q0), .val (.int q1), .val (.int q2), .unset, .unset, .unset, .unset, .unset] [(.int (0 : Int32)), (.int (0 : Int32)), (.ref b2), (.ref b2)])) rfl rfl (hb hby at_7)
  refine OFin.go st4 ?_
  have V4 : Arv Z h4 b2 k2 .int (17 : Int32) [(.int (0 : Int32)), (.int (0 : Int32)), (.int (0 : Int32)), (.int (0 : Int32)), (.int (0 : Int32)), (.int (0 : Int32)), (.int (0 : Int32)), (.int (0 : Int32)), (.int (0 : Int32)), (.int (0 : Int32)), (.int (0 : Int32)), (.int (0 : Int32)), (.int (0 : Int32)), (.int (0 : Int32)), (.int (0 : Int32)), (.int (0 : Int32)), (.int (0 : Int32))] (.int (0 : Int32)) := Arv.set Ar4 q4 S4 M4 H4 G4 rfl W4 0 rfl (Nat.le_of_ble_eq_true rfl)
  have K4 : Keep h0 h4 [] := K2.wr W4 (Or.inr sz_b2)
  have N4 := Fr.snoc X4 N0 g_b2
  have sg5 : ∀ t, Steps p.tables e below (T4.setTop (mkF m 12 #[.val (.int q0), .val (.int q1), .val (.int q2), .unset, .unset, .unset, .unset, .unset] [(.int (9 : Int32)), (.int (1 : Int32)), (.ref b2), (.ref b2)])) t → Steps p.tables e below (T4.setTop (mkF m 8 #[.val (.int q0), .val (.int q1), .val (.int q2), .unset, .unset, .unset, .unset, .unset] [(.ref b2)])) t := by
    intro t k
    show Steps p.tables e below (T4.setTop (mkF m 8 #[.val (.int q0), .val (.int q1), .val (.int q2), .unset, .unset, .unset, .unset, .unset] [(.ref b2)])) t
    refine XS.dup X4.here hx rfl (hb hby at_8) rfl rfl ?_
    show Steps p.tables e below (T4.setTop (mkF m 9 #[.val (.int q0), .val (.int q1), .val (.int q2), .unset, .unset, .unset, .unset, .unset] [(.ref b2), (.ref b2)])) t
    refine XS.iconst X4.here hx rfl (hb hby at_9) ?_
    show Steps p.tables e below (T4.setTop (mkF m 10 #[.val (.int q0), .val (.int q1), .val (.int q2), .unset, .unset, .unset, .unset, .unset] [(.int (1 : Int32)), (.ref b2), (.ref b2)])) t
    refine XS.bipush X4.here hx rfl (hb hby at_10) ?_
    exact k
  refine OFin.go sg5 ?_
  obtain ⟨cl6, Ar6, q6, S6, M6, H6, G6⟩ := V4
  have hin6 : ¬ ((1 : Int32) < 0 ∨ cl6.slots.size ≤ ((1 : Int32)).toNatClampNeg) := inb_of S6 ⟨by decide, by decide⟩
  obtain ⟨T6, h6, X6, e6, W6, st6⟩ := stI X4 hx hZ e4 Ar6 (j := (1 : Int32)) hin6 (g := (mkF m 12 #[.val (.int q0), .val (.int q1), .val (.int q2), .unset, .unset, .unset, .unset, .unset] [(.int (9 : Int32)), (.int (1 : Int32)), (.ref b2), (.ref b2)])) rfl rfl (hb hby at_12)
  refine OFin.go st6 ?_
  have V6 : Arv Z h6 b2 k2 .int (17 : Int32) [(.int (0 : Int32)), (.int (9 : Int32)), (.int (0 : Int32)), (.int (0 : Int32)), (.int (0 : Int32)), (.int (0 : Int32)), (.int (0 : Int32)), (.int (0 : Int32)), (.int (0 : Int32)), (.int (0 : Int32)), (.int (0 : Int32)), (.int (0 : Int32)), (.int (0 : Int32)), (.int (0 : Int32)), (.int (0 : Int32)), (.int (0 : Int32)), (.int (0 : Int32))] (.int (0 : Int32)) := Arv.set Ar6 q6 S6 M6 H6 G6 rfl W6 1 rfl (Nat.le_of_ble_eq_true rfl)
  have K6 : Keep h0 h6 [] := K4.wr W6 (Or.inr sz_b2)
  have N6 := Fr.snoc X6 N4 g_b2
  have sg7 : ∀ t, Steps p.tables e below (T6.setTop (mkF m 17 #[.val (.int q0), .val (.int q1), .val (.int q2), .unset, .unset, .unset, .unset, .unset] [(.int (10 : Int32)), (.int (2 : Int32)), (.ref b2), (.ref b2)])) t → Steps p.tables e below (T6.setTop (mkF m 13 #[.val (.int q0), .val (.int q1), .val (.int q2), .unset, .unset, .unset, .unset, .unset] [(.ref b2)])) t := by
    intro t k
    show Steps p.tables e below (T6.setTop (mkF m 13 #[.val (.int q0), .val (.int q1), .val (.int q2), .unset, .unset, .unset, .unset, .unset] [(.ref b2)])) t
    refine XS.dup X6.here hx rfl (hb hby at_13) rfl rfl ?_
    show Steps p.tables e below (T6.setTop (mkF m 14 #[.val (.int q0), .val (.int q1), .val (.int q2), .unset, .unset, .unset, .unset, .unset] [(.ref b2), (.ref b2)])) t
    refine XS.iconst X6.here hx rfl (hb hby at_14) ?_
    show Steps p.tables e below (T6.setTop (mkF m 15 #[.val (.int q0), .val (.int q1), .val (.int q2), .unset, .unset, .unset, .unset, .unset] [(.int (2 : Int32)), (.ref b2), (.ref b2)])) t
    refine XS.bipush X6.here hx rfl (hb hby at_15) ?_
    exact k
  refine OFin.go sg7 ?_
  obtain ⟨cl8, Ar8, q8, S8, M8, H8, G8⟩ := V6
  have hin8 : ¬ ((2 : Int32) < 0 ∨ cl8.slots.size ≤ ((2 : Int32)).toNatClampNeg) := inb_of S8 ⟨by decide, by decide⟩
  obtain ⟨T8, h8, X8, e8, W8, st8⟩ := stI X6 hx hZ e6 Ar8 (j := (2 : Int32)) hin8 (g := (mkF m 17 #[.val (.int q0), .val (.int q1), .val (.int q2), .unset, .unset, .unset, .unset, .unset] [(.int (10 : Int32)), (.int (2 : Int32)), (.ref b2), (.ref b2)])) rfl rfl (hb hby at_17)
  refine OFin.go st8 ?_
  have V8 : Arv Z h8 b2 k2 .int (17 : Int32) [(.int (0 : Int32)), (.int (9 : Int32)), (.int (10 : Int32)), (.int (0 : Int32)), (.int (0 : Int32)), (.int (0 : Int32)), (.int (0 : Int32)), (.int (0 : Int32)), (.int (0 : Int32)), (.int (0 : Int32)), (.int (0 : Int32)), (.int (0 : Int32)), (.int (0 : Int32)), (.int (0 : Int32)), (.int (0 : Int32)), (.int (0 : Int32)), (.int (0 : Int32))] (.int (0 : Int32)) := Arv.set Ar8 q8 S8 M8 H8 G8 rfl W8 2 rfl (Nat.le_of_ble_eq_true rfl)
  have K8 : Keep h0 h8 [] := K6.wr W8 (Or.inr sz_b2)
  have N8 := Fr.snoc X8 N6 g_b2
  have sg9 : ∀ t, Steps p.tables e below (T8.setTop (mkF m 22 #[.val (.int q0), .val (.int q1), .val (.int q2), .unset, .unset, .unset, .unset, .unset] [(.int (13 : Int32)), (.int (3 : Int32)), (.ref b2), (.ref b2)])) t → Steps p.tables e below (T8.setTop (mkF m 18 #[.val (.int q0), .val (.int q1), .val (.int q2), .unset, .unset, .unset, .unset, .unset] [(.ref b2)])) t := by
    intro t k
    show Steps p.tables e below (T8.setTop (mkF m 18 #[.val (.int q0), .val (.int q1), .val (.int q2), .unset, .unset, .unset, .unset, .unset] [(.ref b2)])) t
    refine XS.dup X8.here hx rfl (hb hby at_18) rfl rfl ?_
    show Steps p.tables e below (T8.setTop (mkF m 19 #[.val (.int q0), .val (.int q1), .val (.int q2), .unset, .unset, .unset, .unset, .unset] [(.ref b2), (.ref b2)])) t
    refine XS.iconst X8.here hx rfl (hb hby at_19) ?_
    show Steps p.tables e below (T8.setTop (mkF m 20 #[.val (.int q0), .val (.int q1), .val (.int q2), .unset, .unset, .unset, .unset, .unset] [(.int (3 : Int32)), (.ref b2), (.ref b2)])) t
    refine XS.bipush X8.here hx rfl (hb hby at_20) ?_
    exact k
  refine OFin.go sg9 ?_
  obtain ⟨cl10, Ar10, q10, S10, M10, H10, G10⟩ := V8
  have hin10 : ¬ ((3 : Int32) < 0 ∨ cl10.slots.size ≤ ((3 : Int32)).toNatClampNeg) := inb_of S10 ⟨by decide, by decide⟩
  obtain ⟨T10, h10, X10, e10, W10, st10⟩ := stI X8 hx hZ e8 Ar10 (j := (3 : Int32)) hin10 (g := (mkF m 22 #[.val (.int q0), .val (.int q1), .val (.int q2), .unset, .unset, .unset, .unset, .unset] [(.int (13 : Int32)), (.int (3 : Int32)), (.ref b2), (.ref b2)])) rfl rfl (hb hby at_22)
  refine OFin.go st10 ?_
  have V10 : Arv Z h10 b2 k2 .int (17 : Int32) [(.int (0 : Int32)), (.int (9 : Int32)), (.int (10 : Int32)), (.int (13 : Int32)), (.int (0 : Int32)), (.int (0 : Int32)), (.int (0 : Int32)), (.int (0 : Int32)), (.int (0 : Int32)), (.int (0 : Int32)), (.int (0 : Int32)), (.int (0 : Int32)), (.int (0 : Int32)), (.int (0 : Int32)), (.int (0 : Int32)), (.int (0 : Int32)), (.int (0 : Int32))] (.int (0 : Int32)) := Arv.set Ar10 q10 S10 M10 H10 G10 rfl W10 3 rfl (Nat.le_of_ble_eq_true rfl)
  have K10 : Keep h0 h10 [] := K8.wr W10 (Or.inr sz_b2)
  have N10 := Fr.snoc X10 N8 g_b2
  have sg11 : ∀ t, Steps p.tables e below (T10.setTop (mkF m 27 #[.val (.int q0), .val (.int q1), .val (.int q2), .unset, .unset, .unset, .unset, .unset] [(.int (32 : Int32)), (.int (4 : Int32)), (.ref b2), (.ref b2)])) t → Steps p.tables e below (T10.setTop (mkF m 23 #[.val (.int q0), .val (.int q1), .val (.int q2), .unset, .unset, .unset, .unset, .unset] [(.ref b2)])) t := by
    intro t k
    show Steps p.tables e below (T10.setTop (mkF m 23 #[.val (.int q0), .val (.int q1), .val (.int q2), .unset, .unset, .unset, .unset, .unset] [(.ref b2)])) t
    refine XS.dup X10.here hx rfl (hb hby at_23) rfl rfl ?_
    show Steps p.tables e below (T10.setTop (mkF m 24 #[.val (.int q0), .val (.int q1), .val (.int q2), .unset, .unset, .unset, .unset, .unset] [(.ref b2), (.ref b2)])) t
    refine XS.iconst X10.here hx rfl (hb hby at_24) ?_
    show Steps p.tables e below (T10.setTop (mkF m 25 #[.val (.int q0), .val (.int q1), .val (.int q2), .unset, .unset, .unset, .unset, .unset] [(.int (4 : Int32)), (.ref b2), (.ref b2)])) t
    refine XS.bipush X10.here hx rfl (hb hby at_25) ?_
    exact k
  refine OFin.go sg11 ?_
  obtain ⟨cl12, Ar12, q12, S12, M12, H12, G12⟩ := V10
  have hin12 : ¬ ((4 : Int32) < 0 ∨ cl12.slots.size ≤ ((4 : Int32)).toNatClampNeg) := inb_of S12 ⟨by decide, by decide⟩
  obtain ⟨T12, h12, X12, e12, W12, st12⟩ := stI X10 hx hZ e10 Ar12 (j := (4 : Int32)) hin12 (g := (mkF m 27 #[.val (.int q0), .val (.int q1), .val (.int q2), .unset, .unset, .unset, .unset, .unset] [(.int (32 : Int32)), (.int (4 : Int32)), (.ref b2), (.ref b2)])) rfl rfl (hb hby at_27)
  refine OFin.go st12 ?_
  have V12 : Arv Z h12 b2 k2 .int (17 : Int32) [(.int (0 : Int32)), (.int (9 : Int32)), (.int (10 : Int32)), (.int (13 : Int32)), (.int (32 : Int32)), (.int (0 : Int32)), (.int (0 : Int32)), (.int (0 : Int32)), (.int (0 : Int32)), (.int (0 : Int32)), (.int (0 : Int32)), (.int (0 : Int32)), (.int (0 : Int32)), (.int (0 : Int32)), (.int (0 : Int32)), (.int (0 : Int32)), (.int (0 : Int32))] (.int (0 : Int32)) := Arv.set Ar12 q12 S12 M12 H12 G12 rfl W12 4 rfl (Nat.le_of_ble_eq_true rfl)
  have K12 : Keep h0 h12 [] := K10.wr W12 (Or.inr sz_b2)
  have N12 := Fr.snoc X12 N10 g_b2
  have sg13 : ∀ t, Steps p.tables e below (T12.setTop (mkF m 32 #[.val (.int q0), .val (.int q1), .val (.int q2), .unset, .unset, .unset, .unset, .unset] [(.int (55295 : Int32)), (.int (5 : Int32)), (.ref b2), (.ref b2)])) t → Steps p.tables e below (T12.setTop (mkF m 28 #[.val (.int q0), .val (.int q1), .val (.int q2), .unset, .unset, .unset, .unset, .unset] [(.ref b2)])) t := by
    intro t k
    show Steps p.tables e below (T12.setTop (mkF m 28 #[.val (.int q0), .val (.int q1), .val (.int q2), .unset, .unset, .unset, .unset, .unset] [(.ref b2)])) t
    refine XS.dup X12.here hx rfl (hb hby at_28) rfl rfl ?_
    show Steps p.tables e below (T12.setTop (mkF m 29 #[.val (.int q0), .val (.int q1), .val (.int q2), .unset, .unset, .unset, .unset, .unset] [(.ref b2), (.ref b2)])) t
    refine XS.iconst X12.here hx rfl (hb hby at_29) ?_
    show Steps p.tables e below (T12.setTop (mkF m 30 #[.val (.int q0), .val (.int q1), .val (.int q2), .unset, .unset, .unset, .unset, .unset] [(.int (5 : Int32)), (.ref b2), (.ref b2)])) t
    refine X12.ldcInt hx hown (mvT hZ (hw _ (List.mem_of_getElem? (i := 1) rfl))) (g := (mkF m 30 #[.val (.int q0), .val (.int q1), .val (.int q2), .unset, .unset, .unset, .unset, .unset] [(.int (5 : Int32)), (.ref b2), (.ref b2)])) rfl (hb hby at_30) _ ?_
    exact k
  refine OFin.go sg13 ?_
  obtain ⟨cl14, Ar14, q14, S14, M14, H14, G14⟩ := V12
  have hin14 : ¬ ((5 : Int32) < 0 ∨ cl14.slots.size ≤ ((5 : Int32)).toNatClampNeg) := inb_of S14 ⟨by decide, by decide⟩
  obtain ⟨T14, h14, X14, e14, W14, st14⟩ := stI X12 hx hZ e12 Ar14 (j := (5 : Int32)) hin14 (g := (mkF m 32 #[.val (.int q0), .val (.int q1), .val (.int q2), .unset, .unset, .unset, .unset, .unset] [(.int (55295 : Int32)), (.int (5 : Int32)), (.ref b2), (.ref b2)])) rfl rfl (hb hby at_32)
  refine OFin.go st14 ?_
  have V14 : Arv Z h14 b2 k2 .int (17 : Int32) [(.int (0 : Int32)), (.int (9 : Int32)), (.int (10 : Int32)), (.int (13 : Int32)), (.int (32 : Int32)), (.int (55295 : Int32)), (.int (0 : Int32)), (.int (0 : Int32)), (.int (0 : Int32)), (.int (0 : Int32)), (.int (0 : Int32)), (.int (0 : Int32)), (.int (0 : Int32)), (.int (0 : Int32)), (.int (0 : Int32)), (.int (0 : Int32)), (.int (0 : Int32))] (.int (0 : Int32)) := Arv.set Ar14 q14 S14 M14 H14 G14 rfl W14 5 rfl (Nat.le_of_ble_eq_true rfl)
  have K14 : Keep h0 h14 [] := K12.wr W14 (Or.inr sz_b2)
  have N14 := Fr.snoc X14 N12 g_b2
  have sg15 : ∀ t, Steps p.tables e below (T14.setTop (mkF m 38 #[.val (.int q0), .val (.int q1), .val (.int q2), .unset, .unset, .unset, .unset, .unset] [(.int (55296 : Int32)), (.int (6 : Int32)), (.ref b2), (.ref b2)])) t → Steps p.tables e below (T14.setTop (mkF m 33 #[.val (.int q0), .val (.int q1), .val (.int q2), .unset, .unset, .unset, .unset, .unset] [(.ref b2)])) t := by
    intro t k
    show Steps p.tables e below (T14.setTop (mkF m 33 #[.val (.int q0), .val (.int q1), .val (.int q2), .unset, .unset, .unset, .unset, .unset] [(.ref b2)])) t
    refine XS.dup X14.here hx rfl (hb hby at_33) rfl rfl ?_
    show Steps p.tables e below (T14.setTop (mkF m 34 #[.val (.int q0), .val (.int q1), .val (.int q2), .unset, .unset, .unset, .unset, .unset] [(.ref b2), (.ref b2)])) t
    refine XS.bipush X14.here hx rfl (hb hby at_34) ?_
    show Steps p.tables e below (T14.setTop (mkF m 36 #[.val (.int q0), .val (.int q1), .val (.int q2), .unset, .unset, .unset, .unset, .unset] [(.int (6 : Int32)), (.ref b2), (.ref b2)])) t
    refine X14.ldcInt hx hown (mvT hZ (hw _ (List.mem_of_getElem? (i := 2) rfl))) (g := (mkF m 36 #[.val (.int q0), .val (.int q1), .val (.int q2), .unset, .unset, .unset, .unset, .unset] [(.int (6 : Int32)), (.ref b2), (.ref b2)])) rfl (hb hby at_36) _ ?_
    exact k
  refine OFin.go sg15 ?_
  obtain ⟨cl16, Ar16, q16, S16, M16, H16, G16⟩ := V14
  have hin16 : ¬ ((6 : Int32) < 0 ∨ cl16.slots.size ≤ ((6 : Int32)).toNatClampNeg) := inb_of S16 ⟨by decide, by decide⟩
  obtain ⟨T16, h16, X16, e16, W16, st16⟩ := stI X14 hx hZ e14 Ar16 (j := (6 : Int32)) hin16 (g := (mkF m 38 #[.val (.int q0), .val (.int q1), .val (.int q2), .unset, .unset, .unset, .unset, .unset] [(.int (55296 : Int32)), (.int (6 : Int32)), (.ref b2), (.ref b2)])) rfl rfl (hb hby at_38)
  refine OFin.go st16 ?_
  have V16 : Arv Z h16 b2 k2 .int (17 : Int32) [(.int (0 : Int32)), (.int (9 : Int32)), (.int (10 : Int32)), (.int (13 : Int32)), (.int (32 : Int32)), (.int (55295 : Int32)), (.int (55296 : Int32)), (.int (0 : Int32)), (.int (0 : Int32)), (.int (0 : Int32)), (.int (0 : Int32)), (.int (0 : Int32)), (.int (0 : Int32)), (.int (0 : Int32)), (.int (0 : Int32)), (.int (0 : Int32)), (.int (0 : Int32))] (.int (0 : Int32)) := Arv.set Ar16 q16 S16 M16 H16 G16 rfl W16 6 rfl (Nat.le_of_ble_eq_true rfl)
  have K16 : Keep h0 h16 [] := K14.wr W16 (Or.inr sz_b2)
  have N16 := Fr.snoc X16 N14 g_b2
  have sg17 : ∀ t, Steps p.tables e below (T16.setTop (mkF m 44 #[.val (.int q0), .val (.int q1), .val (.int q2), .unset, .unset, .unset, .unset, .unset] [(.int (57343 : Int32)), (.int (7 : Int32)), (.ref b2), (.ref b2)])) t → Steps p.tables e below (T16.setTop (mkF m 39 #[.val (.int q0), .val (.int q1), .val (.int q2), .unset, .unset, .unset, .unset, .unset] [(.ref b2)])) t := by
    intro t k
    show Steps p.tables e below (T16.setTop (mkF m 39 #[.val (.int q0), .val (.int q1), .val (.int q2), .unset, .unset, .unset, .unset, .unset] [(.ref b2)])) t
    refine XS.dup X16.here hx rfl (hb hby at_39) rfl rfl ?_
    show Steps p.tables e below (T16.setTop (mkF m 40 #[.val (.int q0), .val (.int q1), .val (.int q2), .unset, .unset, .unset, .unset, .unset] [(.ref b2), (.ref b2)])) t
    refine XS.bipush X16.here hx rfl (hb hby at_40) ?_
    show Steps p.tables e below (T16.setTop (mkF m 42 #[.val (.int q0), .val (.int q1), .val (.int q2), .unset, .unset, .unset, .unset, .unset] [(.int (7 : Int32)), (.ref b2), (.ref b2)])) t
    refine X16.ldcInt hx hown (mvT hZ (hw _ (List.mem_of_getElem? (i := 3) rfl))) (g := (mkF m 42 #[.val (.int q0), .val (.int q1), .val (.int q2), .unset, .unset, .unset, .unset, .unset] [(.int (7 : Int32)), (.ref b2), (.ref b2)])) rfl (hb hby at_42) _ ?_
    exact k
  refine OFin.go sg17 ?_
  obtain ⟨cl18, Ar18, q18, S18, M18, H18, G18⟩ := V16
  have hin18 : ¬ ((7 : Int32) < 0 ∨ cl18.slots.size ≤ ((7 : Int32)).toNatClampNeg) := inb_of S18 ⟨by decide, by decide⟩
  obtain ⟨T18, h18, X18, e18, W18, st18⟩ := stI X16 hx hZ e16 Ar18 (j := (7 : Int32)) hin18 (g := (mkF m 44 #[.val (.int q0), .val (.int q1), .val (.int q2), .unset, .unset, .unset, .unset, .unset] [(.int (57343 : Int32)), (.int (7 : Int32)), (.ref b2), (.ref b2)])) rfl rfl (hb hby at_44)
  refine OFin.go st18 ?_
  have V18 : Arv Z h18 b2 k2 .int (17 : Int32) [(.int (0 : Int32)), (.int (9 : Int32)), (.int (10 : Int32)), (.int (13 : Int32)), (.int (32 : Int32)), (.int (55295 : Int32)), (.int (55296 : Int32)), (.int (57343 : Int32)), (.int (0 : Int32)), (.int (0 : Int32)), (.int (0 : Int32)), (.int (0 : Int32)), (.int (0 : Int32)), (.int (0 : Int32)), (.int (0 : Int32)), (.int (0 : Int32)), (.int (0 : Int32))] (.int (0 : Int32)) := Arv.set Ar18 q18 S18 M18 H18 G18 rfl W18 7 rfl (Nat.le_of_ble_eq_true rfl)
  have K18 : Keep h0 h18 [] := K16.wr W18 (Or.inr sz_b2)
  have N18 := Fr.snoc X18 N16 g_b2
  have sg19 : ∀ t, Steps p.tables e below (T18.setTop (mkF m 50 #[.val (.int q0), .val (.int q1), .val (.int q2), .unset, .unset, .unset, .unset, .unset] [(.int (57344 : Int32)), (.int (8 : Int32)), (.ref b2), (.ref b2)])) t → Steps p.tables e below (T18.setTop (mkF m 45 #[.val (.int q0), .val (.int q1), .val (.int q2), .unset, .unset, .unset, .unset, .unset] [(.ref b2)])) t := by
    intro t k
    show Steps p.tables e below (T18.setTop (mkF m 45 #[.val (.int q0), .val (.int q1), .val (.int q2), .unset, .unset, .unset, .unset, .unset] [(.ref b2)])) t
    refine XS.dup X18.here hx rfl (hb hby at_45) rfl rfl ?_
    show Steps p.tables e below (T18.setTop (mkF m 46 #[.val (.int q0), .val (.int q1), .val (.int q2), .unset, .unset, .unset, .unset, .unset] [(.ref b2), (.ref b2)])) t
    refine XS.bipush X18.here hx rfl (hb hby at_46) ?_
    show Steps p.tables e below (T18.setTop (mkF m 48 #[.val (.int q0), .val (.int q1), .val (.int q2), .unset, .unset, .unset, .unset, .unset] [(.int (8 : Int32)), (.ref b2), (.ref b2)])) t
    refine X18.ldcInt hx hown (mvT hZ (hw _ (List.mem_of_getElem? (i := 4) rfl))) (g := (mkF m 48 #[.val (.int q0), .val (.int q1), .val (.int q2), .unset, .unset, .unset, .unset, .unset] [(.int (8 : Int32)), (.ref b2), (.ref b2)])) rfl (hb hby at_48) _ ?_
    exact k
  refine OFin.go sg19 ?_
  obtain ⟨cl20, Ar20, q20, S20, M20, H20, G20⟩ := V18
  have hin20 : ¬ ((8 : Int32) < 0 ∨ cl20.slots.size ≤ ((8 : Int32)).toNatClampNeg) := inb_of S20 ⟨by decide, by decide⟩
  obtain ⟨T20, h20, X20, e20, W20, st20⟩ := stI X18 hx hZ e18 Ar20 (j := (8 : Int32)) hin20 (g := (mkF m 50 #[.val (.int q0), .val (.int q1), .val (.int q2), .unset, .unset, .unset, .unset, .unset] [(.int (57344 : Int32)), (.int (8 : Int32)), (.ref b2), (.ref b2)])) rfl rfl (hb hby at_50)
  refine OFin.go st20 ?_
  have V20 : Arv Z h20 b2 k2 .int (17 : Int32) [(.int (0 : Int32)), (.int (9 : Int32)), (.int (10 : Int32)), (.int (13 : Int32)), (.int (32 : Int32)), (.int (55295 : Int32)), (.int (55296 : Int32)), (.int (57343 : Int32)), (.int (57344 : Int32)), (.int (0 : Int32)), (.int (0 : Int32)), (.int (0 : Int32)), (.int (0 : Int32)), (.int (0 : Int32)), (.int (0 : Int32)), (.int (0 : Int32)), (.int (0 : Int32))] (.int (0 : Int32)) := Arv.set Ar20 q20 S20 M20 H20 G20 rfl W20 8 rfl (Nat.le_of_ble_eq_true rfl)
  have K20 : Keep h0 h20 [] := K18.wr W20 (Or.inr sz_b2)
  have N20 := Fr.snoc X20 N18 g_b2
  have sg21 : ∀ t, Steps p.tables e below (T20.setTop (mkF m 56 #[.val (.int q0), .val (.int q1), .val (.int q2), .unset, .unset, .unset, .unset, .unset] [(.int (65533 : Int32)), (.int (9 : Int32)), (.ref b2), (.ref b2)])) t → Steps p.tables e below (T20.setTop (mkF m 51 #[.val (.int q0), .val (.int q1), .val (.int q2), .unset, .unset, .unset, .unset, .unset] [(.ref b2)])) t := by
    intro t k
    show Steps p.tables e below (T20.setTop (mkF m 51 #[.val (.int q0), .val (.int q1), .val (.int q2), .unset, .unset, .unset, .unset, .unset] [(.ref b2)])) t
    refine XS.dup X20.here hx rfl (hb hby at_51) rfl rfl ?_
    show Steps p.tables e below (T20.setTop (mkF m 52 #[.val (.int q0), .val (.int q1), .val (.int q2), .unset, .unset, .unset, .unset, .unset] [(.ref b2), (.ref b2)])) t
    refine XS.bipush X20.here hx rfl (hb hby at_52) ?_
    show Steps p.tables e below (T20.setTop (mkF m 54 #[.val (.int q0), .val (.int q1), .val (.int q2), .unset, .unset, .unset, .unset, .unset] [(.int (9 : Int32)), (.ref b2), (.ref b2)])) t
    refine X20.ldcInt hx hown (mvT hZ (hw _ (List.mem_of_getElem? (i := 5) rfl))) (g := (mkF m 54 #[.val (.int q0), .val (.int q1), .val (.int q2), .unset, .unset, .unset, .unset, .unset] [(.int (9 : Int32)), (.ref b2), (.ref b2)])) rfl (hb hby at_54) _ ?_
    exact k
  refine OFin.go sg21 ?_
  obtain ⟨cl22, Ar22, q22, S22, M22, H22, G22⟩ := V20
  have hin22 : ¬ ((9 : Int32) < 0 ∨ cl22.slots.size ≤ ((9 : Int32)).toNatClampNeg) := inb_of S22 ⟨by decide, by decide⟩
  obtain ⟨T22, h22, X22, e22, W22, st22⟩ := stI X20 hx hZ e20 Ar22 (j := (9 : Int32)) hin22 (g := (mkF m 56 #[.val (.int q0), .val (.int q1), .val (.int q2), .unset, .unset, .unset, .unset, .unset] [(.int (65533 : Int32)), (.int (9 : Int32)), (.ref b2), (.ref b2)])) rfl rfl (hb hby at_56)
  refine OFin.go st22 ?_
  have V22 : Arv Z h22 b2 k2 .int (17 : Int32) [(.int (0 : Int32)), (.int (9 : Int32)), (.int (10 : Int32)), (.int (13 : Int32)), (.int (32 : Int32)), (.int (55295 : Int32)), (.int (55296 : Int32)), (.int (57343 : Int32)), (.int (57344 : Int32)), (.int (65533 : Int32)), (.int (0 : Int32)), (.int (0 : Int32)), (.int (0 : Int32)), (.int (0 : Int32)), (.int (0 : Int32)), (.int (0 : Int32)), (.int (0 : Int32))] (.int (0 : Int32)) := Arv.set Ar22 q22 S22 M22 H22 G22 rfl W22 9 rfl (Nat.le_of_ble_eq_true rfl)
  have K22 : Keep h0 h22 [] := K20.wr W22 (Or.inr sz_b2)
  have N22 := Fr.snoc X22 N20 g_b2
  have sg23 : ∀ t, Steps p.tables e below (T22.setTop (mkF m 62 #[.val (.int q0), .val (.int q1), .val (.int q2), .unset, .unset, .unset, .unset, .unset] [(.int (65534 : Int32)), (.int (10 : Int32)), (.ref b2), (.ref b2)])) t → Steps p.tables e below (T22.setTop (mkF m 57 #[.val (.int q0), .val (.int q1), .val (.int q2), .unset, .unset, .unset, .unset, .unset] [(.ref b2)])) t := by
    intro t k
    show Steps p.tables e below (T22.setTop (mkF m 57 #[.val (.int q0), .val (.int q1), .val (.int q2), .unset, .unset, .unset, .unset, .unset] [(.ref b2)])) t
    refine XS.dup X22.here hx rfl (hb hby at_57) rfl rfl ?_
    show Steps p.tables e below (T22.setTop (mkF m 58 #[.val (.int q0), .val (.int q1), .val (.int q2), .unset, .unset, .unset, .unset, .unset] [(.ref b2), (.ref b2)])) t
    refine XS.bipush X22.here hx rfl (hb hby at_58) ?_
    show Steps p.tables e below (T22.setTop (mkF m 60 #[.val (.int q0), .val (.int q1), .val (.int q2), .unset, .unset, .unset, .unset, .unset] [(.int (10 : Int32)), (.ref b2), (.ref b2)])) t
    refine X22.ldcInt hx hown (mvT hZ (hw _ (List.mem_of_getElem? (i := 6) rfl))) (g := (mkF m 60 #[.val (.int q0), .val (.int q1), .val (.int q2), .unset, .unset, .unset, .unset, .unset] [(.int (10 : Int32)), (.ref b2), (.ref b2)])) rfl (hb hby at_60) _ ?_
    exact k
  refine OFin.go sg23 ?_
  obtain ⟨cl24, Ar24, q24, S24, M24, H24, G24⟩ := V22
  have hin24 : ¬ ((10 : Int32) < 0 ∨ cl24.slots.size ≤ ((10 : Int32)).toNatClampNeg) := inb_of S24 ⟨by decide, by decide⟩
  obtain ⟨T24, h24, X24, e24, W24, st24⟩ := stI X22 hx hZ e22 Ar24 (j := (10 : Int32)) hin24 (g := (mkF m 62 #[.val (.int q0), .val (.int q1), .val (.int q2), .unset, .unset, .unset, .unset, .unset] [(.int (65534 : Int32)), (.int (10 : Int32)), (.ref b2), (.ref b2)])) rfl rfl (hb hby at_62)
  refine OFin.go st24 ?_
  have V24 : Arv Z h24 b2 k2 .int (17 : Int32) [(.int (0 : Int32)), (.int (9 : Int32)), (.int (10 : Int32)), (.int (13 : Int32)), (.int (32 : Int32)), (.int (55295 : Int32)), (.int (55296 : Int32)), (.int (57343 : Int32)), (.int (57344 : Int32)), (.int (65533 : Int32)), (.int (65534 : Int32)), (.int (0 : Int32)), (.int (0 : Int32)), (.int (0 : Int32)), (.int (0 : Int32)), (.int (0 : Int32)), (.int (0 : Int32))] (.int (0 : Int32)) := Arv.set Ar24 q24 S24 M24 H24 G24 rfl W24 10 rfl (Nat.le_of_ble_eq_true rfl)
  have K24 : Keep h0 h24 [] := K22.wr W24 (Or.inr sz_b2)
  have N24 := Fr.snoc X24 N22 g_b2
  have sg25 : ∀ t, Steps p.tables e below (T24.setTop (mkF m 68 #[.val (.int q0), .val (.int q1), .val (.int q2), .unset, .unset, .unset, .unset, .unset] [(.int (65535 : Int32)), (.int (11 : Int32)), (.ref b2), (.ref b2)])) t → Steps p.tables e below (T24.setTop (mkF m 63 #[.val (.int q0), .val (.int q1), .val (.int q2), .unset, .unset, .unset, .unset, .unset] [(.ref b2)])) t := by
    intro t k
    show Steps p.tables e below (T24.setTop (mkF m 63 #[.val (.int q0), .val (.int q1), .val (.int q2), .unset, .unset, .unset, .unset, .unset] [(.ref b2)])) t
    refine XS.dup X24.here hx rfl (hb hby at_63) rfl rfl ?_
    show Steps p.tables e below (T24.setTop (mkF m 64 #[.val (.int q0), .val (.int q1), .val (.int q2), .unset, .unset, .unset, .unset, .unset] [(.ref b2), (.ref b2)])) t
    refine XS.bipush X24.here hx rfl (hb hby at_64) ?_
    show Steps p.tables e below (T24.setTop (mkF m 66 #[.val (.int q0), .val (.int q1), .val (.int q2), .unset, .unset, .unset, .unset, .unset] [(.int (11 : Int32)), (.ref b2), (.ref b2)])) t
    refine X24.ldcInt hx hown (mvT hZ (hw _ (List.mem_of_getElem? (i := 7) rfl))) (g := (mkF m 66 #[.val (.int q0), .val (.int q1), .val (.int q2), .unset, .unset, .unset, .unset, .unset] [(.int (11 : Int32)), (.ref b2), (.ref b2)])) rfl (hb hby at_66) _ ?_
    exact k
  refine OFin.go sg25 ?_
  obtain ⟨cl26, Ar26, q26, S26, M26, H26, G26⟩ := V24
  have hin26 : ¬ ((11 : Int32) < 0 ∨ cl26.slots.size ≤ ((11 : Int32)).toNatClampNeg) := inb_of S26 ⟨by decide, by decide⟩
  obtain ⟨T26, h26, X26, e26, W26, st26⟩ := stI X24 hx hZ e24 Ar26 (j := (11 : Int32)) hin26 (g := (mkF m 68 #[.val (.int q0), .val (.int q1), .val (.int q2), .unset, .unset, .unset, .unset, .unset] [(.int (65535 : Int32)), (.int (11 : Int32)), (.ref b2), (.ref b2)])) rfl rfl (hb hby at_68)
  refine OFin.go st26 ?_
  have V26 : Arv Z h26 b2 k2 .int (17 : Int32) [(.int (0 : Int32)), (.int (9 : Int32)), (.int (10 : Int32)), (.int (13 : Int32)), (.int (32 : Int32)), (.int (55295 : Int32)), (.int (55296 : Int32)), (.int (57343 : Int32)), (.int (57344 : Int32)), (.int (65533 : Int32)), (.int (65534 : Int32)), (.int (65535 : Int32)), (.int (0 : Int32)), (.int (0 : Int32)), (.int (0 : Int32)), (.int (0 : Int32)), (.int (0 : Int32))] (.int (0 : Int32)) := Arv.set Ar26 q26 S26 M26 H26 G26 rfl W26 11 rfl (Nat.le_of_ble_eq_true rfl)
  have K26 : Keep h0 h26 [] := K24.wr W26 (Or.inr sz_b2)
  have N26 := Fr.snoc X26 N24 g_b2
  have sg27 : ∀ t, Steps p.tables e below (T26.setTop (mkF m 74 #[.val (.int q0), .val (.int q1), .val (.int q2), .unset, .unset, .unset, .unset, .unset] [(.int (65536 : Int32)), (.int (12 : Int32)), (.ref b2), (.ref b2)])) t → Steps p.tables e below (T26.setTop (mkF m 69 #[.val (.int q0), .val (.int q1), .val (.int q2), .unset, .unset, .unset, .unset, .unset] [(.ref b2)])) t := by
    intro t k
    show Steps p.tables e below (T26.setTop (mkF m 69 #[.val (.int q0), .val (.int q1), .val (.int q2), .unset, .unset, .unset, .unset, .unset] [(.ref b2)])) t
    refine XS.dup X26.here hx rfl (hb hby at_69) rfl rfl ?_
    show Steps p.tables e below (T26.setTop (mkF m 70 #[.val (.int q0), .val (.int q1), .val (.int q2), .unset, .unset, .unset, .unset, .unset] [(.ref b2), (.ref b2)])) t
    refine XS.bipush X26.here hx rfl (hb hby at_70) ?_
    show Steps p.tables e below (T26.setTop (mkF m 72 #[.val (.int q0), .val (.int q1), .val (.int q2), .unset, .unset, .unset, .unset, .unset] [(.int (12 : Int32)), (.ref b2), (.ref b2)])) t
    refine X26.ldcInt hx hown (mvT hZ (hw _ (List.mem_of_getElem? (i := 8) rfl))) (g := (mkF m 72 #[.val (.int q0), .val (.int q1), .val (.int q2), .unset, .unset, .unset, .unset, .unset] [(.int (12 : Int32)), (.ref b2), (.ref b2)])) rfl (hb hby at_72) _ ?_
    exact k
  refine OFin.go sg27 ?_
  obtain ⟨cl28, Ar28, q28, S28, M28, H28, G28⟩ := V26
  have hin28 : ¬ ((12 : Int32) < 0 ∨ cl28.slots.size ≤ ((12 : Int32)).toNatClampNeg) := inb_of S28 ⟨by decide, by decide⟩
  obtain ⟨T28, h28, X28, e28, W28, st28⟩ := stI X26 hx hZ e26 Ar28 (j := (12 : Int32)) hin28 (g := (mkF m 74 #[.val (.int q0), .val (.int q1), .val (.int q2), .unset, .unset, .unset, .unset, .unset] [(.int (65536 : Int32)), (.int (12 : Int32)), (.ref b2), (.ref b2)])) rfl rfl (hb hby at_74)
  refine OFin.go st28 ?_
  have V28 : Arv Z h28 b2 k2 .int (17 : Int32) [(.int (0 : Int32)), (.int (9 : Int32)), (.int (10 : Int32)), (.int (13 : Int32)), (.int (32 : Int32)), (.int (55295 : Int32)), (.int (55296 : Int32)), (.int (57343 : Int32)), (.int (57344 : Int32)), (.int (65533 : Int32)), (.int (65534 : Int32)), (.int (65535 : Int32)), (.int (65536 : Int32)), (.int (0 : Int32)), (.int (0 : Int32)), (.int (0 : Int32)), (.int (0 : Int32))] (.int (0 : Int32)) := Arv.set Ar28 q28 S28 M28 H28 G28 rfl W28 12 rfl (Nat.le_of_ble_eq_true rfl)
  have K28 : Keep h0 h28 [] := K26.wr W28 (Or.inr sz_b2)
  have N28 := Fr.snoc X28 N26 g_b2
  have sg29 : ∀ t, Steps p.tables e below (T28.setTop (mkF m 80 #[.val (.int q0), .val (.int q1), .val (.int q2), .unset, .unset, .unset, .unset, .unset] [(.int (1114111 : Int32)), (.int (13 : Int32)), (.ref b2), (.ref b2)])) t → Steps p.tables e below (T28.setTop (mkF m 75 #[.val (.int q0), .val (.int q1), .val (.int q2), .unset, .unset, .unset, .unset, .unset] [(.ref b2)])) t := by
    intro t k
    show Steps p.tables e below (T28.setTop (mkF m 75 #[.val (.int q0), .val (.int q1), .val (.int q2), .unset, .unset, .unset, .unset, .unset] [(.ref b2)])) t
    refine XS.dup X28.here hx rfl (hb hby at_75) rfl rfl ?_
    show Steps p.tables e below (T28.setTop (mkF m 76 #[.val (.int q0), .val (.int q1), .val (.int q2), .unset, .unset, .unset, .unset, .unset] [(.ref b2), (.ref b2)])) t
    refine XS.bipush X28.here hx rfl (hb hby at_76) ?_
    show Steps p.tables e below (T28.setTop (mkF m 78 #[.val (.int q0), .val (.int q1), .val (.int q2), .unset, .unset, .unset, .unset, .unset] [(.int (13 : Int32)), (.ref b2), (.ref b2)])) t
    refine X28.ldcInt hx hown (mvT hZ (hw _ (List.mem_of_getElem? (i := 9) rfl))) (g := (mkF m 78 #[.val (.int q0), .val (.int q1), .val (.int q2), .unset, .unset, .unset, .unset, .unset] [(.int (13 : Int32)), (.ref b2), (.ref b2)])) rfl (hb hby at_78) _ ?_
    exact k
  refine OFin.go sg29 ?_
  obtain ⟨cl30, Ar30, q30, S30, M30, H30, G30⟩ := V28
  have hin30 : ¬ ((13 : Int32) < 0 ∨ cl30.slots.size ≤ ((13 : Int32)).toNatClampNeg) := inb_of S30 ⟨by decide, by decide⟩
  obtain ⟨T30, h30, X30, e30, W30, st30⟩ := stI X28 hx hZ e28 Ar30 (j := (13 : Int32)) hin30 (g := (mkF m 80 #[.val (.int q0), .val (.int q1), .val (.int q2), .unset, .unset, .unset, .unset, .unset] [(.int (1114111 : Int32)), (.int (13 : Int32)), (.ref b2), (.ref b2)])) rfl rfl (hb hby at_80)
  refine OFin.go st30 ?_
  have V30 : Arv Z h30 b2 k2 .int (17 : Int32) [(.int (0 : Int32)), (.int (9 : Int32)), (.int (10 : Int32)), (.int (13 : Int32)), (.int (32 : Int32)), (.int (55295 : Int32)), (.int (55296 : Int32)), (.int (57343 : Int32)), (.int (57344 : Int32)), (.int (65533 : Int32)), (.int (65534 : Int32)), (.int (65535 : Int32)), (.int (65536 : Int32)), (.int (1114111 : Int32)), (.int (0 : Int32)), (.int (0 : Int32)), (.int (0 : Int32))] (.int (0 : Int32)) := Arv.set Ar30 q30 S30 M30 H30 G30 rfl W30 13 rfl (Nat.le_of_ble_eq_true rfl)
  have K30 : Keep h0 h30 [] := K28.wr W30 (Or.inr sz_b2)
  have N30 := Fr.snoc X30 N28 g_b2
  have sg31 : ∀ t, Steps p.tables e below (T30.setTop (mkF m 86 #[.val (.int q0), .val (.int q1), .val (.int q2), .unset, .unset, .unset, .unset, .unset] [(.int (1114112 : Int32)), (.int (14 : Int32)), (.ref b2), (.ref b2)])) t → Steps p.tables e below (T30.setTop (mkF m 81 #[.val (.int q0), .val (.int q1), .val (.int q2), .unset, .unset, .unset, .unset, .unset] [(.ref b2)])) t := by
    intro t k
    show Steps p.tables e below (T30.setTop (mkF m 81 #[.val (.int q0), .val (.int q1), .val (.int q2), .unset, .unset, .unset, .unset, .unset] [(.ref b2)])) t
    refine XS.dup X30.here hx rfl (hb hby at_81) rfl rfl ?_
    show Steps p.tables e below (T30.setTop (mkF m 82 #[.val (.int q0), .val (.int q1), .val (.int q2), .unset, .unset, .unset, .unset, .unset] [(.ref b2), (.ref b2)])) t
    refine XS.bipush X30.here hx rfl (hb hby at_82) ?_
    show Steps p.tables e below (T30.setTop (mkF m 84 #[.val (.int q0), .val (.int q1), .val (.int q2), .unset, .unset, .unset, .unset, .unset] [(.int (14 : Int32)), (.ref b2), (.ref b2)])) t
    refine X30.ldcInt hx hown (mvT hZ (hw _ (List.mem_of_getElem? (i := 10) rfl))) (g := (mkF m 84 #[.val (.int q0), .val (.int q1), .val (.int q2), .unset, .unset, .unset, .unset, .unset] [(.int (14 : Int32)), (.ref b2), (.ref b2)])) rfl (hb hby at_84) _ ?_
    exact k
  refine OFin.go sg31 ?_
  obtain ⟨cl32, Ar32, q32, S32, M32, H32, G32⟩ := V30
  have hin32 : ¬ ((14 : Int32) < 0 ∨ cl32.slots.size ≤ ((14 : Int32)).toNatClampNeg) := inb_of S32 ⟨by decide, by decide⟩
  obtain ⟨T32, h32, X32, e32, W32, st32⟩ := stI X30 hx hZ e30 Ar32 (j := (14 : Int32)) hin32 (g := (mkF m 86 #[.val (.int q0), .val (.int q1), .val (.int q2), .unset, .unset, .unset, .unset, .unset] [(.int (1114112 : Int32)), (.int (14 : Int32)), (.ref b2), (.ref b2)])) rfl rfl (hb hby at_86)
  refine OFin.go st32 ?_
  have V32 : Arv Z h32 b2 k2 .int (17 : Int32) [(.int (0 : Int32)), (.int (9 : Int32)), (.int (10 : Int32)), (.int (13 : Int32)), (.int (32 : Int32)), (.int (55295 : Int32)), (.int (55296 : Int32)), (.int (57343 : Int32)), (.int (57344 : Int32)), (.int (65533 : Int32)), (.int (65534 : Int32)), (.int (65535 : Int32)), (.int (65536 : Int32)), (.int (1114111 : Int32)), (.int (1114112 : Int32)), (.int (0 : Int32)), (.int (0 : Int32))] (.int (0 : Int32)) := Arv.set Ar32 q32 S32 M32 H32 G32 rfl W32 14 rfl (Nat.le_of_ble_eq_true rfl)
  have K32 : Keep h0 h32 [] := K30.wr W32 (Or.inr sz_b2)
  have N32 := Fr.snoc X32 N30 g_b2
  have sg33 : ∀ t, Steps p.tables e below (T32.setTop (mkF m 92 #[.val (.int q0), .val (.int q1), .val (.int q2), .unset, .unset, .unset, .unset, .unset] [(.int (-2147483648 : Int32)), (.int (15 : Int32)), (.ref b2), (.ref b2)])) t → Steps p.tables e below (T32.setTop (mkF m 87 #[.val (.int q0), .val (.int q1), .val (.int q2), .unset, .unset, .unset, .unset, .unset] [(.ref b2)])) t := by
    intro t k
    show Steps p.tables e below (T32.setTop (mkF m 87 #[.val (.int q0), .val (.int q1), .val (.int q2), .unset, .unset, .unset, .unset, .unset] [(.ref b2)])) t
    refine XS.dup X32.here hx rfl (hb hby at_87) rfl rfl ?_
    show Steps p.tables e below (T32.setTop (mkF m 88 #[.val (.int q0), .val (.int q1), .val (.int q2), .unset, .unset, .unset, .unset, .unset] [(.ref b2), (.ref b2)])) t
    refine XS.bipush X32.here hx rfl (hb hby at_88) ?_
    show Steps p.tables e below (T32.setTop (mkF m 90 #[.val (.int q0), .val (.int q1), .val (.int q2), .unset, .unset, .unset, .unset, .unset] [(.int (15 : Int32)), (.ref b2), (.ref b2)])) t
    refine X32.ldcInt hx hown (mvT hZ (hw _ (List.mem_of_getElem? (i := 11) rfl))) (g := (mkF m 90 #[.val (.int q0), .val (.int q1), .val (.int q2), .unset, .unset, .unset, .unset, .unset] [(.int (15 : Int32)), (.ref b2), (.ref b2)])) rfl (hb hby at_90) _ ?_
    exact k
  refine OFin.go sg33 ?_
  obtain ⟨cl34, Ar34, q34, S34, M34, H34, G34⟩ := V32
  have hin34 : ¬ ((15 : Int32) < 0 ∨ cl34.slots.size ≤ ((15 : Int32)).toNatClampNeg) := inb_of S34 ⟨by decide, by decide⟩
  obtain ⟨T34, h34, X34, e34, W34, st34⟩ := stI X32 hx hZ e32 Ar34 (j := (15 : Int32)) hin34 (g := (mkF m 92 #[.val (.int q0), .val (.int q1), .val (.int q2), .unset, .unset, .unset, .unset, .unset] [(.int (-2147483648 : Int32)), (.int (15 : Int32)), (.ref b2), (.ref b2)])) rfl rfl (hb hby at_92)
  refine OFin.go st34 ?_
  have V34 : Arv Z h34 b2 k2 .int (17 : Int32) [(.int (0 : Int32)), (.int (9 : Int32)), (.int (10 : Int32)), (.int (13 : Int32)), (.int (32 : Int32)), (.int (55295 : Int32)), (.int (55296 : Int32)), (.int (57343 : Int32)), (.int (57344 : Int32)), (.int (65533 : Int32)), (.int (65534 : Int32)), (.int (65535 : Int32)), (.int (65536 : Int32)), (.int (1114111 : Int32)), (.int (1114112 : Int32)), (.int (-2147483648 : Int32)), (.int (0 : Int32))] (.int (0 : Int32)) := Arv.set Ar34 q34 S34 M34 H34 G34 rfl W34 15 rfl (Nat.le_of_ble_eq_true rfl)
  have K34 : Keep h0 h34 [] := K32.wr W34 (Or.inr sz_b2)
  have N34 := Fr.snoc X34 N32 g_b2
  have sg35 : ∀ t, Steps p.tables e below (T34.setTop (mkF m 98 #[.val (.int q0), .val (.int q1), .val (.int q2), .unset, .unset, .unset, .unset, .unset] [(.int (2147483647 : Int32)), (.int (16 : Int32)), (.ref b2), (.ref b2)])) t → Steps p.tables e below (T34.setTop (mkF m 93 #[.val (.int q0), .val (.int q1), .val (.int q2), .unset, .unset, .unset, .unset, .unset] [(.ref b2)])) t := by
    intro t k
    show Steps p.tables e below (T34.setTop (mkF m 93 #[.val (.int q0), .val (.int q1), .val (.int q2), .unset, .unset, .unset, .unset, .unset] [(.ref b2)])) t
    refine XS.dup X34.here hx rfl (hb hby at_93) rfl rfl ?_
    show Steps p.tables e below (T34.setTop (mkF m 94 #[.val (.int q0), .val (.int q1), .val (.int q2), .unset, .unset, .unset, .unset, .unset] [(.ref b2), (.ref b2)])) t
    refine XS.bipush X34.here hx rfl (hb hby at_94) ?_
    show Steps p.tables e below (T34.setTop (mkF m 96 #[.val (.int q0), .val (.int q1), .val (.int q2), .unset, .unset, .unset, .unset, .unset] [(.int (16 : Int32)), (.ref b2), (.ref b2)])) t
    refine X34.ldcInt hx hown (mvT hZ (hw _ (List.mem_of_getElem? (i := 12) rfl))) (g := (mkF m 96 #[.val (.int q0), .val (.int q1), .val (.int q2), .unset, .unset, .unset, .unset, .unset] [(.int (16 : Int32)), (.ref b2), (.ref b2)])) rfl (hb hby at_96) _ ?_
    exact k
  refine OFin.go sg35 ?_
  obtain ⟨cl36, Ar36, q36, S36, M36, H36, G36⟩ := V34
  have hin36 : ¬ ((16 : Int32) < 0 ∨ cl36.slots.size ≤ ((16 : Int32)).toNatClampNeg) := inb_of S36 ⟨by decide, by decide⟩
  obtain ⟨T36, h36, X36, e36, W36, st36⟩ := stI X34 hx hZ e34 Ar36 (j := (16 : Int32)) hin36 (g := (mkF m 98 #[.val (.int q0), .val (.int q1), .val (.int q2), .unset, .unset, .unset, .unset, .unset] [(.int (2147483647 : Int32)), (.int (16 : Int32)), (.ref b2), (.ref b2)])) rfl rfl (hb hby at_98)
  refine OFin.go st36 ?_
  have V36 : Arv Z h36 b2 k2 .int (17 : Int32) [(.int (0 : Int32)), (.int (9 : Int32)), (.int (10 : Int32)), (.int (13 : Int32)), (.int (32 : Int32)), (.int (55295 : Int32)), (.int (55296 : Int32)), (.int (57343 : Int32)), (.int (57344 : Int32)), (.int (65533 : Int32)), (.int (65534 : Int32)), (.int (65535 : Int32)), (.int (65536 : Int32)), (.int (1114111 : Int32)), (.int (1114112 : Int32)), (.int (-2147483648 : Int32)), (.int (2147483647 : Int32))] (.int (0 : Int32)) := Arv.set Ar36 q36 S36 M36 H36 G36 rfl W36 16 rfl (Nat.le_of_ble_eq_true rfl)
  have K36 : Keep h0 h36 [] := K34.wr W36 (Or.inr sz_b2)
  have N36 := Fr.snoc X36 N34 g_b2
  have sg37 : ∀ t, Steps p.tables e below (T36.setTop (mkF m 112 #[.val (.int q0), .val (.int q1), .val (.int q2), .val (.ref b2), .val (.int ((q1 &&& (2147483647 : Int32)) % (17 : Int32))), .unset, .unset, .unset] [(.int ((q1 &&& (2147483647 : Int32)) % (17 : Int32))), (.ref b2)])) t → Steps p.tables e below (T36.setTop (mkF m 99 #[.val (.int q0), .val (.int q1), .val (.int q2), .unset, .unset, .unset, .unset, .unset] [(.ref b2)])) t := by
    intro t k
    show Steps p.tables e below (T36.setTop (mkF m 99 #[.val (.int q0), .val (.int q1), .val (.int q2), .unset, .unset, .unset, .unset, .unset] [(.ref b2)])) t
    refine XS.astoreN X36.here hx rfl (hb hby at_99) rfl rfl (l' := #[.val (.int q0), .val (.int q1), .val (.int q2), .val (.ref b2), .unset, .unset, .unset, .unset]) rfl ?_
    show Steps p.tables e below (T36.setTop (mkF m 100 #[.val (.int q0), .val (.int q1), .val (.int q2), .val (.ref b2), .unset, .unset, .unset, .unset] [])) t
    refine XS.iloadN X36.here hx rfl (hb hby at_100) rfl ?_
    show Steps p.tables e below (T36.setTop (mkF m 101 #[.val (.int q0), .val (.int q1), .val (.int q2), .val (.ref b2), .unset, .unset, .unset, .unset] [(.int q1)])) t
    refine X36.ldcInt hx hown (mvT hZ (hw _ (List.mem_of_getElem? (i := 12) rfl))) (g := (mkF m 101 #[.val (.int q0), .val (.int q1), .val (.int q2), .val (.ref b2), .unset, .unset, .unset, .unset] [(.int q1)])) rfl (hb hby at_101) _ ?_
    show Steps p.tables e below (T36.setTop (mkF m 103 #[.val (.int q0), .val (.int q1), .val (.int q2), .val (.ref b2), .unset, .unset, .unset, .unset] [(.int (2147483647 : Int32)), (.int q1)])) t
    refine XS.iand X36.here hx rfl (hb hby at_103) rfl ?_
    show Steps p.tables e below (T36.setTop (mkF m 104 #[.val (.int q0), .val (.int q1), .val (.int q2), .val (.ref b2), .unset, .unset, .unset, .unset] [(.int (q1 &&& (2147483647 : Int32)))])) t
    refine XS.bipush X36.here hx rfl (hb hby at_104) ?_
    show Steps p.tables e below (T36.setTop (mkF m 106 #[.val (.int q0), .val (.int q1), .val (.int q2), .val (.ref b2), .unset, .unset, .unset, .unset] [(.int (17 : Int32)), (.int (q1 &&& (2147483647 : Int32)))])) t
    refine iremM X36 hx rfl (hb hby at_106) rfl (by decide) ?_
    show Steps p.tables e below (T36.setTop (mkF m 107 #[.val (.int q0), .val (.int q1), .val (.int q2), .val (.ref b2), .unset, .unset, .unset, .unset] [(.int ((q1 &&& (2147483647 : Int32)) % (17 : Int32)))])) t
    refine XS.istore X36.here hx rfl (hb hby at_107) rfl (l' := #[.val (.int q0), .val (.int q1), .val (.int q2), .val (.ref b2), .val (.int ((q1 &&& (2147483647 : Int32)) % (17 : Int32))), .unset, .unset, .unset]) rfl ?_
    show Steps p.tables e below (T36.setTop (mkF m 109 #[.val (.int q0), .val (.int q1), .val (.int q2), .val (.ref b2), .val (.int ((q1 &&& (2147483647 : Int32)) % (17 : Int32))), .unset, .unset, .unset] [])) t
    refine XS.aloadN X36.here hx rfl (hb hby at_109) rfl rfl ?_
    show Steps p.tables e below (T36.setTop (mkF m 110 #[.val (.int q0), .val (.int q1), .val (.int q2), .val (.ref b2), .val (.int ((q1 &&& (2147483647 : Int32)) % (17 : Int32))), .unset, .unset, .unset] [(.ref b2)])) t
    refine XS.iload X36.here hx rfl (hb hby at_110) rfl ?_
    exact k
  refine OFin.go sg37 ?_
  obtain ⟨cl38, Ar38, q38, S38, M38, H38, G38⟩ := V36
  have hin38 : ¬ (((q1 &&& (2147483647 : Int32)) % (17 : Int32)) < 0 ∨ cl38.slots.size ≤ (((q1 &&& (2147483647 : Int32)) % (17 : Int32))).toNatClampNeg) := inb_of S38 (own_idx _)
  obtain ⟨w39, hw39⟩ : ∃ w, ([(.int (0 : Int32)), (.int (9 : Int32)), (.int (10 : Int32)), (.int (13 : Int32)), (.int (32 : Int32)), (.int (55295 : Int32)), (.int (55296 : Int32)), (.int (57343 : Int32)), (.int (57344 : Int32)), (.int (65533 : Int32)), (.int (65534 : Int32)), (.int (65535 : Int32)), (.int (65536 : Int32)), (.int (1114111 : Int32)), (.int (1114112 : Int32)), (.int (-2147483648 : Int32)), (.int (2147483647 : Int32))] : List Value).getD (((q1 &&& (2147483647 : Int32)) % (17 : Int32))).toNatClampNeg (.int (0 : Int32)) = .int w := own_ints [(0 : Int32), (9 : Int32), (10 : Int32), (13 : Int32), (32 : Int32), (55295 : Int32), (55296 : Int32), (57343 : Int32), (57344 : Int32), (65533 : Int32), (65534 : Int32), (65535 : Int32), (65536 : Int32), (1114111 : Int32), (1114112 : Int32), (-2147483648 : Int32), (2147483647 : Int32)] _
  have hat38 : cl38.slots[(((q1 &&& (2147483647 : Int32)) % (17 : Int32))).toNatClampNeg]? = some (.int w39) := H38.at hin38 hw39
  have sg40 : ∀ t, Steps p.tables e below (T36.setTop (mkF m 123 #[.val (.int q0), .val (.int q1), .val (.int q2), .val (.ref b2), .val (.int ((q1 &&& (2147483647 : Int32)) % (17 : Int32))), .val (.int (w39 + ((q2 &&& (7 : Int32)) - (3 : Int32)))), .unset, .unset] [(.int q0)])) t → Steps p.tables e below (T36.setTop (mkF m 112 #[.val (.int q0), .val (.int q1), .val (.int q2), .val (.ref b2), .val (.int ((q1 &&& (2147483647 : Int32)) % (17 : Int32))), .unset, .unset, .unset] [(.int ((q1 &&& (2147483647 : Int32)) % (17 : Int32))), (.ref b2)])) t := by
    intro t k
    show Steps p.tables e below (T36.setTop (mkF m 112 #[.val (.int q0), .val (.int q1), .val (.int q2), .val (.ref b2), .val (.int ((q1 &&& (2147483647 : Int32)) % (17 : Int32))), .unset, .unset, .unset] [(.int ((q1 &&& (2147483647 : Int32)) % (17 : Int32))), (.ref b2)])) t
    refine X36.iaload hx (j := ((q1 &&& (2147483647 : Int32)) % (17 : Int32))) (v := (.int w39)) (by rw [e36]; exact Ar38.1) (State.isArrayOf_alike hZ.alike Ar38.2.1) Ar38.2.2 hin38 hat38 (g := (mkF m 112 #[.val (.int q0), .val (.int q1), .val (.int q2), .val (.ref b2), .val (.int ((q1 &&& (2147483647 : Int32)) % (17 : Int32))), .unset, .unset, .unset] [(.int ((q1 &&& (2147483647 : Int32)) % (17 : Int32))), (.ref b2)])) rfl rfl (hb hby at_112) _ ?_
    show Steps p.tables e below (T36.setTop (mkF m 113 #[.val (.int q0), .val (.int q1), .val (.int q2), .val (.ref b2), .val (.int ((q1 &&& (2147483647 : Int32)) % (17 : Int32))), .unset, .unset, .unset] [(.int w39)])) t
    refine XS.iloadN X36.here hx rfl (hb hby at_113) rfl ?_
    show Steps p.tables e below (T36.setTop (mkF m 114 #[.val (.int q0), .val (.int q1), .val (.int q2), .val (.ref b2), .val (.int ((q1 &&& (2147483647 : Int32)) % (17 : Int32))), .unset, .unset, .unset] [(.int q2), (.int w39)])) t
    refine XS.bipush X36.here hx rfl (hb hby at_114) ?_
    show Steps p.tables e below (T36.setTop (mkF m 116 #[.val (.int q0), .val (.int q1), .val (.int q2), .val (.ref b2), .val (.int ((q1 &&& (2147483647 : Int32)) % (17 : Int32))), .unset, .unset, .unset] [(.int (7 : Int32)), (.int q2), (.int w39)])) t
    refine XS.iand X36.here hx rfl (hb hby at_116) rfl ?_
    show Steps p.tables e below (T36.setTop (mkF m 117 #[.val (.int q0), .val (.int q1), .val (.int q2), .val (.ref b2), .val (.int ((q1 &&& (2147483647 : Int32)) % (17 : Int32))), .unset, .unset, .unset] [(.int (q2 &&& (7 : Int32))), (.int w39)])) t
    refine XS.iconst X36.here hx rfl (hb hby at_117) ?_
    show Steps p.tables e below (T36.setTop (mkF m 118 #[.val (.int q0), .val (.int q1), .val (.int q2), .val (.ref b2), .val (.int ((q1 &&& (2147483647 : Int32)) % (17 : Int32))), .unset, .unset, .unset] [(.int (3 : Int32)), (.int (q2 &&& (7 : Int32))), (.int w39)])) t
    refine XS.isub X36.here hx rfl (hb hby at_118) rfl ?_
    show Steps p.tables e below (T36.setTop (mkF m 119 #[.val (.int q0), .val (.int q1), .val (.int q2), .val (.ref b2), .val (.int ((q1 &&& (2147483647 : Int32)) % (17 : Int32))), .unset, .unset, .unset] [(.int ((q2 &&& (7 : Int32)) - (3 : Int32))), (.int w39)])) t
    refine XS.iadd X36.here hx rfl (hb hby at_119) rfl ?_
    show Steps p.tables e below (T36.setTop (mkF m 120 #[.val (.int q0), .val (.int q1), .val (.int q2), .val (.ref b2), .val (.int ((q1 &&& (2147483647 : Int32)) % (17 : Int32))), .unset, .unset, .unset] [(.int (w39 + ((q2 &&& (7 : Int32)) - (3 : Int32))))])) t
    refine XS.istore X36.here hx rfl (hb hby at_120) rfl (l' := #[.val (.int q0), .val (.int q1), .val (.int q2), .val (.ref b2), .val (.int ((q1 &&& (2147483647 : Int32)) % (17 : Int32))), .val (.int (w39 + ((q2 &&& (7 : Int32)) - (3 : Int32)))), .unset, .unset]) rfl ?_
    show Steps p.tables e below (T36.setTop (mkF m 122 #[.val (.int q0), .val (.int q1), .val (.int q2), .val (.ref b2), .val (.int ((q1 &&& (2147483647 : Int32)) % (17 : Int32))), .val (.int (w39 + ((q2 &&& (7 : Int32)) - (3 : Int32)))), .unset, .unset] [])) t
    refine XS.iloadN X36.here hx rfl (hb hby at_122) rfl ?_
    exact k
  refine OFin.go sg40 ?_
  obtain ⟨_, _, ⟨T41, L41, k41, n41⟩, -, X41, ⟨Lc41, hQ41, l41, y41, z41⟩, st41⟩ := Jvm.LawKit.callS X36 hx (y := (⟨"com/example/avvik/avvik/io/XsdValues", "isXmlChar", "(I)Z"⟩ : MethodName)) hown (mvT hZ (hw _ (List.mem_of_getElem? (i := 13) rfl))) (mvT hZ (hw _ (List.mem_of_getElem? (i := 14) rfl))) (mvT hZ (hw _ (List.mem_of_getElem? (i := 15) rfl))) (mvT hZ (hw _ (List.mem_of_getElem? (i := 16) rfl))) (by decide) (backOf (W := 0) (rm1 l Z aZ hw [] q0 h36 n0 (Nat.le_trans Z0 K36.1) ) hZ (hw _ (List.mem_of_getElem? (i := 16) rfl)) (hw _ (List.mem_of_getElem? (i := 15) rfl)) (by decide) (by decide)) (g := (mkF m 123 #[.val (.int q0), .val (.int q1), .val (.int q2), .val (.ref b2), .val (.int ((q1 &&& (2147483647 : Int32)) % (17 : Int32))), .val (.int (w39 + ((q2 &&& (7 : Int32)) - (3 : Int32)))), .unset, .unset] [(.int q0)])) rfl (by rw [hml]; rfl) (argsL := [(.int q0)]) (rest := []) (lenOf pd_0 rfl) rfl (by show 2 * 0 + _ ≤ _; exact Nat.le_of_eq rfl) (hb hby at_123) (fun _ _ => ⟨rfl, e36, (by decide : 1 + 0 ≤ _), (by decide : 17 + 0 ≤ _)⟩)
  dsimp only [Pt.U, Pt.locs, Pt.cells, Pt.slots] at X41 l41 y41 z41 st41 hQ41
  subst l41 y41 z41
  obtain ⟨rfl, N41q, e41⟩ := hQ41
  have N41 := Fr.app N36 N41q
  refine OFin.go st41 ?_
  have sg42 : ∀ t, Steps p.tables e below (T41.setTop (mkF m 127 #[.val (.int q0), .val (.int q1), .val (.int q2), .val (.ref b2), .val (.int ((q1 &&& (2147483647 : Int32)) % (17 : Int32))), .val (.int (w39 + ((q2 &&& (7 : Int32)) - (3 : Int32)))), .unset, .unset] [(.int q0), (.int (own_f1 q0))])) t → Steps p.tables e below (T41.setTop (mkF m 126 #[.val (.int q0), .val (.int q1), .val (.int q2), .val (.ref b2), .val (.int ((q1 &&& (2147483647 : Int32)) % (17 : Int32))), .val (.int (w39 + ((q2 &&& (7 : Int32)) - (3 : Int32)))), .unset, .unset] [(.int (own_f1 q0))])) t := by
    intro t k
    show Steps p.tables e below (T41.setTop (mkF m 126 #[.val (.int q0), .val (.int q1), .val (.int q2), .val (.ref b2), .val (.int ((q1 &&& (2147483647 : Int32)) % (17 : Int32))), .val (.int (w39 + ((q2 &&& (7 : Int32)) - (3 : Int32)))), .unset, .unset] [(.int (own_f1 q0))])) t
    refine XS.iloadN X41.here hx rfl (hb hby at_126) rfl ?_
    exact k
  refine OFin.go sg42 ?_
  obtain ⟨_, _, ⟨T43, L43, k43, n43⟩, -, X43, ⟨Lc43, hQ43, l43, y43, z43⟩, st43⟩ := Jvm.LawKit.callS X41 hx (y := (⟨"com/example/avvik/avvik/io/XsdValuesIsXmlCharPinLaw", "reference", "(I)Z"⟩ : MethodName)) hown (mvT hZ (hw _ (List.mem_of_getElem? (i := 19) rfl))) (mvT hZ (hw _ (List.mem_of_getElem? (i := 20) rfl))) (mvT hZ (hw _ (List.mem_of_getElem? (i := 21) rfl))) (mvT hZ (hw _ (List.mem_of_getElem? (i := 22) rfl))) (by decide) (backOf (W := 1) (rm2 l Z aZ hw [] q0 h36 n0 (Nat.le_trans Z0 K36.1) ) hZ (hw _ (List.mem_of_getElem? (i := 22) rfl)) (hw _ (List.mem_of_getElem? (i := 21) rfl)) (by decide) (by decide)) (g := (mkF m 127 #[.val (.int q0), .val (.int q1), .val (.int q2), .val (.ref b2), .val (.int ((q1 &&& (2147483647 : Int32)) % (17 : Int32))), .val (.int (w39 + ((q2 &&& (7 : Int32)) - (3 : Int32)))), .unset, .unset] [(.int q0), (.int (own_f1 q0))])) rfl (by rw [hml]; rfl) (argsL := [(.int q0)]) (rest := [(.int (own_f1 q0))]) (lenOf pd_0 rfl) rfl (by show 2 * 0 + _ ≤ _; exact Nat.le_of_eq rfl) (hb hby at_127) (fun _ _ => ⟨rfl, e41, (by decide : 1 + 0 ≤ _), (by decide : 17 + 0 ≤ _)⟩)
  dsimp only [Pt.U, Pt.locs, Pt.cells, Pt.slots] at X43 l43 y43 z43 st43 hQ43
  subst l43 y43 z43
  obtain ⟨rfl, N43q, e43⟩ := hQ43
  have N43 := Fr.app N41 N43q
  refine OFin.go st43 ?_
  have c44 : (own_f1 q0) = (own_f2 q0) := own_same _
  have sg45 : ∀ t, Steps p.tables e below (T43.setTop (mkF m 142 #[.val (.int q0), .val (.int q1), .val (.int q2), .val (.ref b2), .val (.int ((q1 &&& (2147483647 : Int32)) % (17 : Int32))), .val (.int (w39 + ((q2 &&& (7 : Int32)) - (3 : Int32)))), .val (.int (1 : Int32)), .unset] [(.int (w39 + ((q2 &&& (7 : Int32)) - (3 : Int32))))])) t → Steps p.tables e below (T43.setTop (mkF m 130 #[.val (.int q0), .val (.int q1), .val (.int q2), .val (.ref b2), .val (.int ((q1 &&& (2147483647 : Int32)) % (17 : Int32))), .val (.int (w39 + ((q2 &&& (7 : Int32)) - (3 : Int32)))), .unset, .unset] [(.int (own_f2 q0)), (.int (own_f1 q0))])) t := by
    intro t k
    show Steps p.tables e below (T43.setTop (mkF m 130 #[.val (.int q0), .val (.int q1), .val (.int q2), .val (.ref b2), .val (.int ((q1 &&& (2147483647 : Int32)) % (17 : Int32))), .val (.int (w39 + ((q2 &&& (7 : Int32)) - (3 : Int32)))), .unset, .unset] [(.int (own_f2 q0)), (.int (own_f1 q0))])) t
    refine XS.icmpNo X43.here hx rfl (hb hby at_130) rfl (teq c44).2 ?_
    show Steps p.tables e below (T43.setTop (mkF m 133 #[.val (.int q0), .val (.int q1), .val (.int q2), .val (.ref b2), .val (.int ((q1 &&& (2147483647 : Int32)) % (17 : Int32))), .val (.int (w39 + ((q2 &&& (7 : Int32)) - (3 : Int32)))), .unset, .unset] [])) t
    refine XS.iconst X43.here hx rfl (hb hby at_133) ?_
    show Steps p.tables e below (T43.setTop (mkF m 134 #[.val (.int q0), .val (.int q1), .val (.int q2), .val (.ref b2), .val (.int ((q1 &&& (2147483647 : Int32)) % (17 : Int32))), .val (.int (w39 + ((q2 &&& (7 : Int32)) - (3 : Int32)))), .unset, .unset] [(.int (1 : Int32))])) t
    refine XS.goto X43.here hx rfl (pc0 := 134) (pc' := 138) rfl (hb hby at_134) (by decide) (by decide) ?_
    show Steps p.tables e below (T43.setTop (mkF m 138 #[.val (.int q0), .val (.int q1), .val (.int q2), .val (.ref b2), .val (.int ((q1 &&& (2147483647 : Int32)) % (17 : Int32))), .val (.int (w39 + ((q2 &&& (7 : Int32)) - (3 : Int32)))), .unset, .unset] [(.int (1 : Int32))])) t
    refine XS.istore X43.here hx rfl (hb hby at_138) rfl (l' := #[.val (.int q0), .val (.int q1), .val (.int q2), .val (.ref b2), .val (.int ((q1 &&& (2147483647 : Int32)) % (17 : Int32))), .val (.int (w39 + ((q2 &&& (7 : Int32)) - (3 : Int32)))), .val (.int (1 : Int32)), .unset]) rfl ?_
    show Steps p.tables e below (T43.setTop (mkF m 140 #[.val (.int q0), .val (.int q1), .val (.int q2), .val (.ref b2), .val (.int ((q1 &&& (2147483647 : Int32)) % (17 : Int32))), .val (.int (w39 + ((q2 &&& (7 : Int32)) - (3 : Int32)))), .val (.int (1 : Int32)), .unset] [])) t
    refine XS.iload X43.here hx rfl (hb hby at_140) rfl ?_
    exact k
  refine OFin.go sg45 ?_
  obtain ⟨_, _, ⟨T46, L46, k46, n46⟩, -, X46, ⟨Lc46, hQ46, l46, y46, z46⟩, st46⟩ := Jvm.LawKit.callS X43 hx (y := (⟨"com/example/avvik/avvik/io/XsdValues", "isXmlChar", "(I)Z"⟩ : MethodName)) hown (mvT hZ (hw _ (List.mem_of_getElem? (i := 13) rfl))) (mvT hZ (hw _ (List.mem_of_getElem? (i := 14) rfl))) (mvT hZ (hw _ (List.mem_of_getElem? (i := 15) rfl))) (mvT hZ (hw _ (List.mem_of_getElem? (i := 16) rfl))) (by decide) (backOf (W := 0) (rm1 l Z aZ hw [] (w39 + ((q2 &&& (7 : Int32)) - (3 : Int32))) h36 n0 (Nat.le_trans Z0 K36.1) ) hZ (hw _ (List.mem_of_getElem? (i := 16) rfl)) (hw _ (List.mem_of_getElem? (i := 15) rfl)) (by decide) (by decide)) (g := (mkF m 142 #[.val (.int q0), .val (.int q1), .val (.int q2), .val (.ref b2), .val (.int ((q1 &&& (2147483647 : Int32)) % (17 : Int32))), .val (.int (w39 + ((q2 &&& (7 : Int32)) - (3 : Int32)))), .val (.int (1 : Int32)), .unset] [(.int (w39 + ((q2 &&& (7 : Int32)) - (3 : Int32))))])) rfl (by rw [hml]; rfl) (argsL := [(.int (w39 + ((q2 &&& (7 : Int32)) - (3 : Int32))))]) (rest := []) (lenOf pd_0 rfl) rfl (by show 2 * 0 + _ ≤ _; exact Nat.le_of_eq rfl) (hb hby at_142) (fun _ _ => ⟨rfl, e43, (by decide : 1 + 0 ≤ _), (by decide : 17 + 0 ≤ _)⟩)
  dsimp only [Pt.U, Pt.locs, Pt.cells, Pt.slots] at X46 l46 y46 z46 st46 hQ46
  subst l46 y46 z46
  obtain ⟨rfl, N46q, e46⟩ := hQ46
  have N46 := Fr.app N43 N46q
  refine OFin.go st46 ?_
  have sg47 : ∀ t, Steps p.tables e below (T46.setTop (mkF m 147 #[.val (.int q0), .val (.int q1), .val (.int q2), .val (.ref b2), .val (.int ((q1 &&& (2147483647 : Int32)) % (17 : Int32))), .val (.int (w39 + ((q2 &&& (7 : Int32)) - (3 : Int32)))), .val (.int (1 : Int32)), .unset] [(.int (w39 + ((q2 &&& (7 : Int32)) - (3 : Int32)))), (.int (own_f1 (w39 + ((q2 &&& (7 : Int32)) - (3 : Int32)))))])) t → Steps p.tables e below (T46.setTop (mkF m 145 #[.val (.int q0), .val (.int q1), .val (.int q2), .val (.ref b2), .val (.int ((q1 &&& (2147483647 : Int32)) % (17 : Int32))), .val (.int (w39 + ((q2 &&& (7 : Int32)) - (3 : Int32)))), .val (.int (1 : Int32)), .unset] [(.int (own_f1 (w39 + ((q2 &&& (7 : Int32)) - (3 : Int32)))))])) t := by
    intro t k
    show Steps p.tables e below (T46.setTop (mkF m 145 #[.val (.int q0), .val (.int q1), .val (.int q2), .val (.ref b2), .val (.int ((q1 &&& (2147483647 : Int32)) % (17 : Int32))), .val (.int (w39 + ((q2 &&& (7 : Int32)) - (3 : Int32)))), .val (.int (1 : Int32)), .unset] [(.int (own_f1 (w39 + ((q2 &&& (7 : Int32)) - (3 : Int32)))))])) t
    refine XS.iload X46.here hx rfl (hb hby at_145) rfl ?_
    exact k
  refine OFin.go sg47 ?_
  obtain ⟨_, _, ⟨T48, L48, k48, n48⟩, -, X48, ⟨Lc48, hQ48, l48, y48, z48⟩, st48⟩ := Jvm.LawKit.callS X46 hx (y := (⟨"com/example/avvik/avvik/io/XsdValuesIsXmlCharPinLaw", "reference", "(I)Z"⟩ : MethodName)) hown (mvT hZ (hw _ (List.mem_of_getElem? (i := 19) rfl))) (mvT hZ (hw _ (List.mem_of_getElem? (i := 20) rfl))) (mvT hZ (hw _ (List.mem_of_getElem? (i := 21) rfl))) (mvT hZ (hw _ (List.mem_of_getElem? (i := 22) rfl))) (by decide) (backOf (W := 1) (rm2 l Z aZ hw [] (w39 + ((q2 &&& (7 : Int32)) - (3 : Int32))) h36 n0 (Nat.le_trans Z0 K36.1) ) hZ (hw _ (List.mem_of_getElem? (i := 22) rfl)) (hw _ (List.mem_of_getElem? (i := 21) rfl)) (by decide) (by decide)) (g := (mkF m 147 #[.val (.int q0), .val (.int q1), .val (.int q2), .val (.ref b2), .val (.int ((q1 &&& (2147483647 : Int32)) % (17 : Int32))), .val (.int (w39 + ((q2 &&& (7 : Int32)) - (3 : Int32)))), .val (.int (1 : Int32)), .unset] [(.int (w39 + ((q2 &&& (7 : Int32)) - (3 : Int32)))), (.int (own_f1 (w39 + ((q2 &&& (7 : Int32)) - (3 : Int32)))))])) rfl (by rw [hml]; rfl) (argsL := [(.int (w39 + ((q2 &&& (7 : Int32)) - (3 : Int32))))]) (rest := [(.int (own_f1 (w39 + ((q2 &&& (7 : Int32)) - (3 : Int32)))))]) (lenOf pd_0 rfl) rfl (by show 2 * 0 + _ ≤ _; exact Nat.le_of_eq rfl) (hb hby at_147) (fun _ _ => ⟨rfl, e46, (by decide : 1 + 0 ≤ _), (by decide : 17 + 0 ≤ _)⟩)
  dsimp only [Pt.U, Pt.locs, Pt.cells, Pt.slots] at X48 l48 y48 z48 st48 hQ48
  subst l48 y48 z48
  obtain ⟨rfl, N48q, e48⟩ := hQ48
  have N48 := Fr.app N46 N48q
  refine OFin.go st48 ?_
  have c49 : (own_f1 (w39 + ((q2 &&& (7 : Int32)) - (3 : Int32)))) = (own_f2 (w39 + ((q2 &&& (7 : Int32)) - (3 : Int32)))) := own_same _
  have sg50 : ∀ t, Steps p.tables e below (T48.setTop (mkF m 175 #[.val (.int q0), .val (.int q1), .val (.int q2), .val (.ref b2), .val (.int ((q1 &&& (2147483647 : Int32)) % (17 : Int32))), .val (.int (w39 + ((q2 &&& (7 : Int32)) - (3 : Int32)))), .val (.int (1 : Int32)), .val (.int (1 : Int32))] [(.int (1 : Int32))])) t → Steps p.tables e below (T48.setTop (mkF m 150 #[.val (.int q0), .val (.int q1), .val (.int q2), .val (.ref b2), .val (.int ((q1 &&& (2147483647 : Int32)) % (17 : Int32))), .val (.int (w39 + ((q2 &&& (7 : Int32)) - (3 : Int32)))), .val (.int (1 : Int32)), .unset] [(.int (own_f2 (w39 + ((q2 &&& (7 : Int32)) - (3 : Int32))))), (.int (own_f1 (w39 + ((q2 &&& (7 : Int32)) - (3 : Int32)))))])) t := by
    intro t k
    show Steps p.tables e below (T48.setTop (mkF m 150 #[.val (.int q0), .val (.int q1), .val (.int q2), .val (.ref b2), .val (.int ((q1 &&& (2147483647 : Int32)) % (17 : Int32))), .val (.int (w39 + ((q2 &&& (7 : Int32)) - (3 : Int32)))), .val (.int (1 : Int32)), .unset] [(.int (own_f2 (w39 + ((q2 &&& (7 : Int32)) - (3 : Int32))))), (.int (own_f1 (w39 + ((q2 &&& (7 : Int32)) - (3 : Int32)))))])) t
    refine XS.icmpNo X48.here hx rfl (hb hby at_150) rfl (teq c49).2 ?_
    show Steps p.tables e below (T48.setTop (mkF m 153 #[.val (.int q0), .val (.int q1), .val (.int q2), .val (.ref b2), .val (.int ((q1 &&& (2147483647 : Int32)) % (17 : Int32))), .val (.int (w39 + ((q2 &&& (7 : Int32)) - (3 : Int32)))), .val (.int (1 : Int32)), .unset] [])) t
    refine XS.iconst X48.here hx rfl (hb hby at_153) ?_
    show Steps p.tables e below (T48.setTop (mkF m 154 #[.val (.int q0), .val (.int q1), .val (.int q2), .val (.ref b2), .val (.int ((q1 &&& (2147483647 : Int32)) % (17 : Int32))), .val (.int (w39 + ((q2 &&& (7 : Int32)) - (3 : Int32)))), .val (.int (1 : Int32)), .unset] [(.int (1 : Int32))])) t
    refine XS.goto X48.here hx rfl (pc0 := 154) (pc' := 158) rfl (hb hby at_154) (by decide) (by decide) ?_
    show Steps p.tables e below (T48.setTop (mkF m 158 #[.val (.int q0), .val (.int q1), .val (.int q2), .val (.ref b2), .val (.int ((q1 &&& (2147483647 : Int32)) % (17 : Int32))), .val (.int (w39 + ((q2 &&& (7 : Int32)) - (3 : Int32)))), .val (.int (1 : Int32)), .unset] [(.int (1 : Int32))])) t
    refine XS.istore X48.here hx rfl (hb hby at_158) rfl (l' := #[.val (.int q0), .val (.int q1), .val (.int q2), .val (.ref b2), .val (.int ((q1 &&& (2147483647 : Int32)) % (17 : Int32))), .val (.int (w39 + ((q2 &&& (7 : Int32)) - (3 : Int32)))), .val (.int (1 : Int32)), .val (.int (1 : Int32))]) rfl ?_
    show Steps p.tables e below (T48.setTop (mkF m 160 #[.val (.int q0), .val (.int q1), .val (.int q2), .val (.ref b2), .val (.int ((q1 &&& (2147483647 : Int32)) % (17 : Int32))), .val (.int (w39 + ((q2 &&& (7 : Int32)) - (3 : Int32)))), .val (.int (1 : Int32)), .val (.int (1 : Int32))] [])) t
    refine XS.iload X48.here hx rfl (hb hby at_160) rfl ?_
    show Steps p.tables e below (T48.setTop (mkF m 162 #[.val (.int q0), .val (.int q1), .val (.int q2), .val (.ref b2), .val (.int ((q1 &&& (2147483647 : Int32)) % (17 : Int32))), .val (.int (w39 + ((q2 &&& (7 : Int32)) - (3 : Int32)))), .val (.int (1 : Int32)), .val (.int (1 : Int32))] [(.int (1 : Int32))])) t
    refine XS.ifNo X48.here hx rfl (hb hby at_162) rfl ((if0 _ _).trans (feq (by decide : ¬ ((1 : Int32) = (0 : Int32)))).1) ?_
    show Steps p.tables e below (T48.setTop (mkF m 165 #[.val (.int q0), .val (.int q1), .val (.int q2), .val (.ref b2), .val (.int ((q1 &&& (2147483647 : Int32)) % (17 : Int32))), .val (.int (w39 + ((q2 &&& (7 : Int32)) - (3 : Int32)))), .val (.int (1 : Int32)), .val (.int (1 : Int32))] [])) t
    refine XS.iload X48.here hx rfl (hb hby at_165) rfl ?_
    show Steps p.tables e below (T48.setTop (mkF m 167 #[.val (.int q0), .val (.int q1), .val (.int q2), .val (.ref b2), .val (.int ((q1 &&& (2147483647 : Int32)) % (17 : Int32))), .val (.int (w39 + ((q2 &&& (7 : Int32)) - (3 : Int32)))), .val (.int (1 : Int32)), .val (.int (1 : Int32))] [(.int (1 : Int32))])) t
    refine XS.ifNo X48.here hx rfl (hb hby at_167) rfl ((if0 _ _).trans (feq (by decide : ¬ ((1 : Int32) = (0 : Int32)))).1) ?_
    show Steps p.tables e below (T48.setTop (mkF m 170 #[.val (.int q0), .val (.int q1), .val (.int q2), .val (.ref b2), .val (.int ((q1 &&& (2147483647 : Int32)) % (17 : Int32))), .val (.int (w39 + ((q2 &&& (7 : Int32)) - (3 : Int32)))), .val (.int (1 : Int32)), .val (.int (1 : Int32))] [])) t
    refine XS.iconst X48.here hx rfl (hb hby at_170) ?_
    show Steps p.tables e below (T48.setTop (mkF m 171 #[.val (.int q0), .val (.int q1), .val (.int q2), .val (.ref b2), .val (.int ((q1 &&& (2147483647 : Int32)) % (17 : Int32))), .val (.int (w39 + ((q2 &&& (7 : Int32)) - (3 : Int32)))), .val (.int (1 : Int32)), .val (.int (1 : Int32))] [(.int (1 : Int32))])) t
    refine XS.goto X48.here hx rfl (pc0 := 171) (pc' := 175) rfl (hb hby at_171) (by decide) (by decide) ?_
    exact k
  refine OFin.go sg50 ?_
  exact OFin.retN X48 hx hret (by simp) hlk (hb hby at_175) rfl (by rw [e48]; exact ⟨rfl, N48⟩) (by decide) (by decide)
set_option maxHeartbeats 40000000 in
theorem comes_1 {Post : Tables → Env → Array Value → State → Outcome → State → Prop} (hpost : ∀ tb e args s v u, (limb_1_1.after args s (.returned v) u = true ∧ limb_1_2.after args s (.returned v) u = true ∧ True) → FrameEnd s (.returned v) u (Jvm.fieldLocs frame_1_writes args s ++ Jvm.arrayLocs frame_1_arrays args s ++ Jvm.staticLocs frame_1_statics s) 16 128 → Post tb e args s (.returned v) u) :
    ArmFor flags0 classFile x code maxLocals ret World_1 tables_1 room_1 Calls_1 rest_1 Pre_1 Post := by
  intro l hfl _ _ p e ha hc hk s m args below hf hA hF happ hP
  obtain ⟨hcalls, hrest, hpre⟩ := hP
  obtain ⟨-, -, -, hnamed, -, -, -, hat⟩ := (Spec.applies_iff hf).mp happ
  obtain ⟨hg, hn⟩ := and_e (Cond.before_iff.mp (show (Jvm.Cond.and given_1 narrow_1).before args s = true from hpre))
  obtain ⟨gg1, gg2⟩ := and_e hg
  obtain ⟨gg3, gg4⟩ := and_e gg2
  obtain ⟨gg5, gg6⟩ := and_e gg4
  obtain ⟨w0, w1, w2, rfl⟩ : ∃ w0 w1 w2 : Value, args = #[w0, w1, w2] := by
    have hs : args.size = 3 := by simpa [Cond.value, given_1] using gg1
    obtain ⟨L⟩ := args
    match L, hs with
    | [w0, w1, w2], _ => exact ⟨w0, w1, w2, rfl⟩
  have hw := fun d (hd : d ∈ tables_1) => atoms_spec (ws := Jvm.Cond.code x code maxLocals ret :: tables_1) hat d (List.mem_cons_of_mem _ hd)
  have hfit : Fit s := fun {y c} hc i hi => by
    obtain ⟨ha, rfl⟩ := Array.getElem?_eq_some_iff.mp hc
    have q := List.all_eq_true.mp ((Array.all_eq_true_iff_forall_mem.mp hF) _ (Array.getElem_mem ha)) i (List.mem_range.mpr hi)
    simpa [Array.getElem?_eq_getElem hi] using q
  obtain ⟨i0, ei0⟩ := is_v gg3
  obtain rfl : w0 = (.int i0) := Option.some.inj ei0
  obtain ⟨i1, ei1⟩ := is_v gg5
  obtain rfl : w1 = (.int i1) := Option.some.inj ei1
  obtain ⟨i2, ei2⟩ := is_v gg6
  obtain rfl : w2 = (.int i2) := Option.some.inj ei2
  obtain ⟨n, o, h1, h2, h3, _, L, rfl, ⟨rfl, N⟩, hq⟩ := rm0 l s _ hw tables_1 i0 i1 i2 s.heap s.heap.size (Nat.le_refl _) (Old.start s)  p e ha hc hk s m _ below hf ((Spec.applies_iff_loose hf).mp happ).1 ⟨rfl, State.Warmed39.refl s, rfl⟩ trivial
  refine ⟨n, _, h1, h2, h3, hpost _ _ _ _ _ _ ⟨Cond.after_iff.mpr rfl, Cond.after_iff.mpr (eq_i res_at (Term.int_eval (1)) rfl), trivial⟩ ⟨hq.1, hq.2.1, (hq.2.2.sift fun y hy => Or.inr (N y hy)).mono (by decide) (by decide)⟩⟩
theorem main_1_1 : Claimed_1_1 := comes_1 fun _ _ _ _ _ _ h hF => ⟨h.1, hF⟩
theorem main_1_2 : Claimed_1_2 := comes_1 fun _ _ _ _ _ _ h hF => ⟨h.2.1, hF⟩
end Jvm.Pilot.@@N@@
namespace Jvm.Pilot.@@N@@
open Jvm Jvm.ClassFile Sem Op Lib Jvm.Free Jvm.Stand Jvm.Pilot.@@N@@.Jvm.D
/-! MADE BY PROGRAM (witnessworld.py) out of the Statement's table words and the real class files: 9 classes; the members and pool entries that the words name. The judged class is class 1, her method 2. -/
namespace start1
open Jvm.ClassFile
def u (s : String) : CpInfo := .utf8 (stringToUtf16 s)
/-- a pool by its gaps: so many unusable entries, then the entry; so many at the end -/
def gap : Nat → List CpInfo → List CpInfo
  | 0, r => r
  | n + 1, r => .unusable :: gap n r
def poolList (es : List (Nat × CpInfo)) (last : Nat) : List CpInfo := es.foldr (fun e r => gap e.1 (e.2 :: r)) (gap last [])
def pool (es : List (Nat × CpInfo)) (last : Nat) : Array CpInfo := ⟨poolList es last⟩
def fileOf (pool : Array CpInfo) (this : Nat) (attrs : Array Attribute := #[]) (ms : Array MethodInfo := #[]) (fl : Nat := 33) (sup : Nat := 0) (ifs : Array Nat := #[]) (fds : Array FieldInfo := #[]) : ClassFile where
  minorVersion := 0
  majorVersion := 65
  constantPool := pool
  accessFlags := fl
  thisClass := this
  superClass := sup
  interfaces := ifs
  fields := fds
  methods := ms
  attributes := attrs
def plain (name : String) (sup : Option ClassId) : Class where
  name := name
  kind := .ordinary
  loader := none
  accessFlags := 33
  super := sup
  interfaces := #[]
  cf := none
  fields := #[]
  methods := #[]
  instanceTypes := #[]
  staticTypes := #[]
  resolved := #[]
  callSites := []
  init := .initialized
  statics := none
  mirror := none

def pool0 : Array CpInfo := pool [(5, u "<init>"), (0, u "()V"), (1, .class_ 10), (1, u "java/lang/Object")] 113

def k0m0 : Method := { name := "<init>", desc := "()V", sig := { parameters := [], returnType := none }, accessFlags := 1, code := none }
/-- java/lang/Object -/
def k0 : Class := { plain "java/lang/Object" none with
  accessFlags := 33
  interfaces := #[]
  cf := some (fileOf pool0 8 #[] #[{ accessFlags := 1, nameIndex := 5, descriptorIndex := 6, attributes := #[] }] 33 0 #[] #[])
  fields := #[]
  methods := #[k0m0]
  instanceTypes := #[]
  staticTypes := #[]
  resolved := Array.replicate 124 none
  statics := none }

def pool1 : Array CpInfo := pool [(2, .class_ 4), (1, u "java/lang/Object"), (0, u "<init>"), (0, u "()V"), (0, .integer 55296), (0, .integer 57343), (0, .integer 65534), (0, .integer 65535), (0, .integer 1114111), (0, .integer 55295), (0, .integer 57344), (0, .integer 65533), (0, .integer 65536), (0, .integer 1114112), (2, .integer 2147483648), (0, .integer 2147483647), (0, .methodref 22 23), (0, .class_ 24), (0, .nameAndType 25 26), (0, u "com/example/avvik/avvik/io/XsdValues"), (0, u "isXmlChar"), (0, u "(I)Z"), (0, .methodref 28 29), (0, .class_ 30), (0, .nameAndType 31 26), (0, u "com/example/avvik/avvik/io/XsdValuesIsXmlCharPinLaw"), (0, u "reference"), (3, u "law"), (0, u "(III)Z")] 4

def k1m0 : Method := { name := "<init>", desc := "()V", sig := { parameters := [], returnType := none }, accessFlags := 2, code := none }
def k1c1 : Code := { maxStack := 2, maxLocals := 1, code := method_2_code, exceptionTable := #[], attributes := #[] }
def k1m1 : Method := { name := "reference", desc := "(I)Z", sig := { parameters := [.int], returnType := some .boolean }, accessFlags := 10, code := some k1c1 }
def k1c2 : Code := { maxStack := 4, maxLocals := 8, code := code, exceptionTable := #[], attributes := #[] }
def k1m2 : Method := { name := "law", desc := "(III)Z", sig := { parameters := [.int, .int, .int], returnType := some .boolean }, accessFlags := 9, code := some k1c2 }
/-- com/example/avvik/avvik/io/XsdValuesIsXmlCharPinLaw -/
def k1 : Class := { plain "com/example/avvik/avvik/io/XsdValuesIsXmlCharPinLaw" (some 0) with
  accessFlags := 49
  interfaces := #[]
  cf := some (fileOf pool1 28 #[] #[{ accessFlags := 2, nameIndex := 5, descriptorIndex := 6, attributes := #[] }, { accessFlags := 10, nameIndex := 31, descriptorIndex := 26, attributes := #[] }, { accessFlags := 9, nameIndex := 35, descriptorIndex := 36, attributes := #[] }] 49 2 #[] #[])
  fields := #[]
  methods := #[k1m0, k1m1, k1m2]
  instanceTypes := #[]
  staticTypes := #[]
  resolved := Array.replicate 41 none
  statics := none }

def pool2 : Array CpInfo := pool [(2, .class_ 4), (1, u "java/lang/Object"), (0, u "<init>"), (0, u "()V"), (11, .class_ 20), (1, u "com/example/avvik/avvik/io/XsdValues"), (45, u "NAME_TOKEN"), (0, u "Ljava/util/regex/Pattern;"), (14, u "LANGUAGE"), (0, .integer 55295), (0, .integer 57344), (0, .integer 65533), (0, .integer 65536), (2, .integer 1114111), (29, .class_ 121), (1, u "com/example/avvik/avvik/io/XsdValues$UriReference"), (9, u "MAX_PORT"), (0, u "Ljava/lang/String;"), (31, u "DATE_TIME"), (43, u "PORTABLE_DIGITS"), (0, u "I"), (2, u "MAX_OFFSET_HOURS"), (1, u "ESCAPED"), (0, u "MAX_IP_LITERAL_PORT"), (9, u "isXmlChar"), (0, u "(I)Z")] 32

def k2m0 : Method := { name := "<init>", desc := "()V", sig := { parameters := [], returnType := none }, accessFlags := 2, code := none }
def k2c1 : Code := { maxStack := 2, maxLocals := 1, code := prog_24_method_11_code, exceptionTable := #[], attributes := #[] }
def k2m1 : Method := { name := "isXmlChar", desc := "(I)Z", sig := { parameters := [.int], returnType := some .boolean }, accessFlags := 9, code := some k2c1 }
/-- com/example/avvik/avvik/io/XsdValues -/
def k2 : Class := { plain "com/example/avvik/avvik/io/XsdValues" (some 0) with
  accessFlags := 49
  interfaces := #[]
  cf := some (fileOf pool2 18 #[.nestMembers #[119]] #[{ accessFlags := 2, nameIndex := 5, descriptorIndex := 6, attributes := #[] }, { accessFlags := 9, nameIndex := 225, descriptorIndex := 226, attributes := #[] }] 49 2 #[] #[{ accessFlags := 26, nameIndex := 208, descriptorIndex := 209, attributes := #[] }, { accessFlags := 26, nameIndex := 66, descriptorIndex := 67, attributes := #[] }, { accessFlags := 26, nameIndex := 82, descriptorIndex := 67, attributes := #[] }, { accessFlags := 26, nameIndex := 164, descriptorIndex := 67, attributes := #[] }, { accessFlags := 26, nameIndex := 212, descriptorIndex := 209, attributes := #[] }, { accessFlags := 26, nameIndex := 214, descriptorIndex := 132, attributes := #[] }, { accessFlags := 26, nameIndex := 131, descriptorIndex := 132, attributes := #[] }, { accessFlags := 26, nameIndex := 215, descriptorIndex := 132, attributes := #[] }])
  fields := #[{ name := "PORTABLE_DIGITS", type := .int, accessFlags := 26, slot := 0, constantValue := 0 }, { name := "NAME_TOKEN", type := (.object "java/util/regex/Pattern"), accessFlags := 26, slot := 1, constantValue := 0 }, { name := "LANGUAGE", type := (.object "java/util/regex/Pattern"), accessFlags := 26, slot := 2, constantValue := 0 }, { name := "DATE_TIME", type := (.object "java/util/regex/Pattern"), accessFlags := 26, slot := 3, constantValue := 0 }, { name := "MAX_OFFSET_HOURS", type := .int, accessFlags := 26, slot := 4, constantValue := 0 }, { name := "ESCAPED", type := (.object "java/lang/String"), accessFlags := 26, slot := 5, constantValue := 0 }, { name := "MAX_PORT", type := (.object "java/lang/String"), accessFlags := 26, slot := 6, constantValue := 0 }, { name := "MAX_IP_LITERAL_PORT", type := (.object "java/lang/String"), accessFlags := 26, slot := 7, constantValue := 0 }]
  methods := #[k2m0, k2m1]
  instanceTypes := #[]
  staticTypes := #[.int, (.object "java/util/regex/Pattern"), (.object "java/util/regex/Pattern"), (.object "java/util/regex/Pattern"), .int, (.object "java/lang/String"), (.object "java/lang/String"), (.object "java/lang/String")]
  resolved := Array.replicate 259 none
  statics := none }

def pool3 : Array CpInfo := pool [(1, u "java/lang/Cloneable"), (0, .class_ 1), (0, u "java/lang/Object"), (0, .class_ 3)] 3

/-- java/lang/Cloneable -/
def k3 : Class := { plain "java/lang/Cloneable" (some 0) with
  accessFlags := 1537
  interfaces := #[]
  cf := some (fileOf pool3 2 #[] #[] 1537 4 #[] #[])
  fields := #[]
  methods := #[]
  instanceTypes := #[]
  staticTypes := #[]
  resolved := Array.replicate 8 none
  statics := none }

def pool4 : Array CpInfo := pool [(1, u "java/io/Serializable"), (0, .class_ 1), (0, u "java/lang/Object"), (0, .class_ 3)] 3

/-- java/io/Serializable -/
def k4 : Class := { plain "java/io/Serializable" (some 0) with
  accessFlags := 1537
  interfaces := #[]
  cf := some (fileOf pool4 2 #[] #[] 1537 4 #[] #[])
  fields := #[]
  methods := #[]
  instanceTypes := #[]
  staticTypes := #[]
  resolved := Array.replicate 8 none
  statics := none }

/-- the primitive byte -/
def k5 : Class := { plain "byte" none with kind := .primitive 'B', accessFlags := 0x411 }
/-- [B -/
def k6 : Class := { plain "[B" (some 0) with kind := .array 5 .byte, interfaces := #[3, 4], accessFlags := 1041 }

/-- the primitive int -/
def k7 : Class := { plain "int" none with kind := .primitive 'I', accessFlags := 0x411 }
/-- [I -/
def k8 : Class := { plain "[I" (some 0) with kind := .array 7 .int, interfaces := #[3, 4], accessFlags := 1041 }

def heap : Heap := #[]
def classes : Array Class := #[k0, k1, k2, k3, k4, k5, k6, k7, k8]
def interned : List (Array UInt16 × Addr) := []
def slotsUsed : Nat := 0
def theMethod : MethodId := ⟨1, 2⟩
def args0 : Array Value := #[.int 5, .int 300, .int 7]
def aboutOver (below : List Frame) : State where
  vm := { classes := classes, interned := interned.toArray }
  heap := heap
  slotsUsed := slotsUsed
  threads := #[{ frames := .invoking theMethod args0 :: below }]
def below0 : List Frame := [.native { method := ⟨0, 0⟩, args := #[] }]
def about1 : State := aboutOver below0
def p0 : Program := .bare "" "" ""
def e0 : Env := launch0.env 0 0 0
theorem w_frames : about1.frames = Frame.invoking theMethod args0 :: below0 := rfl
set_option maxRecDepth 65536 in
theorem w_args : argsFit about1.vm theMethod args0 = true := by decide +kernel
set_option maxRecDepth 65536 in
theorem w_heap : heapFits about1 = true := by decide +kernel
set_option maxRecDepth 65536 in
theorem w_runnable : about1.curStatus? = some .runnable := by decide +kernel
set_option maxRecDepth 65536 in
theorem w_alone : about1.alone = true := by decide +kernel
set_option maxRecDepth 65536 in
theorem w_named : about1.methodNamed? x = some theMethod := by decide +kernel
set_option maxRecDepth 65536 in
theorem w_hears : about1.hears theMethod below0 = true := by decide +kernel
set_option maxRecDepth 65536 in
theorem w_ripe : about1.ripe theMethod args0 below0 = true := by decide +kernel
theorem w_running : about1.status = .running := rfl
set_option maxRecDepth 65536 in
theorem w_room : about1.hasRoom e0.platform room_1 = true :=
  launch0.hasRoom_least _ room_1 (by decide +kernel) (by decide +kernel) (by decide +kernel) (by decide +kernel) (by decide +kernel) (by decide +kernel)
theorem allAtoms_all (ts : List Jvm.Cond) (a : Array Jvm.Value) (st : Jvm.State) : (allAtoms ts).before a st = ts.all (fun c => c.before a st) := by
  induction ts with
  | nil => rfl
  | cons c t ih =>
    show (Jvm.Cond.and c (allAtoms t)).before a st = _
    rw [Jvm.Cond.before_and, ih, List.all_cons]
def words1 : List Jvm.Cond := Jvm.Cond.code x code maxLocals ret :: tables_1
/-- a 'code' word, met by the world's own term for the bytes: nothing is compared byte by byte -/
theorem code_word {y : MethodName} {bytes : ByteArray} {mx : Nat} {rt : Option FieldType} {a : Array Value} {s : State} {m : MethodId} {meth : Method} {c : Code} (h1 : s.methodNamed? y = some m) (h2 : s.vm.method? m = some meth) (h3 : meth.code = some c) (h4 : c.code = bytes)
    (h5 : (c.maxLocals == mx && c.exceptionTable.isEmpty && decide (c.maxStack ≤ mostOperands) && decide (meth.sig.returnType = rt) && !meth.locks && decide (parseMethodDescriptor y.desc = some meth.sig)) = true) : (Jvm.Cond.code y bytes mx rt).before a s = true := by
  simp only [Bool.and_eq_true, beq_iff_eq, Bool.not_eq_true', decide_eq_true_eq] at h5
  obtain ⟨⟨⟨⟨⟨g1, g2⟩, g3⟩, g4⟩, g5⟩, g6⟩ := h5
  simp [Cond.before, Cond.holds, Cond.value, h1, h2, h3, h4, g1, g2, g3, g4, g5, g6]
def isCode : Jvm.Cond → Bool
  | .code _ _ _ _ => true
  | _ => false
theorem all_split {L : List Jvm.Cond} {P : Jvm.Cond → Bool} (h1 : L.all (fun c => isCode c || P c) = true) (h2 : ∀ c ∈ L.filter isCode, P c = true) : L.all P = true := by
  refine List.all_eq_true.mpr fun c hc => ?_
  have h := List.all_eq_true.mp h1 c hc
  rcases Bool.eq_false_or_eq_true (isCode c) with hi | hi
  · exact h2 c (List.mem_filter.mpr ⟨hc, hi⟩)
  · simpa [hi] using h
set_option maxRecDepth 65536 in
theorem w_c0 : (Jvm.Cond.code x code maxLocals ret).before args0 about1 = true := code_word (m := ⟨1, 2⟩) (meth := k1m2) (c := k1c2) (by decide +kernel) rfl rfl rfl (by decide +kernel)
set_option maxRecDepth 65536 in
theorem w_c1 : (Jvm.Cond.code ({ cls := "com/example/avvik/avvik/io/XsdValues", name := "isXmlChar", desc := "(I)Z" } : Jvm.MethodName) prog_24_method_11_code (1 : Nat) (Option.some Jvm.ClassFile.FieldType.boolean)).before args0 about1 = true := code_word (m := ⟨2, 1⟩) (meth := k2m1) (c := k2c1) (by decide +kernel) rfl rfl rfl (by decide +kernel)
set_option maxRecDepth 65536 in
theorem w_c2 : (Jvm.Cond.code ({ cls := "com/example/avvik/avvik/io/XsdValuesIsXmlCharPinLaw", name := "reference", desc := "(I)Z" } : Jvm.MethodName) method_2_code (1 : Nat) (Option.some Jvm.ClassFile.FieldType.boolean)).before args0 about1 = true := code_word (m := ⟨1, 1⟩) (meth := k1m1) (c := k1c1) (by decide +kernel) rfl rfl rfl (by decide +kernel)
def codes1 : List Jvm.Cond := [Jvm.Cond.code x code maxLocals ret, Jvm.Cond.code ({ cls := "com/example/avvik/avvik/io/XsdValues", name := "isXmlChar", desc := "(I)Z" } : Jvm.MethodName) prog_24_method_11_code (1 : Nat) (Option.some Jvm.ClassFile.FieldType.boolean), Jvm.Cond.code ({ cls := "com/example/avvik/avvik/io/XsdValuesIsXmlCharPinLaw", name := "reference", desc := "(I)Z" } : Jvm.MethodName) method_2_code (1 : Nat) (Option.some Jvm.ClassFile.FieldType.boolean)]
set_option maxRecDepth 65536 in
theorem codes_eq : words1.filter isCode = codes1 := rfl
theorem w_codes : ∀ c ∈ words1.filter isCode, c.before args0 about1 = true := by
  rw [codes_eq]
  intro c hc
  simp only [codes1, List.mem_cons, List.not_mem_nil, or_false] at hc
  rcases hc with rfl | rfl | rfl
  · exact w_c0
  · exact w_c1
  · exact w_c2
set_option maxRecDepth 65536 in
theorem w_t1 : (words1.take 24).all (fun c => isCode c || c.before args0 about1) = true := by decide +kernel
set_option maxRecDepth 65536 in
theorem w_t2 : (words1.drop 24).all (fun c => isCode c || c.before args0 about1) = true := by decide +kernel
theorem w_tables : (allAtoms (Jvm.Cond.code x code maxLocals ret :: tables_1)).before args0 about1 = true := by
  rw [allAtoms_all]
  show words1.all (fun c => c.before args0 about1) = true
  refine all_split ?_ w_codes
  rw [← List.take_append_drop 24 words1, List.all_append, w_t1, w_t2]
  rfl
set_option maxRecDepth 65536 in
theorem w_case : (Jvm.Cond.and given_1 narrow_1).before args0 about1 = true := by decide +kernel
theorem w_applies : (headSpec (Jvm.Cond.code x code maxLocals ret :: tables_1) room_1).applies x e0.platform about1 = true :=
  (Spec.applies_iff w_frames).mpr ⟨w_running, w_runnable, w_alone, w_named, w_hears, w_ripe, w_room, w_tables⟩
theorem atStart : AtStart classFile x code maxLocals ret World_1 tables_1 room_1 Calls_1 rest_1 Pre_1 launch0 p0 e0 about1 theMethod args0 below0 :=
  ⟨lists_1, trivial, launch0.admits_env _ _ _, launch0.least_env, fairChoices_fair.cas, fairChoices_fair.clock, w_frames, w_args, w_heap, w_applies, trivial, trivial, w_case⟩
end start1
theorem witness_1 : WitnessClaimed_1 := ⟨start1.p0, start1.e0, start1.about1, start1.theMethod, start1.args0, start1.below0, start1.atStart⟩
end Jvm.Pilot.@@N@@
