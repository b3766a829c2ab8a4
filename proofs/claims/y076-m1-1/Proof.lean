import JvmDerived
import JvmDerived.Pilot.@@N@@Statement
import JvmDerived.Pilot.@@N@@Code
set_option linter.unusedVariables false
set_option linter.unusedSimpArgs false
set_option maxRecDepth 65536
namespace Jvm.Pilot.@@N@@
open Jvm Jvm.ClassFile Sem Op Lib Jvm.Free Jvm.Stand Jvm.LawKit Jvm.RoadKit Bundle Jvm.Pilot.@@N@@.Jvm.D
/-- the run goes on from S to a return that Q says, within so many new cells and slots -/
def OFin (p : Program) (e : Env) (below : List Frame) (s : State) (Q : Option Value → Heap → List Loc → Prop) (cells slots : Nat) (S : State) : Prop :=
  ∃ s₂ o, Steps p.tables e below S s₂ ∧ s₂.status = .running ∧ Ended s₂ below o ∧ ∃ v L, o = .returned v ∧ Q v s₂.heap L ∧ FrameEnd s o s₂ L cells slots
section Own
variable {p : Program} {l : Launch} {e : Env} {R : Room} {s : State} {m : MethodId} {args : Array Value} {below : List Frame} {meth : Method} {c : Code} {T S S' : State} {locs : List Loc} {cells slots k n : Nat} {Q : Option Value → Heap → List Loc → Prop} {pc : Nat} {Ls : Array Slot} {rest : List Value}
theorem OFin.go (st : ∀ t, Steps p.tables e below S' t → Steps p.tables e below S t) (F : OFin p e below s Q cells slots S') : OFin p e below s Q cells slots S := by
  obtain ⟨s₂, o, h, r⟩ := F
  exact ⟨s₂, o, st _ h, r⟩
theorem OFin.tr (st : Steps p.tables e below S S') (F : OFin p e below s Q cells slots S') : OFin p e below s Q cells slots S := by
  obtain ⟨s₂, o, h, r⟩ := F
  exact ⟨s₂, o, st.trans h, r⟩
theorem OFin.ends (X : Stand p l e R s m args below meth c T locs k n) {v : Option Value} (hv : meth.sig.returnType = none → v = none) (hlk : meth.locks = false) (hq : Q v T.heap locs) (hk : k ≤ cells) (hn : n ≤ slots)
    (st : ∀ fs, (∀ (f : JFrame) (acts : List Action), f.method = m → f.locked = none → f.entered = [] → (doReturn e (T.setTop f) acts v).1 = T.setFrames fs) → Steps p.tables e below S (T.setFrames fs)) : OFin p e below s Q cells slots S := by
  obtain ⟨fs, hr, hrun, hended, hW, hsame⟩ := X.leave (v := v) hv hlk
  exact ⟨_, _, st fs hr, hrun, hended, _, _, rfl, hq, ⟨_, rfl⟩, hW, hsame.mono hk hn⟩
theorem OFin.retN (X : Stand p l e R s m args below meth c T locs k n) (hx : p.tables.exec = Jvm.exec) {z w : Int32} {t : FieldType} (hret : meth.sig.returnType = some t) (ht : t = .boolean ∨ t = .byte ∨ t = .char ∨ t = .short) (hlk : meth.locks = false)
    (hd : decode c.code pc = .ok (.ireturn, 1)) (hz : nar t z = w) (hq : Q (some (.int w)) T.heap locs) (hk : k ≤ cells) (hn : n ≤ slots) : OFin p e below s Q cells slots (T.setTop (mkF m pc Ls (.int z :: rest))) :=
  OFin.ends X (v := some (.int w)) (fun h => by rw [hret] at h; cases h) hlk hq hk hn fun fs hr => Jvm.RoadKit.retN X hx hret ht hd (by rw [hz]; exact hr)
theorem OFin.retI (X : Stand p l e R s m args below meth c T locs k n) (hx : p.tables.exec = Jvm.exec) {z : Int32} (hret : meth.sig.returnType = some .int) (hlk : meth.locks = false)
    (hd : decode c.code pc = .ok (.ireturn, 1)) (hq : Q (some (.int z)) T.heap locs) (hk : k ≤ cells) (hn : n ≤ slots) : OFin p e below s Q cells slots (T.setTop (mkF m pc Ls (.int z :: rest))) :=
  OFin.ends X (v := some (.int z)) (fun h => by rw [hret] at h; cases h) hlk hq hk hn fun fs hr => retOut X hx hret rfl (Or.inl ⟨rfl, Or.inl rfl, z, rfl⟩) hd hr
theorem OFin.retL (X : Stand p l e R s m args below meth c T locs k n) (hx : p.tables.exec = Jvm.exec) {z : Int64} (hret : meth.sig.returnType = some .long) (hlk : meth.locks = false)
    (hd : decode c.code pc = .ok (.lreturn, 1)) (hq : Q (some (.long z)) T.heap locs) (hk : k ≤ cells) (hn : n ≤ slots) : OFin p e below s Q cells slots (T.setTop (mkF m pc Ls (.long z :: rest))) :=
  OFin.ends X (v := some (.long z)) (fun h => by rw [hret] at h; cases h) hlk hq hk hn fun fs hr => retOut X hx hret rfl (Or.inr (Or.inl ⟨rfl, rfl, z, rfl⟩)) hd hr
theorem OFin.retA (X : Stand p l e R s m args below meth c T locs k n) (hx : p.tables.exec = Jvm.exec) {w : Value} {t : FieldType} (hret : meth.sig.returnType = some t) (ht : t.isReference = true) (hw : w.isRef = true) (hnr : narrow t w = w) (hlk : meth.locks = false)
    (hd : decode c.code pc = .ok (.areturn, 1)) (hq : Q (some w) T.heap locs) (hk : k ≤ cells) (hn : n ≤ slots) : OFin p e below s Q cells slots (T.setTop (mkF m pc Ls (w :: rest))) :=
  OFin.ends X (v := some w) (fun h => by rw [hret] at h; cases h) hlk hq hk hn fun fs hr => retOut X hx hret hnr (Or.inr (Or.inr (Or.inr (Or.inr ⟨rfl, ht, hw⟩)))) hd hr
theorem OFin.retV (X : Stand p l e R s m args below meth c T locs k n) (hx : p.tables.exec = Jvm.exec) (hret : meth.sig.returnType = none) (hlk : meth.locks = false)
    (hd : decode c.code pc = .ok (.return_, 1)) (hq : Q none T.heap locs) (hk : k ≤ cells) (hn : n ≤ slots) : OFin p e below s Q cells slots (T.setTop (mkF m pc Ls [])) :=
  OFin.ends X (v := none) (fun _ => rfl) hlk hq hk hn fun fs hr => X.returnOut hx hret hd hr
end Own
theorem own_x (q : Int32) : 1 ≤ ((q &&& (1023 : Int32)) + (1 : Int32)).toInt ∧ ((q &&& (1023 : Int32)) + (1 : Int32)).toInt ≤ 1024 := by
  have a := c_and q 1023 (by decide)
  have b := c_iadd (q &&& (1023 : Int32)) 1
  have r := rng32 ((q &&& (1023 : Int32)) + (1 : Int32))
  simp only [show (1023 : Int32).toInt = 1023 from rfl, show (1 : Int32).toInt = 1 from rfl] at a b
  omega
theorem own_nz {z : Int32} (h : 1 ≤ z.toInt) : z ≠ 0 := fun e => by rw [e] at h; exact absurd h (by decide)
/-- 1024 / d for a divisor from 1 to 1024 -/
theorem own_div (d : Int32) (h : 1 ≤ d.toInt ∧ d.toInt ≤ 1024) : ((1024 : Int32) / d).toInt = 1024 / d.toInt := by
  have n : d ≠ -1 := fun e => by rw [e] at h; exact absurd h.1 (by decide)
  have a := (c_idiv 1024 d d.toInt rfl n).1 (by decide)
  simpa using a
theorem own_step (d q : Int32) (h : 1 ≤ d.toInt ∧ d.toInt ≤ 1024) : 1 ≤ ((1024 : Int32) / d).toInt ∧ 1 ≤ (((q &&& (2147483647 : Int32)) % ((1024 : Int32) / d)) + (1 : Int32)).toInt ∧ (((q &&& (2147483647 : Int32)) % ((1024 : Int32) / d)) + (1 : Int32)).toInt ≤ 1024 / d.toInt := by
  have e := own_div d h
  have a := c_and q 2147483647 (by decide)
  have p : 1 ≤ 1024 / d.toInt := by
    have := Int.le_ediv_of_mul_le (a := 1) (b := 1024) (c := d.toInt) (by omega) (by omega)
    omega
  have p2 : 1024 / d.toInt ≤ 1024 := Int.ediv_le_self _ (by decide)
  have b := (c_iremV (q &&& (2147483647 : Int32)) ((1024 : Int32) / d)).1 a.1 (by omega)
  have c := c_iadd ((q &&& (2147483647 : Int32)) % ((1024 : Int32) / d)) 1
  have r := rng32 (((q &&& (2147483647 : Int32)) % ((1024 : Int32) / d)) + (1 : Int32))
  simp only [show (1 : Int32).toInt = 1 from rfl] at c
  omega
theorem own_xy (x y : Int32) (h : 1 ≤ x.toInt ∧ x.toInt ≤ 1024) (k : 1 ≤ y.toInt ∧ y.toInt ≤ 1024 / x.toInt) : (x * y).toInt = x.toInt * y.toInt ∧ 1 ≤ (x * y).toInt ∧ (x * y).toInt ≤ 1024 := by
  have a := c_imul x y
  have r := rng32 (x * y)
  have m : x.toInt * y.toInt ≤ 1024 := by
    have t1 : x.toInt * y.toInt ≤ x.toInt * (1024 / x.toInt) := Int.mul_le_mul_of_nonneg_left k.2 (by omega)
    have t2 : x.toInt * (1024 / x.toInt) ≤ 1024 := Int.mul_ediv_self_le (by omega)
    omega
  have n : 1 * 1 ≤ x.toInt * y.toInt := Int.mul_le_mul h.1 k.1 (by decide) (by omega)
  omega
theorem d1_0 : decode method_2_code 0 = .ok (.iload_n 0, 1) := by decide +kernel
theorem d1_1 : decode method_2_code 1 = .ok (.sipush 1023, 3) := by decide +kernel
theorem d1_4 : decode method_2_code 4 = .ok (.iand, 1) := by decide +kernel
theorem d1_5 : decode method_2_code 5 = .ok (.iconst 1, 1) := by decide +kernel
theorem d1_6 : decode method_2_code 6 = .ok (.iadd, 1) := by decide +kernel
theorem d1_7 : decode method_2_code 7 = .ok (.istore_n 3, 1) := by decide +kernel
theorem d1_8 : decode method_2_code 8 = .ok (.iload_n 1, 1) := by decide +kernel
theorem d1_9 : decode method_2_code 9 = .ok (.ldc 7, 2) := by decide +kernel
theorem d1_11 : decode method_2_code 11 = .ok (.iand, 1) := by decide +kernel
theorem d1_12 : decode method_2_code 12 = .ok (.sipush 1024, 3) := by decide +kernel
theorem d1_15 : decode method_2_code 15 = .ok (.iload_n 3, 1) := by decide +kernel
theorem d1_16 : decode method_2_code 16 = .ok (.idiv, 1) := by decide +kernel
theorem d1_17 : decode method_2_code 17 = .ok (.irem, 1) := by decide +kernel
theorem d1_18 : decode method_2_code 18 = .ok (.iconst 1, 1) := by decide +kernel
theorem d1_19 : decode method_2_code 19 = .ok (.iadd, 1) := by decide +kernel
theorem d1_20 : decode method_2_code 20 = .ok (.istore 4, 2) := by decide +kernel
theorem d1_22 : decode method_2_code 22 = .ok (.iload_n 2, 1) := by decide +kernel
theorem d1_23 : decode method_2_code 23 = .ok (.ldc 7, 2) := by decide +kernel
theorem d1_25 : decode method_2_code 25 = .ok (.iand, 1) := by decide +kernel
theorem d1_26 : decode method_2_code 26 = .ok (.sipush 1024, 3) := by decide +kernel
theorem d1_29 : decode method_2_code 29 = .ok (.iload_n 3, 1) := by decide +kernel
theorem d1_30 : decode method_2_code 30 = .ok (.iload 4, 2) := by decide +kernel
theorem d1_32 : decode method_2_code 32 = .ok (.imul, 1) := by decide +kernel
theorem d1_33 : decode method_2_code 33 = .ok (.idiv, 1) := by decide +kernel
theorem d1_34 : decode method_2_code 34 = .ok (.irem, 1) := by decide +kernel
theorem d1_35 : decode method_2_code 35 = .ok (.iconst 1, 1) := by decide +kernel
theorem d1_36 : decode method_2_code 36 = .ok (.iadd, 1) := by decide +kernel
theorem d1_37 : decode method_2_code 37 = .ok (.istore 5, 2) := by decide +kernel
theorem d1_39 : decode method_2_code 39 = .ok (.iconst 3, 1) := by decide +kernel
theorem d1_40 : decode method_2_code 40 = .ok (.newarray .int, 2) := by decide +kernel
theorem d1_42 : decode method_2_code 42 = .ok (.astore 6, 2) := by decide +kernel
theorem d1_44 : decode method_2_code 44 = .ok (.aload 6, 2) := by decide +kernel
theorem d1_46 : decode method_2_code 46 = .ok (.iconst 0, 1) := by decide +kernel
theorem d1_47 : decode method_2_code 47 = .ok (.iload_n 3, 1) := by decide +kernel
theorem d1_48 : decode method_2_code 48 = .ok (.iastore, 1) := by decide +kernel
theorem d1_49 : decode method_2_code 49 = .ok (.aload 6, 2) := by decide +kernel
theorem d1_51 : decode method_2_code 51 = .ok (.iconst 1, 1) := by decide +kernel
theorem d1_52 : decode method_2_code 52 = .ok (.iload 4, 2) := by decide +kernel
theorem d1_54 : decode method_2_code 54 = .ok (.iastore, 1) := by decide +kernel
theorem d1_55 : decode method_2_code 55 = .ok (.aload 6, 2) := by decide +kernel
theorem d1_57 : decode method_2_code 57 = .ok (.iconst 2, 1) := by decide +kernel
theorem d1_58 : decode method_2_code 58 = .ok (.iload 5, 2) := by decide +kernel
theorem d1_60 : decode method_2_code 60 = .ok (.iastore, 1) := by decide +kernel
theorem d1_61 : decode method_2_code 61 = .ok (.aload 6, 2) := by decide +kernel
theorem d1_63 : decode method_2_code 63 = .ok (.areturn, 1) := by decide +kernel
theorem pn_0 : plainName "com/example/parlint/parlint/BlockShapeEqualsPinLaw" = true := by first | (simp [plainName, overriddenIn]; done) | decide +kernel
theorem ef_1 (m : MethodId) (x0 : Int32) (x1 : Int32) (x2 : Int32) : entryFrame m #[(.int x0), (.int x1), (.int x2)] 7 = mkF m 0 #[.val (.int x0), .val (.int x1), .val (.int x2), .unset, .unset, .unset, .unset] [] := by first | (simp [entryFrame, mkF, argsToLocals, Value.category]; done) | rfl
def Q1 (Z : State) (q0 : Int32) (q1 : Int32) (q2 : Int32) (h0 : Heap) (n0 : Nat) (v : Option Value) (h : Heap) (L : List Loc) : Prop := ∃ (b9 : Addr) (k9 : ClassId) (x9 : Int32) (y9 : Int32) (z9 : Int32), v = some (.ref b9) ∧ Fr n0 L ∧ Keep h0 h [] ∧ Arv Z h b9 k9 .int (3 : Int32) [(.int x9), (.int y9), (.int z9)] (.int (0 : Int32)) ∧ h0.size ≤ b9 ∧ (1 ≤ x9.toInt ∧ x9.toInt ≤ 1024) ∧ (1 ≤ y9.toInt ∧ y9.toInt ≤ 1024 / x9.toInt) ∧ (1 ≤ z9.toInt ∧ z9.toInt ≤ 1024 / (x9 * y9).toInt)
set_option maxHeartbeats 40000000 in
theorem rm1 (l : Launch) (Z : State) (aZ : Array Value) (hw : ∀ d ∈ tables_1, d.before aZ Z = true) (ws : List Jvm.Cond) (q0 : Int32) (q1 : Int32) (q2 : Int32) (h0 : Heap) (n0 : Nat) (Z0 : n0 ≤ h0.size) :
    MetFree l (⟨"com/example/parlint/parlint/BlockShapeEqualsPinLaw", "extents", "(III)[I"⟩ : MethodName) (head1 (Jvm.Cond.code (⟨"com/example/parlint/parlint/BlockShapeEqualsPinLaw", "extents", "(III)[I"⟩ : MethodName) method_2_code 7 (some (.array .int)) :: ws) ({ frames := 0, cells := 1, slots := 3, locals := 0 } : Room)) (fun a U => a = #[(.int q0), (.int q1), (.int q2)] ∧ Z.Warmed39 U.vm ∧ U.heap = h0) (fun _ _ _ _ _ => True) (fun _ U o U' => ∃ v L, o = .returned v ∧ Q1 Z q0 q1 q2 h0 n0 v U'.heap L ∧ FrameEnd U o U' L ({ frames := 0, cells := 1, slots := 3, locals := 0 } : Room).cells ({ frames := 0, cells := 1, slots := 3, locals := 0 } : Room).slots) := by
  refine MetFree.of_bodySF (plainFor_of_name pn_0) hisR ?_
  intro p e s m args below meth c s₁ Bd hml0 hP hK
  obtain ⟨rfl, hZ, hh⟩ := hP
  have hx := Bd.exec
  have hby := Bd.bytes
  have hret := Bd.returns
  have hlk : meth.locks = false := BodyLoose.notSynchronized Bd
  have hml : c.maxLocals = 7 := hml0
  have hown : s.vm.findClass "com/example/parlint/parlint/BlockShapeEqualsPinLaw" = some m.cls := findClass_of_methodNamed Bd.named
  have hnm := (name_of_methodNamed Bd.named Bd.method).1
  have X0 : Stand p l e ({ frames := 0, cells := 1, slots := 3, locals := 0 } : Room) s m #[(.int q0), (.int q1), (.int q2)] below meth c s₁ [] 0 0 := Stand.of_body Bd
  have e0 : s₁.heap = h0 := by rw [← hh, Bd.state]; rfl
  have N0 := Fr.nil n0
  have K0 : Keep h0 h0 [] := Keep.refl _ _
  have pre0 : ∀ t, Steps p.tables e below (s₁.setTop (mkF m 0 #[.val (.int q0), .val (.int q1), .val (.int q2), .unset, .unset, .unset, .unset] [])) t → Steps p.tables e below (s₁.setTop (entryFrame m #[(.int q0), (.int q1), (.int q2)] 7)) t := fun t k => castTop (ef_1 m q0 q1 q2) k
  show OFin p e below s (Q1 Z q0 q1 q2 h0 n0) ({ frames := 0, cells := 1, slots := 3, locals := 0 } : Room).cells ({ frames := 0, cells := 1, slots := 3, locals := 0 } : Room).slots _
  refine OFin.go pre0 ?_
  have sg101 : ∀ t, Steps p.tables e below (s₁.setTop (mkF m 7 #[.val (.int q0), .val (.int q1), .val (.int q2), .unset, .unset, .unset, .unset] [(.int ((q0 &&& (1023 : Int32)) + (1 : Int32)))])) t → Steps p.tables e below (s₁.setTop (mkF m 0 #[.val (.int q0), .val (.int q1), .val (.int q2), .unset, .unset, .unset, .unset] [])) t := by
    intro t k
    show Steps p.tables e below (s₁.setTop (mkF m 0 #[.val (.int q0), .val (.int q1), .val (.int q2), .unset, .unset, .unset, .unset] [])) t
    refine XS.iloadN X0.here hx rfl (hb hby d1_0) rfl ?_
    show Steps p.tables e below (s₁.setTop (mkF m 1 #[.val (.int q0), .val (.int q1), .val (.int q2), .unset, .unset, .unset, .unset] [(.int q0)])) t
    refine XS.sipush X0.here hx rfl (hb hby d1_1) ?_
    show Steps p.tables e below (s₁.setTop (mkF m 4 #[.val (.int q0), .val (.int q1), .val (.int q2), .unset, .unset, .unset, .unset] [(.int (1023 : Int32)), (.int q0)])) t
    refine XS.iand X0.here hx rfl (hb hby d1_4) rfl ?_
    show Steps p.tables e below (s₁.setTop (mkF m 5 #[.val (.int q0), .val (.int q1), .val (.int q2), .unset, .unset, .unset, .unset] [(.int (q0 &&& (1023 : Int32)))])) t
    refine XS.iconst X0.here hx rfl (hb hby d1_5) ?_
    show Steps p.tables e below (s₁.setTop (mkF m 6 #[.val (.int q0), .val (.int q1), .val (.int q2), .unset, .unset, .unset, .unset] [(.int (1 : Int32)), (.int (q0 &&& (1023 : Int32)))])) t
    refine XS.iadd X0.here hx rfl (hb hby d1_6) rfl ?_
    exact k
  refine OFin.go sg101 ?_
  obtain ⟨v102, e_v102⟩ : ∃ z : Int32, z = ((q0 &&& (1023 : Int32)) + (1 : Int32)) := ⟨_, rfl⟩
  rw [← e_v102]
  have sg103 : ∀ t, Steps p.tables e below (s₁.setTop (mkF m 8 #[.val (.int q0), .val (.int q1), .val (.int q2), .val (.int v102), .unset, .unset, .unset] [])) t → Steps p.tables e below (s₁.setTop (mkF m 7 #[.val (.int q0), .val (.int q1), .val (.int q2), .unset, .unset, .unset, .unset] [(.int v102)])) t := by
    intro t k
    show Steps p.tables e below (s₁.setTop (mkF m 7 #[.val (.int q0), .val (.int q1), .val (.int q2), .unset, .unset, .unset, .unset] [(.int v102)])) t
    refine XS.istoreN X0.here hx rfl (hb hby d1_7) rfl (l' := #[.val (.int q0), .val (.int q1), .val (.int q2), .val (.int v102), .unset, .unset, .unset]) rfl ?_
    exact k
  refine OFin.go sg103 ?_
  have hx9 := own_x q0
  rw [← e_v102] at hx9
  have hy9 := own_step v102 q1 hx9
  have sg104 : ∀ t, Steps p.tables e below (s₁.setTop (mkF m 20 #[.val (.int q0), .val (.int q1), .val (.int q2), .val (.int v102), .unset, .unset, .unset] [(.int (((q1 &&& (2147483647 : Int32)) % ((1024 : Int32) / v102)) + (1 : Int32)))])) t → Steps p.tables e below (s₁.setTop (mkF m 8 #[.val (.int q0), .val (.int q1), .val (.int q2), .val (.int v102), .unset, .unset, .unset] [])) t := by
    intro t k
    show Steps p.tables e below (s₁.setTop (mkF m 8 #[.val (.int q0), .val (.int q1), .val (.int q2), .val (.int v102), .unset, .unset, .unset] [])) t
    refine XS.iloadN X0.here hx rfl (hb hby d1_8) rfl ?_
    show Steps p.tables e below (s₁.setTop (mkF m 9 #[.val (.int q0), .val (.int q1), .val (.int q2), .val (.int v102), .unset, .unset, .unset] [(.int q1)])) t
    refine X0.ldcInt hx hown (mvT hZ (hw _ (List.mem_of_getElem? (i := 4) rfl))) (g := (mkF m 9 #[.val (.int q0), .val (.int q1), .val (.int q2), .val (.int v102), .unset, .unset, .unset] [(.int q1)])) rfl (hb hby d1_9) _ ?_
    show Steps p.tables e below (s₁.setTop (mkF m 11 #[.val (.int q0), .val (.int q1), .val (.int q2), .val (.int v102), .unset, .unset, .unset] [(.int (2147483647 : Int32)), (.int q1)])) t
    refine XS.iand X0.here hx rfl (hb hby d1_11) rfl ?_
    show Steps p.tables e below (s₁.setTop (mkF m 12 #[.val (.int q0), .val (.int q1), .val (.int q2), .val (.int v102), .unset, .unset, .unset] [(.int (q1 &&& (2147483647 : Int32)))])) t
    refine XS.sipush X0.here hx rfl (hb hby d1_12) ?_
    show Steps p.tables e below (s₁.setTop (mkF m 15 #[.val (.int q0), .val (.int q1), .val (.int q2), .val (.int v102), .unset, .unset, .unset] [(.int (1024 : Int32)), (.int (q1 &&& (2147483647 : Int32)))])) t
    refine XS.iloadN X0.here hx rfl (hb hby d1_15) rfl ?_
    show Steps p.tables e below (s₁.setTop (mkF m 16 #[.val (.int q0), .val (.int q1), .val (.int q2), .val (.int v102), .unset, .unset, .unset] [(.int v102), (.int (1024 : Int32)), (.int (q1 &&& (2147483647 : Int32)))])) t
    refine XS.idiv X0.here hx rfl (hb hby d1_16) rfl (own_nz hx9.1) ?_
    show Steps p.tables e below (s₁.setTop (mkF m 17 #[.val (.int q0), .val (.int q1), .val (.int q2), .val (.int v102), .unset, .unset, .unset] [(.int ((1024 : Int32) / v102)), (.int (q1 &&& (2147483647 : Int32)))])) t
    refine iremM X0 hx rfl (hb hby d1_17) rfl (own_nz hy9.1) ?_
    show Steps p.tables e below (s₁.setTop (mkF m 18 #[.val (.int q0), .val (.int q1), .val (.int q2), .val (.int v102), .unset, .unset, .unset] [(.int ((q1 &&& (2147483647 : Int32)) % ((1024 : Int32) / v102)))])) t
    refine XS.iconst X0.here hx rfl (hb hby d1_18) ?_
    show Steps p.tables e below (s₁.setTop (mkF m 19 #[.val (.int q0), .val (.int q1), .val (.int q2), .val (.int v102), .unset, .unset, .unset] [(.int (1 : Int32)), (.int ((q1 &&& (2147483647 : Int32)) % ((1024 : Int32) / v102)))])) t
    refine XS.iadd X0.here hx rfl (hb hby d1_19) rfl ?_
    exact k
  refine OFin.go sg104 ?_
  obtain ⟨v105, e_v105⟩ : ∃ z : Int32, z = (((q1 &&& (2147483647 : Int32)) % ((1024 : Int32) / v102)) + (1 : Int32)) := ⟨_, rfl⟩
  rw [← e_v105]
  have sg106 : ∀ t, Steps p.tables e below (s₁.setTop (mkF m 22 #[.val (.int q0), .val (.int q1), .val (.int q2), .val (.int v102), .val (.int v105), .unset, .unset] [])) t → Steps p.tables e below (s₁.setTop (mkF m 20 #[.val (.int q0), .val (.int q1), .val (.int q2), .val (.int v102), .unset, .unset, .unset] [(.int v105)])) t := by
    intro t k
    show Steps p.tables e below (s₁.setTop (mkF m 20 #[.val (.int q0), .val (.int q1), .val (.int q2), .val (.int v102), .unset, .unset, .unset] [(.int v105)])) t
    refine XS.istore X0.here hx rfl (hb hby d1_20) rfl (l' := #[.val (.int q0), .val (.int q1), .val (.int q2), .val (.int v102), .val (.int v105), .unset, .unset]) rfl ?_
    exact k
  refine OFin.go sg106 ?_
  rw [← e_v105] at hy9
  have hxy9 := own_xy v102 v105 hx9 hy9.2
  have hz9 := own_step (v102 * v105) q2 hxy9.2
  have sg107 : ∀ t, Steps p.tables e below (s₁.setTop (mkF m 37 #[.val (.int q0), .val (.int q1), .val (.int q2), .val (.int v102), .val (.int v105), .unset, .unset] [(.int (((q2 &&& (2147483647 : Int32)) % ((1024 : Int32) / (v102 * v105))) + (1 : Int32)))])) t → Steps p.tables e below (s₁.setTop (mkF m 22 #[.val (.int q0), .val (.int q1), .val (.int q2), .val (.int v102), .val (.int v105), .unset, .unset] [])) t := by
    intro t k
    show Steps p.tables e below (s₁.setTop (mkF m 22 #[.val (.int q0), .val (.int q1), .val (.int q2), .val (.int v102), .val (.int v105), .unset, .unset] [])) t
    refine XS.iloadN X0.here hx rfl (hb hby d1_22) rfl ?_
    show Steps p.tables e below (s₁.setTop (mkF m 23 #[.val (.int q0), .val (.int q1), .val (.int q2), .val (.int v102), .val (.int v105), .unset, .unset] [(.int q2)])) t
    refine X0.ldcInt hx hown (mvT hZ (hw _ (List.mem_of_getElem? (i := 4) rfl))) (g := (mkF m 23 #[.val (.int q0), .val (.int q1), .val (.int q2), .val (.int v102), .val (.int v105), .unset, .unset] [(.int q2)])) rfl (hb hby d1_23) _ ?_
    show Steps p.tables e below (s₁.setTop (mkF m 25 #[.val (.int q0), .val (.int q1), .val (.int q2), .val (.int v102), .val (.int v105), .unset, .unset] [(.int (2147483647 : Int32)), (.int q2)])) t
    refine XS.iand X0.here hx rfl (hb hby d1_25) rfl ?_
    show Steps p.tables e below (s₁.setTop (mkF m 26 #[.val (.int q0), .val (.int q1), .val (.int q2), .val (.int v102), .val (.int v105), .unset, .unset] [(.int (q2 &&& (2147483647 : Int32)))])) t
    refine XS.sipush X0.here hx rfl (hb hby d1_26) ?_
    show Steps p.tables e below (s₁.setTop (mkF m 29 #[.val (.int q0), .val (.int q1), .val (.int q2), .val (.int v102), .val (.int v105), .unset, .unset] [(.int (1024 : Int32)), (.int (q2 &&& (2147483647 : Int32)))])) t
    refine XS.iloadN X0.here hx rfl (hb hby d1_29) rfl ?_
    show Steps p.tables e below (s₁.setTop (mkF m 30 #[.val (.int q0), .val (.int q1), .val (.int q2), .val (.int v102), .val (.int v105), .unset, .unset] [(.int v102), (.int (1024 : Int32)), (.int (q2 &&& (2147483647 : Int32)))])) t
    refine XS.iload X0.here hx rfl (hb hby d1_30) rfl ?_
    show Steps p.tables e below (s₁.setTop (mkF m 32 #[.val (.int q0), .val (.int q1), .val (.int q2), .val (.int v102), .val (.int v105), .unset, .unset] [(.int v105), (.int v102), (.int (1024 : Int32)), (.int (q2 &&& (2147483647 : Int32)))])) t
    refine XS.imul X0.here hx rfl (hb hby d1_32) rfl ?_
    show Steps p.tables e below (s₁.setTop (mkF m 33 #[.val (.int q0), .val (.int q1), .val (.int q2), .val (.int v102), .val (.int v105), .unset, .unset] [(.int (v102 * v105)), (.int (1024 : Int32)), (.int (q2 &&& (2147483647 : Int32)))])) t
    refine XS.idiv X0.here hx rfl (hb hby d1_33) rfl (own_nz hxy9.2.1) ?_
    show Steps p.tables e below (s₁.setTop (mkF m 34 #[.val (.int q0), .val (.int q1), .val (.int q2), .val (.int v102), .val (.int v105), .unset, .unset] [(.int ((1024 : Int32) / (v102 * v105))), (.int (q2 &&& (2147483647 : Int32)))])) t
    refine iremM X0 hx rfl (hb hby d1_34) rfl (own_nz hz9.1) ?_
    show Steps p.tables e below (s₁.setTop (mkF m 35 #[.val (.int q0), .val (.int q1), .val (.int q2), .val (.int v102), .val (.int v105), .unset, .unset] [(.int ((q2 &&& (2147483647 : Int32)) % ((1024 : Int32) / (v102 * v105))))])) t
    refine XS.iconst X0.here hx rfl (hb hby d1_35) ?_
    show Steps p.tables e below (s₁.setTop (mkF m 36 #[.val (.int q0), .val (.int q1), .val (.int q2), .val (.int v102), .val (.int v105), .unset, .unset] [(.int (1 : Int32)), (.int ((q2 &&& (2147483647 : Int32)) % ((1024 : Int32) / (v102 * v105))))])) t
    refine XS.iadd X0.here hx rfl (hb hby d1_36) rfl ?_
    exact k
  refine OFin.go sg107 ?_
  obtain ⟨v108, e_v108⟩ : ∃ z : Int32, z = (((q2 &&& (2147483647 : Int32)) % ((1024 : Int32) / (v102 * v105))) + (1 : Int32)) := ⟨_, rfl⟩
  rw [← e_v108]
  have sg109 : ∀ t, Steps p.tables e below (s₁.setTop (mkF m 39 #[.val (.int q0), .val (.int q1), .val (.int q2), .val (.int v102), .val (.int v105), .val (.int v108), .unset] [])) t → Steps p.tables e below (s₁.setTop (mkF m 37 #[.val (.int q0), .val (.int q1), .val (.int q2), .val (.int v102), .val (.int v105), .unset, .unset] [(.int v108)])) t := by
    intro t k
    show Steps p.tables e below (s₁.setTop (mkF m 37 #[.val (.int q0), .val (.int q1), .val (.int q2), .val (.int v102), .val (.int v105), .unset, .unset] [(.int v108)])) t
    refine XS.istore X0.here hx rfl (hb hby d1_37) rfl (l' := #[.val (.int q0), .val (.int q1), .val (.int q2), .val (.int v102), .val (.int v105), .val (.int v108), .unset]) rfl ?_
    exact k
  refine OFin.go sg109 ?_
  rw [← e_v108] at hz9
  have sg110 : ∀ t, Steps p.tables e below (s₁.setTop (mkF m 40 #[.val (.int q0), .val (.int q1), .val (.int q2), .val (.int v102), .val (.int v105), .val (.int v108), .unset] [(.int (3 : Int32))])) t → Steps p.tables e below (s₁.setTop (mkF m 39 #[.val (.int q0), .val (.int q1), .val (.int q2), .val (.int v102), .val (.int v105), .val (.int v108), .unset] [])) t := by
    intro t k
    show Steps p.tables e below (s₁.setTop (mkF m 39 #[.val (.int q0), .val (.int q1), .val (.int q2), .val (.int v102), .val (.int v105), .val (.int v108), .unset] [])) t
    refine XS.iconst X0.here hx rfl (hb hby d1_39) ?_
    exact k
  refine OFin.go sg110 ?_
  obtain ⟨T111, h111, k111, X111, e111, E111, A111, st111⟩ := newP X0 hx hZ (hw _ (List.mem_of_getElem? (i := 5) rfl)) e0 (g := (mkF m 40 #[.val (.int q0), .val (.int q1), .val (.int q2), .val (.int v102), .val (.int v105), .val (.int v108), .unset] [(.int (3 : Int32))])) rfl (hb hby d1_40) rfl (by decide) (cap := 3) (by decide) (by decide) (by decide) (by decide)
  obtain ⟨b111, g111⟩ : ∃ z, z = h0.size := ⟨_, rfl⟩
  rw [← g111] at A111 st111
  refine OFin.go st111 ?_
  have g_b111 : n0 ≤ b111 := Nat.le_trans (Nat.le_trans Z0 K0.1) (Nat.le_of_eq g111.symm)
  have sz_b111 : h0.size ≤ b111 := Nat.le_trans K0.1 (Nat.le_of_eq g111.symm)
  have K111 : Keep h0 h111 [] := K0.ext E111
  have V111 : Arv Z h111 b111 k111 .int (3 : Int32) [(.int (0 : Int32)), (.int (0 : Int32)), (.int (0 : Int32))] (.int (0 : Int32)) := (Arv.new A111 (by decide)).pad (pad_rep [] (.int (0 : Int32)) 3)
  have sg112 : ∀ t, Steps p.tables e below (T111.setTop (mkF m 48 #[.val (.int q0), .val (.int q1), .val (.int q2), .val (.int v102), .val (.int v105), .val (.int v108), .val (.ref b111)] [(.int v102), (.int (0 : Int32)), (.ref b111)])) t → Steps p.tables e below (T111.setTop (mkF m 42 #[.val (.int q0), .val (.int q1), .val (.int q2), .val (.int v102), .val (.int v105), .val (.int v108), .unset] [(.ref b111)])) t := by
    intro t k
    show Steps p.tables e below (T111.setTop (mkF m 42 #[.val (.int q0), .val (.int q1), .val (.int q2), .val (.int v102), .val (.int v105), .val (.int v108), .unset] [(.ref b111)])) t
    refine XS.astore X111.here hx rfl (hb hby d1_42) rfl rfl (l' := #[.val (.int q0), .val (.int q1), .val (.int q2), .val (.int v102), .val (.int v105), .val (.int v108), .val (.ref b111)]) rfl ?_
    show Steps p.tables e below (T111.setTop (mkF m 44 #[.val (.int q0), .val (.int q1), .val (.int q2), .val (.int v102), .val (.int v105), .val (.int v108), .val (.ref b111)] [])) t
    refine XS.aload X111.here hx rfl (hb hby d1_44) rfl rfl ?_
    show Steps p.tables e below (T111.setTop (mkF m 46 #[.val (.int q0), .val (.int q1), .val (.int q2), .val (.int v102), .val (.int v105), .val (.int v108), .val (.ref b111)] [(.ref b111)])) t
    refine XS.iconst X111.here hx rfl (hb hby d1_46) ?_
    show Steps p.tables e below (T111.setTop (mkF m 47 #[.val (.int q0), .val (.int q1), .val (.int q2), .val (.int v102), .val (.int v105), .val (.int v108), .val (.ref b111)] [(.int (0 : Int32)), (.ref b111)])) t
    refine XS.iloadN X111.here hx rfl (hb hby d1_47) rfl ?_
    exact k
  refine OFin.go sg112 ?_
  obtain ⟨cl113, Ar113, q113, S113, M113, H113, G113⟩ := id V111
  have hin113 : ¬ ((0 : Int32) < 0 ∨ cl113.slots.size ≤ ((0 : Int32)).toNatClampNeg) := inb_of S113 ⟨by decide, by decide⟩
  obtain ⟨T113, h113, X113, e113, W113, st113⟩ := stI X111 hx hZ e111 Ar113 (j := (0 : Int32)) hin113 (g := (mkF m 48 #[.val (.int q0), .val (.int q1), .val (.int q2), .val (.int v102), .val (.int v105), .val (.int v108), .val (.ref b111)] [(.int v102), (.int (0 : Int32)), (.ref b111)])) rfl rfl (hb hby d1_48)
  refine OFin.go st113 ?_
  have V113 : Arv Z h113 b111 k111 .int (3 : Int32) [(.int v102), (.int (0 : Int32)), (.int (0 : Int32))] (.int (0 : Int32)) := Arv.set Ar113 q113 S113 M113 H113 G113 rfl W113 0 rfl (Nat.le_of_ble_eq_true rfl)
  have K113 : Keep h0 h113 [] := K111.wr W113 (Or.inr sz_b111)
  have N113 := Fr.snoc X113 N0 g_b111
  have sg114 : ∀ t, Steps p.tables e below (T113.setTop (mkF m 54 #[.val (.int q0), .val (.int q1), .val (.int q2), .val (.int v102), .val (.int v105), .val (.int v108), .val (.ref b111)] [(.int v105), (.int (1 : Int32)), (.ref b111)])) t → Steps p.tables e below (T113.setTop (mkF m 49 #[.val (.int q0), .val (.int q1), .val (.int q2), .val (.int v102), .val (.int v105), .val (.int v108), .val (.ref b111)] [])) t := by
    intro t k
    show Steps p.tables e below (T113.setTop (mkF m 49 #[.val (.int q0), .val (.int q1), .val (.int q2), .val (.int v102), .val (.int v105), .val (.int v108), .val (.ref b111)] [])) t
    refine XS.aload X113.here hx rfl (hb hby d1_49) rfl rfl ?_
    show Steps p.tables e below (T113.setTop (mkF m 51 #[.val (.int q0), .val (.int q1), .val (.int q2), .val (.int v102), .val (.int v105), .val (.int v108), .val (.ref b111)] [(.ref b111)])) t
    refine XS.iconst X113.here hx rfl (hb hby d1_51) ?_
    show Steps p.tables e below (T113.setTop (mkF m 52 #[.val (.int q0), .val (.int q1), .val (.int q2), .val (.int v102), .val (.int v105), .val (.int v108), .val (.ref b111)] [(.int (1 : Int32)), (.ref b111)])) t
    refine XS.iload X113.here hx rfl (hb hby d1_52) rfl ?_
    exact k
  refine OFin.go sg114 ?_
  obtain ⟨cl115, Ar115, q115, S115, M115, H115, G115⟩ := id V113
  have hin115 : ¬ ((1 : Int32) < 0 ∨ cl115.slots.size ≤ ((1 : Int32)).toNatClampNeg) := inb_of S115 ⟨by decide, by decide⟩
  obtain ⟨T115, h115, X115, e115, W115, st115⟩ := stI X113 hx hZ e113 Ar115 (j := (1 : Int32)) hin115 (g := (mkF m 54 #[.val (.int q0), .val (.int q1), .val (.int q2), .val (.int v102), .val (.int v105), .val (.int v108), .val (.ref b111)] [(.int v105), (.int (1 : Int32)), (.ref b111)])) rfl rfl (hb hby d1_54)
  refine OFin.go st115 ?_
  have V115 : Arv Z h115 b111 k111 .int (3 : Int32) [(.int v102), (.int v105), (.int (0 : Int32))] (.int (0 : Int32)) := Arv.set Ar115 q115 S115 M115 H115 G115 rfl W115 1 rfl (Nat.le_of_ble_eq_true rfl)
  have K115 : Keep h0 h115 [] := K113.wr W115 (Or.inr sz_b111)
  have N115 := Fr.snoc X115 N113 g_b111
  have sg116 : ∀ t, Steps p.tables e below (T115.setTop (mkF m 60 #[.val (.int q0), .val (.int q1), .val (.int q2), .val (.int v102), .val (.int v105), .val (.int v108), .val (.ref b111)] [(.int v108), (.int (2 : Int32)), (.ref b111)])) t → Steps p.tables e below (T115.setTop (mkF m 55 #[.val (.int q0), .val (.int q1), .val (.int q2), .val (.int v102), .val (.int v105), .val (.int v108), .val (.ref b111)] [])) t := by
    intro t k
    show Steps p.tables e below (T115.setTop (mkF m 55 #[.val (.int q0), .val (.int q1), .val (.int q2), .val (.int v102), .val (.int v105), .val (.int v108), .val (.ref b111)] [])) t
    refine XS.aload X115.here hx rfl (hb hby d1_55) rfl rfl ?_
    show Steps p.tables e below (T115.setTop (mkF m 57 #[.val (.int q0), .val (.int q1), .val (.int q2), .val (.int v102), .val (.int v105), .val (.int v108), .val (.ref b111)] [(.ref b111)])) t
    refine XS.iconst X115.here hx rfl (hb hby d1_57) ?_
    show Steps p.tables e below (T115.setTop (mkF m 58 #[.val (.int q0), .val (.int q1), .val (.int q2), .val (.int v102), .val (.int v105), .val (.int v108), .val (.ref b111)] [(.int (2 : Int32)), (.ref b111)])) t
    refine XS.iload X115.here hx rfl (hb hby d1_58) rfl ?_
    exact k
  refine OFin.go sg116 ?_
  obtain ⟨cl117, Ar117, q117, S117, M117, H117, G117⟩ := id V115
  have hin117 : ¬ ((2 : Int32) < 0 ∨ cl117.slots.size ≤ ((2 : Int32)).toNatClampNeg) := inb_of S117 ⟨by decide, by decide⟩
  obtain ⟨T117, h117, X117, e117, W117, st117⟩ := stI X115 hx hZ e115 Ar117 (j := (2 : Int32)) hin117 (g := (mkF m 60 #[.val (.int q0), .val (.int q1), .val (.int q2), .val (.int v102), .val (.int v105), .val (.int v108), .val (.ref b111)] [(.int v108), (.int (2 : Int32)), (.ref b111)])) rfl rfl (hb hby d1_60)
  refine OFin.go st117 ?_
  have V117 : Arv Z h117 b111 k111 .int (3 : Int32) [(.int v102), (.int v105), (.int v108)] (.int (0 : Int32)) := Arv.set Ar117 q117 S117 M117 H117 G117 rfl W117 2 rfl (Nat.le_of_ble_eq_true rfl)
  have K117 : Keep h0 h117 [] := K115.wr W117 (Or.inr sz_b111)
  have N117 := Fr.snoc X117 N115 g_b111
  have sg118 : ∀ t, Steps p.tables e below (T117.setTop (mkF m 63 #[.val (.int q0), .val (.int q1), .val (.int q2), .val (.int v102), .val (.int v105), .val (.int v108), .val (.ref b111)] [(.ref b111)])) t → Steps p.tables e below (T117.setTop (mkF m 61 #[.val (.int q0), .val (.int q1), .val (.int q2), .val (.int v102), .val (.int v105), .val (.int v108), .val (.ref b111)] [])) t := by
    intro t k
    show Steps p.tables e below (T117.setTop (mkF m 61 #[.val (.int q0), .val (.int q1), .val (.int q2), .val (.int v102), .val (.int v105), .val (.int v108), .val (.ref b111)] [])) t
    refine XS.aload X117.here hx rfl (hb hby d1_61) rfl rfl ?_
    exact k
  refine OFin.go sg118 ?_
  exact OFin.retA X117 hx hret rfl rfl rfl hlk (hb hby d1_63) (by rw [e117]; exact ⟨b111, k111, v102, v105, v108, rfl, N117, K117, V117, sz_b111, hx9, hy9.2, hz9.2⟩) (by decide) (by decide)
theorem own_rng (x y z : Int32) (h1 : 1 ≤ x.toInt ∧ x.toInt ≤ 1024) (h2 : 1 ≤ y.toInt ∧ y.toInt ≤ 1024 / x.toInt) (h3 : 1 ≤ z.toInt ∧ z.toInt ≤ 1024 / (x * y).toInt) : (¬ (x < (1 : Int32)) ∧ ¬ (y < (1 : Int32)) ∧ ¬ (z < (1 : Int32))) ∧ (¬ ((1024 : Int32) < x) ∧ ¬ ((1024 : Int32) < y) ∧ ¬ ((1024 : Int32) < z)) ∧ ¬ ((1024 : Int32) < ((x * y) * z)) := by
  have p := own_xy x y h1 h2
  have q := own_xy (x * y) z p.2 h3
  have b1 : 1024 / x.toInt ≤ 1024 := Int.ediv_le_self _ (by decide)
  have b2 : 1024 / (x * y).toInt ≤ 1024 := Int.ediv_le_self _ (by decide)
  simp only [Int32.lt_iff_toInt_lt, show (1 : Int32).toInt = 1 from rfl, show (1024 : Int32).toInt = 1024 from rfl]
  omega
theorem d2_0 : decode prog_1_method_1_code 0 = .ok (.aload_n 0, 1) := by decide +kernel
theorem d2_1 : decode prog_1_method_1_code 1 = .ok (.invokespecial 1, 3) := by decide +kernel
theorem d2_4 : decode prog_1_method_1_code 4 = .ok (.iload_n 1, 1) := by decide +kernel
theorem d2_5 : decode prog_1_method_1_code 5 = .ok (.iconst 1, 1) := by decide +kernel
theorem d2_6 : decode prog_1_method_1_code 6 = .ok (.if_icmp .lt 13, 3) := by decide +kernel
theorem d2_9 : decode prog_1_method_1_code 9 = .ok (.iload_n 2, 1) := by decide +kernel
theorem d2_10 : decode prog_1_method_1_code 10 = .ok (.iconst 1, 1) := by decide +kernel
theorem d2_11 : decode prog_1_method_1_code 11 = .ok (.if_icmp .lt 8, 3) := by decide +kernel
theorem d2_14 : decode prog_1_method_1_code 14 = .ok (.iload_n 3, 1) := by decide +kernel
theorem d2_15 : decode prog_1_method_1_code 15 = .ok (.iconst 1, 1) := by decide +kernel
theorem d2_16 : decode prog_1_method_1_code 16 = .ok (.if_icmp .ge 22, 3) := by decide +kernel
theorem d2_19 : decode prog_1_method_1_code 19 = .ok (.new 7, 3) := by decide +kernel
theorem d2_22 : decode prog_1_method_1_code 22 = .ok (.dup, 1) := by decide +kernel
theorem d2_23 : decode prog_1_method_1_code 23 = .ok (.iload_n 1, 1) := by decide +kernel
theorem d2_24 : decode prog_1_method_1_code 24 = .ok (.iload_n 2, 1) := by decide +kernel
theorem d2_25 : decode prog_1_method_1_code 25 = .ok (.iload_n 3, 1) := by decide +kernel
theorem d2_26 : decode prog_1_method_1_code 26 = .ok (.invokestatic 9, 3) := by decide +kernel
theorem d2_34 : decode prog_1_method_1_code 34 = .ok (.invokespecial 19, 3) := by decide +kernel
theorem d2_37 : decode prog_1_method_1_code 37 = .ok (.athrow, 1) := by decide +kernel
theorem d2_38 : decode prog_1_method_1_code 38 = .ok (.iload_n 1, 1) := by decide +kernel
theorem d2_39 : decode prog_1_method_1_code 39 = .ok (.sipush 1024, 3) := by decide +kernel
theorem d2_42 : decode prog_1_method_1_code 42 = .ok (.if_icmp .gt 28, 3) := by decide +kernel
theorem d2_45 : decode prog_1_method_1_code 45 = .ok (.iload_n 2, 1) := by decide +kernel
theorem d2_46 : decode prog_1_method_1_code 46 = .ok (.sipush 1024, 3) := by decide +kernel
theorem d2_49 : decode prog_1_method_1_code 49 = .ok (.if_icmp .gt 21, 3) := by decide +kernel
theorem d2_52 : decode prog_1_method_1_code 52 = .ok (.iload_n 3, 1) := by decide +kernel
theorem d2_53 : decode prog_1_method_1_code 53 = .ok (.sipush 1024, 3) := by decide +kernel
theorem d2_56 : decode prog_1_method_1_code 56 = .ok (.if_icmp .gt 14, 3) := by decide +kernel
theorem d2_59 : decode prog_1_method_1_code 59 = .ok (.iload_n 1, 1) := by decide +kernel
theorem d2_60 : decode prog_1_method_1_code 60 = .ok (.iload_n 2, 1) := by decide +kernel
theorem d2_61 : decode prog_1_method_1_code 61 = .ok (.imul, 1) := by decide +kernel
theorem d2_62 : decode prog_1_method_1_code 62 = .ok (.iload_n 3, 1) := by decide +kernel
theorem d2_63 : decode prog_1_method_1_code 63 = .ok (.imul, 1) := by decide +kernel
theorem d2_64 : decode prog_1_method_1_code 64 = .ok (.sipush 1024, 3) := by decide +kernel
theorem d2_67 : decode prog_1_method_1_code 67 = .ok (.if_icmp .le 20, 3) := by decide +kernel
theorem d2_70 : decode prog_1_method_1_code 70 = .ok (.new 7, 3) := by decide +kernel
theorem d2_73 : decode prog_1_method_1_code 73 = .ok (.dup, 1) := by decide +kernel
theorem d2_74 : decode prog_1_method_1_code 74 = .ok (.iload_n 1, 1) := by decide +kernel
theorem d2_75 : decode prog_1_method_1_code 75 = .ok (.iload_n 2, 1) := by decide +kernel
theorem d2_76 : decode prog_1_method_1_code 76 = .ok (.iload_n 3, 1) := by decide +kernel
theorem d2_77 : decode prog_1_method_1_code 77 = .ok (.invokestatic 9, 3) := by decide +kernel
theorem d2_80 : decode prog_1_method_1_code 80 = .ok (.invokestatic 22, 3) := by decide +kernel
theorem d2_83 : decode prog_1_method_1_code 83 = .ok (.invokespecial 19, 3) := by decide +kernel
theorem d2_86 : decode prog_1_method_1_code 86 = .ok (.athrow, 1) := by decide +kernel
theorem d2_87 : decode prog_1_method_1_code 87 = .ok (.aload_n 0, 1) := by decide +kernel
theorem d2_88 : decode prog_1_method_1_code 88 = .ok (.iload_n 1, 1) := by decide +kernel
theorem d2_89 : decode prog_1_method_1_code 89 = .ok (.putfield 25, 3) := by decide +kernel
theorem d2_92 : decode prog_1_method_1_code 92 = .ok (.aload_n 0, 1) := by decide +kernel
theorem d2_93 : decode prog_1_method_1_code 93 = .ok (.iload_n 2, 1) := by decide +kernel
theorem d2_94 : decode prog_1_method_1_code 94 = .ok (.putfield 29, 3) := by decide +kernel
theorem d2_97 : decode prog_1_method_1_code 97 = .ok (.aload_n 0, 1) := by decide +kernel
theorem d2_98 : decode prog_1_method_1_code 98 = .ok (.iload_n 3, 1) := by decide +kernel
theorem d2_99 : decode prog_1_method_1_code 99 = .ok (.putfield 32, 3) := by decide +kernel
theorem d2_102 : decode prog_1_method_1_code 102 = .ok (.return_, 1) := by decide +kernel
theorem pn_1 : plainName "com/example/parlint/parlint/BlockShape" = true := by first | (simp [plainName, overriddenIn]; done) | decide +kernel
theorem ef_2 (m : MethodId) (x0 : Addr) (x1 : Int32) (x2 : Int32) (x3 : Int32) : entryFrame m #[(.ref x0), (.int x1), (.int x2), (.int x3)] 4 = mkF m 0 #[.val (.ref x0), .val (.int x1), .val (.int x2), .val (.int x3)] [] := by first | (simp [entryFrame, mkF, argsToLocals, Value.category]; done) | rfl
def Q2 (Z : State) (a0 : Addr) (q1 : Int32) (q2 : Int32) (q3 : Int32) (h0 : Heap) (n0 : Nat) (v : Option Value) (h : Heap) (L : List Loc) : Prop := v = none ∧ Fr n0 L ∧ Keep h0 h [a0] ∧ Fld Z h a0 "com/example/parlint/parlint/BlockShape" "dimX" "I" (.int q1) ∧ Fld Z h a0 "com/example/parlint/parlint/BlockShape" "dimY" "I" (.int q2) ∧ Fld Z h a0 "com/example/parlint/parlint/BlockShape" "dimZ" "I" (.int q3)
set_option maxHeartbeats 40000000 in
theorem rm2 (l : Launch) (Z : State) (aZ : Array Value) (hw : ∀ d ∈ tables_1, d.before aZ Z = true) (ws : List Jvm.Cond) (a0 : Addr) (q1 : Int32) (q2 : Int32) (q3 : Int32) (h0 : Heap) (n0 : Nat) (Z0 : n0 ≤ h0.size) (E1 : Exa Z h0 a0 "com/example/parlint/parlint/BlockShape") (F1 : Fld Z h0 a0 "com/example/parlint/parlint/BlockShape" "dimX" "I" (.int (0 : Int32))) (F2 : Fld Z h0 a0 "com/example/parlint/parlint/BlockShape" "dimY" "I" (.int (0 : Int32))) (F3 : Fld Z h0 a0 "com/example/parlint/parlint/BlockShape" "dimZ" "I" (.int (0 : Int32))) (h1 : 1 ≤ q1.toInt ∧ q1.toInt ≤ 1024) (h2 : 1 ≤ q2.toInt ∧ q2.toInt ≤ 1024 / q1.toInt) (h3 : 1 ≤ q3.toInt ∧ q3.toInt ≤ 1024 / (q1 * q2).toInt) (g_a0 : n0 ≤ a0) :
    MetFree l (⟨"com/example/parlint/parlint/BlockShape", "<init>", "(III)V"⟩ : MethodName) (head1 (Jvm.Cond.code (⟨"com/example/parlint/parlint/BlockShape", "<init>", "(III)V"⟩ : MethodName) prog_1_method_1_code 4 none :: ws) ({ frames := 1, cells := 0, slots := 0, locals := 12 } : Room)) (fun a U => a = #[(.ref a0), (.int q1), (.int q2), (.int q3)] ∧ Z.Warmed39 U.vm ∧ U.heap = h0) (fun _ _ _ _ _ => True) (fun _ U o U' => ∃ v L, o = .returned v ∧ Q2 Z a0 q1 q2 q3 h0 n0 v U'.heap L ∧ FrameEnd U o U' L ({ frames := 1, cells := 0, slots := 0, locals := 12 } : Room).cells ({ frames := 1, cells := 0, slots := 0, locals := 12 } : Room).slots) := by
  refine MetFree.of_bodySF (plainFor_of_name pn_1) hisR ?_
  intro p e s m args below meth c s₁ Bd hml0 hP hK
  obtain ⟨rfl, hZ, hh⟩ := hP
  have hx := Bd.exec
  have hby := Bd.bytes
  have hret := Bd.returns
  have hlk : meth.locks = false := BodyLoose.notSynchronized Bd
  have hml : c.maxLocals = 4 := hml0
  have hown : s.vm.findClass "com/example/parlint/parlint/BlockShape" = some m.cls := findClass_of_methodNamed Bd.named
  have hnm := (name_of_methodNamed Bd.named Bd.method).1
  have X0 : Stand p l e ({ frames := 1, cells := 0, slots := 0, locals := 12 } : Room) s m #[(.ref a0), (.int q1), (.int q2), (.int q3)] below meth c s₁ [] 0 0 := Stand.of_body Bd
  have e0 : s₁.heap = h0 := by rw [← hh, Bd.state]; rfl
  have N0 := Fr.nil n0
  have K0 : Keep h0 h0 [a0] := Keep.refl _ _
  have pre0 : ∀ t, Steps p.tables e below (s₁.setTop (mkF m 0 #[.val (.ref a0), .val (.int q1), .val (.int q2), .val (.int q3)] [])) t → Steps p.tables e below (s₁.setTop (entryFrame m #[(.ref a0), (.int q1), (.int q2), (.int q3)] 4)) t := fun t k => castTop (ef_2 m a0 q1 q2 q3) k
  show OFin p e below s (Q2 Z a0 q1 q2 q3 h0 n0) ({ frames := 1, cells := 0, slots := 0, locals := 12 } : Room).cells ({ frames := 1, cells := 0, slots := 0, locals := 12 } : Room).slots _
  refine OFin.go pre0 ?_
  have sg101 : ∀ t, Steps p.tables e below (s₁.setTop (mkF m 1 #[.val (.ref a0), .val (.int q1), .val (.int q2), .val (.int q3)] [(.ref a0)])) t → Steps p.tables e below (s₁.setTop (mkF m 0 #[.val (.ref a0), .val (.int q1), .val (.int q2), .val (.int q3)] [])) t := by
    intro t k
    show Steps p.tables e below (s₁.setTop (mkF m 0 #[.val (.ref a0), .val (.int q1), .val (.int q2), .val (.int q3)] [])) t
    refine XS.aloadN X0.here hx rfl (hb hby d2_0) rfl rfl ?_
    exact k
  refine OFin.go sg101 ?_
  obtain ⟨T102, X102, e102, st102⟩ := initO X0 hx hZ hown (hw _ (List.mem_of_getElem? (i := 12) rfl)) (hw _ (List.mem_of_getElem? (i := 13) rfl)) (hw _ (List.mem_of_getElem? (i := 14) rfl)) e0 (g := (mkF m 1 #[.val (.ref a0), .val (.int q1), .val (.int q2), .val (.int q3)] [(.ref a0)])) rfl (by rw [hml]; rfl) rfl (hb hby d2_1) (by decide) (W := 0) (by show 2 * 0 + _ ≤ _; exact Nat.le_of_eq rfl) (by decide)
  refine OFin.go st102 ?_
  have hr := own_rng q1 q2 q3 h1 h2 h3
  have sg104 : ∀ t, Steps p.tables e below (T102.setTop (mkF m 6 #[.val (.ref a0), .val (.int q1), .val (.int q2), .val (.int q3)] [(.int (1 : Int32)), (.int q1)])) t → Steps p.tables e below (T102.setTop (mkF m 4 #[.val (.ref a0), .val (.int q1), .val (.int q2), .val (.int q3)] [])) t := by
    intro t k
    show Steps p.tables e below (T102.setTop (mkF m 4 #[.val (.ref a0), .val (.int q1), .val (.int q2), .val (.int q3)] [])) t
    refine XS.iloadN X102.here hx rfl (hb hby d2_4) rfl ?_
    show Steps p.tables e below (T102.setTop (mkF m 5 #[.val (.ref a0), .val (.int q1), .val (.int q2), .val (.int q3)] [(.int q1)])) t
    refine XS.iconst X102.here hx rfl (hb hby d2_5) ?_
    exact k
  refine OFin.go sg104 ?_
  have c103 : ¬ (q1 < (1 : Int32)) := hr.1.1
  have sg106 : ∀ t, Steps p.tables e below (T102.setTop (mkF m 11 #[.val (.ref a0), .val (.int q1), .val (.int q2), .val (.int q3)] [(.int (1 : Int32)), (.int q2)])) t → Steps p.tables e below (T102.setTop (mkF m 6 #[.val (.ref a0), .val (.int q1), .val (.int q2), .val (.int q3)] [(.int (1 : Int32)), (.int q1)])) t := by
    intro t k
    show Steps p.tables e below (T102.setTop (mkF m 6 #[.val (.ref a0), .val (.int q1), .val (.int q2), .val (.int q3)] [(.int (1 : Int32)), (.int q1)])) t
    refine XS.icmpNo X102.here hx rfl (hb hby d2_6) rfl (flt c103).1 ?_
    show Steps p.tables e below (T102.setTop (mkF m 9 #[.val (.ref a0), .val (.int q1), .val (.int q2), .val (.int q3)] [])) t
    refine XS.iloadN X102.here hx rfl (hb hby d2_9) rfl ?_
    show Steps p.tables e below (T102.setTop (mkF m 10 #[.val (.ref a0), .val (.int q1), .val (.int q2), .val (.int q3)] [(.int q2)])) t
    refine XS.iconst X102.here hx rfl (hb hby d2_10) ?_
    exact k
  refine OFin.go sg106 ?_
  have c105 : ¬ (q2 < (1 : Int32)) := hr.1.2.1
  have sg108 : ∀ t, Steps p.tables e below (T102.setTop (mkF m 16 #[.val (.ref a0), .val (.int q1), .val (.int q2), .val (.int q3)] [(.int (1 : Int32)), (.int q3)])) t → Steps p.tables e below (T102.setTop (mkF m 11 #[.val (.ref a0), .val (.int q1), .val (.int q2), .val (.int q3)] [(.int (1 : Int32)), (.int q2)])) t := by
    intro t k
    show Steps p.tables e below (T102.setTop (mkF m 11 #[.val (.ref a0), .val (.int q1), .val (.int q2), .val (.int q3)] [(.int (1 : Int32)), (.int q2)])) t
    refine XS.icmpNo X102.here hx rfl (hb hby d2_11) rfl (flt c105).1 ?_
    show Steps p.tables e below (T102.setTop (mkF m 14 #[.val (.ref a0), .val (.int q1), .val (.int q2), .val (.int q3)] [])) t
    refine XS.iloadN X102.here hx rfl (hb hby d2_14) rfl ?_
    show Steps p.tables e below (T102.setTop (mkF m 15 #[.val (.ref a0), .val (.int q1), .val (.int q2), .val (.int q3)] [(.int q3)])) t
    refine XS.iconst X102.here hx rfl (hb hby d2_15) ?_
    exact k
  refine OFin.go sg108 ?_
  have c107 : ¬ (q3 < (1 : Int32)) := hr.1.2.2
  have sg110 : ∀ t, Steps p.tables e below (T102.setTop (mkF m 42 #[.val (.ref a0), .val (.int q1), .val (.int q2), .val (.int q3)] [(.int (1024 : Int32)), (.int q1)])) t → Steps p.tables e below (T102.setTop (mkF m 16 #[.val (.ref a0), .val (.int q1), .val (.int q2), .val (.int q3)] [(.int (1 : Int32)), (.int q3)])) t := by
    intro t k
    show Steps p.tables e below (T102.setTop (mkF m 16 #[.val (.ref a0), .val (.int q1), .val (.int q2), .val (.int q3)] [(.int (1 : Int32)), (.int q3)])) t
    refine XS.icmpYes X102.here hx rfl (pc0 := 16) (pc' := 38) rfl (hb hby d2_16) rfl (flt c107).2.1 (by decide) (by decide) ?_
    show Steps p.tables e below (T102.setTop (mkF m 38 #[.val (.ref a0), .val (.int q1), .val (.int q2), .val (.int q3)] [])) t
    refine XS.iloadN X102.here hx rfl (hb hby d2_38) rfl ?_
    show Steps p.tables e below (T102.setTop (mkF m 39 #[.val (.ref a0), .val (.int q1), .val (.int q2), .val (.int q3)] [(.int q1)])) t
    refine XS.sipush X102.here hx rfl (hb hby d2_39) ?_
    exact k
  refine OFin.go sg110 ?_
  have c109 : ¬ ((1024 : Int32) < q1) := hr.2.1.1
  have sg112 : ∀ t, Steps p.tables e below (T102.setTop (mkF m 49 #[.val (.ref a0), .val (.int q1), .val (.int q2), .val (.int q3)] [(.int (1024 : Int32)), (.int q2)])) t → Steps p.tables e below (T102.setTop (mkF m 42 #[.val (.ref a0), .val (.int q1), .val (.int q2), .val (.int q3)] [(.int (1024 : Int32)), (.int q1)])) t := by
    intro t k
    show Steps p.tables e below (T102.setTop (mkF m 42 #[.val (.ref a0), .val (.int q1), .val (.int q2), .val (.int q3)] [(.int (1024 : Int32)), (.int q1)])) t
    refine XS.icmpNo X102.here hx rfl (hb hby d2_42) rfl (flt c109).2.2.1 ?_
    show Steps p.tables e below (T102.setTop (mkF m 45 #[.val (.ref a0), .val (.int q1), .val (.int q2), .val (.int q3)] [])) t
    refine XS.iloadN X102.here hx rfl (hb hby d2_45) rfl ?_
    show Steps p.tables e below (T102.setTop (mkF m 46 #[.val (.ref a0), .val (.int q1), .val (.int q2), .val (.int q3)] [(.int q2)])) t
    refine XS.sipush X102.here hx rfl (hb hby d2_46) ?_
    exact k
  refine OFin.go sg112 ?_
  have c111 : ¬ ((1024 : Int32) < q2) := hr.2.1.2.1
  have sg114 : ∀ t, Steps p.tables e below (T102.setTop (mkF m 56 #[.val (.ref a0), .val (.int q1), .val (.int q2), .val (.int q3)] [(.int (1024 : Int32)), (.int q3)])) t → Steps p.tables e below (T102.setTop (mkF m 49 #[.val (.ref a0), .val (.int q1), .val (.int q2), .val (.int q3)] [(.int (1024 : Int32)), (.int q2)])) t := by
    intro t k
    show Steps p.tables e below (T102.setTop (mkF m 49 #[.val (.ref a0), .val (.int q1), .val (.int q2), .val (.int q3)] [(.int (1024 : Int32)), (.int q2)])) t
    refine XS.icmpNo X102.here hx rfl (hb hby d2_49) rfl (flt c111).2.2.1 ?_
    show Steps p.tables e below (T102.setTop (mkF m 52 #[.val (.ref a0), .val (.int q1), .val (.int q2), .val (.int q3)] [])) t
    refine XS.iloadN X102.here hx rfl (hb hby d2_52) rfl ?_
    show Steps p.tables e below (T102.setTop (mkF m 53 #[.val (.ref a0), .val (.int q1), .val (.int q2), .val (.int q3)] [(.int q3)])) t
    refine XS.sipush X102.here hx rfl (hb hby d2_53) ?_
    exact k
  refine OFin.go sg114 ?_
  have c113 : ¬ ((1024 : Int32) < q3) := hr.2.1.2.2
  have sg116 : ∀ t, Steps p.tables e below (T102.setTop (mkF m 67 #[.val (.ref a0), .val (.int q1), .val (.int q2), .val (.int q3)] [(.int (1024 : Int32)), (.int ((q1 * q2) * q3))])) t → Steps p.tables e below (T102.setTop (mkF m 56 #[.val (.ref a0), .val (.int q1), .val (.int q2), .val (.int q3)] [(.int (1024 : Int32)), (.int q3)])) t := by
    intro t k
    show Steps p.tables e below (T102.setTop (mkF m 56 #[.val (.ref a0), .val (.int q1), .val (.int q2), .val (.int q3)] [(.int (1024 : Int32)), (.int q3)])) t
    refine XS.icmpNo X102.here hx rfl (hb hby d2_56) rfl (flt c113).2.2.1 ?_
    show Steps p.tables e below (T102.setTop (mkF m 59 #[.val (.ref a0), .val (.int q1), .val (.int q2), .val (.int q3)] [])) t
    refine XS.iloadN X102.here hx rfl (hb hby d2_59) rfl ?_
    show Steps p.tables e below (T102.setTop (mkF m 60 #[.val (.ref a0), .val (.int q1), .val (.int q2), .val (.int q3)] [(.int q1)])) t
    refine XS.iloadN X102.here hx rfl (hb hby d2_60) rfl ?_
    show Steps p.tables e below (T102.setTop (mkF m 61 #[.val (.ref a0), .val (.int q1), .val (.int q2), .val (.int q3)] [(.int q2), (.int q1)])) t
    refine XS.imul X102.here hx rfl (hb hby d2_61) rfl ?_
    show Steps p.tables e below (T102.setTop (mkF m 62 #[.val (.ref a0), .val (.int q1), .val (.int q2), .val (.int q3)] [(.int (q1 * q2))])) t
    refine XS.iloadN X102.here hx rfl (hb hby d2_62) rfl ?_
    show Steps p.tables e below (T102.setTop (mkF m 63 #[.val (.ref a0), .val (.int q1), .val (.int q2), .val (.int q3)] [(.int q3), (.int (q1 * q2))])) t
    refine XS.imul X102.here hx rfl (hb hby d2_63) rfl ?_
    show Steps p.tables e below (T102.setTop (mkF m 64 #[.val (.ref a0), .val (.int q1), .val (.int q2), .val (.int q3)] [(.int ((q1 * q2) * q3))])) t
    refine XS.sipush X102.here hx rfl (hb hby d2_64) ?_
    exact k
  refine OFin.go sg116 ?_
  have c115 : ¬ ((1024 : Int32) < ((q1 * q2) * q3)) := hr.2.2
  have sg117 : ∀ t, Steps p.tables e below (T102.setTop (mkF m 89 #[.val (.ref a0), .val (.int q1), .val (.int q2), .val (.int q3)] [(.int q1), (.ref a0)])) t → Steps p.tables e below (T102.setTop (mkF m 67 #[.val (.ref a0), .val (.int q1), .val (.int q2), .val (.int q3)] [(.int (1024 : Int32)), (.int ((q1 * q2) * q3))])) t := by
    intro t k
    show Steps p.tables e below (T102.setTop (mkF m 67 #[.val (.ref a0), .val (.int q1), .val (.int q2), .val (.int q3)] [(.int (1024 : Int32)), (.int ((q1 * q2) * q3))])) t
    refine XS.icmpYes X102.here hx rfl (pc0 := 67) (pc' := 87) rfl (hb hby d2_67) rfl (flt c115).2.2.2 (by decide) (by decide) ?_
    show Steps p.tables e below (T102.setTop (mkF m 87 #[.val (.ref a0), .val (.int q1), .val (.int q2), .val (.int q3)] [])) t
    refine XS.aloadN X102.here hx rfl (hb hby d2_87) rfl rfl ?_
    show Steps p.tables e below (T102.setTop (mkF m 88 #[.val (.ref a0), .val (.int q1), .val (.int q2), .val (.int q3)] [(.ref a0)])) t
    refine XS.iloadN X102.here hx rfl (hb hby d2_88) rfl ?_
    exact k
  refine OFin.go sg117 ?_
  obtain ⟨T118, h118, X118, e118, W118, st118⟩ := putF X102 hx hZ hown (host := "") (Or.inl (hw _ (List.mem_of_getElem? (i := 15) rfl))) Via.refl e102 F1 E1 (Or.inr ⟨(hw _ (List.mem_of_getElem? (i := 16) rfl)), rfl, hnm⟩) (hw _ (List.mem_of_getElem? (i := 7) rfl)) (ty := .int) (by decide) rfl rfl (g := (mkF m 89 #[.val (.ref a0), .val (.int q1), .val (.int q2), .val (.int q3)] [(.int q1), (.ref a0)])) rfl rfl (hb hby d2_89)
  refine OFin.go st118 ?_
  have F118 := F1.same W118
  have K118 : Keep h0 h118 [a0] := K0.wr W118 (Or.inl (List.mem_of_getElem? (i := 0) rfl))
  have N118 := Fr.snoc X118 N0 g_a0
  have sg119 : ∀ t, Steps p.tables e below (T118.setTop (mkF m 94 #[.val (.ref a0), .val (.int q1), .val (.int q2), .val (.int q3)] [(.int q2), (.ref a0)])) t → Steps p.tables e below (T118.setTop (mkF m 92 #[.val (.ref a0), .val (.int q1), .val (.int q2), .val (.int q3)] [])) t := by
    intro t k
    show Steps p.tables e below (T118.setTop (mkF m 92 #[.val (.ref a0), .val (.int q1), .val (.int q2), .val (.int q3)] [])) t
    refine XS.aloadN X118.here hx rfl (hb hby d2_92) rfl rfl ?_
    show Steps p.tables e below (T118.setTop (mkF m 93 #[.val (.ref a0), .val (.int q1), .val (.int q2), .val (.int q3)] [(.ref a0)])) t
    refine XS.iloadN X118.here hx rfl (hb hby d2_93) rfl ?_
    exact k
  refine OFin.go sg119 ?_
  obtain ⟨T120, h120, X120, e120, W120, st120⟩ := putF X118 hx hZ hown (host := "") (Or.inl (hw _ (List.mem_of_getElem? (i := 17) rfl))) Via.refl e118 (F2.other W118 (Or.inr (slot_ne (Or.inr (hw _ (List.mem_of_getElem? (i := 18) rfl))) (Or.inr (hw _ (List.mem_of_getElem? (i := 16) rfl))) (by decide) (t := .int) (t' := .int) (by decide) (by decide)))) (E1.wr W118) (Or.inr ⟨(hw _ (List.mem_of_getElem? (i := 18) rfl)), rfl, hnm⟩) (hw _ (List.mem_of_getElem? (i := 7) rfl)) (ty := .int) (by decide) rfl rfl (g := (mkF m 94 #[.val (.ref a0), .val (.int q1), .val (.int q2), .val (.int q3)] [(.int q2), (.ref a0)])) rfl rfl (hb hby d2_94)
  refine OFin.go st120 ?_
  have F120 := (F2.other W118 (Or.inr (slot_ne (Or.inr (hw _ (List.mem_of_getElem? (i := 18) rfl))) (Or.inr (hw _ (List.mem_of_getElem? (i := 16) rfl))) (by decide) (t := .int) (t' := .int) (by decide) (by decide)))).same W120
  have K120 : Keep h0 h120 [a0] := K118.wr W120 (Or.inl (List.mem_of_getElem? (i := 0) rfl))
  have N120 := Fr.snoc X120 N118 g_a0
  have sg121 : ∀ t, Steps p.tables e below (T120.setTop (mkF m 99 #[.val (.ref a0), .val (.int q1), .val (.int q2), .val (.int q3)] [(.int q3), (.ref a0)])) t → Steps p.tables e below (T120.setTop (mkF m 97 #[.val (.ref a0), .val (.int q1), .val (.int q2), .val (.int q3)] [])) t := by
    intro t k
    show Steps p.tables e below (T120.setTop (mkF m 97 #[.val (.ref a0), .val (.int q1), .val (.int q2), .val (.int q3)] [])) t
    refine XS.aloadN X120.here hx rfl (hb hby d2_97) rfl rfl ?_
    show Steps p.tables e below (T120.setTop (mkF m 98 #[.val (.ref a0), .val (.int q1), .val (.int q2), .val (.int q3)] [(.ref a0)])) t
    refine XS.iloadN X120.here hx rfl (hb hby d2_98) rfl ?_
    exact k
  refine OFin.go sg121 ?_
  obtain ⟨T122, h122, X122, e122, W122, st122⟩ := putF X120 hx hZ hown (host := "") (Or.inl (hw _ (List.mem_of_getElem? (i := 19) rfl))) Via.refl e120 ((F3.other W118 (Or.inr (slot_ne (Or.inr (hw _ (List.mem_of_getElem? (i := 20) rfl))) (Or.inr (hw _ (List.mem_of_getElem? (i := 16) rfl))) (by decide) (t := .int) (t' := .int) (by decide) (by decide)))).other W120 (Or.inr (slot_ne (Or.inr (hw _ (List.mem_of_getElem? (i := 20) rfl))) (Or.inr (hw _ (List.mem_of_getElem? (i := 18) rfl))) (by decide) (t := .int) (t' := .int) (by decide) (by decide)))) ((E1.wr W118).wr W120) (Or.inr ⟨(hw _ (List.mem_of_getElem? (i := 20) rfl)), rfl, hnm⟩) (hw _ (List.mem_of_getElem? (i := 7) rfl)) (ty := .int) (by decide) rfl rfl (g := (mkF m 99 #[.val (.ref a0), .val (.int q1), .val (.int q2), .val (.int q3)] [(.int q3), (.ref a0)])) rfl rfl (hb hby d2_99)
  refine OFin.go st122 ?_
  have F122 := ((F3.other W118 (Or.inr (slot_ne (Or.inr (hw _ (List.mem_of_getElem? (i := 20) rfl))) (Or.inr (hw _ (List.mem_of_getElem? (i := 16) rfl))) (by decide) (t := .int) (t' := .int) (by decide) (by decide)))).other W120 (Or.inr (slot_ne (Or.inr (hw _ (List.mem_of_getElem? (i := 20) rfl))) (Or.inr (hw _ (List.mem_of_getElem? (i := 18) rfl))) (by decide) (t := .int) (t' := .int) (by decide) (by decide)))).same W122
  have K122 : Keep h0 h122 [a0] := K120.wr W122 (Or.inl (List.mem_of_getElem? (i := 0) rfl))
  have N122 := Fr.snoc X122 N120 g_a0
  exact OFin.retV X122 hx hret hlk (hb hby d2_102) (by rw [e122]; exact ⟨rfl, N122, K122, ((F118.other W120 (Or.inr (slot_ne (Or.inr (hw _ (List.mem_of_getElem? (i := 16) rfl))) (Or.inr (hw _ (List.mem_of_getElem? (i := 18) rfl))) (by decide) (t := .int) (t' := .int) (by decide) (by decide)))).other W122 (Or.inr (slot_ne (Or.inr (hw _ (List.mem_of_getElem? (i := 16) rfl))) (Or.inr (hw _ (List.mem_of_getElem? (i := 20) rfl))) (by decide) (t := .int) (t' := .int) (by decide) (by decide)))), (F120.other W122 (Or.inr (slot_ne (Or.inr (hw _ (List.mem_of_getElem? (i := 18) rfl))) (Or.inr (hw _ (List.mem_of_getElem? (i := 20) rfl))) (by decide) (t := .int) (t' := .int) (by decide) (by decide)))), F122⟩) (by decide) (by decide)
theorem d4_0 : decode prog_1_method_14_code 0 = .ok (.aload_n 1, 1) := by decide +kernel
theorem d4_1 : decode prog_1_method_14_code 1 = .ok (.instanceof 10, 3) := by decide +kernel
theorem d4_4 : decode prog_1_method_14_code 4 = .ok (.ifCond .eq 45, 3) := by decide +kernel
theorem d4_7 : decode prog_1_method_14_code 7 = .ok (.aload_n 1, 1) := by decide +kernel
theorem d4_8 : decode prog_1_method_14_code 8 = .ok (.checkcast 10, 3) := by decide +kernel
theorem d4_11 : decode prog_1_method_14_code 11 = .ok (.astore_n 2, 1) := by decide +kernel
theorem d4_12 : decode prog_1_method_14_code 12 = .ok (.aload_n 0, 1) := by decide +kernel
theorem d4_13 : decode prog_1_method_14_code 13 = .ok (.getfield 25, 3) := by decide +kernel
theorem d4_16 : decode prog_1_method_14_code 16 = .ok (.aload_n 2, 1) := by decide +kernel
theorem d4_17 : decode prog_1_method_14_code 17 = .ok (.getfield 25, 3) := by decide +kernel
theorem d4_20 : decode prog_1_method_14_code 20 = .ok (.if_icmp .ne 29, 3) := by decide +kernel
theorem d4_23 : decode prog_1_method_14_code 23 = .ok (.aload_n 0, 1) := by decide +kernel
theorem d4_24 : decode prog_1_method_14_code 24 = .ok (.getfield 29, 3) := by decide +kernel
theorem d4_27 : decode prog_1_method_14_code 27 = .ok (.aload_n 2, 1) := by decide +kernel
theorem d4_28 : decode prog_1_method_14_code 28 = .ok (.getfield 29, 3) := by decide +kernel
theorem d4_31 : decode prog_1_method_14_code 31 = .ok (.if_icmp .ne 18, 3) := by decide +kernel
theorem d4_34 : decode prog_1_method_14_code 34 = .ok (.aload_n 0, 1) := by decide +kernel
theorem d4_35 : decode prog_1_method_14_code 35 = .ok (.getfield 32, 3) := by decide +kernel
theorem d4_38 : decode prog_1_method_14_code 38 = .ok (.aload_n 2, 1) := by decide +kernel
theorem d4_39 : decode prog_1_method_14_code 39 = .ok (.getfield 32, 3) := by decide +kernel
theorem d4_42 : decode prog_1_method_14_code 42 = .ok (.if_icmp .ne 7, 3) := by decide +kernel
theorem d4_45 : decode prog_1_method_14_code 45 = .ok (.iconst 1, 1) := by decide +kernel
theorem d4_46 : decode prog_1_method_14_code 46 = .ok (.goto 4, 3) := by decide +kernel
theorem d4_49 : decode prog_1_method_14_code 49 = .ok (.iconst 0, 1) := by decide +kernel
theorem d4_50 : decode prog_1_method_14_code 50 = .ok (.ireturn, 1) := by decide +kernel
theorem ef_4 (m : MethodId) (x0 : Addr) (x1 : Addr) : entryFrame m #[(.ref x0), (.ref x1)] 3 = mkF m 0 #[.val (.ref x0), .val (.ref x1), .unset] [] := by first | (simp [entryFrame, mkF, argsToLocals, Value.category]; done) | rfl
def own_f4 (a0 : Addr) (a1 : Addr) (x1 : Int32) (y1 : Int32) (z1 : Int32) (x2 : Int32) (y2 : Int32) (z2 : Int32) : Int32 := (if x1 = x2 then (if y1 = y2 then (if z1 = z2 then (1 : Int32) else (0 : Int32)) else (0 : Int32)) else (0 : Int32))
def Q4 (Z : State) (a0 : Addr) (a1 : Addr) (x1 : Int32) (y1 : Int32) (z1 : Int32) (x2 : Int32) (y2 : Int32) (z2 : Int32) (h0 : Heap) (n0 : Nat) (v : Option Value) (h : Heap) (L : List Loc) : Prop := v = some (.int (own_f4 a0 a1 x1 y1 z1 x2 y2 z2)) ∧ Fr n0 L ∧ h = h0
set_option maxHeartbeats 40000000 in
theorem rm4 (l : Launch) (Z : State) (aZ : Array Value) (hw : ∀ d ∈ tables_1, d.before aZ Z = true) (ws : List Jvm.Cond) (a0 : Addr) (a1 : Addr) (x1 : Int32) (y1 : Int32) (z1 : Int32) (x2 : Int32) (y2 : Int32) (z2 : Int32) (h0 : Heap) (n0 : Nat) (Z0 : n0 ≤ h0.size) (E1 : Exa Z h0 a1 "com/example/parlint/parlint/BlockShape") (F1 : Fld Z h0 a0 "com/example/parlint/parlint/BlockShape" "dimX" "I" (.int x1)) (F2 : Fld Z h0 a0 "com/example/parlint/parlint/BlockShape" "dimY" "I" (.int y1)) (F3 : Fld Z h0 a0 "com/example/parlint/parlint/BlockShape" "dimZ" "I" (.int z1)) (G1 : Fld Z h0 a1 "com/example/parlint/parlint/BlockShape" "dimX" "I" (.int x2)) (G2 : Fld Z h0 a1 "com/example/parlint/parlint/BlockShape" "dimY" "I" (.int y2)) (G3 : Fld Z h0 a1 "com/example/parlint/parlint/BlockShape" "dimZ" "I" (.int z2)) :
    MetFree l (⟨"com/example/parlint/parlint/BlockShape", "equals", "(Ljava/lang/Object;)Z"⟩ : MethodName) (head1 (Jvm.Cond.code (⟨"com/example/parlint/parlint/BlockShape", "equals", "(Ljava/lang/Object;)Z"⟩ : MethodName) prog_1_method_14_code 3 (some .boolean) :: ws) ({ frames := 0, cells := 0, slots := 0, locals := 0 } : Room)) (fun a U => a = #[(.ref a0), (.ref a1)] ∧ Z.Warmed39 U.vm ∧ U.heap = h0) (fun _ _ _ _ _ => True) (fun _ U o U' => ∃ v L, o = .returned v ∧ Q4 Z a0 a1 x1 y1 z1 x2 y2 z2 h0 n0 v U'.heap L ∧ FrameEnd U o U' L ({ frames := 0, cells := 0, slots := 0, locals := 0 } : Room).cells ({ frames := 0, cells := 0, slots := 0, locals := 0 } : Room).slots) := by
  refine MetFree.of_bodySF (plainFor_of_name pn_1) hisR ?_
  intro p e s m args below meth c s₁ Bd hml0 hP hK
  obtain ⟨rfl, hZ, hh⟩ := hP
  have hx := Bd.exec
  have hby := Bd.bytes
  have hret := Bd.returns
  have hlk : meth.locks = false := BodyLoose.notSynchronized Bd
  have hml : c.maxLocals = 3 := hml0
  have hown : s.vm.findClass "com/example/parlint/parlint/BlockShape" = some m.cls := findClass_of_methodNamed Bd.named
  have hnm := (name_of_methodNamed Bd.named Bd.method).1
  have X0 : Stand p l e ({ frames := 0, cells := 0, slots := 0, locals := 0 } : Room) s m #[(.ref a0), (.ref a1)] below meth c s₁ [] 0 0 := Stand.of_body Bd
  have e0 : s₁.heap = h0 := by rw [← hh, Bd.state]; rfl
  have N0 := Fr.nil n0
  have K0 : Keep h0 h0 [] := Keep.refl _ _
  have pre0 : ∀ t, Steps p.tables e below (s₁.setTop (mkF m 0 #[.val (.ref a0), .val (.ref a1), .unset] [])) t → Steps p.tables e below (s₁.setTop (entryFrame m #[(.ref a0), (.ref a1)] 3)) t := fun t k => castTop (ef_4 m a0 a1) k
  show OFin p e below s (Q4 Z a0 a1 x1 y1 z1 x2 y2 z2 h0 n0) ({ frames := 0, cells := 0, slots := 0, locals := 0 } : Room).cells ({ frames := 0, cells := 0, slots := 0, locals := 0 } : Room).slots _
  refine OFin.go pre0 ?_
  have sg101 : ∀ t, Steps p.tables e below (s₁.setTop (mkF m 1 #[.val (.ref a0), .val (.ref a1), .unset] [(.ref a1)])) t → Steps p.tables e below (s₁.setTop (mkF m 0 #[.val (.ref a0), .val (.ref a1), .unset] [])) t := by
    intro t k
    show Steps p.tables e below (s₁.setTop (mkF m 0 #[.val (.ref a0), .val (.ref a1), .unset] [])) t
    refine XS.aloadN X0.here hx rfl (hb hby d4_0) rfl rfl ?_
    exact k
  refine OFin.go sg101 ?_
  obtain ⟨T102, X102, e102, st102⟩ := instY X0 hx hZ hown (hw _ (List.mem_of_getElem? (i := 26) rfl)) e0 (Ins.self E1) (g := (mkF m 1 #[.val (.ref a0), .val (.ref a1), .unset] [(.ref a1)])) rfl rfl (hb hby d4_1)
  refine OFin.go st102 ?_
  have sg103 : ∀ t, Steps p.tables e below (T102.setTop (mkF m 8 #[.val (.ref a0), .val (.ref a1), .unset] [(.ref a1)])) t → Steps p.tables e below (T102.setTop (mkF m 4 #[.val (.ref a0), .val (.ref a1), .unset] [(.int (1 : Int32))])) t := by
    intro t k
    show Steps p.tables e below (T102.setTop (mkF m 4 #[.val (.ref a0), .val (.ref a1), .unset] [(.int (1 : Int32))])) t
    refine XS.ifNo X102.here hx rfl (hb hby d4_4) rfl ((if0 _ _).trans (feq (by decide : ¬ ((1 : Int32) = (0 : Int32)))).1) ?_
    show Steps p.tables e below (T102.setTop (mkF m 7 #[.val (.ref a0), .val (.ref a1), .unset] [])) t
    refine XS.aloadN X102.here hx rfl (hb hby d4_7) rfl rfl ?_
    exact k
  refine OFin.go sg103 ?_
  obtain ⟨T104, X104, e104, st104⟩ := castY X102 hx hZ hown (hw _ (List.mem_of_getElem? (i := 26) rfl)) e102 (Ins.self E1) (g := (mkF m 8 #[.val (.ref a0), .val (.ref a1), .unset] [(.ref a1)])) rfl rfl (hb hby d4_8)
  refine OFin.go st104 ?_
  have sg105 : ∀ t, Steps p.tables e below (T104.setTop (mkF m 13 #[.val (.ref a0), .val (.ref a1), .val (.ref a1)] [(.ref a0)])) t → Steps p.tables e below (T104.setTop (mkF m 11 #[.val (.ref a0), .val (.ref a1), .unset] [(.ref a1)])) t := by
    intro t k
    show Steps p.tables e below (T104.setTop (mkF m 11 #[.val (.ref a0), .val (.ref a1), .unset] [(.ref a1)])) t
    refine XS.astoreN X104.here hx rfl (hb hby d4_11) rfl rfl (l' := #[.val (.ref a0), .val (.ref a1), .val (.ref a1)]) rfl ?_
    show Steps p.tables e below (T104.setTop (mkF m 12 #[.val (.ref a0), .val (.ref a1), .val (.ref a1)] [])) t
    refine XS.aloadN X104.here hx rfl (hb hby d4_12) rfl rfl ?_
    exact k
  refine OFin.go sg105 ?_
  obtain ⟨T106, X106, e106, st106⟩ := getF X104 hx hZ hown (host := "") (Or.inl (hw _ (List.mem_of_getElem? (i := 15) rfl))) Via.refl e104 F1 (g := (mkF m 13 #[.val (.ref a0), .val (.ref a1), .val (.ref a1)] [(.ref a0)])) rfl rfl (hb hby d4_13)
  refine OFin.go st106 ?_
  have sg107 : ∀ t, Steps p.tables e below (T106.setTop (mkF m 17 #[.val (.ref a0), .val (.ref a1), .val (.ref a1)] [(.ref a1), (.int x1)])) t → Steps p.tables e below (T106.setTop (mkF m 16 #[.val (.ref a0), .val (.ref a1), .val (.ref a1)] [(.int x1)])) t := by
    intro t k
    show Steps p.tables e below (T106.setTop (mkF m 16 #[.val (.ref a0), .val (.ref a1), .val (.ref a1)] [(.int x1)])) t
    refine XS.aloadN X106.here hx rfl (hb hby d4_16) rfl rfl ?_
    exact k
  refine OFin.go sg107 ?_
  obtain ⟨T108, X108, e108, st108⟩ := getF X106 hx hZ hown (host := "") (Or.inl (hw _ (List.mem_of_getElem? (i := 15) rfl))) Via.refl e106 G1 (g := (mkF m 17 #[.val (.ref a0), .val (.ref a1), .val (.ref a1)] [(.ref a1), (.int x1)])) rfl rfl (hb hby d4_17)
  refine OFin.go st108 ?_
  by_cases c109 : x1 = x2
  · have sg110 : ∀ t, Steps p.tables e below (T108.setTop (mkF m 24 #[.val (.ref a0), .val (.ref a1), .val (.ref a1)] [(.ref a0)])) t → Steps p.tables e below (T108.setTop (mkF m 20 #[.val (.ref a0), .val (.ref a1), .val (.ref a1)] [(.int x2), (.int x1)])) t := by
      intro t k
      show Steps p.tables e below (T108.setTop (mkF m 20 #[.val (.ref a0), .val (.ref a1), .val (.ref a1)] [(.int x2), (.int x1)])) t
      refine XS.icmpNo X108.here hx rfl (hb hby d4_20) rfl (teq c109).2 ?_
      show Steps p.tables e below (T108.setTop (mkF m 23 #[.val (.ref a0), .val (.ref a1), .val (.ref a1)] [])) t
      refine XS.aloadN X108.here hx rfl (hb hby d4_23) rfl rfl ?_
      exact k
    refine OFin.go sg110 ?_
    obtain ⟨T111, X111, e111, st111⟩ := getF X108 hx hZ hown (host := "") (Or.inl (hw _ (List.mem_of_getElem? (i := 17) rfl))) Via.refl e108 F2 (g := (mkF m 24 #[.val (.ref a0), .val (.ref a1), .val (.ref a1)] [(.ref a0)])) rfl rfl (hb hby d4_24)
    refine OFin.go st111 ?_
    have sg112 : ∀ t, Steps p.tables e below (T111.setTop (mkF m 28 #[.val (.ref a0), .val (.ref a1), .val (.ref a1)] [(.ref a1), (.int y1)])) t → Steps p.tables e below (T111.setTop (mkF m 27 #[.val (.ref a0), .val (.ref a1), .val (.ref a1)] [(.int y1)])) t := by
      intro t k
      show Steps p.tables e below (T111.setTop (mkF m 27 #[.val (.ref a0), .val (.ref a1), .val (.ref a1)] [(.int y1)])) t
      refine XS.aloadN X111.here hx rfl (hb hby d4_27) rfl rfl ?_
      exact k
    refine OFin.go sg112 ?_
    obtain ⟨T113, X113, e113, st113⟩ := getF X111 hx hZ hown (host := "") (Or.inl (hw _ (List.mem_of_getElem? (i := 17) rfl))) Via.refl e111 G2 (g := (mkF m 28 #[.val (.ref a0), .val (.ref a1), .val (.ref a1)] [(.ref a1), (.int y1)])) rfl rfl (hb hby d4_28)
    refine OFin.go st113 ?_
    by_cases c114 : y1 = y2
    · have sg115 : ∀ t, Steps p.tables e below (T113.setTop (mkF m 35 #[.val (.ref a0), .val (.ref a1), .val (.ref a1)] [(.ref a0)])) t → Steps p.tables e below (T113.setTop (mkF m 31 #[.val (.ref a0), .val (.ref a1), .val (.ref a1)] [(.int y2), (.int y1)])) t := by
        intro t k
        show Steps p.tables e below (T113.setTop (mkF m 31 #[.val (.ref a0), .val (.ref a1), .val (.ref a1)] [(.int y2), (.int y1)])) t
        refine XS.icmpNo X113.here hx rfl (hb hby d4_31) rfl (teq c114).2 ?_
        show Steps p.tables e below (T113.setTop (mkF m 34 #[.val (.ref a0), .val (.ref a1), .val (.ref a1)] [])) t
        refine XS.aloadN X113.here hx rfl (hb hby d4_34) rfl rfl ?_
        exact k
      refine OFin.go sg115 ?_
      obtain ⟨T116, X116, e116, st116⟩ := getF X113 hx hZ hown (host := "") (Or.inl (hw _ (List.mem_of_getElem? (i := 19) rfl))) Via.refl e113 F3 (g := (mkF m 35 #[.val (.ref a0), .val (.ref a1), .val (.ref a1)] [(.ref a0)])) rfl rfl (hb hby d4_35)
      refine OFin.go st116 ?_
      have sg117 : ∀ t, Steps p.tables e below (T116.setTop (mkF m 39 #[.val (.ref a0), .val (.ref a1), .val (.ref a1)] [(.ref a1), (.int z1)])) t → Steps p.tables e below (T116.setTop (mkF m 38 #[.val (.ref a0), .val (.ref a1), .val (.ref a1)] [(.int z1)])) t := by
        intro t k
        show Steps p.tables e below (T116.setTop (mkF m 38 #[.val (.ref a0), .val (.ref a1), .val (.ref a1)] [(.int z1)])) t
        refine XS.aloadN X116.here hx rfl (hb hby d4_38) rfl rfl ?_
        exact k
      refine OFin.go sg117 ?_
      obtain ⟨T118, X118, e118, st118⟩ := getF X116 hx hZ hown (host := "") (Or.inl (hw _ (List.mem_of_getElem? (i := 19) rfl))) Via.refl e116 G3 (g := (mkF m 39 #[.val (.ref a0), .val (.ref a1), .val (.ref a1)] [(.ref a1), (.int z1)])) rfl rfl (hb hby d4_39)
      refine OFin.go st118 ?_
      by_cases c119 : z1 = z2
      · have sg120 : ∀ t, Steps p.tables e below (T118.setTop (mkF m 50 #[.val (.ref a0), .val (.ref a1), .val (.ref a1)] [(.int (1 : Int32))])) t → Steps p.tables e below (T118.setTop (mkF m 42 #[.val (.ref a0), .val (.ref a1), .val (.ref a1)] [(.int z2), (.int z1)])) t := by
          intro t k
          show Steps p.tables e below (T118.setTop (mkF m 42 #[.val (.ref a0), .val (.ref a1), .val (.ref a1)] [(.int z2), (.int z1)])) t
          refine XS.icmpNo X118.here hx rfl (hb hby d4_42) rfl (teq c119).2 ?_
          show Steps p.tables e below (T118.setTop (mkF m 45 #[.val (.ref a0), .val (.ref a1), .val (.ref a1)] [])) t
          refine XS.iconst X118.here hx rfl (hb hby d4_45) ?_
          show Steps p.tables e below (T118.setTop (mkF m 46 #[.val (.ref a0), .val (.ref a1), .val (.ref a1)] [(.int (1 : Int32))])) t
          refine XS.goto X118.here hx rfl (pc0 := 46) (pc' := 50) rfl (hb hby d4_46) (by decide) (by decide) ?_
          exact k
        refine OFin.go sg120 ?_
        exact OFin.retN X118 hx hret (by simp) hlk (hb hby d4_50) rfl (by rw [e118]; exact ⟨(congrArg (fun z => some (Value.int z)) (show (1 : Int32) = own_f4 a0 a1 x1 y1 z1 x2 y2 z2 from (by rw [own_f4, if_pos c109, if_pos c114, if_pos c119]))), N0, rfl⟩) (by decide) (by decide)
      · have sg121 : ∀ t, Steps p.tables e below (T118.setTop (mkF m 50 #[.val (.ref a0), .val (.ref a1), .val (.ref a1)] [(.int (0 : Int32))])) t → Steps p.tables e below (T118.setTop (mkF m 42 #[.val (.ref a0), .val (.ref a1), .val (.ref a1)] [(.int z2), (.int z1)])) t := by
          intro t k
          show Steps p.tables e below (T118.setTop (mkF m 42 #[.val (.ref a0), .val (.ref a1), .val (.ref a1)] [(.int z2), (.int z1)])) t
          refine XS.icmpYes X118.here hx rfl (pc0 := 42) (pc' := 49) rfl (hb hby d4_42) rfl (feq c119).2 (by decide) (by decide) ?_
          show Steps p.tables e below (T118.setTop (mkF m 49 #[.val (.ref a0), .val (.ref a1), .val (.ref a1)] [])) t
          refine XS.iconst X118.here hx rfl (hb hby d4_49) ?_
          exact k
        refine OFin.go sg121 ?_
        exact OFin.retN X118 hx hret (by simp) hlk (hb hby d4_50) rfl (by rw [e118]; exact ⟨(congrArg (fun z => some (Value.int z)) (show (0 : Int32) = own_f4 a0 a1 x1 y1 z1 x2 y2 z2 from (by rw [own_f4, if_pos c109, if_pos c114, if_neg c119]))), N0, rfl⟩) (by decide) (by decide)
    · have sg122 : ∀ t, Steps p.tables e below (T113.setTop (mkF m 50 #[.val (.ref a0), .val (.ref a1), .val (.ref a1)] [(.int (0 : Int32))])) t → Steps p.tables e below (T113.setTop (mkF m 31 #[.val (.ref a0), .val (.ref a1), .val (.ref a1)] [(.int y2), (.int y1)])) t := by
        intro t k
        show Steps p.tables e below (T113.setTop (mkF m 31 #[.val (.ref a0), .val (.ref a1), .val (.ref a1)] [(.int y2), (.int y1)])) t
        refine XS.icmpYes X113.here hx rfl (pc0 := 31) (pc' := 49) rfl (hb hby d4_31) rfl (feq c114).2 (by decide) (by decide) ?_
        show Steps p.tables e below (T113.setTop (mkF m 49 #[.val (.ref a0), .val (.ref a1), .val (.ref a1)] [])) t
        refine XS.iconst X113.here hx rfl (hb hby d4_49) ?_
        exact k
      refine OFin.go sg122 ?_
      exact OFin.retN X113 hx hret (by simp) hlk (hb hby d4_50) rfl (by rw [e113]; exact ⟨(congrArg (fun z => some (Value.int z)) (show (0 : Int32) = own_f4 a0 a1 x1 y1 z1 x2 y2 z2 from (by rw [own_f4, if_pos c109, if_neg c114]))), N0, rfl⟩) (by decide) (by decide)
  · have sg123 : ∀ t, Steps p.tables e below (T108.setTop (mkF m 50 #[.val (.ref a0), .val (.ref a1), .val (.ref a1)] [(.int (0 : Int32))])) t → Steps p.tables e below (T108.setTop (mkF m 20 #[.val (.ref a0), .val (.ref a1), .val (.ref a1)] [(.int x2), (.int x1)])) t := by
      intro t k
      show Steps p.tables e below (T108.setTop (mkF m 20 #[.val (.ref a0), .val (.ref a1), .val (.ref a1)] [(.int x2), (.int x1)])) t
      refine XS.icmpYes X108.here hx rfl (pc0 := 20) (pc' := 49) rfl (hb hby d4_20) rfl (feq c109).2 (by decide) (by decide) ?_
      show Steps p.tables e below (T108.setTop (mkF m 49 #[.val (.ref a0), .val (.ref a1), .val (.ref a1)] [])) t
      refine XS.iconst X108.here hx rfl (hb hby d4_49) ?_
      exact k
    refine OFin.go sg123 ?_
    exact OFin.retN X108 hx hret (by simp) hlk (hb hby d4_50) rfl (by rw [e108]; exact ⟨(congrArg (fun z => some (Value.int z)) (show (0 : Int32) = own_f4 a0 a1 x1 y1 z1 x2 y2 z2 from (by rw [own_f4, if_neg c109]))), N0, rfl⟩) (by decide) (by decide)
theorem ef_4n (m : MethodId) (x0 : Addr) : entryFrame m #[(.ref x0), .null] 3 = mkF m 0 #[.val (.ref x0), .val .null, .unset] [] := by first | (simp [entryFrame, mkF, argsToLocals, Value.category]; done) | rfl
def Q4n (Z : State) (a0 : Addr) (h0 : Heap) (n0 : Nat) (v : Option Value) (h : Heap) (L : List Loc) : Prop := v = some (.int (0 : Int32)) ∧ Fr n0 L ∧ h = h0
set_option maxHeartbeats 40000000 in
theorem rm4n (l : Launch) (Z : State) (aZ : Array Value) (hw : ∀ d ∈ tables_1, d.before aZ Z = true) (ws : List Jvm.Cond) (a0 : Addr) (h0 : Heap) (n0 : Nat) (Z0 : n0 ≤ h0.size) :
    MetFree l (⟨"com/example/parlint/parlint/BlockShape", "equals", "(Ljava/lang/Object;)Z"⟩ : MethodName) (head1 (Jvm.Cond.code (⟨"com/example/parlint/parlint/BlockShape", "equals", "(Ljava/lang/Object;)Z"⟩ : MethodName) prog_1_method_14_code 3 (some .boolean) :: ws) ({ frames := 0, cells := 0, slots := 0, locals := 0 } : Room)) (fun a U => a = #[(.ref a0), .null] ∧ Z.Warmed39 U.vm ∧ U.heap = h0) (fun _ _ _ _ _ => True) (fun _ U o U' => ∃ v L, o = .returned v ∧ Q4n Z a0 h0 n0 v U'.heap L ∧ FrameEnd U o U' L ({ frames := 0, cells := 0, slots := 0, locals := 0 } : Room).cells ({ frames := 0, cells := 0, slots := 0, locals := 0 } : Room).slots) := by
  refine MetFree.of_bodySF (plainFor_of_name pn_1) hisR ?_
  intro p e s m args below meth c s₁ Bd hml0 hP hK
  obtain ⟨rfl, hZ, hh⟩ := hP
  have hx := Bd.exec
  have hby := Bd.bytes
  have hret := Bd.returns
  have hlk : meth.locks = false := BodyLoose.notSynchronized Bd
  have hml : c.maxLocals = 3 := hml0
  have hown : s.vm.findClass "com/example/parlint/parlint/BlockShape" = some m.cls := findClass_of_methodNamed Bd.named
  have hnm := (name_of_methodNamed Bd.named Bd.method).1
  have X0 : Stand p l e ({ frames := 0, cells := 0, slots := 0, locals := 0 } : Room) s m #[(.ref a0), .null] below meth c s₁ [] 0 0 := Stand.of_body Bd
  have e0 : s₁.heap = h0 := by rw [← hh, Bd.state]; rfl
  have N0 := Fr.nil n0
  have K0 : Keep h0 h0 [] := Keep.refl _ _
  have pre0 : ∀ t, Steps p.tables e below (s₁.setTop (mkF m 0 #[.val (.ref a0), .val .null, .unset] [])) t → Steps p.tables e below (s₁.setTop (entryFrame m #[(.ref a0), .null] 3)) t := fun t k => castTop (ef_4n m a0) k
  show OFin p e below s (Q4n Z a0 h0 n0) ({ frames := 0, cells := 0, slots := 0, locals := 0 } : Room).cells ({ frames := 0, cells := 0, slots := 0, locals := 0 } : Room).slots _
  refine OFin.go pre0 ?_
  have sg101 : ∀ t, Steps p.tables e below (s₁.setTop (mkF m 1 #[.val (.ref a0), .val .null, .unset] [.null])) t → Steps p.tables e below (s₁.setTop (mkF m 0 #[.val (.ref a0), .val .null, .unset] [])) t := by
    intro t k
    show Steps p.tables e below (s₁.setTop (mkF m 0 #[.val (.ref a0), .val .null, .unset] [])) t
    refine XS.aloadN X0.here hx rfl (hb hby d4_0) rfl rfl ?_
    exact k
  refine OFin.go sg101 ?_
  have sg102 : ∀ t, Steps p.tables e below (s₁.setTop (mkF m 50 #[.val (.ref a0), .val .null, .unset] [(.int (0 : Int32))])) t → Steps p.tables e below (s₁.setTop (mkF m 1 #[.val (.ref a0), .val .null, .unset] [.null])) t := by
    intro t k
    show Steps p.tables e below (s₁.setTop (mkF m 1 #[.val (.ref a0), .val .null, .unset] [.null])) t
    refine X0.instanceofNull hx (g := (mkF m 1 #[.val (.ref a0), .val .null, .unset] [.null])) rfl rfl (hb hby d4_1) _ ?_
    show Steps p.tables e below (s₁.setTop (mkF m 4 #[.val (.ref a0), .val .null, .unset] [(.int (0 : Int32))])) t
    refine XS.ifYes X0.here hx rfl (pc0 := 4) (pc' := 49) rfl (hb hby d4_4) rfl ((if0 _ _).trans (teq (by decide : (0 : Int32) = (0 : Int32))).1) (by decide) (by decide) ?_
    show Steps p.tables e below (s₁.setTop (mkF m 49 #[.val (.ref a0), .val .null, .unset] [])) t
    refine XS.iconst X0.here hx rfl (hb hby d4_49) ?_
    exact k
  refine OFin.go sg102 ?_
  exact OFin.retN X0 hx hret (by simp) hlk (hb hby d4_50) rfl (by rw [e0]; exact ⟨rfl, N0, rfl⟩) (by decide) (by decide)
/-- an Integer is no BlockShape -/
theorem own_noint {Z : State} {a0 : Array Value} (hw : ∀ d ∈ tables_1, d.before a0 Z = true) : ∃ c t, Z.vm.findClass "java/lang/Integer" = some c ∧ Z.vm.findClass "com/example/parlint/parlint/BlockShape" = some t ∧ Z.vm.assignable c t = false := by
  have wi := (hw _ (List.mem_of_getElem? (i := 7) rfl))
  obtain ⟨t, kt, g1, g2, g3, g4, -⟩ := Cond.instantiable_spec wi
  have gi : kt.isInterface = false := by
    cases h : kt.isInterface with
    | false => rfl
    | true => rw [h] at g4; simp at g4
  obtain ⟨c0, k0, h1, h2, h3, -, -⟩ := Cond.noSuperclass_spec (hw _ (List.mem_of_getElem? (i := 37) rfl))
  have ne0 := ids_ne h1 g1 (by decide)
  have n0 : NS Z "java/lang/Object" "com/example/parlint/parlint/BlockShape" := ⟨c0, t, h1, g1, fun fuel => by
    cases fuel with
    | zero => rfl
    | succ f => simp [Vm.isSubclassAux, ne0, h2, h3]⟩
  have n1 := NS.step (hw _ (List.mem_of_getElem? (i := 36) rfl)) n0 (by decide)
  have w2 := (hw _ (List.mem_of_getElem? (i := 35) rfl))
  have n2 := NS.step w2 n1 (by decide)
  obtain ⟨c, t', q0, q1, n3⟩ := n2
  cases q1.symm.trans g1
  have ne := ids_ne q0 g1 (by decide)
  obtain ⟨pp, k, kp, r1, r2, r3, r4, r5, -, r7⟩ := Cond.superclass_spec q0 w2
  refine ⟨c, t, q0, g1, ?_⟩
  show Z.vm.assignableAux (255 + 1) c t = false
  simp [Vm.assignableAux, ne, r2, g2, r5, g3, gi, Vm.isSubclass, n3]
theorem ef_4i (m : MethodId) (x0 : Addr) (x1 : Addr) : entryFrame m #[(.ref x0), (.ref x1)] 3 = mkF m 0 #[.val (.ref x0), .val (.ref x1), .unset] [] := by first | (simp [entryFrame, mkF, argsToLocals, Value.category]; done) | rfl
def Q4i (Z : State) (a0 : Addr) (a1 : Addr) (h0 : Heap) (n0 : Nat) (v : Option Value) (h : Heap) (L : List Loc) : Prop := v = some (.int (0 : Int32)) ∧ Fr n0 L ∧ h = h0
set_option maxHeartbeats 40000000 in
theorem rm4i (l : Launch) (Z : State) (aZ : Array Value) (hw : ∀ d ∈ tables_1, d.before aZ Z = true) (ws : List Jvm.Cond) (a0 : Addr) (a1 : Addr) (h0 : Heap) (n0 : Nat) (Z0 : n0 ≤ h0.size) (E1 : Exa Z h0 a1 "java/lang/Integer") :
    MetFree l (⟨"com/example/parlint/parlint/BlockShape", "equals", "(Ljava/lang/Object;)Z"⟩ : MethodName) (head1 (Jvm.Cond.code (⟨"com/example/parlint/parlint/BlockShape", "equals", "(Ljava/lang/Object;)Z"⟩ : MethodName) prog_1_method_14_code 3 (some .boolean) :: ws) ({ frames := 0, cells := 0, slots := 0, locals := 0 } : Room)) (fun a U => a = #[(.ref a0), (.ref a1)] ∧ Z.Warmed39 U.vm ∧ U.heap = h0) (fun _ _ _ _ _ => True) (fun _ U o U' => ∃ v L, o = .returned v ∧ Q4i Z a0 a1 h0 n0 v U'.heap L ∧ FrameEnd U o U' L ({ frames := 0, cells := 0, slots := 0, locals := 0 } : Room).cells ({ frames := 0, cells := 0, slots := 0, locals := 0 } : Room).slots) := by
  refine MetFree.of_bodySF (plainFor_of_name pn_1) hisR ?_
  intro p e s m args below meth c s₁ Bd hml0 hP hK
  obtain ⟨rfl, hZ, hh⟩ := hP
  have hx := Bd.exec
  have hby := Bd.bytes
  have hret := Bd.returns
  have hlk : meth.locks = false := BodyLoose.notSynchronized Bd
  have hml : c.maxLocals = 3 := hml0
  have hown : s.vm.findClass "com/example/parlint/parlint/BlockShape" = some m.cls := findClass_of_methodNamed Bd.named
  have hnm := (name_of_methodNamed Bd.named Bd.method).1
  have X0 : Stand p l e ({ frames := 0, cells := 0, slots := 0, locals := 0 } : Room) s m #[(.ref a0), (.ref a1)] below meth c s₁ [] 0 0 := Stand.of_body Bd
  have e0 : s₁.heap = h0 := by rw [← hh, Bd.state]; rfl
  have N0 := Fr.nil n0
  have K0 : Keep h0 h0 [] := Keep.refl _ _
  have pre0 : ∀ t, Steps p.tables e below (s₁.setTop (mkF m 0 #[.val (.ref a0), .val (.ref a1), .unset] [])) t → Steps p.tables e below (s₁.setTop (entryFrame m #[(.ref a0), (.ref a1)] 3)) t := fun t k => castTop (ef_4i m a0 a1) k
  show OFin p e below s (Q4i Z a0 a1 h0 n0) ({ frames := 0, cells := 0, slots := 0, locals := 0 } : Room).cells ({ frames := 0, cells := 0, slots := 0, locals := 0 } : Room).slots _
  refine OFin.go pre0 ?_
  have sg101 : ∀ t, Steps p.tables e below (s₁.setTop (mkF m 1 #[.val (.ref a0), .val (.ref a1), .unset] [(.ref a1)])) t → Steps p.tables e below (s₁.setTop (mkF m 0 #[.val (.ref a0), .val (.ref a1), .unset] [])) t := by
    intro t k
    show Steps p.tables e below (s₁.setTop (mkF m 0 #[.val (.ref a0), .val (.ref a1), .unset] [])) t
    refine XS.aloadN X0.here hx rfl (hb hby d4_0) rfl rfl ?_
    exact k
  refine OFin.go sg101 ?_
  obtain ⟨T102, X102, e102, st102⟩ := instNo X0 hx hZ hown (hw _ (List.mem_of_getElem? (i := 26) rfl)) e0 E1 (own_noint hw) (g := (mkF m 1 #[.val (.ref a0), .val (.ref a1), .unset] [(.ref a1)])) rfl rfl (hb hby d4_1)
  refine OFin.go st102 ?_
  have sg103 : ∀ t, Steps p.tables e below (T102.setTop (mkF m 50 #[.val (.ref a0), .val (.ref a1), .unset] [(.int (0 : Int32))])) t → Steps p.tables e below (T102.setTop (mkF m 4 #[.val (.ref a0), .val (.ref a1), .unset] [(.int (0 : Int32))])) t := by
    intro t k
    show Steps p.tables e below (T102.setTop (mkF m 4 #[.val (.ref a0), .val (.ref a1), .unset] [(.int (0 : Int32))])) t
    refine XS.ifYes X102.here hx rfl (pc0 := 4) (pc' := 49) rfl (hb hby d4_4) rfl ((if0 _ _).trans (teq (by decide : (0 : Int32) = (0 : Int32))).1) (by decide) (by decide) ?_
    show Steps p.tables e below (T102.setTop (mkF m 49 #[.val (.ref a0), .val (.ref a1), .unset] [])) t
    refine XS.iconst X102.here hx rfl (hb hby d4_49) ?_
    exact k
  refine OFin.go sg103 ?_
  exact OFin.retN X102 hx hret (by simp) hlk (hb hby d4_50) rfl (by rw [e102]; exact ⟨rfl, N0, rfl⟩) (by decide) (by decide)
theorem d7_0 : decode jdk_18_method_1_code 0 = .ok (.aload_n 0, 1) := by decide +kernel
theorem d7_1 : decode jdk_18_method_1_code 1 = .ok (.invokespecial 1, 3) := by decide +kernel
theorem d7_4 : decode jdk_18_method_1_code 4 = .ok (.return_, 1) := by decide +kernel
theorem pn_2 : plainName "java/lang/Number" = true := by first | (simp [plainName, overriddenIn]; done) | decide +kernel
theorem ef_7 (m : MethodId) (x0 : Addr) : entryFrame m #[(.ref x0)] 1 = mkF m 0 #[.val (.ref x0)] [] := by first | (simp [entryFrame, mkF, argsToLocals, Value.category]; done) | rfl
def Q7 (Z : State) (a0 : Addr) (h0 : Heap) (n0 : Nat) (v : Option Value) (h : Heap) (L : List Loc) : Prop := v = none ∧ Fr n0 L ∧ h = h0
set_option maxHeartbeats 40000000 in
theorem rm7 (l : Launch) (Z : State) (aZ : Array Value) (hw : ∀ d ∈ tables_1, d.before aZ Z = true) (ws : List Jvm.Cond) (a0 : Addr) (h0 : Heap) (n0 : Nat) (Z0 : n0 ≤ h0.size) :
    MetFree l (⟨"java/lang/Number", "<init>", "()V"⟩ : MethodName) (head1 (Jvm.Cond.code (⟨"java/lang/Number", "<init>", "()V"⟩ : MethodName) jdk_18_method_1_code 1 none :: ws) ({ frames := 1, cells := 0, slots := 0, locals := 12 } : Room)) (fun a U => a = #[(.ref a0)] ∧ Z.Warmed39 U.vm ∧ U.heap = h0) (fun _ _ _ _ _ => True) (fun _ U o U' => ∃ v L, o = .returned v ∧ Q7 Z a0 h0 n0 v U'.heap L ∧ FrameEnd U o U' L ({ frames := 1, cells := 0, slots := 0, locals := 12 } : Room).cells ({ frames := 1, cells := 0, slots := 0, locals := 12 } : Room).slots) := by
  refine MetFree.of_bodySF (plainFor_of_name pn_2) hisR ?_
  intro p e s m args below meth c s₁ Bd hml0 hP hK
  obtain ⟨rfl, hZ, hh⟩ := hP
  have hx := Bd.exec
  have hby := Bd.bytes
  have hret := Bd.returns
  have hlk : meth.locks = false := BodyLoose.notSynchronized Bd
  have hml : c.maxLocals = 1 := hml0
  have hown : s.vm.findClass "java/lang/Number" = some m.cls := findClass_of_methodNamed Bd.named
  have hnm := (name_of_methodNamed Bd.named Bd.method).1
  have X0 : Stand p l e ({ frames := 1, cells := 0, slots := 0, locals := 12 } : Room) s m #[(.ref a0)] below meth c s₁ [] 0 0 := Stand.of_body Bd
  have e0 : s₁.heap = h0 := by rw [← hh, Bd.state]; rfl
  have N0 := Fr.nil n0
  have K0 : Keep h0 h0 [] := Keep.refl _ _
  have pre0 : ∀ t, Steps p.tables e below (s₁.setTop (mkF m 0 #[.val (.ref a0)] [])) t → Steps p.tables e below (s₁.setTop (entryFrame m #[(.ref a0)] 1)) t := fun t k => castTop (ef_7 m a0) k
  show OFin p e below s (Q7 Z a0 h0 n0) ({ frames := 1, cells := 0, slots := 0, locals := 12 } : Room).cells ({ frames := 1, cells := 0, slots := 0, locals := 12 } : Room).slots _
  refine OFin.go pre0 ?_
  have sg101 : ∀ t, Steps p.tables e below (s₁.setTop (mkF m 1 #[.val (.ref a0)] [(.ref a0)])) t → Steps p.tables e below (s₁.setTop (mkF m 0 #[.val (.ref a0)] [])) t := by
    intro t k
    show Steps p.tables e below (s₁.setTop (mkF m 0 #[.val (.ref a0)] [])) t
    refine XS.aloadN X0.here hx rfl (hb hby d7_0) rfl rfl ?_
    exact k
  refine OFin.go sg101 ?_
  obtain ⟨T102, X102, e102, st102⟩ := initO X0 hx hZ hown (hw _ (List.mem_of_getElem? (i := 50) rfl)) (hw _ (List.mem_of_getElem? (i := 13) rfl)) (hw _ (List.mem_of_getElem? (i := 14) rfl)) e0 (g := (mkF m 1 #[.val (.ref a0)] [(.ref a0)])) rfl (by rw [hml]; rfl) rfl (hb hby d7_1) (by decide) (W := 0) (by show 2 * 0 + _ ≤ _; exact Nat.le_of_eq rfl) (by decide)
  refine OFin.go st102 ?_
  exact OFin.retV X102 hx hret hlk (hb hby d7_4) (by rw [e102]; exact ⟨rfl, N0, rfl⟩) (by decide) (by decide)
theorem d6_0 : decode jdk_33_method_23_code 0 = .ok (.aload_n 0, 1) := by decide +kernel
theorem d6_1 : decode jdk_33_method_23_code 1 = .ok (.invokespecial 202, 3) := by decide +kernel
theorem d6_4 : decode jdk_33_method_23_code 4 = .ok (.aload_n 0, 1) := by decide +kernel
theorem d6_5 : decode jdk_33_method_23_code 5 = .ok (.iload_n 1, 1) := by decide +kernel
theorem d6_6 : decode jdk_33_method_23_code 6 = .ok (.putfield 205, 3) := by decide +kernel
theorem d6_9 : decode jdk_33_method_23_code 9 = .ok (.return_, 1) := by decide +kernel
theorem pn_3 : plainName "java/lang/Integer" = true := by first | (simp [plainName, overriddenIn]; done) | decide +kernel
theorem pd_0 : parseMethodDescriptor "()V" = some ⟨[], none⟩ := by decide +kernel
theorem ef_6 (m : MethodId) (x0 : Addr) (x1 : Int32) : entryFrame m #[(.ref x0), (.int x1)] 2 = mkF m 0 #[.val (.ref x0), .val (.int x1)] [] := by first | (simp [entryFrame, mkF, argsToLocals, Value.category]; done) | rfl
def Q6 (Z : State) (a0 : Addr) (q1 : Int32) (h0 : Heap) (n0 : Nat) (v : Option Value) (h : Heap) (L : List Loc) : Prop := v = none ∧ Fr n0 L ∧ Keep h0 h [a0]
set_option maxHeartbeats 40000000 in
theorem rm6 (l : Launch) (Z : State) (aZ : Array Value) (hw : ∀ d ∈ tables_1, d.before aZ Z = true) (ws : List Jvm.Cond) (a0 : Addr) (q1 : Int32) (h0 : Heap) (n0 : Nat) (Z0 : n0 ≤ h0.size) (E1 : Exa Z h0 a0 "java/lang/Integer") (F1 : Fld Z h0 a0 "java/lang/Integer" "value" "I" (.int (0 : Int32))) (g_a0 : n0 ≤ a0) :
    MetFree l (⟨"java/lang/Integer", "<init>", "(I)V"⟩ : MethodName) (head1 (Jvm.Cond.code (⟨"java/lang/Integer", "<init>", "(I)V"⟩ : MethodName) jdk_33_method_23_code 2 none :: ws) ({ frames := 2, cells := 0, slots := 0, locals := 24 } : Room)) (fun a U => a = #[(.ref a0), (.int q1)] ∧ Z.Warmed39 U.vm ∧ U.heap = h0) (fun _ _ _ _ _ => True) (fun _ U o U' => ∃ v L, o = .returned v ∧ Q6 Z a0 q1 h0 n0 v U'.heap L ∧ FrameEnd U o U' L ({ frames := 2, cells := 0, slots := 0, locals := 24 } : Room).cells ({ frames := 2, cells := 0, slots := 0, locals := 24 } : Room).slots) := by
  refine MetFree.of_bodySF (plainFor_of_name pn_3) hisR ?_
  intro p e s m args below meth c s₁ Bd hml0 hP hK
  obtain ⟨rfl, hZ, hh⟩ := hP
  have hx := Bd.exec
  have hby := Bd.bytes
  have hret := Bd.returns
  have hlk : meth.locks = false := BodyLoose.notSynchronized Bd
  have hml : c.maxLocals = 2 := hml0
  have hown : s.vm.findClass "java/lang/Integer" = some m.cls := findClass_of_methodNamed Bd.named
  have hnm := (name_of_methodNamed Bd.named Bd.method).1
  have X0 : Stand p l e ({ frames := 2, cells := 0, slots := 0, locals := 24 } : Room) s m #[(.ref a0), (.int q1)] below meth c s₁ [] 0 0 := Stand.of_body Bd
  have e0 : s₁.heap = h0 := by rw [← hh, Bd.state]; rfl
  have N0 := Fr.nil n0
  have K0 : Keep h0 h0 [a0] := Keep.refl _ _
  have pre0 : ∀ t, Steps p.tables e below (s₁.setTop (mkF m 0 #[.val (.ref a0), .val (.int q1)] [])) t → Steps p.tables e below (s₁.setTop (entryFrame m #[(.ref a0), (.int q1)] 2)) t := fun t k => castTop (ef_6 m a0 q1) k
  show OFin p e below s (Q6 Z a0 q1 h0 n0) ({ frames := 2, cells := 0, slots := 0, locals := 24 } : Room).cells ({ frames := 2, cells := 0, slots := 0, locals := 24 } : Room).slots _
  refine OFin.go pre0 ?_
  have sg101 : ∀ t, Steps p.tables e below (s₁.setTop (mkF m 1 #[.val (.ref a0), .val (.int q1)] [(.ref a0)])) t → Steps p.tables e below (s₁.setTop (mkF m 0 #[.val (.ref a0), .val (.int q1)] [])) t := by
    intro t k
    show Steps p.tables e below (s₁.setTop (mkF m 0 #[.val (.ref a0), .val (.int q1)] [])) t
    refine XS.aloadN X0.here hx rfl (hb hby d6_0) rfl rfl ?_
    exact k
  refine OFin.go sg101 ?_
  obtain ⟨_, _, ⟨T102, L102, k102, n102⟩, -, X102, ⟨Lc102, hQ102, l102, y102, z102⟩, st102⟩ := X0.specialBack hx (y := (⟨"java/lang/Number", "<init>", "()V"⟩ : MethodName)) rfl hown (mvT hZ (hw _ (List.mem_of_getElem? (i := 44) rfl))) (mvT hZ (hw _ (List.mem_of_getElem? (i := 45) rfl))) (mvT hZ (hw _ (List.mem_of_getElem? (i := 49) rfl))) (by decide) (backOf (W := 0) (rm7 l Z aZ hw [] a0 h0 n0 (Nat.le_trans Z0 K0.1) ) hZ (hw _ (List.mem_of_getElem? (i := 49) rfl)) (hw _ (List.mem_of_getElem? (i := 48) rfl)) (by decide) (by decide)) (g := (mkF m 1 #[.val (.ref a0), .val (.int q1)] [(.ref a0)])) rfl (by rw [hml]; rfl) (Steps.refl _) (a := a0) (argsL := []) (rest := []) (lenOf pd_0 rfl) rfl (by show 2 * 0 + _ ≤ _; exact Nat.le_of_eq rfl) (hb hby d6_1) (fun _ _ => ⟨rfl, e0, (by decide : 0 + 0 ≤ _), (by decide : 0 + 0 ≤ _)⟩)
  dsimp only [Pt.U, Pt.locs, Pt.cells, Pt.slots] at X102 l102 y102 z102 st102 hQ102
  subst l102 y102 z102
  obtain ⟨rfl, N102q, e102⟩ := hQ102
  have N102 := Fr.app N0 N102q
  refine OFin.tr st102 ?_
  have sg103 : ∀ t, Steps p.tables e below (T102.setTop (mkF m 6 #[.val (.ref a0), .val (.int q1)] [(.int q1), (.ref a0)])) t → Steps p.tables e below (T102.setTop (mkF m 4 #[.val (.ref a0), .val (.int q1)] [])) t := by
    intro t k
    show Steps p.tables e below (T102.setTop (mkF m 4 #[.val (.ref a0), .val (.int q1)] [])) t
    refine XS.aloadN X102.here hx rfl (hb hby d6_4) rfl rfl ?_
    show Steps p.tables e below (T102.setTop (mkF m 5 #[.val (.ref a0), .val (.int q1)] [(.ref a0)])) t
    refine XS.iloadN X102.here hx rfl (hb hby d6_5) rfl ?_
    exact k
  refine OFin.go sg103 ?_
  obtain ⟨T104, h104, X104, e104, W104, st104⟩ := putF X102 hx hZ hown (host := "") (Or.inl (hw _ (List.mem_of_getElem? (i := 51) rfl))) Via.refl e102 F1 E1 (Or.inr ⟨(hw _ (List.mem_of_getElem? (i := 52) rfl)), rfl, hnm⟩) (hw _ (List.mem_of_getElem? (i := 39) rfl)) (ty := .int) (by decide) rfl rfl (g := (mkF m 6 #[.val (.ref a0), .val (.int q1)] [(.int q1), (.ref a0)])) rfl rfl (hb hby d6_6)
  refine OFin.go st104 ?_
  have F104 := F1.same W104
  have K104 : Keep h0 h104 [a0] := K0.wr W104 (Or.inl (List.mem_of_getElem? (i := 0) rfl))
  have N104 := Fr.snoc X104 N102 g_a0
  exact OFin.retV X104 hx hret hlk (hb hby d6_9) (by rw [e104]; exact ⟨rfl, N104, K104⟩) (by decide) (by decide)
theorem own_ci {q : Int32} (h : ¬ ((127 : Int32) < q)) (p : ¬ q < (1 : Int32)) : ¬ (q + (128 : Int32)) < 0 ∧ (q + (128 : Int32)) < (256 : Int32) := by
  have a := c_iadd q 128
  have r := rng32 (q + (128 : Int32))
  rw [Int32.lt_iff_toInt_lt] at h p
  rw [Int32.lt_iff_toInt_lt, Int32.lt_iff_toInt_lt]
  simp only [show (256 : Int32).toInt = 256 from rfl, show (127 : Int32).toInt = 127 from rfl, show (1 : Int32).toInt = 1 from rfl, show (128 : Int32).toInt = 128 from rfl, show (0 : Int32).toInt = 0 from rfl] at *
  omega
theorem own_n128 {q : Int32} (p : ¬ q < (1 : Int32)) : ¬ (q < (-128 : Int32)) := by
  rw [Int32.lt_iff_toInt_lt] at p ⊢
  simp only [show (1 : Int32).toInt = 1 from rfl, show (-128 : Int32).toInt = -128 from rfl] at *
  omega
theorem d5_0 : decode jdk_33_method_22_code 0 = .ok (.iload_n 0, 1) := by decide +kernel
theorem d5_1 : decode jdk_33_method_22_code 1 = .ok (.bipush (-128), 2) := by decide +kernel
theorem d5_3 : decode jdk_33_method_22_code 3 = .ok (.if_icmp .lt 20, 3) := by decide +kernel
theorem d5_6 : decode jdk_33_method_22_code 6 = .ok (.iload_n 0, 1) := by decide +kernel
theorem d5_7 : decode jdk_33_method_22_code 7 = .ok (.getstatic 191, 3) := by decide +kernel
theorem d5_10 : decode jdk_33_method_22_code 10 = .ok (.if_icmp .gt 13, 3) := by decide +kernel
theorem d5_13 : decode jdk_33_method_22_code 13 = .ok (.getstatic 195, 3) := by decide +kernel
theorem d5_16 : decode jdk_33_method_22_code 16 = .ok (.iload_n 0, 1) := by decide +kernel
theorem d5_17 : decode jdk_33_method_22_code 17 = .ok (.sipush 128, 3) := by decide +kernel
theorem d5_20 : decode jdk_33_method_22_code 20 = .ok (.iadd, 1) := by decide +kernel
theorem d5_21 : decode jdk_33_method_22_code 21 = .ok (.aaload, 1) := by decide +kernel
theorem d5_22 : decode jdk_33_method_22_code 22 = .ok (.areturn, 1) := by decide +kernel
theorem d5_23 : decode jdk_33_method_22_code 23 = .ok (.new 1, 3) := by decide +kernel
theorem d5_26 : decode jdk_33_method_22_code 26 = .ok (.dup, 1) := by decide +kernel
theorem d5_27 : decode jdk_33_method_22_code 27 = .ok (.iload_n 0, 1) := by decide +kernel
theorem d5_28 : decode jdk_33_method_22_code 28 = .ok (.invokespecial 199, 3) := by decide +kernel
theorem d5_31 : decode jdk_33_method_22_code 31 = .ok (.areturn, 1) := by decide +kernel
theorem pd_1 : parseMethodDescriptor "(I)V" = some ⟨[.int], none⟩ := by decide +kernel
theorem ef_5 (m : MethodId) (x0 : Int32) : entryFrame m #[(.int x0)] 1 = mkF m 0 #[.val (.int x0)] [] := by first | (simp [entryFrame, mkF, argsToLocals, Value.category]; done) | rfl
def Q5 (Z : State) (q0 : Int32) (ca : Addr) (ccl : Cell) (h0 : Heap) (n0 : Nat) (v : Option Value) (h : Heap) (L : List Loc) : Prop := ∃ (b9 : Addr), v = some (.ref b9) ∧ Fr n0 L ∧ Keep h0 h [] ∧ Exa Z h b9 "java/lang/Integer"
set_option maxHeartbeats 40000000 in
theorem rm5 (l : Launch) (Z : State) (aZ : Array Value) (hw : ∀ d ∈ tables_1, d.before aZ Z = true) (ws : List Jvm.Cond) (q0 : Int32) (ca : Addr) (ccl : Cell) (h0 : Heap) (n0 : Nat) (Z0 : n0 ≤ h0.size) (O0 : Old Z n0 h0) (S1 : Sta Z Z.heap "java/lang/Integer$IntegerCache" "high" "I" (.int (127 : Int32))) (S2 : Sta Z Z.heap "java/lang/Integer$IntegerCache" "cache" "[Ljava/lang/Integer;" (.ref ca)) (hB : Bxs Z ca ccl "java/lang/Integer" "I" (256 : Int32) (fun j => .int (j - (128 : Int32)))) (hpos : ¬ q0 < (1 : Int32)) :
    MetFree l (⟨"java/lang/Integer", "valueOf", "(I)Ljava/lang/Integer;"⟩ : MethodName) (head1 (Jvm.Cond.code (⟨"java/lang/Integer", "valueOf", "(I)Ljava/lang/Integer;"⟩ : MethodName) jdk_33_method_22_code 1 (some (.object "java/lang/Integer")) :: ws) ({ frames := 3, cells := 1, slots := 1, locals := 38 } : Room)) (fun a U => a = #[(.int q0)] ∧ Z.Warmed39 U.vm ∧ U.heap = h0) (fun _ _ _ _ _ => True) (fun _ U o U' => ∃ v L, o = .returned v ∧ Q5 Z q0 ca ccl h0 n0 v U'.heap L ∧ FrameEnd U o U' L ({ frames := 3, cells := 1, slots := 1, locals := 38 } : Room).cells ({ frames := 3, cells := 1, slots := 1, locals := 38 } : Room).slots) := by
  refine MetFree.of_bodySF (plainFor_of_name pn_3) hisR ?_
  intro p e s m args below meth c s₁ Bd hml0 hP hK
  obtain ⟨rfl, hZ, hh⟩ := hP
  have hx := Bd.exec
  have hby := Bd.bytes
  have hret := Bd.returns
  have hlk : meth.locks = false := BodyLoose.notSynchronized Bd
  have hml : c.maxLocals = 1 := hml0
  have hown : s.vm.findClass "java/lang/Integer" = some m.cls := findClass_of_methodNamed Bd.named
  have hnm := (name_of_methodNamed Bd.named Bd.method).1
  have X0 : Stand p l e ({ frames := 3, cells := 1, slots := 1, locals := 38 } : Room) s m #[(.int q0)] below meth c s₁ [] 0 0 := Stand.of_body Bd
  have e0 : s₁.heap = h0 := by rw [← hh, Bd.state]; rfl
  have N0 := Fr.nil n0
  have K0 : Keep h0 h0 [] := Keep.refl _ _
  have pre0 : ∀ t, Steps p.tables e below (s₁.setTop (mkF m 0 #[.val (.int q0)] [])) t → Steps p.tables e below (s₁.setTop (entryFrame m #[(.int q0)] 1)) t := fun t k => castTop (ef_5 m q0) k
  show OFin p e below s (Q5 Z q0 ca ccl h0 n0) ({ frames := 3, cells := 1, slots := 1, locals := 38 } : Room).cells ({ frames := 3, cells := 1, slots := 1, locals := 38 } : Room).slots _
  refine OFin.go pre0 ?_
  have sg102 : ∀ t, Steps p.tables e below (s₁.setTop (mkF m 3 #[.val (.int q0)] [(.int (-128 : Int32)), (.int q0)])) t → Steps p.tables e below (s₁.setTop (mkF m 0 #[.val (.int q0)] [])) t := by
    intro t k
    show Steps p.tables e below (s₁.setTop (mkF m 0 #[.val (.int q0)] [])) t
    refine XS.iloadN X0.here hx rfl (hb hby d5_0) rfl ?_
    show Steps p.tables e below (s₁.setTop (mkF m 1 #[.val (.int q0)] [(.int q0)])) t
    refine XS.bipush X0.here hx rfl (hb hby d5_1) ?_
    exact k
  refine OFin.go sg102 ?_
  have c101 : ¬ (q0 < (-128 : Int32)) := (own_n128 hpos)
  have sg103 : ∀ t, Steps p.tables e below (s₁.setTop (mkF m 7 #[.val (.int q0)] [(.int q0)])) t → Steps p.tables e below (s₁.setTop (mkF m 3 #[.val (.int q0)] [(.int (-128 : Int32)), (.int q0)])) t := by
    intro t k
    show Steps p.tables e below (s₁.setTop (mkF m 3 #[.val (.int q0)] [(.int (-128 : Int32)), (.int q0)])) t
    refine XS.icmpNo X0.here hx rfl (hb hby d5_3) rfl (flt c101).1 ?_
    show Steps p.tables e below (s₁.setTop (mkF m 6 #[.val (.int q0)] [])) t
    refine XS.iloadN X0.here hx rfl (hb hby d5_6) rfl ?_
    exact k
  refine OFin.go sg103 ?_
  obtain ⟨T104, X104, e104, st104⟩ := getS2 X0 hx hZ hown (host := "") (Or.inl (hw _ (List.mem_of_getElem? (i := 32) rfl))) Via.refl e0 (S1.ext O0.2) (g := (mkF m 7 #[.val (.int q0)] [(.int q0)])) rfl (hb hby d5_7)
  refine OFin.go st104 ?_
  by_cases c105 : (127 : Int32) < q0
  · have sg106 : ∀ t, Steps p.tables e below (T104.setTop (mkF m 23 #[.val (.int q0)] [])) t → Steps p.tables e below (T104.setTop (mkF m 10 #[.val (.int q0)] [(.int (127 : Int32)), (.int q0)])) t := by
      intro t k
      show Steps p.tables e below (T104.setTop (mkF m 10 #[.val (.int q0)] [(.int (127 : Int32)), (.int q0)])) t
      refine XS.icmpYes X104.here hx rfl (pc0 := 10) (pc' := 23) rfl (hb hby d5_10) rfl (tlt c105).2.2.1 (by decide) (by decide) ?_
      exact k
    refine OFin.go sg106 ?_
    obtain ⟨T107, h107, X107, e107, E107, A107, D107, -, st107⟩ := newO X104 hx hZ hown (hw _ (List.mem_of_getElem? (i := 38) rfl)) (hw _ (List.mem_of_getElem? (i := 39) rfl)) (hw _ (List.mem_of_getElem? (i := 30) rfl)) e104 (g := (mkF m 23 #[.val (.int q0)] [])) rfl (hb hby d5_23) (by decide) (by decide)
    obtain ⟨b107, g107⟩ : ∃ z, z = h0.size := ⟨_, rfl⟩
    rw [← g107] at A107 D107 st107
    refine OFin.go st107 ?_
    have g_b107 : n0 ≤ b107 := Nat.le_trans (Nat.le_trans Z0 K0.1) (Nat.le_of_eq g107.symm)
    have sz_b107 : h0.size ≤ b107 := Nat.le_trans K0.1 (Nat.le_of_eq g107.symm)
    have K107 : Keep h0 h107 [] := K0.ext E107
    have F107_value : Fld Z h107 b107 "java/lang/Integer" "value" "I" (.int (0 : Int32)) := D107 (Or.inr (hw _ (List.mem_of_getElem? (i := 52) rfl))) (ty := .int) (by decide)
    have sg108 : ∀ t, Steps p.tables e below (T107.setTop (mkF m 28 #[.val (.int q0)] [(.int q0), (.ref b107), (.ref b107)])) t → Steps p.tables e below (T107.setTop (mkF m 26 #[.val (.int q0)] [(.ref b107)])) t := by
      intro t k
      show Steps p.tables e below (T107.setTop (mkF m 26 #[.val (.int q0)] [(.ref b107)])) t
      refine XS.dup X107.here hx rfl (hb hby d5_26) rfl rfl ?_
      show Steps p.tables e below (T107.setTop (mkF m 27 #[.val (.int q0)] [(.ref b107), (.ref b107)])) t
      refine XS.iloadN X107.here hx rfl (hb hby d5_27) rfl ?_
      exact k
    refine OFin.go sg108 ?_
    obtain ⟨_, _, ⟨T109, L109, k109, n109⟩, -, X109, ⟨Lc109, hQ109, l109, y109, z109⟩, st109⟩ := X107.specialBack hx (y := (⟨"java/lang/Integer", "<init>", "(I)V"⟩ : MethodName)) rfl hown (mvT hZ (hw _ (List.mem_of_getElem? (i := 40) rfl))) (mvT hZ (hw _ (List.mem_of_getElem? (i := 41) rfl))) (mvT hZ (hw _ (List.mem_of_getElem? (i := 43) rfl))) (by decide) (backOf (W := 1) (rm6 l Z aZ hw [] b107 q0 h107 n0 (Nat.le_trans Z0 K107.1) A107 F107_value g_b107) hZ (hw _ (List.mem_of_getElem? (i := 43) rfl)) (hw _ (List.mem_of_getElem? (i := 30) rfl)) (by decide) (by decide)) (g := (mkF m 28 #[.val (.int q0)] [(.int q0), (.ref b107), (.ref b107)])) rfl (by rw [hml]; rfl) (Steps.refl _) (a := b107) (argsL := [(.int q0)]) (rest := [(.ref b107)]) (lenOf pd_1 rfl) rfl (by show 2 * 0 + _ ≤ _; exact Nat.le_of_eq rfl) (hb hby d5_28) (fun _ _ => ⟨rfl, e107, (by decide : 1 + 0 ≤ _), (by decide : 1 + 0 ≤ _)⟩)
    dsimp only [Pt.U, Pt.locs, Pt.cells, Pt.slots] at X109 l109 y109 z109 st109 hQ109
    subst l109 y109 z109
    obtain ⟨rfl, N109q, Kq109⟩ := hQ109
    have N109 := Fr.app N0 N109q
    refine OFin.tr st109 ?_
    have K109 : Keep h0 T109.heap [] := K107.trans Kq109 (allS (Or.inr sz_b107) all0)
    exact OFin.retA X109 hx hret rfl rfl rfl hlk (hb hby d5_31) ⟨b107, rfl, N109, K109, (A107.keep Kq109)⟩ (by decide) (by decide)
  · have sg110 : ∀ t, Steps p.tables e below (T104.setTop (mkF m 13 #[.val (.int q0)] [])) t → Steps p.tables e below (T104.setTop (mkF m 10 #[.val (.int q0)] [(.int (127 : Int32)), (.int q0)])) t := by
      intro t k
      show Steps p.tables e below (T104.setTop (mkF m 10 #[.val (.int q0)] [(.int (127 : Int32)), (.int q0)])) t
      refine XS.icmpNo X104.here hx rfl (hb hby d5_10) rfl (flt c105).2.2.1 ?_
      exact k
    refine OFin.go sg110 ?_
    obtain ⟨T111, X111, e111, st111⟩ := getS2 X104 hx hZ hown (host := "") (Or.inl (hw _ (List.mem_of_getElem? (i := 34) rfl))) Via.refl e104 (S2.ext O0.2) (g := (mkF m 13 #[.val (.int q0)] [])) rfl (hb hby d5_13)
    refine OFin.go st111 ?_
    have sg113 : ∀ t, Steps p.tables e below (T111.setTop (mkF m 21 #[.val (.int q0)] [(.int (q0 + (128 : Int32))), (.ref ca)])) t → Steps p.tables e below (T111.setTop (mkF m 16 #[.val (.int q0)] [(.ref ca)])) t := by
      intro t k
      show Steps p.tables e below (T111.setTop (mkF m 16 #[.val (.int q0)] [(.ref ca)])) t
      refine XS.iloadN X111.here hx rfl (hb hby d5_16) rfl ?_
      show Steps p.tables e below (T111.setTop (mkF m 17 #[.val (.int q0)] [(.int q0), (.ref ca)])) t
      refine XS.sipush X111.here hx rfl (hb hby d5_17) ?_
      show Steps p.tables e below (T111.setTop (mkF m 20 #[.val (.int q0)] [(.int (128 : Int32)), (.int q0), (.ref ca)])) t
      refine XS.iadd X111.here hx rfl (hb hby d5_20) rfl ?_
      exact k
    refine OFin.go sg113 ?_
    have hj112 := own_ci c105 hpos
    have hin112 : ¬ ((q0 + (128 : Int32)) < 0 ∨ ccl.slots.size ≤ ((q0 + (128 : Int32))).toNatClampNeg) := inb_of hB.2.1 hj112
    obtain ⟨r112, hat112, Er112, -⟩ := hB.2.2.2 _ hin112
    have Ac112 := hB.1.ext O0.2
    have sg114 : ∀ t, Steps p.tables e below (T111.setTop (mkF m 22 #[.val (.int q0)] [(.ref r112)])) t → Steps p.tables e below (T111.setTop (mkF m 21 #[.val (.int q0)] [(.int (q0 + (128 : Int32))), (.ref ca)])) t := by
      intro t k
      show Steps p.tables e below (T111.setTop (mkF m 21 #[.val (.int q0)] [(.int (q0 + (128 : Int32))), (.ref ca)])) t
      refine X111.aaload hx (j := (q0 + (128 : Int32))) (v := (.ref r112)) (by rw [e111]; exact Ac112.1) (State.isArrayOf_alike hZ.alike Ac112.2.1) rfl Ac112.2.2 hin112 hat112 (g := (mkF m 21 #[.val (.int q0)] [(.int (q0 + (128 : Int32))), (.ref ca)])) rfl rfl (hb hby d5_21) _ ?_
      exact k
    refine OFin.go sg114 ?_
    exact OFin.retA X111 hx hret rfl rfl rfl hlk (hb hby d5_22) (by rw [e111]; exact ⟨r112, rfl, N0, K0, (Er112.ext O0.2)⟩) (by decide) (by decide)
theorem own_sym (a b : Addr) (x1 y1 z1 x2 y2 z2 e : Int32) (h : own_f4 a b x1 y1 z1 x2 y2 z2 = e) : own_f4 b a x2 y2 z2 x1 y1 z1 = e := by
  rw [← h]; unfold own_f4
  simp only [eq_comm]
theorem own_refl (a b : Addr) (x y z : Int32) : own_f4 a b x y z x y z = 1 := by unfold own_f4; simp
theorem own_p1 {x : Int32} (h : 1 ≤ x.toInt ∧ x.toInt ≤ 1024) : ¬ x < (1 : Int32) := by
  rw [Int32.lt_iff_toInt_lt]
  simp only [show (1 : Int32).toInt = 1 from rfl]
  omega
theorem ef_0 (m : MethodId) (x0 : Int32) (x1 : Int32) (x2 : Int32) (x3 : Int32) (x4 : Int32) (x5 : Int32) : entryFrame m #[(.int x0), (.int x1), (.int x2), (.int x3), (.int x4), (.int x5)] maxLocals = mkF m 0 #[.val (.int x0), .val (.int x1), .val (.int x2), .val (.int x3), .val (.int x4), .val (.int x5), .unset, .unset, .unset, .unset, .unset, .unset] [] := by first | (simp [entryFrame, mkF, argsToLocals, Value.category, maxLocals]; done) | rfl
def Q0 (Z : State) (q0 : Int32) (q1 : Int32) (q2 : Int32) (q3 : Int32) (q4 : Int32) (q5 : Int32) (ca : Addr) (ccl : Cell) (h0 : Heap) (n0 : Nat) (v : Option Value) (h : Heap) (L : List Loc) : Prop := v = some (.int (1 : Int32)) ∧ Fr n0 L
theorem pd_2 : parseMethodDescriptor "(Ljava/lang/Object;)Z" = some ⟨[(.object "java/lang/Object")], some .boolean⟩ := by decide +kernel
theorem pd_3 : parseMethodDescriptor "(I)Ljava/lang/Integer;" = some ⟨[.int], some (.object "java/lang/Integer")⟩ := by decide +kernel
set_option maxHeartbeats 40000000 in
theorem pt0_121 {p : Program} {l : Launch} {e : Env} {s : State} {m : MethodId} {below : List Frame} {meth : Method} {c : Code} {T0 : State} {locs : List Loc} (Z : State) (aZ : Array Value) (hw : ∀ d ∈ tables_1, d.before aZ Z = true) (q0 : Int32) (q1 : Int32) (q2 : Int32) (q3 : Int32) (q4 : Int32) (q5 : Int32) (ca : Addr) (ccl : Cell) (h0 : Heap) (n0 : Nat) (Z0 : n0 ≤ h0.size) (S1 : Sta Z Z.heap "java/lang/Integer$IntegerCache" "high" "I" (.int (127 : Int32))) (S2 : Sta Z Z.heap "java/lang/Integer$IntegerCache" "cache" "[Ljava/lang/Integer;" (.ref ca)) (hB : Bxs Z ca ccl "java/lang/Integer" "I" (256 : Int32) (fun j => .int (j - (128 : Int32)))) (p9 : Addr) (r9 : Addr) (s1 : Addr) (s2 : Addr) (s3 : Addr) (ex9 : Int32) (kp : ClassId) (x1 : Int32) (y1 : Int32) (z1 : Int32) (x2 : Int32) (y2 : Int32) (z2 : Int32) (hC : Heap)
    (X0 : Stand p l e room_1 s m #[(.int q0), (.int q1), (.int q2), (.int q3), (.int q4), (.int q5)] below meth c T0 locs 5 15) (hx : p.tables.exec = Jvm.exec) (hZ : Z.Warmed39 s.vm) (hby : c.code = code) (hml : c.maxLocals = 12) (hown : s.vm.findClass "com/example/parlint/parlint/BlockShapeEqualsPinLaw" = some m.cls) (hnm : meth.name = "law") (hret : meth.sig.returnType = some .boolean) (hlk : meth.locks = false) (e0 : T0.heap = hC) (K0 : Keep h0 hC []) (N0 : Fr n0 locs) (OC : Old Z n0 hC) (E_s1 : Exa Z hC s1 "com/example/parlint/parlint/BlockShape") (F_Xs1 : Fld Z hC s1 "com/example/parlint/parlint/BlockShape" "dimX" "I" (.int x1)) (F_Ys1 : Fld Z hC s1 "com/example/parlint/parlint/BlockShape" "dimY" "I" (.int y1)) (F_Zs1 : Fld Z hC s1 "com/example/parlint/parlint/BlockShape" "dimZ" "I" (.int z1)) (E_s2 : Exa Z hC s2 "com/example/parlint/parlint/BlockShape") (F_Xs2 : Fld Z hC s2 "com/example/parlint/parlint/BlockShape" "dimX" "I" (.int x2)) (F_Ys2 : Fld Z hC s2 "com/example/parlint/parlint/BlockShape" "dimY" "I" (.int y2)) (F_Zs2 : Fld Z hC s2 "com/example/parlint/parlint/BlockShape" "dimZ" "I" (.int z2)) (E_s3 : Exa Z hC s3 "com/example/parlint/parlint/BlockShape") (F_Xs3 : Fld Z hC s3 "com/example/parlint/parlint/BlockShape" "dimX" "I" (.int x1)) (F_Ys3 : Fld Z hC s3 "com/example/parlint/parlint/BlockShape" "dimY" "I" (.int y1)) (F_Zs3 : Fld Z hC s3 "com/example/parlint/parlint/BlockShape" "dimZ" "I" (.int z1)) (V_p : Arv Z hC p9 kp .int (3 : Int32) [(.int x1), (.int y1), (.int z1)] (.int (0 : Int32))) (hex : own_f4 s1 s2 x1 y1 z1 x2 y2 z2 = ex9) (hx1 : 1 ≤ x1.toInt ∧ x1.toInt ≤ 1024) :
    OFin p e below s (Q0 Z q0 q1 q2 q3 q4 q5 ca ccl h0 n0) room_1.cells room_1.slots (T0.setTop (mkF m 121 #[.val (.int q0), .val (.int q1), .val (.int q2), .val (.int q3), .val (.int q4), .val (.int q5), .val (.ref p9), .val (.ref r9), .val (.ref s1), .val (.ref s2), .val (.ref s3), .val (.int ex9)] [])) := by
  have sg101 : ∀ t, Steps p.tables e below (T0.setTop (mkF m 125 #[.val (.int q0), .val (.int q1), .val (.int q2), .val (.int q3), .val (.int q4), .val (.int q5), .val (.ref p9), .val (.ref r9), .val (.ref s1), .val (.ref s2), .val (.ref s3), .val (.int ex9)] [(.ref s2), (.ref s1)])) t → Steps p.tables e below (T0.setTop (mkF m 121 #[.val (.int q0), .val (.int q1), .val (.int q2), .val (.int q3), .val (.int q4), .val (.int q5), .val (.ref p9), .val (.ref r9), .val (.ref s1), .val (.ref s2), .val (.ref s3), .val (.int ex9)] [])) t := by
    intro t k
    show Steps p.tables e below (T0.setTop (mkF m 121 #[.val (.int q0), .val (.int q1), .val (.int q2), .val (.int q3), .val (.int q4), .val (.int q5), .val (.ref p9), .val (.ref r9), .val (.ref s1), .val (.ref s2), .val (.ref s3), .val (.int ex9)] [])) t
    refine XS.aload X0.here hx rfl (hb hby at_121) rfl rfl ?_
    show Steps p.tables e below (T0.setTop (mkF m 123 #[.val (.int q0), .val (.int q1), .val (.int q2), .val (.int q3), .val (.int q4), .val (.int q5), .val (.ref p9), .val (.ref r9), .val (.ref s1), .val (.ref s2), .val (.ref s3), .val (.int ex9)] [(.ref s1)])) t
    refine XS.aload X0.here hx rfl (hb hby at_123) rfl rfl ?_
    exact k
  refine OFin.go sg101 ?_
  obtain ⟨cq102, kq102, q102a, q102b, q102c⟩ := isOf hZ e0 E_s1
  obtain ⟨_, _, ⟨T102, L102, k102, n102⟩, -, X102, ⟨Lc102, hQ102, l102, y102, z102⟩, st102⟩ := X0.virtualBack hx (y := (⟨"com/example/parlint/parlint/BlockShape", "equals", "(Ljava/lang/Object;)Z"⟩ : MethodName)) (z := (⟨"com/example/parlint/parlint/BlockShape", "equals", "(Ljava/lang/Object;)Z"⟩ : MethodName)) hown (mvT hZ (hw _ (List.mem_of_getElem? (i := 21) rfl))) (mvT hZ (hw _ (List.mem_of_getElem? (i := 22) rfl))) (notFace_of_selects (args := #[]) (mvT hZ (hw _ (List.mem_of_getElem? (i := 24) rfl)))) (mvT hZ (hw _ (List.mem_of_getElem? (i := 24) rfl))) (mvT hZ (hw _ (List.mem_of_getElem? (i := 23) rfl))) (by decide) (backOf (W := 0) (rm4 l Z aZ hw [] s1 s2 x1 y1 z1 x2 y2 z2 hC n0 (Nat.le_trans Z0 K0.1) E_s2 F_Xs1 F_Ys1 F_Zs1 F_Xs2 F_Ys2 F_Zs2) hZ (hw _ (List.mem_of_getElem? (i := 25) rfl)) (hw _ (List.mem_of_getElem? (i := 8) rfl)) (by decide) (by decide)) q102a q102c (g := (mkF m 125 #[.val (.int q0), .val (.int q1), .val (.int q2), .val (.int q3), .val (.int q4), .val (.int q5), .val (.ref p9), .val (.ref r9), .val (.ref s1), .val (.ref s2), .val (.ref s3), .val (.int ex9)] [(.ref s2), (.ref s1)])) rfl (by rw [hml]; rfl) (Steps.refl _) (argsL := [(.ref s2)]) (rest := []) (lenOf pd_2 rfl) rfl (by show 2 * 0 + _ ≤ _; exact Nat.le_of_eq rfl) (hb hby at_125) (fun _ _ => ⟨rfl, e0, (by decide : 5 + 0 ≤ _), (by decide : 15 + 0 ≤ _)⟩)
  dsimp only [Pt.U, Pt.locs, Pt.cells, Pt.slots] at X102 l102 y102 z102 st102 hQ102
  subst l102 y102 z102
  obtain ⟨rfl, N102q, e102⟩ := hQ102
  have N102 := Fr.app N0 N102q
  refine OFin.tr st102 ?_
  have sg104 : ∀ t, Steps p.tables e below (T102.setTop (mkF m 130 #[.val (.int q0), .val (.int q1), .val (.int q2), .val (.int q3), .val (.int q4), .val (.int q5), .val (.ref p9), .val (.ref r9), .val (.ref s1), .val (.ref s2), .val (.ref s3), .val (.int ex9)] [(.int ex9), (.int (own_f4 s1 s2 x1 y1 z1 x2 y2 z2))])) t → Steps p.tables e below (T102.setTop (mkF m 128 #[.val (.int q0), .val (.int q1), .val (.int q2), .val (.int q3), .val (.int q4), .val (.int q5), .val (.ref p9), .val (.ref r9), .val (.ref s1), .val (.ref s2), .val (.ref s3), .val (.int ex9)] [(.int (own_f4 s1 s2 x1 y1 z1 x2 y2 z2))])) t := by
    intro t k
    show Steps p.tables e below (T102.setTop (mkF m 128 #[.val (.int q0), .val (.int q1), .val (.int q2), .val (.int q3), .val (.int q4), .val (.int q5), .val (.ref p9), .val (.ref r9), .val (.ref s1), .val (.ref s2), .val (.ref s3), .val (.int ex9)] [(.int (own_f4 s1 s2 x1 y1 z1 x2 y2 z2))])) t
    refine XS.iload X102.here hx rfl (hb hby at_128) rfl ?_
    exact k
  refine OFin.go sg104 ?_
  have c103 : (own_f4 s1 s2 x1 y1 z1 x2 y2 z2) = ex9 := hex
  have sg105 : ∀ t, Steps p.tables e below (T102.setTop (mkF m 139 #[.val (.int q0), .val (.int q1), .val (.int q2), .val (.int q3), .val (.int q4), .val (.int q5), .val (.ref p9), .val (.ref r9), .val (.ref s1), .val (.ref s2), .val (.ref s3), .val (.int ex9)] [(.ref s1), (.ref s2)])) t → Steps p.tables e below (T102.setTop (mkF m 130 #[.val (.int q0), .val (.int q1), .val (.int q2), .val (.int q3), .val (.int q4), .val (.int q5), .val (.ref p9), .val (.ref r9), .val (.ref s1), .val (.ref s2), .val (.ref s3), .val (.int ex9)] [(.int ex9), (.int (own_f4 s1 s2 x1 y1 z1 x2 y2 z2))])) t := by
    intro t k
    show Steps p.tables e below (T102.setTop (mkF m 130 #[.val (.int q0), .val (.int q1), .val (.int q2), .val (.int q3), .val (.int q4), .val (.int q5), .val (.ref p9), .val (.ref r9), .val (.ref s1), .val (.ref s2), .val (.ref s3), .val (.int ex9)] [(.int ex9), (.int (own_f4 s1 s2 x1 y1 z1 x2 y2 z2))])) t
    refine XS.icmpYes X102.here hx rfl (pc0 := 130) (pc' := 135) rfl (hb hby at_130) rfl (teq c103).1 (by decide) (by decide) ?_
    show Steps p.tables e below (T102.setTop (mkF m 135 #[.val (.int q0), .val (.int q1), .val (.int q2), .val (.int q3), .val (.int q4), .val (.int q5), .val (.ref p9), .val (.ref r9), .val (.ref s1), .val (.ref s2), .val (.ref s3), .val (.int ex9)] [])) t
    refine XS.aload X102.here hx rfl (hb hby at_135) rfl rfl ?_
    show Steps p.tables e below (T102.setTop (mkF m 137 #[.val (.int q0), .val (.int q1), .val (.int q2), .val (.int q3), .val (.int q4), .val (.int q5), .val (.ref p9), .val (.ref r9), .val (.ref s1), .val (.ref s2), .val (.ref s3), .val (.int ex9)] [(.ref s2)])) t
    refine XS.aload X102.here hx rfl (hb hby at_137) rfl rfl ?_
    exact k
  refine OFin.go sg105 ?_
  obtain ⟨cq106, kq106, q106a, q106b, q106c⟩ := isOf hZ e102 E_s2
  obtain ⟨_, _, ⟨T106, L106, k106, n106⟩, -, X106, ⟨Lc106, hQ106, l106, y106, z106⟩, st106⟩ := X102.virtualBack hx (y := (⟨"com/example/parlint/parlint/BlockShape", "equals", "(Ljava/lang/Object;)Z"⟩ : MethodName)) (z := (⟨"com/example/parlint/parlint/BlockShape", "equals", "(Ljava/lang/Object;)Z"⟩ : MethodName)) hown (mvT hZ (hw _ (List.mem_of_getElem? (i := 21) rfl))) (mvT hZ (hw _ (List.mem_of_getElem? (i := 22) rfl))) (notFace_of_selects (args := #[]) (mvT hZ (hw _ (List.mem_of_getElem? (i := 24) rfl)))) (mvT hZ (hw _ (List.mem_of_getElem? (i := 24) rfl))) (mvT hZ (hw _ (List.mem_of_getElem? (i := 23) rfl))) (by decide) (backOf (W := 0) (rm4 l Z aZ hw [] s2 s1 x2 y2 z2 x1 y1 z1 hC n0 (Nat.le_trans Z0 K0.1) E_s1 F_Xs2 F_Ys2 F_Zs2 F_Xs1 F_Ys1 F_Zs1) hZ (hw _ (List.mem_of_getElem? (i := 25) rfl)) (hw _ (List.mem_of_getElem? (i := 8) rfl)) (by decide) (by decide)) q106a q106c (g := (mkF m 139 #[.val (.int q0), .val (.int q1), .val (.int q2), .val (.int q3), .val (.int q4), .val (.int q5), .val (.ref p9), .val (.ref r9), .val (.ref s1), .val (.ref s2), .val (.ref s3), .val (.int ex9)] [(.ref s1), (.ref s2)])) rfl (by rw [hml]; rfl) (Steps.refl _) (argsL := [(.ref s1)]) (rest := []) (lenOf pd_2 rfl) rfl (by show 2 * 0 + _ ≤ _; exact Nat.le_of_eq rfl) (hb hby at_139) (fun _ _ => ⟨rfl, e102, (by decide : 5 + 0 ≤ _), (by decide : 15 + 0 ≤ _)⟩)
  dsimp only [Pt.U, Pt.locs, Pt.cells, Pt.slots] at X106 l106 y106 z106 st106 hQ106
  subst l106 y106 z106
  obtain ⟨rfl, N106q, e106⟩ := hQ106
  have N106 := Fr.app N102 N106q
  refine OFin.tr st106 ?_
  have sg108 : ∀ t, Steps p.tables e below (T106.setTop (mkF m 144 #[.val (.int q0), .val (.int q1), .val (.int q2), .val (.int q3), .val (.int q4), .val (.int q5), .val (.ref p9), .val (.ref r9), .val (.ref s1), .val (.ref s2), .val (.ref s3), .val (.int ex9)] [(.int ex9), (.int (own_f4 s2 s1 x2 y2 z2 x1 y1 z1))])) t → Steps p.tables e below (T106.setTop (mkF m 142 #[.val (.int q0), .val (.int q1), .val (.int q2), .val (.int q3), .val (.int q4), .val (.int q5), .val (.ref p9), .val (.ref r9), .val (.ref s1), .val (.ref s2), .val (.ref s3), .val (.int ex9)] [(.int (own_f4 s2 s1 x2 y2 z2 x1 y1 z1))])) t := by
    intro t k
    show Steps p.tables e below (T106.setTop (mkF m 142 #[.val (.int q0), .val (.int q1), .val (.int q2), .val (.int q3), .val (.int q4), .val (.int q5), .val (.ref p9), .val (.ref r9), .val (.ref s1), .val (.ref s2), .val (.ref s3), .val (.int ex9)] [(.int (own_f4 s2 s1 x2 y2 z2 x1 y1 z1))])) t
    refine XS.iload X106.here hx rfl (hb hby at_142) rfl ?_
    exact k
  refine OFin.go sg108 ?_
  have c107 : (own_f4 s2 s1 x2 y2 z2 x1 y1 z1) = ex9 := (own_sym _ _ _ _ _ _ _ _ _ hex)
  have sg109 : ∀ t, Steps p.tables e below (T106.setTop (mkF m 153 #[.val (.int q0), .val (.int q1), .val (.int q2), .val (.int q3), .val (.int q4), .val (.int q5), .val (.ref p9), .val (.ref r9), .val (.ref s1), .val (.ref s2), .val (.ref s3), .val (.int ex9)] [(.ref s3), (.ref s1)])) t → Steps p.tables e below (T106.setTop (mkF m 144 #[.val (.int q0), .val (.int q1), .val (.int q2), .val (.int q3), .val (.int q4), .val (.int q5), .val (.ref p9), .val (.ref r9), .val (.ref s1), .val (.ref s2), .val (.ref s3), .val (.int ex9)] [(.int ex9), (.int (own_f4 s2 s1 x2 y2 z2 x1 y1 z1))])) t := by
    intro t k
    show Steps p.tables e below (T106.setTop (mkF m 144 #[.val (.int q0), .val (.int q1), .val (.int q2), .val (.int q3), .val (.int q4), .val (.int q5), .val (.ref p9), .val (.ref r9), .val (.ref s1), .val (.ref s2), .val (.ref s3), .val (.int ex9)] [(.int ex9), (.int (own_f4 s2 s1 x2 y2 z2 x1 y1 z1))])) t
    refine XS.icmpYes X106.here hx rfl (pc0 := 144) (pc' := 149) rfl (hb hby at_144) rfl (teq c107).1 (by decide) (by decide) ?_
    show Steps p.tables e below (T106.setTop (mkF m 149 #[.val (.int q0), .val (.int q1), .val (.int q2), .val (.int q3), .val (.int q4), .val (.int q5), .val (.ref p9), .val (.ref r9), .val (.ref s1), .val (.ref s2), .val (.ref s3), .val (.int ex9)] [])) t
    refine XS.aload X106.here hx rfl (hb hby at_149) rfl rfl ?_
    show Steps p.tables e below (T106.setTop (mkF m 151 #[.val (.int q0), .val (.int q1), .val (.int q2), .val (.int q3), .val (.int q4), .val (.int q5), .val (.ref p9), .val (.ref r9), .val (.ref s1), .val (.ref s2), .val (.ref s3), .val (.int ex9)] [(.ref s1)])) t
    refine XS.aload X106.here hx rfl (hb hby at_151) rfl rfl ?_
    exact k
  refine OFin.go sg109 ?_
  obtain ⟨cq110, kq110, q110a, q110b, q110c⟩ := isOf hZ e106 E_s1
  obtain ⟨_, _, ⟨T110, L110, k110, n110⟩, -, X110, ⟨Lc110, hQ110, l110, y110, z110⟩, st110⟩ := X106.virtualBack hx (y := (⟨"com/example/parlint/parlint/BlockShape", "equals", "(Ljava/lang/Object;)Z"⟩ : MethodName)) (z := (⟨"com/example/parlint/parlint/BlockShape", "equals", "(Ljava/lang/Object;)Z"⟩ : MethodName)) hown (mvT hZ (hw _ (List.mem_of_getElem? (i := 21) rfl))) (mvT hZ (hw _ (List.mem_of_getElem? (i := 22) rfl))) (notFace_of_selects (args := #[]) (mvT hZ (hw _ (List.mem_of_getElem? (i := 24) rfl)))) (mvT hZ (hw _ (List.mem_of_getElem? (i := 24) rfl))) (mvT hZ (hw _ (List.mem_of_getElem? (i := 23) rfl))) (by decide) (backOf (W := 0) (rm4 l Z aZ hw [] s1 s3 x1 y1 z1 x1 y1 z1 hC n0 (Nat.le_trans Z0 K0.1) E_s3 F_Xs1 F_Ys1 F_Zs1 F_Xs3 F_Ys3 F_Zs3) hZ (hw _ (List.mem_of_getElem? (i := 25) rfl)) (hw _ (List.mem_of_getElem? (i := 8) rfl)) (by decide) (by decide)) q110a q110c (g := (mkF m 153 #[.val (.int q0), .val (.int q1), .val (.int q2), .val (.int q3), .val (.int q4), .val (.int q5), .val (.ref p9), .val (.ref r9), .val (.ref s1), .val (.ref s2), .val (.ref s3), .val (.int ex9)] [(.ref s3), (.ref s1)])) rfl (by rw [hml]; rfl) (Steps.refl _) (argsL := [(.ref s3)]) (rest := []) (lenOf pd_2 rfl) rfl (by show 2 * 0 + _ ≤ _; exact Nat.le_of_eq rfl) (hb hby at_153) (fun _ _ => ⟨rfl, e106, (by decide : 5 + 0 ≤ _), (by decide : 15 + 0 ≤ _)⟩)
  dsimp only [Pt.U, Pt.locs, Pt.cells, Pt.slots] at X110 l110 y110 z110 st110 hQ110
  subst l110 y110 z110
  obtain ⟨rfl, N110q, e110⟩ := hQ110
  have N110 := Fr.app N106 N110q
  refine OFin.tr st110 ?_
  have c111 : ¬ ((own_f4 s1 s3 x1 y1 z1 x1 y1 z1) = (0 : Int32)) := (by rw [own_refl]; decide)
  have sg112 : ∀ t, Steps p.tables e below (T110.setTop (mkF m 165 #[.val (.int q0), .val (.int q1), .val (.int q2), .val (.int q3), .val (.int q4), .val (.int q5), .val (.ref p9), .val (.ref r9), .val (.ref s1), .val (.ref s2), .val (.ref s3), .val (.int ex9)] [(.ref s1), (.ref s1)])) t → Steps p.tables e below (T110.setTop (mkF m 156 #[.val (.int q0), .val (.int q1), .val (.int q2), .val (.int q3), .val (.int q4), .val (.int q5), .val (.ref p9), .val (.ref r9), .val (.ref s1), .val (.ref s2), .val (.ref s3), .val (.int ex9)] [(.int (own_f4 s1 s3 x1 y1 z1 x1 y1 z1))])) t := by
    intro t k
    show Steps p.tables e below (T110.setTop (mkF m 156 #[.val (.int q0), .val (.int q1), .val (.int q2), .val (.int q3), .val (.int q4), .val (.int q5), .val (.ref p9), .val (.ref r9), .val (.ref s1), .val (.ref s2), .val (.ref s3), .val (.int ex9)] [(.int (own_f4 s1 s3 x1 y1 z1 x1 y1 z1))])) t
    refine XS.ifYes X110.here hx rfl (pc0 := 156) (pc' := 161) rfl (hb hby at_156) rfl ((if0 _ _).trans (feq c111).2) (by decide) (by decide) ?_
    show Steps p.tables e below (T110.setTop (mkF m 161 #[.val (.int q0), .val (.int q1), .val (.int q2), .val (.int q3), .val (.int q4), .val (.int q5), .val (.ref p9), .val (.ref r9), .val (.ref s1), .val (.ref s2), .val (.ref s3), .val (.int ex9)] [])) t
    refine XS.aload X110.here hx rfl (hb hby at_161) rfl rfl ?_
    show Steps p.tables e below (T110.setTop (mkF m 163 #[.val (.int q0), .val (.int q1), .val (.int q2), .val (.int q3), .val (.int q4), .val (.int q5), .val (.ref p9), .val (.ref r9), .val (.ref s1), .val (.ref s2), .val (.ref s3), .val (.int ex9)] [(.ref s1)])) t
    refine XS.aload X110.here hx rfl (hb hby at_163) rfl rfl ?_
    exact k
  refine OFin.go sg112 ?_
  obtain ⟨cq113, kq113, q113a, q113b, q113c⟩ := isOf hZ e110 E_s1
  obtain ⟨_, _, ⟨T113, L113, k113, n113⟩, -, X113, ⟨Lc113, hQ113, l113, y113, z113⟩, st113⟩ := X110.virtualBack hx (y := (⟨"com/example/parlint/parlint/BlockShape", "equals", "(Ljava/lang/Object;)Z"⟩ : MethodName)) (z := (⟨"com/example/parlint/parlint/BlockShape", "equals", "(Ljava/lang/Object;)Z"⟩ : MethodName)) hown (mvT hZ (hw _ (List.mem_of_getElem? (i := 21) rfl))) (mvT hZ (hw _ (List.mem_of_getElem? (i := 22) rfl))) (notFace_of_selects (args := #[]) (mvT hZ (hw _ (List.mem_of_getElem? (i := 24) rfl)))) (mvT hZ (hw _ (List.mem_of_getElem? (i := 24) rfl))) (mvT hZ (hw _ (List.mem_of_getElem? (i := 23) rfl))) (by decide) (backOf (W := 0) (rm4 l Z aZ hw [] s1 s1 x1 y1 z1 x1 y1 z1 hC n0 (Nat.le_trans Z0 K0.1) E_s1 F_Xs1 F_Ys1 F_Zs1 F_Xs1 F_Ys1 F_Zs1) hZ (hw _ (List.mem_of_getElem? (i := 25) rfl)) (hw _ (List.mem_of_getElem? (i := 8) rfl)) (by decide) (by decide)) q113a q113c (g := (mkF m 165 #[.val (.int q0), .val (.int q1), .val (.int q2), .val (.int q3), .val (.int q4), .val (.int q5), .val (.ref p9), .val (.ref r9), .val (.ref s1), .val (.ref s2), .val (.ref s3), .val (.int ex9)] [(.ref s1), (.ref s1)])) rfl (by rw [hml]; rfl) (Steps.refl _) (argsL := [(.ref s1)]) (rest := []) (lenOf pd_2 rfl) rfl (by show 2 * 0 + _ ≤ _; exact Nat.le_of_eq rfl) (hb hby at_165) (fun _ _ => ⟨rfl, e110, (by decide : 5 + 0 ≤ _), (by decide : 15 + 0 ≤ _)⟩)
  dsimp only [Pt.U, Pt.locs, Pt.cells, Pt.slots] at X113 l113 y113 z113 st113 hQ113
  subst l113 y113 z113
  obtain ⟨rfl, N113q, e113⟩ := hQ113
  have N113 := Fr.app N110 N113q
  refine OFin.tr st113 ?_
  have c114 : ¬ ((own_f4 s1 s1 x1 y1 z1 x1 y1 z1) = (0 : Int32)) := (by rw [own_refl]; decide)
  have sg115 : ∀ t, Steps p.tables e below (T113.setTop (mkF m 176 #[.val (.int q0), .val (.int q1), .val (.int q2), .val (.int q3), .val (.int q4), .val (.int q5), .val (.ref p9), .val (.ref r9), .val (.ref s1), .val (.ref s2), .val (.ref s3), .val (.int ex9)] [.null, (.ref s1)])) t → Steps p.tables e below (T113.setTop (mkF m 168 #[.val (.int q0), .val (.int q1), .val (.int q2), .val (.int q3), .val (.int q4), .val (.int q5), .val (.ref p9), .val (.ref r9), .val (.ref s1), .val (.ref s2), .val (.ref s3), .val (.int ex9)] [(.int (own_f4 s1 s1 x1 y1 z1 x1 y1 z1))])) t := by
    intro t k
    show Steps p.tables e below (T113.setTop (mkF m 168 #[.val (.int q0), .val (.int q1), .val (.int q2), .val (.int q3), .val (.int q4), .val (.int q5), .val (.ref p9), .val (.ref r9), .val (.ref s1), .val (.ref s2), .val (.ref s3), .val (.int ex9)] [(.int (own_f4 s1 s1 x1 y1 z1 x1 y1 z1))])) t
    refine XS.ifYes X113.here hx rfl (pc0 := 168) (pc' := 173) rfl (hb hby at_168) rfl ((if0 _ _).trans (feq c114).2) (by decide) (by decide) ?_
    show Steps p.tables e below (T113.setTop (mkF m 173 #[.val (.int q0), .val (.int q1), .val (.int q2), .val (.int q3), .val (.int q4), .val (.int q5), .val (.ref p9), .val (.ref r9), .val (.ref s1), .val (.ref s2), .val (.ref s3), .val (.int ex9)] [])) t
    refine XS.aload X113.here hx rfl (hb hby at_173) rfl rfl ?_
    show Steps p.tables e below (T113.setTop (mkF m 175 #[.val (.int q0), .val (.int q1), .val (.int q2), .val (.int q3), .val (.int q4), .val (.int q5), .val (.ref p9), .val (.ref r9), .val (.ref s1), .val (.ref s2), .val (.ref s3), .val (.int ex9)] [(.ref s1)])) t
    refine XS.aconstNull X113.here hx rfl (hb hby at_175) ?_
    exact k
  refine OFin.go sg115 ?_
  obtain ⟨cq116, kq116, q116a, q116b, q116c⟩ := isOf hZ e113 E_s1
  obtain ⟨_, _, ⟨T116, L116, k116, n116⟩, -, X116, ⟨Lc116, hQ116, l116, y116, z116⟩, st116⟩ := X113.virtualBack hx (y := (⟨"com/example/parlint/parlint/BlockShape", "equals", "(Ljava/lang/Object;)Z"⟩ : MethodName)) (z := (⟨"com/example/parlint/parlint/BlockShape", "equals", "(Ljava/lang/Object;)Z"⟩ : MethodName)) hown (mvT hZ (hw _ (List.mem_of_getElem? (i := 21) rfl))) (mvT hZ (hw _ (List.mem_of_getElem? (i := 22) rfl))) (notFace_of_selects (args := #[]) (mvT hZ (hw _ (List.mem_of_getElem? (i := 24) rfl)))) (mvT hZ (hw _ (List.mem_of_getElem? (i := 24) rfl))) (mvT hZ (hw _ (List.mem_of_getElem? (i := 23) rfl))) (by decide) (backOf (W := 0) (rm4n l Z aZ hw [] s1 hC n0 (Nat.le_trans Z0 K0.1) ) hZ (hw _ (List.mem_of_getElem? (i := 25) rfl)) (hw _ (List.mem_of_getElem? (i := 8) rfl)) (by decide) (by decide)) q116a q116c (g := (mkF m 176 #[.val (.int q0), .val (.int q1), .val (.int q2), .val (.int q3), .val (.int q4), .val (.int q5), .val (.ref p9), .val (.ref r9), .val (.ref s1), .val (.ref s2), .val (.ref s3), .val (.int ex9)] [.null, (.ref s1)])) rfl (by rw [hml]; rfl) (Steps.refl _) (argsL := [.null]) (rest := []) (lenOf pd_2 rfl) rfl (by show 2 * 0 + _ ≤ _; exact Nat.le_of_eq rfl) (hb hby at_176) (fun _ _ => ⟨rfl, e113, (by decide : 5 + 0 ≤ _), (by decide : 15 + 0 ≤ _)⟩)
  dsimp only [Pt.U, Pt.locs, Pt.cells, Pt.slots] at X116 l116 y116 z116 st116 hQ116
  subst l116 y116 z116
  obtain ⟨rfl, N116q, e116⟩ := hQ116
  have N116 := Fr.app N113 N116q
  refine OFin.tr st116 ?_
  have sg117 : ∀ t, Steps p.tables e below (T116.setTop (mkF m 189 #[.val (.int q0), .val (.int q1), .val (.int q2), .val (.int q3), .val (.int q4), .val (.int q5), .val (.ref p9), .val (.ref r9), .val (.ref s1), .val (.ref s2), .val (.ref s3), .val (.int ex9)] [(.int (0 : Int32)), (.ref p9), (.ref s1)])) t → Steps p.tables e below (T116.setTop (mkF m 179 #[.val (.int q0), .val (.int q1), .val (.int q2), .val (.int q3), .val (.int q4), .val (.int q5), .val (.ref p9), .val (.ref r9), .val (.ref s1), .val (.ref s2), .val (.ref s3), .val (.int ex9)] [(.int (0 : Int32))])) t := by
    intro t k
    show Steps p.tables e below (T116.setTop (mkF m 179 #[.val (.int q0), .val (.int q1), .val (.int q2), .val (.int q3), .val (.int q4), .val (.int q5), .val (.ref p9), .val (.ref r9), .val (.ref s1), .val (.ref s2), .val (.ref s3), .val (.int ex9)] [(.int (0 : Int32))])) t
    refine XS.ifYes X116.here hx rfl (pc0 := 179) (pc' := 184) rfl (hb hby at_179) rfl ((if0 _ _).trans (teq (by decide : (0 : Int32) = (0 : Int32))).1) (by decide) (by decide) ?_
    show Steps p.tables e below (T116.setTop (mkF m 184 #[.val (.int q0), .val (.int q1), .val (.int q2), .val (.int q3), .val (.int q4), .val (.int q5), .val (.ref p9), .val (.ref r9), .val (.ref s1), .val (.ref s2), .val (.ref s3), .val (.int ex9)] [])) t
    refine XS.aload X116.here hx rfl (hb hby at_184) rfl rfl ?_
    show Steps p.tables e below (T116.setTop (mkF m 186 #[.val (.int q0), .val (.int q1), .val (.int q2), .val (.int q3), .val (.int q4), .val (.int q5), .val (.ref p9), .val (.ref r9), .val (.ref s1), .val (.ref s2), .val (.ref s3), .val (.int ex9)] [(.ref s1)])) t
    refine XS.aload X116.here hx rfl (hb hby at_186) rfl rfl ?_
    show Steps p.tables e below (T116.setTop (mkF m 188 #[.val (.int q0), .val (.int q1), .val (.int q2), .val (.int q3), .val (.int q4), .val (.int q5), .val (.ref p9), .val (.ref r9), .val (.ref s1), .val (.ref s2), .val (.ref s3), .val (.int ex9)] [(.ref p9), (.ref s1)])) t
    refine XS.iconst X116.here hx rfl (hb hby at_188) ?_
    exact k
  refine OFin.go sg117 ?_
  obtain ⟨cl118, Ar118, q118, S118, M118, H118, G118⟩ := id V_p
  have hin118 : ¬ ((0 : Int32) < 0 ∨ cl118.slots.size ≤ ((0 : Int32)).toNatClampNeg) := inb_of S118 ⟨by decide, by decide⟩
  have hat118 : cl118.slots[((0 : Int32)).toNatClampNeg]? = some (.int x1) := H118.at hin118 rfl
  have sg119 : ∀ t, Steps p.tables e below (T116.setTop (mkF m 190 #[.val (.int q0), .val (.int q1), .val (.int q2), .val (.int q3), .val (.int q4), .val (.int q5), .val (.ref p9), .val (.ref r9), .val (.ref s1), .val (.ref s2), .val (.ref s3), .val (.int ex9)] [(.int x1), (.ref s1)])) t → Steps p.tables e below (T116.setTop (mkF m 189 #[.val (.int q0), .val (.int q1), .val (.int q2), .val (.int q3), .val (.int q4), .val (.int q5), .val (.ref p9), .val (.ref r9), .val (.ref s1), .val (.ref s2), .val (.ref s3), .val (.int ex9)] [(.int (0 : Int32)), (.ref p9), (.ref s1)])) t := by
    intro t k
    show Steps p.tables e below (T116.setTop (mkF m 189 #[.val (.int q0), .val (.int q1), .val (.int q2), .val (.int q3), .val (.int q4), .val (.int q5), .val (.ref p9), .val (.ref r9), .val (.ref s1), .val (.ref s2), .val (.ref s3), .val (.int ex9)] [(.int (0 : Int32)), (.ref p9), (.ref s1)])) t
    refine X116.iaload hx (j := (0 : Int32)) (v := (.int x1)) (by rw [e116]; exact Ar118.1) (State.isArrayOf_alike hZ.alike Ar118.2.1) Ar118.2.2 hin118 hat118 (g := (mkF m 189 #[.val (.int q0), .val (.int q1), .val (.int q2), .val (.int q3), .val (.int q4), .val (.int q5), .val (.ref p9), .val (.ref r9), .val (.ref s1), .val (.ref s2), .val (.ref s3), .val (.int ex9)] [(.int (0 : Int32)), (.ref p9), (.ref s1)])) rfl rfl (hb hby at_189) _ ?_
    exact k
  refine OFin.go sg119 ?_
  obtain ⟨_, _, ⟨T120, L120, k120, n120⟩, -, X120, ⟨Lc120, hQ120, l120, y120, z120⟩, st120⟩ := Jvm.LawKit.callS X116 hx (y := (⟨"java/lang/Integer", "valueOf", "(I)Ljava/lang/Integer;"⟩ : MethodName)) hown (mvT hZ (hw _ (List.mem_of_getElem? (i := 28) rfl))) (mvT hZ (hw _ (List.mem_of_getElem? (i := 29) rfl))) (mvT hZ (hw _ (List.mem_of_getElem? (i := 30) rfl))) (mvT hZ (hw _ (List.mem_of_getElem? (i := 31) rfl))) (by decide) (backOf (W := 1) (rm5 l Z aZ hw [] x1 ca ccl hC n0 (Nat.le_trans Z0 K0.1) OC S1 S2 hB (own_p1 hx1)) hZ (hw _ (List.mem_of_getElem? (i := 31) rfl)) (hw _ (List.mem_of_getElem? (i := 30) rfl)) (by decide) (by decide)) (g := (mkF m 190 #[.val (.int q0), .val (.int q1), .val (.int q2), .val (.int q3), .val (.int q4), .val (.int q5), .val (.ref p9), .val (.ref r9), .val (.ref s1), .val (.ref s2), .val (.ref s3), .val (.int ex9)] [(.int x1), (.ref s1)])) rfl (by rw [hml]; rfl) (argsL := [(.int x1)]) (rest := [(.ref s1)]) (lenOf pd_3 rfl) rfl (by show 2 * 0 + _ ≤ _; exact Nat.le_of_eq rfl) (hb hby at_190) (fun _ _ => ⟨rfl, e116, (by decide : 5 + 1 ≤ _), (by decide : 15 + 1 ≤ _)⟩)
  dsimp only [Pt.U, Pt.locs, Pt.cells, Pt.slots] at X120 l120 y120 z120 st120 hQ120
  subst l120 y120 z120
  obtain ⟨b9120, rfl, N120q, Kq120, P120_0⟩ := hQ120
  have N120 := Fr.app N116 N120q
  refine OFin.go st120 ?_
  have K120 : Keep h0 T120.heap [] := K0.trans Kq120 all0
  obtain ⟨cq121, kq121, q121a, q121b, q121c⟩ := isOf hZ rfl (E_s1.keep Kq120)
  obtain ⟨_, _, ⟨T121, L121, k121, n121⟩, -, X121, ⟨Lc121, hQ121, l121, y121, z121⟩, st121⟩ := X120.virtualBack hx (y := (⟨"com/example/parlint/parlint/BlockShape", "equals", "(Ljava/lang/Object;)Z"⟩ : MethodName)) (z := (⟨"com/example/parlint/parlint/BlockShape", "equals", "(Ljava/lang/Object;)Z"⟩ : MethodName)) hown (mvT hZ (hw _ (List.mem_of_getElem? (i := 21) rfl))) (mvT hZ (hw _ (List.mem_of_getElem? (i := 22) rfl))) (notFace_of_selects (args := #[]) (mvT hZ (hw _ (List.mem_of_getElem? (i := 24) rfl)))) (mvT hZ (hw _ (List.mem_of_getElem? (i := 24) rfl))) (mvT hZ (hw _ (List.mem_of_getElem? (i := 23) rfl))) (by decide) (backOf (W := 0) (rm4i l Z aZ hw [] s1 b9120 T120.heap n0 (Nat.le_trans Z0 K120.1) P120_0) hZ (hw _ (List.mem_of_getElem? (i := 25) rfl)) (hw _ (List.mem_of_getElem? (i := 8) rfl)) (by decide) (by decide)) q121a q121c (g := (mkF m 193 #[.val (.int q0), .val (.int q1), .val (.int q2), .val (.int q3), .val (.int q4), .val (.int q5), .val (.ref p9), .val (.ref r9), .val (.ref s1), .val (.ref s2), .val (.ref s3), .val (.int ex9)] [(.ref b9120), (.ref s1)])) rfl (by rw [hml]; rfl) (Steps.refl _) (argsL := [(.ref b9120)]) (rest := []) (lenOf pd_2 rfl) rfl (by show 2 * 0 + _ ≤ _; exact Nat.le_of_eq rfl) (hb hby at_193) (fun _ _ => ⟨rfl, rfl, (by decide : 6 + 0 ≤ _), (by decide : 16 + 0 ≤ _)⟩)
  dsimp only [Pt.U, Pt.locs, Pt.cells, Pt.slots] at X121 l121 y121 z121 st121 hQ121
  subst l121 y121 z121
  obtain ⟨rfl, N121q, e121⟩ := hQ121
  have N121 := Fr.app N120 N121q
  refine OFin.tr st121 ?_
  have sg122 : ∀ t, Steps p.tables e below (T121.setTop (mkF m 202 #[.val (.int q0), .val (.int q1), .val (.int q2), .val (.int q3), .val (.int q4), .val (.int q5), .val (.ref p9), .val (.ref r9), .val (.ref s1), .val (.ref s2), .val (.ref s3), .val (.int ex9)] [(.int (1 : Int32))])) t → Steps p.tables e below (T121.setTop (mkF m 196 #[.val (.int q0), .val (.int q1), .val (.int q2), .val (.int q3), .val (.int q4), .val (.int q5), .val (.ref p9), .val (.ref r9), .val (.ref s1), .val (.ref s2), .val (.ref s3), .val (.int ex9)] [(.int (0 : Int32))])) t := by
    intro t k
    show Steps p.tables e below (T121.setTop (mkF m 196 #[.val (.int q0), .val (.int q1), .val (.int q2), .val (.int q3), .val (.int q4), .val (.int q5), .val (.ref p9), .val (.ref r9), .val (.ref s1), .val (.ref s2), .val (.ref s3), .val (.int ex9)] [(.int (0 : Int32))])) t
    refine XS.ifYes X121.here hx rfl (pc0 := 196) (pc' := 201) rfl (hb hby at_196) rfl ((if0 _ _).trans (teq (by decide : (0 : Int32) = (0 : Int32))).1) (by decide) (by decide) ?_
    show Steps p.tables e below (T121.setTop (mkF m 201 #[.val (.int q0), .val (.int q1), .val (.int q2), .val (.int q3), .val (.int q4), .val (.int q5), .val (.ref p9), .val (.ref r9), .val (.ref s1), .val (.ref s2), .val (.ref s3), .val (.int ex9)] [])) t
    refine XS.iconst X121.here hx rfl (hb hby at_201) ?_
    exact k
  refine OFin.go sg122 ?_
  exact OFin.retN X121 hx hret (by simp) hlk (hb hby at_202) rfl (by rw [e121]; exact ⟨rfl, N121⟩) (by decide) (by decide)
theorem pd_4 : parseMethodDescriptor "(III)[I" = some ⟨[.int, .int, .int], some (.array .int)⟩ := by decide +kernel
theorem pd_5 : parseMethodDescriptor "(III)V" = some ⟨[.int, .int, .int], none⟩ := by decide +kernel
set_option maxHeartbeats 40000000 in
theorem rm0 (l : Launch) (Z : State) (aZ : Array Value) (hw : ∀ d ∈ tables_1, d.before aZ Z = true) (ws : List Jvm.Cond) (q0 : Int32) (q1 : Int32) (q2 : Int32) (q3 : Int32) (q4 : Int32) (q5 : Int32) (ca : Addr) (ccl : Cell) (h0 : Heap) (n0 : Nat) (Z0 : n0 ≤ h0.size) (O0 : Old Z n0 h0) (S1 : Sta Z Z.heap "java/lang/Integer$IntegerCache" "high" "I" (.int (127 : Int32))) (S2 : Sta Z Z.heap "java/lang/Integer$IntegerCache" "cache" "[Ljava/lang/Integer;" (.ref ca)) (hB : Bxs Z ca ccl "java/lang/Integer" "I" (256 : Int32) (fun j => .int (j - (128 : Int32)))) :
    MetFree l x (head1 (Jvm.Cond.code x code maxLocals ret :: ws) room_1) (fun a U => a = #[(.int q0), (.int q1), (.int q2), (.int q3), (.int q4), (.int q5)] ∧ Z.Warmed39 U.vm ∧ U.heap = h0) (fun _ _ _ _ _ => True) (fun _ U o U' => ∃ v L, o = .returned v ∧ Q0 Z q0 q1 q2 q3 q4 q5 ca ccl h0 n0 v U'.heap L ∧ FrameEnd U o U' L room_1.cells room_1.slots) := by
  refine MetFree.of_bodySF (plainFor_of_name pn_0) hisR ?_
  intro p e s m args below meth c s₁ Bd hml0 hP hK
  obtain ⟨rfl, hZ, hh⟩ := hP
  have hx := Bd.exec
  have hby := Bd.bytes
  have hret := Bd.returns
  have hlk : meth.locks = false := BodyLoose.notSynchronized Bd
  have hml : c.maxLocals = 12 := hml0
  have hown : s.vm.findClass "com/example/parlint/parlint/BlockShapeEqualsPinLaw" = some m.cls := findClass_of_methodNamed Bd.named
  have hnm := (name_of_methodNamed Bd.named Bd.method).1
  have X0 : Stand p l e room_1 s m #[(.int q0), (.int q1), (.int q2), (.int q3), (.int q4), (.int q5)] below meth c s₁ [] 0 0 := Stand.of_body Bd
  have e0 : s₁.heap = h0 := by rw [← hh, Bd.state]; rfl
  have N0 := Fr.nil n0
  have K0 : Keep h0 h0 [] := Keep.refl _ _
  have pre0 : ∀ t, Steps p.tables e below (s₁.setTop (mkF m 0 #[.val (.int q0), .val (.int q1), .val (.int q2), .val (.int q3), .val (.int q4), .val (.int q5), .unset, .unset, .unset, .unset, .unset, .unset] [])) t → Steps p.tables e below (s₁.setTop (entryFrame m #[(.int q0), (.int q1), (.int q2), (.int q3), (.int q4), (.int q5)] maxLocals)) t := fun t k => castTop (ef_0 m q0 q1 q2 q3 q4 q5) k
  show OFin p e below s (Q0 Z q0 q1 q2 q3 q4 q5 ca ccl h0 n0) room_1.cells room_1.slots _
  refine OFin.go pre0 ?_
  have sg101 : ∀ t, Steps p.tables e below (s₁.setTop (mkF m 3 #[.val (.int q0), .val (.int q1), .val (.int q2), .val (.int q3), .val (.int q4), .val (.int q5), .unset, .unset, .unset, .unset, .unset, .unset] [(.int q2), (.int q1), (.int q0)])) t → Steps p.tables e below (s₁.setTop (mkF m 0 #[.val (.int q0), .val (.int q1), .val (.int q2), .val (.int q3), .val (.int q4), .val (.int q5), .unset, .unset, .unset, .unset, .unset, .unset] [])) t := by
    intro t k
    show Steps p.tables e below (s₁.setTop (mkF m 0 #[.val (.int q0), .val (.int q1), .val (.int q2), .val (.int q3), .val (.int q4), .val (.int q5), .unset, .unset, .unset, .unset, .unset, .unset] [])) t
    refine XS.iloadN X0.here hx rfl (hb hby at_0) rfl ?_
    show Steps p.tables e below (s₁.setTop (mkF m 1 #[.val (.int q0), .val (.int q1), .val (.int q2), .val (.int q3), .val (.int q4), .val (.int q5), .unset, .unset, .unset, .unset, .unset, .unset] [(.int q0)])) t
    refine XS.iloadN X0.here hx rfl (hb hby at_1) rfl ?_
    show Steps p.tables e below (s₁.setTop (mkF m 2 #[.val (.int q0), .val (.int q1), .val (.int q2), .val (.int q3), .val (.int q4), .val (.int q5), .unset, .unset, .unset, .unset, .unset, .unset] [(.int q1), (.int q0)])) t
    refine XS.iloadN X0.here hx rfl (hb hby at_2) rfl ?_
    exact k
  refine OFin.go sg101 ?_
  obtain ⟨_, _, ⟨T102, L102, k102, n102⟩, -, X102, ⟨Lc102, hQ102, l102, y102, z102⟩, st102⟩ := Jvm.LawKit.callS X0 hx (y := (⟨"com/example/parlint/parlint/BlockShapeEqualsPinLaw", "extents", "(III)[I"⟩ : MethodName)) hown (mvT hZ (hw _ (List.mem_of_getElem? (i := 0) rfl))) (mvT hZ (hw _ (List.mem_of_getElem? (i := 1) rfl))) (mvT hZ (hw _ (List.mem_of_getElem? (i := 2) rfl))) (mvT hZ (hw _ (List.mem_of_getElem? (i := 3) rfl))) (by decide) (backOf (W := 0) (rm1 l Z aZ hw [] q0 q1 q2 h0 n0 (Nat.le_trans Z0 K0.1) ) hZ (hw _ (List.mem_of_getElem? (i := 3) rfl)) (hw _ (List.mem_of_getElem? (i := 2) rfl)) (by decide) (by decide)) (g := (mkF m 3 #[.val (.int q0), .val (.int q1), .val (.int q2), .val (.int q3), .val (.int q4), .val (.int q5), .unset, .unset, .unset, .unset, .unset, .unset] [(.int q2), (.int q1), (.int q0)])) rfl (by rw [hml]; rfl) (argsL := [(.int q0), (.int q1), (.int q2)]) (rest := []) (lenOf pd_4 rfl) rfl (by show 2 * 0 + _ ≤ _; exact Nat.le_of_eq rfl) (hb hby at_3) (fun _ _ => ⟨rfl, e0, (by decide : 0 + 1 ≤ _), (by decide : 0 + 3 ≤ _)⟩)
  dsimp only [Pt.U, Pt.locs, Pt.cells, Pt.slots] at X102 l102 y102 z102 st102 hQ102
  subst l102 y102 z102
  obtain ⟨b9102, k9102, x9102, y9102, z9102, rfl, N102q, Kq102, P102_0, R102_0, R102_1, R102_2, R102_3⟩ := hQ102
  have N102 := Fr.app N0 N102q
  refine OFin.go st102 ?_
  have K102 : Keep h0 T102.heap [] := K0.trans Kq102 all0
  have g_b9102 : n0 ≤ b9102 := Nat.le_trans (Nat.le_trans Z0 K0.1) R102_0
  have sz_b9102 : h0.size ≤ b9102 := Nat.le_trans K0.1 R102_0
  -- extents said
  have sg103 : ∀ t, Steps p.tables e below (T102.setTop (mkF m 13 #[.val (.int q0), .val (.int q1), .val (.int q2), .val (.int q3), .val (.int q4), .val (.int q5), .val (.ref b9102), .unset, .unset, .unset, .unset, .unset] [(.int q5), (.int q4), (.int q3)])) t → Steps p.tables e below (T102.setTop (mkF m 6 #[.val (.int q0), .val (.int q1), .val (.int q2), .val (.int q3), .val (.int q4), .val (.int q5), .unset, .unset, .unset, .unset, .unset, .unset] [(.ref b9102)])) t := by
    intro t k
    show Steps p.tables e below (T102.setTop (mkF m 6 #[.val (.int q0), .val (.int q1), .val (.int q2), .val (.int q3), .val (.int q4), .val (.int q5), .unset, .unset, .unset, .unset, .unset, .unset] [(.ref b9102)])) t
    refine XS.astore X102.here hx rfl (hb hby at_6) rfl rfl (l' := #[.val (.int q0), .val (.int q1), .val (.int q2), .val (.int q3), .val (.int q4), .val (.int q5), .val (.ref b9102), .unset, .unset, .unset, .unset, .unset]) rfl ?_
    show Steps p.tables e below (T102.setTop (mkF m 8 #[.val (.int q0), .val (.int q1), .val (.int q2), .val (.int q3), .val (.int q4), .val (.int q5), .val (.ref b9102), .unset, .unset, .unset, .unset, .unset] [])) t
    refine XS.iloadN X102.here hx rfl (hb hby at_8) rfl ?_
    show Steps p.tables e below (T102.setTop (mkF m 9 #[.val (.int q0), .val (.int q1), .val (.int q2), .val (.int q3), .val (.int q4), .val (.int q5), .val (.ref b9102), .unset, .unset, .unset, .unset, .unset] [(.int q3)])) t
    refine XS.iload X102.here hx rfl (hb hby at_9) rfl ?_
    show Steps p.tables e below (T102.setTop (mkF m 11 #[.val (.int q0), .val (.int q1), .val (.int q2), .val (.int q3), .val (.int q4), .val (.int q5), .val (.ref b9102), .unset, .unset, .unset, .unset, .unset] [(.int q4), (.int q3)])) t
    refine XS.iload X102.here hx rfl (hb hby at_11) rfl ?_
    exact k
  refine OFin.go sg103 ?_
  obtain ⟨_, _, ⟨T104, L104, k104, n104⟩, -, X104, ⟨Lc104, hQ104, l104, y104, z104⟩, st104⟩ := Jvm.LawKit.callS X102 hx (y := (⟨"com/example/parlint/parlint/BlockShapeEqualsPinLaw", "extents", "(III)[I"⟩ : MethodName)) hown (mvT hZ (hw _ (List.mem_of_getElem? (i := 0) rfl))) (mvT hZ (hw _ (List.mem_of_getElem? (i := 1) rfl))) (mvT hZ (hw _ (List.mem_of_getElem? (i := 2) rfl))) (mvT hZ (hw _ (List.mem_of_getElem? (i := 3) rfl))) (by decide) (backOf (W := 0) (rm1 l Z aZ hw [] q3 q4 q5 T102.heap n0 (Nat.le_trans Z0 K102.1) ) hZ (hw _ (List.mem_of_getElem? (i := 3) rfl)) (hw _ (List.mem_of_getElem? (i := 2) rfl)) (by decide) (by decide)) (g := (mkF m 13 #[.val (.int q0), .val (.int q1), .val (.int q2), .val (.int q3), .val (.int q4), .val (.int q5), .val (.ref b9102), .unset, .unset, .unset, .unset, .unset] [(.int q5), (.int q4), (.int q3)])) rfl (by rw [hml]; rfl) (argsL := [(.int q3), (.int q4), (.int q5)]) (rest := []) (lenOf pd_4 rfl) rfl (by show 2 * 0 + _ ≤ _; exact Nat.le_of_eq rfl) (hb hby at_13) (fun _ _ => ⟨rfl, rfl, (by decide : 1 + 1 ≤ _), (by decide : 3 + 3 ≤ _)⟩)
  dsimp only [Pt.U, Pt.locs, Pt.cells, Pt.slots] at X104 l104 y104 z104 st104 hQ104
  subst l104 y104 z104
  obtain ⟨b9104, k9104, x9104, y9104, z9104, rfl, N104q, Kq104, P104_0, R104_0, R104_1, R104_2, R104_3⟩ := hQ104
  have N104 := Fr.app N102 N104q
  refine OFin.go st104 ?_
  have K104 : Keep h0 T104.heap [] := K102.trans Kq104 all0
  have g_b9104 : n0 ≤ b9104 := Nat.le_trans (Nat.le_trans Z0 K102.1) R104_0
  have sz_b9104 : h0.size ≤ b9104 := Nat.le_trans K102.1 R104_0
  -- extents said
  have sg105 : ∀ t, Steps p.tables e below (T104.setTop (mkF m 18 #[.val (.int q0), .val (.int q1), .val (.int q2), .val (.int q3), .val (.int q4), .val (.int q5), .val (.ref b9102), .val (.ref b9104), .unset, .unset, .unset, .unset] [])) t → Steps p.tables e below (T104.setTop (mkF m 16 #[.val (.int q0), .val (.int q1), .val (.int q2), .val (.int q3), .val (.int q4), .val (.int q5), .val (.ref b9102), .unset, .unset, .unset, .unset, .unset] [(.ref b9104)])) t := by
    intro t k
    show Steps p.tables e below (T104.setTop (mkF m 16 #[.val (.int q0), .val (.int q1), .val (.int q2), .val (.int q3), .val (.int q4), .val (.int q5), .val (.ref b9102), .unset, .unset, .unset, .unset, .unset] [(.ref b9104)])) t
    refine XS.astore X104.here hx rfl (hb hby at_16) rfl rfl (l' := #[.val (.int q0), .val (.int q1), .val (.int q2), .val (.int q3), .val (.int q4), .val (.int q5), .val (.ref b9102), .val (.ref b9104), .unset, .unset, .unset, .unset]) rfl ?_
    exact k
  refine OFin.go sg105 ?_
  obtain ⟨T106, h106, X106, e106, E106, A106, D106, -, st106⟩ := newO X104 hx hZ hown (hw _ (List.mem_of_getElem? (i := 6) rfl)) (hw _ (List.mem_of_getElem? (i := 7) rfl)) (hw _ (List.mem_of_getElem? (i := 8) rfl)) rfl (g := (mkF m 18 #[.val (.int q0), .val (.int q1), .val (.int q2), .val (.int q3), .val (.int q4), .val (.int q5), .val (.ref b9102), .val (.ref b9104), .unset, .unset, .unset, .unset] [])) rfl (hb hby at_18) (by decide) (by decide)
  obtain ⟨b106, g106⟩ : ∃ z, z = T104.heap.size := ⟨_, rfl⟩
  rw [← g106] at A106 D106 st106
  refine OFin.go st106 ?_
  have g_b106 : n0 ≤ b106 := Nat.le_trans (Nat.le_trans Z0 K104.1) (Nat.le_of_eq g106.symm)
  have sz_b106 : h0.size ≤ b106 := Nat.le_trans K104.1 (Nat.le_of_eq g106.symm)
  have K106 : Keep h0 h106 [] := K104.ext E106
  have F106_dimX : Fld Z h106 b106 "com/example/parlint/parlint/BlockShape" "dimX" "I" (.int (0 : Int32)) := D106 (Or.inr (hw _ (List.mem_of_getElem? (i := 16) rfl))) (ty := .int) (by decide)
  have F106_dimY : Fld Z h106 b106 "com/example/parlint/parlint/BlockShape" "dimY" "I" (.int (0 : Int32)) := D106 (Or.inr (hw _ (List.mem_of_getElem? (i := 18) rfl))) (ty := .int) (by decide)
  have F106_dimZ : Fld Z h106 b106 "com/example/parlint/parlint/BlockShape" "dimZ" "I" (.int (0 : Int32)) := D106 (Or.inr (hw _ (List.mem_of_getElem? (i := 20) rfl))) (ty := .int) (by decide)
  have sg107 : ∀ t, Steps p.tables e below (T106.setTop (mkF m 25 #[.val (.int q0), .val (.int q1), .val (.int q2), .val (.int q3), .val (.int q4), .val (.int q5), .val (.ref b9102), .val (.ref b9104), .unset, .unset, .unset, .unset] [(.int (0 : Int32)), (.ref b9102), (.ref b106), (.ref b106)])) t → Steps p.tables e below (T106.setTop (mkF m 21 #[.val (.int q0), .val (.int q1), .val (.int q2), .val (.int q3), .val (.int q4), .val (.int q5), .val (.ref b9102), .val (.ref b9104), .unset, .unset, .unset, .unset] [(.ref b106)])) t := by
    intro t k
    show Steps p.tables e below (T106.setTop (mkF m 21 #[.val (.int q0), .val (.int q1), .val (.int q2), .val (.int q3), .val (.int q4), .val (.int q5), .val (.ref b9102), .val (.ref b9104), .unset, .unset, .unset, .unset] [(.ref b106)])) t
    refine XS.dup X106.here hx rfl (hb hby at_21) rfl rfl ?_
    show Steps p.tables e below (T106.setTop (mkF m 22 #[.val (.int q0), .val (.int q1), .val (.int q2), .val (.int q3), .val (.int q4), .val (.int q5), .val (.ref b9102), .val (.ref b9104), .unset, .unset, .unset, .unset] [(.ref b106), (.ref b106)])) t
    refine XS.aload X106.here hx rfl (hb hby at_22) rfl rfl ?_
    show Steps p.tables e below (T106.setTop (mkF m 24 #[.val (.int q0), .val (.int q1), .val (.int q2), .val (.int q3), .val (.int q4), .val (.int q5), .val (.ref b9102), .val (.ref b9104), .unset, .unset, .unset, .unset] [(.ref b9102), (.ref b106), (.ref b106)])) t
    refine XS.iconst X106.here hx rfl (hb hby at_24) ?_
    exact k
  refine OFin.go sg107 ?_
  obtain ⟨cl108, Ar108, q108, S108, M108, H108, G108⟩ := id ((P102_0.keep Kq104 nin0).ext E106)
  have hin108 : ¬ ((0 : Int32) < 0 ∨ cl108.slots.size ≤ ((0 : Int32)).toNatClampNeg) := inb_of S108 ⟨by decide, by decide⟩
  have hat108 : cl108.slots[((0 : Int32)).toNatClampNeg]? = some (.int x9102) := H108.at hin108 rfl
  have sg109 : ∀ t, Steps p.tables e below (T106.setTop (mkF m 29 #[.val (.int q0), .val (.int q1), .val (.int q2), .val (.int q3), .val (.int q4), .val (.int q5), .val (.ref b9102), .val (.ref b9104), .unset, .unset, .unset, .unset] [(.int (1 : Int32)), (.ref b9102), (.int x9102), (.ref b106), (.ref b106)])) t → Steps p.tables e below (T106.setTop (mkF m 25 #[.val (.int q0), .val (.int q1), .val (.int q2), .val (.int q3), .val (.int q4), .val (.int q5), .val (.ref b9102), .val (.ref b9104), .unset, .unset, .unset, .unset] [(.int (0 : Int32)), (.ref b9102), (.ref b106), (.ref b106)])) t := by
    intro t k
    show Steps p.tables e below (T106.setTop (mkF m 25 #[.val (.int q0), .val (.int q1), .val (.int q2), .val (.int q3), .val (.int q4), .val (.int q5), .val (.ref b9102), .val (.ref b9104), .unset, .unset, .unset, .unset] [(.int (0 : Int32)), (.ref b9102), (.ref b106), (.ref b106)])) t
    refine X106.iaload hx (j := (0 : Int32)) (v := (.int x9102)) (by rw [e106]; exact Ar108.1) (State.isArrayOf_alike hZ.alike Ar108.2.1) Ar108.2.2 hin108 hat108 (g := (mkF m 25 #[.val (.int q0), .val (.int q1), .val (.int q2), .val (.int q3), .val (.int q4), .val (.int q5), .val (.ref b9102), .val (.ref b9104), .unset, .unset, .unset, .unset] [(.int (0 : Int32)), (.ref b9102), (.ref b106), (.ref b106)])) rfl rfl (hb hby at_25) _ ?_
    show Steps p.tables e below (T106.setTop (mkF m 26 #[.val (.int q0), .val (.int q1), .val (.int q2), .val (.int q3), .val (.int q4), .val (.int q5), .val (.ref b9102), .val (.ref b9104), .unset, .unset, .unset, .unset] [(.int x9102), (.ref b106), (.ref b106)])) t
    refine XS.aload X106.here hx rfl (hb hby at_26) rfl rfl ?_
    show Steps p.tables e below (T106.setTop (mkF m 28 #[.val (.int q0), .val (.int q1), .val (.int q2), .val (.int q3), .val (.int q4), .val (.int q5), .val (.ref b9102), .val (.ref b9104), .unset, .unset, .unset, .unset] [(.ref b9102), (.int x9102), (.ref b106), (.ref b106)])) t
    refine XS.iconst X106.here hx rfl (hb hby at_28) ?_
    exact k
  refine OFin.go sg109 ?_
  obtain ⟨cl110, Ar110, q110, S110, M110, H110, G110⟩ := id ((P102_0.keep Kq104 nin0).ext E106)
  have hin110 : ¬ ((1 : Int32) < 0 ∨ cl110.slots.size ≤ ((1 : Int32)).toNatClampNeg) := inb_of S110 ⟨by decide, by decide⟩
  have hat110 : cl110.slots[((1 : Int32)).toNatClampNeg]? = some (.int y9102) := H110.at hin110 rfl
  have sg111 : ∀ t, Steps p.tables e below (T106.setTop (mkF m 33 #[.val (.int q0), .val (.int q1), .val (.int q2), .val (.int q3), .val (.int q4), .val (.int q5), .val (.ref b9102), .val (.ref b9104), .unset, .unset, .unset, .unset] [(.int (2 : Int32)), (.ref b9102), (.int y9102), (.int x9102), (.ref b106), (.ref b106)])) t → Steps p.tables e below (T106.setTop (mkF m 29 #[.val (.int q0), .val (.int q1), .val (.int q2), .val (.int q3), .val (.int q4), .val (.int q5), .val (.ref b9102), .val (.ref b9104), .unset, .unset, .unset, .unset] [(.int (1 : Int32)), (.ref b9102), (.int x9102), (.ref b106), (.ref b106)])) t := by
    intro t k
    show Steps p.tables e below (T106.setTop (mkF m 29 #[.val (.int q0), .val (.int q1), .val (.int q2), .val (.int q3), .val (.int q4), .val (.int q5), .val (.ref b9102), .val (.ref b9104), .unset, .unset, .unset, .unset] [(.int (1 : Int32)), (.ref b9102), (.int x9102), (.ref b106), (.ref b106)])) t
    refine X106.iaload hx (j := (1 : Int32)) (v := (.int y9102)) (by rw [e106]; exact Ar110.1) (State.isArrayOf_alike hZ.alike Ar110.2.1) Ar110.2.2 hin110 hat110 (g := (mkF m 29 #[.val (.int q0), .val (.int q1), .val (.int q2), .val (.int q3), .val (.int q4), .val (.int q5), .val (.ref b9102), .val (.ref b9104), .unset, .unset, .unset, .unset] [(.int (1 : Int32)), (.ref b9102), (.int x9102), (.ref b106), (.ref b106)])) rfl rfl (hb hby at_29) _ ?_
    show Steps p.tables e below (T106.setTop (mkF m 30 #[.val (.int q0), .val (.int q1), .val (.int q2), .val (.int q3), .val (.int q4), .val (.int q5), .val (.ref b9102), .val (.ref b9104), .unset, .unset, .unset, .unset] [(.int y9102), (.int x9102), (.ref b106), (.ref b106)])) t
    refine XS.aload X106.here hx rfl (hb hby at_30) rfl rfl ?_
    show Steps p.tables e below (T106.setTop (mkF m 32 #[.val (.int q0), .val (.int q1), .val (.int q2), .val (.int q3), .val (.int q4), .val (.int q5), .val (.ref b9102), .val (.ref b9104), .unset, .unset, .unset, .unset] [(.ref b9102), (.int y9102), (.int x9102), (.ref b106), (.ref b106)])) t
    refine XS.iconst X106.here hx rfl (hb hby at_32) ?_
    exact k
  refine OFin.go sg111 ?_
  obtain ⟨cl112, Ar112, q112, S112, M112, H112, G112⟩ := id ((P102_0.keep Kq104 nin0).ext E106)
  have hin112 : ¬ ((2 : Int32) < 0 ∨ cl112.slots.size ≤ ((2 : Int32)).toNatClampNeg) := inb_of S112 ⟨by decide, by decide⟩
  have hat112 : cl112.slots[((2 : Int32)).toNatClampNeg]? = some (.int z9102) := H112.at hin112 rfl
  have sg113 : ∀ t, Steps p.tables e below (T106.setTop (mkF m 34 #[.val (.int q0), .val (.int q1), .val (.int q2), .val (.int q3), .val (.int q4), .val (.int q5), .val (.ref b9102), .val (.ref b9104), .unset, .unset, .unset, .unset] [(.int z9102), (.int y9102), (.int x9102), (.ref b106), (.ref b106)])) t → Steps p.tables e below (T106.setTop (mkF m 33 #[.val (.int q0), .val (.int q1), .val (.int q2), .val (.int q3), .val (.int q4), .val (.int q5), .val (.ref b9102), .val (.ref b9104), .unset, .unset, .unset, .unset] [(.int (2 : Int32)), (.ref b9102), (.int y9102), (.int x9102), (.ref b106), (.ref b106)])) t := by
    intro t k
    show Steps p.tables e below (T106.setTop (mkF m 33 #[.val (.int q0), .val (.int q1), .val (.int q2), .val (.int q3), .val (.int q4), .val (.int q5), .val (.ref b9102), .val (.ref b9104), .unset, .unset, .unset, .unset] [(.int (2 : Int32)), (.ref b9102), (.int y9102), (.int x9102), (.ref b106), (.ref b106)])) t
    refine X106.iaload hx (j := (2 : Int32)) (v := (.int z9102)) (by rw [e106]; exact Ar112.1) (State.isArrayOf_alike hZ.alike Ar112.2.1) Ar112.2.2 hin112 hat112 (g := (mkF m 33 #[.val (.int q0), .val (.int q1), .val (.int q2), .val (.int q3), .val (.int q4), .val (.int q5), .val (.ref b9102), .val (.ref b9104), .unset, .unset, .unset, .unset] [(.int (2 : Int32)), (.ref b9102), (.int y9102), (.int x9102), (.ref b106), (.ref b106)])) rfl rfl (hb hby at_33) _ ?_
    exact k
  refine OFin.go sg113 ?_
  obtain ⟨_, _, ⟨T114, L114, k114, n114⟩, -, X114, ⟨Lc114, hQ114, l114, y114, z114⟩, st114⟩ := X106.specialBack hx (y := (⟨"com/example/parlint/parlint/BlockShape", "<init>", "(III)V"⟩ : MethodName)) rfl hown (mvT hZ (hw _ (List.mem_of_getElem? (i := 9) rfl))) (mvT hZ (hw _ (List.mem_of_getElem? (i := 10) rfl))) (mvT hZ (hw _ (List.mem_of_getElem? (i := 11) rfl))) (by decide) (backOf (W := 1) (rm2 l Z aZ hw [] b106 x9102 y9102 z9102 h106 n0 (Nat.le_trans Z0 K106.1) A106 F106_dimX F106_dimY F106_dimZ R102_1 R102_2 R102_3 g_b106) hZ (hw _ (List.mem_of_getElem? (i := 11) rfl)) (hw _ (List.mem_of_getElem? (i := 8) rfl)) (by decide) (by decide)) (g := (mkF m 34 #[.val (.int q0), .val (.int q1), .val (.int q2), .val (.int q3), .val (.int q4), .val (.int q5), .val (.ref b9102), .val (.ref b9104), .unset, .unset, .unset, .unset] [(.int z9102), (.int y9102), (.int x9102), (.ref b106), (.ref b106)])) rfl (by rw [hml]; rfl) (Steps.refl _) (a := b106) (argsL := [(.int x9102), (.int y9102), (.int z9102)]) (rest := [(.ref b106)]) (lenOf pd_5 rfl) rfl (by show 2 * 0 + _ ≤ _; exact Nat.le_of_eq rfl) (hb hby at_34) (fun _ _ => ⟨rfl, e106, (by decide : 3 + 0 ≤ _), (by decide : 9 + 0 ≤ _)⟩)
  dsimp only [Pt.U, Pt.locs, Pt.cells, Pt.slots] at X114 l114 y114 z114 st114 hQ114
  subst l114 y114 z114
  obtain ⟨rfl, N114q, Kq114, P114_0, P114_1, P114_2⟩ := hQ114
  have N114 := Fr.app N104 N114q
  refine OFin.tr st114 ?_
  have K114 : Keep h0 T114.heap [] := K106.trans Kq114 (allS (Or.inr sz_b106) all0)
  have sg115 : ∀ t, Steps p.tables e below (T114.setTop (mkF m 39 #[.val (.int q0), .val (.int q1), .val (.int q2), .val (.int q3), .val (.int q4), .val (.int q5), .val (.ref b9102), .val (.ref b9104), .val (.ref b106), .unset, .unset, .unset] [])) t → Steps p.tables e below (T114.setTop (mkF m 37 #[.val (.int q0), .val (.int q1), .val (.int q2), .val (.int q3), .val (.int q4), .val (.int q5), .val (.ref b9102), .val (.ref b9104), .unset, .unset, .unset, .unset] [(.ref b106)])) t := by
    intro t k
    show Steps p.tables e below (T114.setTop (mkF m 37 #[.val (.int q0), .val (.int q1), .val (.int q2), .val (.int q3), .val (.int q4), .val (.int q5), .val (.ref b9102), .val (.ref b9104), .unset, .unset, .unset, .unset] [(.ref b106)])) t
    refine XS.astore X114.here hx rfl (hb hby at_37) rfl rfl (l' := #[.val (.int q0), .val (.int q1), .val (.int q2), .val (.int q3), .val (.int q4), .val (.int q5), .val (.ref b9102), .val (.ref b9104), .val (.ref b106), .unset, .unset, .unset]) rfl ?_
    exact k
  refine OFin.go sg115 ?_
  obtain ⟨T116, h116, X116, e116, E116, A116, D116, -, st116⟩ := newO X114 hx hZ hown (hw _ (List.mem_of_getElem? (i := 6) rfl)) (hw _ (List.mem_of_getElem? (i := 7) rfl)) (hw _ (List.mem_of_getElem? (i := 8) rfl)) rfl (g := (mkF m 39 #[.val (.int q0), .val (.int q1), .val (.int q2), .val (.int q3), .val (.int q4), .val (.int q5), .val (.ref b9102), .val (.ref b9104), .val (.ref b106), .unset, .unset, .unset] [])) rfl (hb hby at_39) (by decide) (by decide)
  obtain ⟨b116, g116⟩ : ∃ z, z = T114.heap.size := ⟨_, rfl⟩
  rw [← g116] at A116 D116 st116
  refine OFin.go st116 ?_
  have g_b116 : n0 ≤ b116 := Nat.le_trans (Nat.le_trans Z0 K114.1) (Nat.le_of_eq g116.symm)
  have sz_b116 : h0.size ≤ b116 := Nat.le_trans K114.1 (Nat.le_of_eq g116.symm)
  have K116 : Keep h0 h116 [] := K114.ext E116
  have F116_dimX : Fld Z h116 b116 "com/example/parlint/parlint/BlockShape" "dimX" "I" (.int (0 : Int32)) := D116 (Or.inr (hw _ (List.mem_of_getElem? (i := 16) rfl))) (ty := .int) (by decide)
  have F116_dimY : Fld Z h116 b116 "com/example/parlint/parlint/BlockShape" "dimY" "I" (.int (0 : Int32)) := D116 (Or.inr (hw _ (List.mem_of_getElem? (i := 18) rfl))) (ty := .int) (by decide)
  have F116_dimZ : Fld Z h116 b116 "com/example/parlint/parlint/BlockShape" "dimZ" "I" (.int (0 : Int32)) := D116 (Or.inr (hw _ (List.mem_of_getElem? (i := 20) rfl))) (ty := .int) (by decide)
  have sg117 : ∀ t, Steps p.tables e below (T116.setTop (mkF m 46 #[.val (.int q0), .val (.int q1), .val (.int q2), .val (.int q3), .val (.int q4), .val (.int q5), .val (.ref b9102), .val (.ref b9104), .val (.ref b106), .unset, .unset, .unset] [(.int (0 : Int32)), (.ref b9104), (.ref b116), (.ref b116)])) t → Steps p.tables e below (T116.setTop (mkF m 42 #[.val (.int q0), .val (.int q1), .val (.int q2), .val (.int q3), .val (.int q4), .val (.int q5), .val (.ref b9102), .val (.ref b9104), .val (.ref b106), .unset, .unset, .unset] [(.ref b116)])) t := by
    intro t k
    show Steps p.tables e below (T116.setTop (mkF m 42 #[.val (.int q0), .val (.int q1), .val (.int q2), .val (.int q3), .val (.int q4), .val (.int q5), .val (.ref b9102), .val (.ref b9104), .val (.ref b106), .unset, .unset, .unset] [(.ref b116)])) t
    refine XS.dup X116.here hx rfl (hb hby at_42) rfl rfl ?_
    show Steps p.tables e below (T116.setTop (mkF m 43 #[.val (.int q0), .val (.int q1), .val (.int q2), .val (.int q3), .val (.int q4), .val (.int q5), .val (.ref b9102), .val (.ref b9104), .val (.ref b106), .unset, .unset, .unset] [(.ref b116), (.ref b116)])) t
    refine XS.aload X116.here hx rfl (hb hby at_43) rfl rfl ?_
    show Steps p.tables e below (T116.setTop (mkF m 45 #[.val (.int q0), .val (.int q1), .val (.int q2), .val (.int q3), .val (.int q4), .val (.int q5), .val (.ref b9102), .val (.ref b9104), .val (.ref b106), .unset, .unset, .unset] [(.ref b9104), (.ref b116), (.ref b116)])) t
    refine XS.iconst X116.here hx rfl (hb hby at_45) ?_
    exact k
  refine OFin.go sg117 ?_
  obtain ⟨cl118, Ar118, q118, S118, M118, H118, G118⟩ := id (((P104_0.ext E106).keep Kq114 (ninS (Nat.ne_of_lt (Nat.lt_of_lt_of_le P104_0.lt (Nat.le_of_eq g106.symm))) nin0)).ext E116)
  have hin118 : ¬ ((0 : Int32) < 0 ∨ cl118.slots.size ≤ ((0 : Int32)).toNatClampNeg) := inb_of S118 ⟨by decide, by decide⟩
  have hat118 : cl118.slots[((0 : Int32)).toNatClampNeg]? = some (.int x9104) := H118.at hin118 rfl
  have sg119 : ∀ t, Steps p.tables e below (T116.setTop (mkF m 50 #[.val (.int q0), .val (.int q1), .val (.int q2), .val (.int q3), .val (.int q4), .val (.int q5), .val (.ref b9102), .val (.ref b9104), .val (.ref b106), .unset, .unset, .unset] [(.int (1 : Int32)), (.ref b9104), (.int x9104), (.ref b116), (.ref b116)])) t → Steps p.tables e below (T116.setTop (mkF m 46 #[.val (.int q0), .val (.int q1), .val (.int q2), .val (.int q3), .val (.int q4), .val (.int q5), .val (.ref b9102), .val (.ref b9104), .val (.ref b106), .unset, .unset, .unset] [(.int (0 : Int32)), (.ref b9104), (.ref b116), (.ref b116)])) t := by
    intro t k
    show Steps p.tables e below (T116.setTop (mkF m 46 #[.val (.int q0), .val (.int q1), .val (.int q2), .val (.int q3), .val (.int q4), .val (.int q5), .val (.ref b9102), .val (.ref b9104), .val (.ref b106), .unset, .unset, .unset] [(.int (0 : Int32)), (.ref b9104), (.ref b116), (.ref b116)])) t
    refine X116.iaload hx (j := (0 : Int32)) (v := (.int x9104)) (by rw [e116]; exact Ar118.1) (State.isArrayOf_alike hZ.alike Ar118.2.1) Ar118.2.2 hin118 hat118 (g := (mkF m 46 #[.val (.int q0), .val (.int q1), .val (.int q2), .val (.int q3), .val (.int q4), .val (.int q5), .val (.ref b9102), .val (.ref b9104), .val (.ref b106), .unset, .unset, .unset] [(.int (0 : Int32)), (.ref b9104), (.ref b116), (.ref b116)])) rfl rfl (hb hby at_46) _ ?_
    show Steps p.tables e below (T116.setTop (mkF m 47 #[.val (.int q0), .val (.int q1), .val (.int q2), .val (.int q3), .val (.int q4), .val (.int q5), .val (.ref b9102), .val (.ref b9104), .val (.ref b106), .unset, .unset, .unset] [(.int x9104), (.ref b116), (.ref b116)])) t
    refine XS.aload X116.here hx rfl (hb hby at_47) rfl rfl ?_
    show Steps p.tables e below (T116.setTop (mkF m 49 #[.val (.int q0), .val (.int q1), .val (.int q2), .val (.int q3), .val (.int q4), .val (.int q5), .val (.ref b9102), .val (.ref b9104), .val (.ref b106), .unset, .unset, .unset] [(.ref b9104), (.int x9104), (.ref b116), (.ref b116)])) t
    refine XS.iconst X116.here hx rfl (hb hby at_49) ?_
    exact k
  refine OFin.go sg119 ?_
  obtain ⟨cl120, Ar120, q120, S120, M120, H120, G120⟩ := id (((P104_0.ext E106).keep Kq114 (ninS (Nat.ne_of_lt (Nat.lt_of_lt_of_le P104_0.lt (Nat.le_of_eq g106.symm))) nin0)).ext E116)
  have hin120 : ¬ ((1 : Int32) < 0 ∨ cl120.slots.size ≤ ((1 : Int32)).toNatClampNeg) := inb_of S120 ⟨by decide, by decide⟩
  have hat120 : cl120.slots[((1 : Int32)).toNatClampNeg]? = some (.int y9104) := H120.at hin120 rfl
  have sg121 : ∀ t, Steps p.tables e below (T116.setTop (mkF m 54 #[.val (.int q0), .val (.int q1), .val (.int q2), .val (.int q3), .val (.int q4), .val (.int q5), .val (.ref b9102), .val (.ref b9104), .val (.ref b106), .unset, .unset, .unset] [(.int (2 : Int32)), (.ref b9104), (.int y9104), (.int x9104), (.ref b116), (.ref b116)])) t → Steps p.tables e below (T116.setTop (mkF m 50 #[.val (.int q0), .val (.int q1), .val (.int q2), .val (.int q3), .val (.int q4), .val (.int q5), .val (.ref b9102), .val (.ref b9104), .val (.ref b106), .unset, .unset, .unset] [(.int (1 : Int32)), (.ref b9104), (.int x9104), (.ref b116), (.ref b116)])) t := by
    intro t k
    show Steps p.tables e below (T116.setTop (mkF m 50 #[.val (.int q0), .val (.int q1), .val (.int q2), .val (.int q3), .val (.int q4), .val (.int q5), .val (.ref b9102), .val (.ref b9104), .val (.ref b106), .unset, .unset, .unset] [(.int (1 : Int32)), (.ref b9104), (.int x9104), (.ref b116), (.ref b116)])) t
    refine X116.iaload hx (j := (1 : Int32)) (v := (.int y9104)) (by rw [e116]; exact Ar120.1) (State.isArrayOf_alike hZ.alike Ar120.2.1) Ar120.2.2 hin120 hat120 (g := (mkF m 50 #[.val (.int q0), .val (.int q1), .val (.int q2), .val (.int q3), .val (.int q4), .val (.int q5), .val (.ref b9102), .val (.ref b9104), .val (.ref b106), .unset, .unset, .unset] [(.int (1 : Int32)), (.ref b9104), (.int x9104), (.ref b116), (.ref b116)])) rfl rfl (hb hby at_50) _ ?_
    show Steps p.tables e below (T116.setTop (mkF m 51 #[.val (.int q0), .val (.int q1), .val (.int q2), .val (.int q3), .val (.int q4), .val (.int q5), .val (.ref b9102), .val (.ref b9104), .val (.ref b106), .unset, .unset, .unset] [(.int y9104), (.int x9104), (.ref b116), (.ref b116)])) t
    refine XS.aload X116.here hx rfl (hb hby at_51) rfl rfl ?_
    show Steps p.tables e below (T116.setTop (mkF m 53 #[.val (.int q0), .val (.int q1), .val (.int q2), .val (.int q3), .val (.int q4), .val (.int q5), .val (.ref b9102), .val (.ref b9104), .val (.ref b106), .unset, .unset, .unset] [(.ref b9104), (.int y9104), (.int x9104), (.ref b116), (.ref b116)])) t
    refine XS.iconst X116.here hx rfl (hb hby at_53) ?_
    exact k
  refine OFin.go sg121 ?_
  obtain ⟨cl122, Ar122, q122, S122, M122, H122, G122⟩ := id (((P104_0.ext E106).keep Kq114 (ninS (Nat.ne_of_lt (Nat.lt_of_lt_of_le P104_0.lt (Nat.le_of_eq g106.symm))) nin0)).ext E116)
  have hin122 : ¬ ((2 : Int32) < 0 ∨ cl122.slots.size ≤ ((2 : Int32)).toNatClampNeg) := inb_of S122 ⟨by decide, by decide⟩
  have hat122 : cl122.slots[((2 : Int32)).toNatClampNeg]? = some (.int z9104) := H122.at hin122 rfl
  have sg123 : ∀ t, Steps p.tables e below (T116.setTop (mkF m 55 #[.val (.int q0), .val (.int q1), .val (.int q2), .val (.int q3), .val (.int q4), .val (.int q5), .val (.ref b9102), .val (.ref b9104), .val (.ref b106), .unset, .unset, .unset] [(.int z9104), (.int y9104), (.int x9104), (.ref b116), (.ref b116)])) t → Steps p.tables e below (T116.setTop (mkF m 54 #[.val (.int q0), .val (.int q1), .val (.int q2), .val (.int q3), .val (.int q4), .val (.int q5), .val (.ref b9102), .val (.ref b9104), .val (.ref b106), .unset, .unset, .unset] [(.int (2 : Int32)), (.ref b9104), (.int y9104), (.int x9104), (.ref b116), (.ref b116)])) t := by
    intro t k
    show Steps p.tables e below (T116.setTop (mkF m 54 #[.val (.int q0), .val (.int q1), .val (.int q2), .val (.int q3), .val (.int q4), .val (.int q5), .val (.ref b9102), .val (.ref b9104), .val (.ref b106), .unset, .unset, .unset] [(.int (2 : Int32)), (.ref b9104), (.int y9104), (.int x9104), (.ref b116), (.ref b116)])) t
    refine X116.iaload hx (j := (2 : Int32)) (v := (.int z9104)) (by rw [e116]; exact Ar122.1) (State.isArrayOf_alike hZ.alike Ar122.2.1) Ar122.2.2 hin122 hat122 (g := (mkF m 54 #[.val (.int q0), .val (.int q1), .val (.int q2), .val (.int q3), .val (.int q4), .val (.int q5), .val (.ref b9102), .val (.ref b9104), .val (.ref b106), .unset, .unset, .unset] [(.int (2 : Int32)), (.ref b9104), (.int y9104), (.int x9104), (.ref b116), (.ref b116)])) rfl rfl (hb hby at_54) _ ?_
    exact k
  refine OFin.go sg123 ?_
  obtain ⟨_, _, ⟨T124, L124, k124, n124⟩, -, X124, ⟨Lc124, hQ124, l124, y124, z124⟩, st124⟩ := X116.specialBack hx (y := (⟨"com/example/parlint/parlint/BlockShape", "<init>", "(III)V"⟩ : MethodName)) rfl hown (mvT hZ (hw _ (List.mem_of_getElem? (i := 9) rfl))) (mvT hZ (hw _ (List.mem_of_getElem? (i := 10) rfl))) (mvT hZ (hw _ (List.mem_of_getElem? (i := 11) rfl))) (by decide) (backOf (W := 1) (rm2 l Z aZ hw [] b116 x9104 y9104 z9104 h116 n0 (Nat.le_trans Z0 K116.1) A116 F116_dimX F116_dimY F116_dimZ R104_1 R104_2 R104_3 g_b116) hZ (hw _ (List.mem_of_getElem? (i := 11) rfl)) (hw _ (List.mem_of_getElem? (i := 8) rfl)) (by decide) (by decide)) (g := (mkF m 55 #[.val (.int q0), .val (.int q1), .val (.int q2), .val (.int q3), .val (.int q4), .val (.int q5), .val (.ref b9102), .val (.ref b9104), .val (.ref b106), .unset, .unset, .unset] [(.int z9104), (.int y9104), (.int x9104), (.ref b116), (.ref b116)])) rfl (by rw [hml]; rfl) (Steps.refl _) (a := b116) (argsL := [(.int x9104), (.int y9104), (.int z9104)]) (rest := [(.ref b116)]) (lenOf pd_5 rfl) rfl (by show 2 * 0 + _ ≤ _; exact Nat.le_of_eq rfl) (hb hby at_55) (fun _ _ => ⟨rfl, e116, (by decide : 4 + 0 ≤ _), (by decide : 12 + 0 ≤ _)⟩)
  dsimp only [Pt.U, Pt.locs, Pt.cells, Pt.slots] at X124 l124 y124 z124 st124 hQ124
  subst l124 y124 z124
  obtain ⟨rfl, N124q, Kq124, P124_0, P124_1, P124_2⟩ := hQ124
  have N124 := Fr.app N114 N124q
  refine OFin.tr st124 ?_
  have K124 : Keep h0 T124.heap [] := K116.trans Kq124 (allS (Or.inr sz_b116) all0)
  have sg125 : ∀ t, Steps p.tables e below (T124.setTop (mkF m 60 #[.val (.int q0), .val (.int q1), .val (.int q2), .val (.int q3), .val (.int q4), .val (.int q5), .val (.ref b9102), .val (.ref b9104), .val (.ref b106), .val (.ref b116), .unset, .unset] [])) t → Steps p.tables e below (T124.setTop (mkF m 58 #[.val (.int q0), .val (.int q1), .val (.int q2), .val (.int q3), .val (.int q4), .val (.int q5), .val (.ref b9102), .val (.ref b9104), .val (.ref b106), .unset, .unset, .unset] [(.ref b116)])) t := by
    intro t k
    show Steps p.tables e below (T124.setTop (mkF m 58 #[.val (.int q0), .val (.int q1), .val (.int q2), .val (.int q3), .val (.int q4), .val (.int q5), .val (.ref b9102), .val (.ref b9104), .val (.ref b106), .unset, .unset, .unset] [(.ref b116)])) t
    refine XS.astore X124.here hx rfl (hb hby at_58) rfl rfl (l' := #[.val (.int q0), .val (.int q1), .val (.int q2), .val (.int q3), .val (.int q4), .val (.int q5), .val (.ref b9102), .val (.ref b9104), .val (.ref b106), .val (.ref b116), .unset, .unset]) rfl ?_
    exact k
  refine OFin.go sg125 ?_
  obtain ⟨T126, h126, X126, e126, E126, A126, D126, -, st126⟩ := newO X124 hx hZ hown (hw _ (List.mem_of_getElem? (i := 6) rfl)) (hw _ (List.mem_of_getElem? (i := 7) rfl)) (hw _ (List.mem_of_getElem? (i := 8) rfl)) rfl (g := (mkF m 60 #[.val (.int q0), .val (.int q1), .val (.int q2), .val (.int q3), .val (.int q4), .val (.int q5), .val (.ref b9102), .val (.ref b9104), .val (.ref b106), .val (.ref b116), .unset, .unset] [])) rfl (hb hby at_60) (by decide) (by decide)
  obtain ⟨b126, g126⟩ : ∃ z, z = T124.heap.size := ⟨_, rfl⟩
  rw [← g126] at A126 D126 st126
  refine OFin.go st126 ?_
  have g_b126 : n0 ≤ b126 := Nat.le_trans (Nat.le_trans Z0 K124.1) (Nat.le_of_eq g126.symm)
  have sz_b126 : h0.size ≤ b126 := Nat.le_trans K124.1 (Nat.le_of_eq g126.symm)
  have K126 : Keep h0 h126 [] := K124.ext E126
  have F126_dimX : Fld Z h126 b126 "com/example/parlint/parlint/BlockShape" "dimX" "I" (.int (0 : Int32)) := D126 (Or.inr (hw _ (List.mem_of_getElem? (i := 16) rfl))) (ty := .int) (by decide)
  have F126_dimY : Fld Z h126 b126 "com/example/parlint/parlint/BlockShape" "dimY" "I" (.int (0 : Int32)) := D126 (Or.inr (hw _ (List.mem_of_getElem? (i := 18) rfl))) (ty := .int) (by decide)
  have F126_dimZ : Fld Z h126 b126 "com/example/parlint/parlint/BlockShape" "dimZ" "I" (.int (0 : Int32)) := D126 (Or.inr (hw _ (List.mem_of_getElem? (i := 20) rfl))) (ty := .int) (by decide)
  have sg127 : ∀ t, Steps p.tables e below (T126.setTop (mkF m 67 #[.val (.int q0), .val (.int q1), .val (.int q2), .val (.int q3), .val (.int q4), .val (.int q5), .val (.ref b9102), .val (.ref b9104), .val (.ref b106), .val (.ref b116), .unset, .unset] [(.int (0 : Int32)), (.ref b9102), (.ref b126), (.ref b126)])) t → Steps p.tables e below (T126.setTop (mkF m 63 #[.val (.int q0), .val (.int q1), .val (.int q2), .val (.int q3), .val (.int q4), .val (.int q5), .val (.ref b9102), .val (.ref b9104), .val (.ref b106), .val (.ref b116), .unset, .unset] [(.ref b126)])) t := by
    intro t k
    show Steps p.tables e below (T126.setTop (mkF m 63 #[.val (.int q0), .val (.int q1), .val (.int q2), .val (.int q3), .val (.int q4), .val (.int q5), .val (.ref b9102), .val (.ref b9104), .val (.ref b106), .val (.ref b116), .unset, .unset] [(.ref b126)])) t
    refine XS.dup X126.here hx rfl (hb hby at_63) rfl rfl ?_
    show Steps p.tables e below (T126.setTop (mkF m 64 #[.val (.int q0), .val (.int q1), .val (.int q2), .val (.int q3), .val (.int q4), .val (.int q5), .val (.ref b9102), .val (.ref b9104), .val (.ref b106), .val (.ref b116), .unset, .unset] [(.ref b126), (.ref b126)])) t
    refine XS.aload X126.here hx rfl (hb hby at_64) rfl rfl ?_
    show Steps p.tables e below (T126.setTop (mkF m 66 #[.val (.int q0), .val (.int q1), .val (.int q2), .val (.int q3), .val (.int q4), .val (.int q5), .val (.ref b9102), .val (.ref b9104), .val (.ref b106), .val (.ref b116), .unset, .unset] [(.ref b9102), (.ref b126), (.ref b126)])) t
    refine XS.iconst X126.here hx rfl (hb hby at_66) ?_
    exact k
  refine OFin.go sg127 ?_
  obtain ⟨cl128, Ar128, q128, S128, M128, H128, G128⟩ := id ((((((P102_0.keep Kq104 nin0).ext E106).keep Kq114 (ninS (Nat.ne_of_lt (Nat.lt_of_lt_of_le (P102_0.keep Kq104 nin0).lt (Nat.le_of_eq g106.symm))) nin0)).ext E116).keep Kq124 (ninS (Nat.ne_of_lt (Nat.lt_of_lt_of_le (((P102_0.keep Kq104 nin0).ext E106).keep Kq114 (ninS (Nat.ne_of_lt (Nat.lt_of_lt_of_le (P102_0.keep Kq104 nin0).lt (Nat.le_of_eq g106.symm))) nin0)).lt (Nat.le_of_eq g116.symm))) nin0)).ext E126)
  have hin128 : ¬ ((0 : Int32) < 0 ∨ cl128.slots.size ≤ ((0 : Int32)).toNatClampNeg) := inb_of S128 ⟨by decide, by decide⟩
  have hat128 : cl128.slots[((0 : Int32)).toNatClampNeg]? = some (.int x9102) := H128.at hin128 rfl
  have sg129 : ∀ t, Steps p.tables e below (T126.setTop (mkF m 71 #[.val (.int q0), .val (.int q1), .val (.int q2), .val (.int q3), .val (.int q4), .val (.int q5), .val (.ref b9102), .val (.ref b9104), .val (.ref b106), .val (.ref b116), .unset, .unset] [(.int (1 : Int32)), (.ref b9102), (.int x9102), (.ref b126), (.ref b126)])) t → Steps p.tables e below (T126.setTop (mkF m 67 #[.val (.int q0), .val (.int q1), .val (.int q2), .val (.int q3), .val (.int q4), .val (.int q5), .val (.ref b9102), .val (.ref b9104), .val (.ref b106), .val (.ref b116), .unset, .unset] [(.int (0 : Int32)), (.ref b9102), (.ref b126), (.ref b126)])) t := by
    intro t k
    show Steps p.tables e below (T126.setTop (mkF m 67 #[.val (.int q0), .val (.int q1), .val (.int q2), .val (.int q3), .val (.int q4), .val (.int q5), .val (.ref b9102), .val (.ref b9104), .val (.ref b106), .val (.ref b116), .unset, .unset] [(.int (0 : Int32)), (.ref b9102), (.ref b126), (.ref b126)])) t
    refine X126.iaload hx (j := (0 : Int32)) (v := (.int x9102)) (by rw [e126]; exact Ar128.1) (State.isArrayOf_alike hZ.alike Ar128.2.1) Ar128.2.2 hin128 hat128 (g := (mkF m 67 #[.val (.int q0), .val (.int q1), .val (.int q2), .val (.int q3), .val (.int q4), .val (.int q5), .val (.ref b9102), .val (.ref b9104), .val (.ref b106), .val (.ref b116), .unset, .unset] [(.int (0 : Int32)), (.ref b9102), (.ref b126), (.ref b126)])) rfl rfl (hb hby at_67) _ ?_
    show Steps p.tables e below (T126.setTop (mkF m 68 #[.val (.int q0), .val (.int q1), .val (.int q2), .val (.int q3), .val (.int q4), .val (.int q5), .val (.ref b9102), .val (.ref b9104), .val (.ref b106), .val (.ref b116), .unset, .unset] [(.int x9102), (.ref b126), (.ref b126)])) t
    refine XS.aload X126.here hx rfl (hb hby at_68) rfl rfl ?_
    show Steps p.tables e below (T126.setTop (mkF m 70 #[.val (.int q0), .val (.int q1), .val (.int q2), .val (.int q3), .val (.int q4), .val (.int q5), .val (.ref b9102), .val (.ref b9104), .val (.ref b106), .val (.ref b116), .unset, .unset] [(.ref b9102), (.int x9102), (.ref b126), (.ref b126)])) t
    refine XS.iconst X126.here hx rfl (hb hby at_70) ?_
    exact k
  refine OFin.go sg129 ?_
  obtain ⟨cl130, Ar130, q130, S130, M130, H130, G130⟩ := id ((((((P102_0.keep Kq104 nin0).ext E106).keep Kq114 (ninS (Nat.ne_of_lt (Nat.lt_of_lt_of_le (P102_0.keep Kq104 nin0).lt (Nat.le_of_eq g106.symm))) nin0)).ext E116).keep Kq124 (ninS (Nat.ne_of_lt (Nat.lt_of_lt_of_le (((P102_0.keep Kq104 nin0).ext E106).keep Kq114 (ninS (Nat.ne_of_lt (Nat.lt_of_lt_of_le (P102_0.keep Kq104 nin0).lt (Nat.le_of_eq g106.symm))) nin0)).lt (Nat.le_of_eq g116.symm))) nin0)).ext E126)
  have hin130 : ¬ ((1 : Int32) < 0 ∨ cl130.slots.size ≤ ((1 : Int32)).toNatClampNeg) := inb_of S130 ⟨by decide, by decide⟩
  have hat130 : cl130.slots[((1 : Int32)).toNatClampNeg]? = some (.int y9102) := H130.at hin130 rfl
  have sg131 : ∀ t, Steps p.tables e below (T126.setTop (mkF m 75 #[.val (.int q0), .val (.int q1), .val (.int q2), .val (.int q3), .val (.int q4), .val (.int q5), .val (.ref b9102), .val (.ref b9104), .val (.ref b106), .val (.ref b116), .unset, .unset] [(.int (2 : Int32)), (.ref b9102), (.int y9102), (.int x9102), (.ref b126), (.ref b126)])) t → Steps p.tables e below (T126.setTop (mkF m 71 #[.val (.int q0), .val (.int q1), .val (.int q2), .val (.int q3), .val (.int q4), .val (.int q5), .val (.ref b9102), .val (.ref b9104), .val (.ref b106), .val (.ref b116), .unset, .unset] [(.int (1 : Int32)), (.ref b9102), (.int x9102), (.ref b126), (.ref b126)])) t := by
    intro t k
    show Steps p.tables e below (T126.setTop (mkF m 71 #[.val (.int q0), .val (.int q1), .val (.int q2), .val (.int q3), .val (.int q4), .val (.int q5), .val (.ref b9102), .val (.ref b9104), .val (.ref b106), .val (.ref b116), .unset, .unset] [(.int (1 : Int32)), (.ref b9102), (.int x9102), (.ref b126), (.ref b126)])) t
    refine X126.iaload hx (j := (1 : Int32)) (v := (.int y9102)) (by rw [e126]; exact Ar130.1) (State.isArrayOf_alike hZ.alike Ar130.2.1) Ar130.2.2 hin130 hat130 (g := (mkF m 71 #[.val (.int q0), .val (.int q1), .val (.int q2), .val (.int q3), .val (.int q4), .val (.int q5), .val (.ref b9102), .val (.ref b9104), .val (.ref b106), .val (.ref b116), .unset, .unset] [(.int (1 : Int32)), (.ref b9102), (.int x9102), (.ref b126), (.ref b126)])) rfl rfl (hb hby at_71) _ ?_
    show Steps p.tables e below (T126.setTop (mkF m 72 #[.val (.int q0), .val (.int q1), .val (.int q2), .val (.int q3), .val (.int q4), .val (.int q5), .val (.ref b9102), .val (.ref b9104), .val (.ref b106), .val (.ref b116), .unset, .unset] [(.int y9102), (.int x9102), (.ref b126), (.ref b126)])) t
    refine XS.aload X126.here hx rfl (hb hby at_72) rfl rfl ?_
    show Steps p.tables e below (T126.setTop (mkF m 74 #[.val (.int q0), .val (.int q1), .val (.int q2), .val (.int q3), .val (.int q4), .val (.int q5), .val (.ref b9102), .val (.ref b9104), .val (.ref b106), .val (.ref b116), .unset, .unset] [(.ref b9102), (.int y9102), (.int x9102), (.ref b126), (.ref b126)])) t
    refine XS.iconst X126.here hx rfl (hb hby at_74) ?_
    exact k
  refine OFin.go sg131 ?_
  obtain ⟨cl132, Ar132, q132, S132, M132, H132, G132⟩ := id ((((((P102_0.keep Kq104 nin0).ext E106).keep Kq114 (ninS (Nat.ne_of_lt (Nat.lt_of_lt_of_le (P102_0.keep Kq104 nin0).lt (Nat.le_of_eq g106.symm))) nin0)).ext E116).keep Kq124 (ninS (Nat.ne_of_lt (Nat.lt_of_lt_of_le (((P102_0.keep Kq104 nin0).ext E106).keep Kq114 (ninS (Nat.ne_of_lt (Nat.lt_of_lt_of_le (P102_0.keep Kq104 nin0).lt (Nat.le_of_eq g106.symm))) nin0)).lt (Nat.le_of_eq g116.symm))) nin0)).ext E126)
  have hin132 : ¬ ((2 : Int32) < 0 ∨ cl132.slots.size ≤ ((2 : Int32)).toNatClampNeg) := inb_of S132 ⟨by decide, by decide⟩
  have hat132 : cl132.slots[((2 : Int32)).toNatClampNeg]? = some (.int z9102) := H132.at hin132 rfl
  have sg133 : ∀ t, Steps p.tables e below (T126.setTop (mkF m 76 #[.val (.int q0), .val (.int q1), .val (.int q2), .val (.int q3), .val (.int q4), .val (.int q5), .val (.ref b9102), .val (.ref b9104), .val (.ref b106), .val (.ref b116), .unset, .unset] [(.int z9102), (.int y9102), (.int x9102), (.ref b126), (.ref b126)])) t → Steps p.tables e below (T126.setTop (mkF m 75 #[.val (.int q0), .val (.int q1), .val (.int q2), .val (.int q3), .val (.int q4), .val (.int q5), .val (.ref b9102), .val (.ref b9104), .val (.ref b106), .val (.ref b116), .unset, .unset] [(.int (2 : Int32)), (.ref b9102), (.int y9102), (.int x9102), (.ref b126), (.ref b126)])) t := by
    intro t k
    show Steps p.tables e below (T126.setTop (mkF m 75 #[.val (.int q0), .val (.int q1), .val (.int q2), .val (.int q3), .val (.int q4), .val (.int q5), .val (.ref b9102), .val (.ref b9104), .val (.ref b106), .val (.ref b116), .unset, .unset] [(.int (2 : Int32)), (.ref b9102), (.int y9102), (.int x9102), (.ref b126), (.ref b126)])) t
    refine X126.iaload hx (j := (2 : Int32)) (v := (.int z9102)) (by rw [e126]; exact Ar132.1) (State.isArrayOf_alike hZ.alike Ar132.2.1) Ar132.2.2 hin132 hat132 (g := (mkF m 75 #[.val (.int q0), .val (.int q1), .val (.int q2), .val (.int q3), .val (.int q4), .val (.int q5), .val (.ref b9102), .val (.ref b9104), .val (.ref b106), .val (.ref b116), .unset, .unset] [(.int (2 : Int32)), (.ref b9102), (.int y9102), (.int x9102), (.ref b126), (.ref b126)])) rfl rfl (hb hby at_75) _ ?_
    exact k
  refine OFin.go sg133 ?_
  obtain ⟨_, _, ⟨T134, L134, k134, n134⟩, -, X134, ⟨Lc134, hQ134, l134, y134, z134⟩, st134⟩ := X126.specialBack hx (y := (⟨"com/example/parlint/parlint/BlockShape", "<init>", "(III)V"⟩ : MethodName)) rfl hown (mvT hZ (hw _ (List.mem_of_getElem? (i := 9) rfl))) (mvT hZ (hw _ (List.mem_of_getElem? (i := 10) rfl))) (mvT hZ (hw _ (List.mem_of_getElem? (i := 11) rfl))) (by decide) (backOf (W := 1) (rm2 l Z aZ hw [] b126 x9102 y9102 z9102 h126 n0 (Nat.le_trans Z0 K126.1) A126 F126_dimX F126_dimY F126_dimZ R102_1 R102_2 R102_3 g_b126) hZ (hw _ (List.mem_of_getElem? (i := 11) rfl)) (hw _ (List.mem_of_getElem? (i := 8) rfl)) (by decide) (by decide)) (g := (mkF m 76 #[.val (.int q0), .val (.int q1), .val (.int q2), .val (.int q3), .val (.int q4), .val (.int q5), .val (.ref b9102), .val (.ref b9104), .val (.ref b106), .val (.ref b116), .unset, .unset] [(.int z9102), (.int y9102), (.int x9102), (.ref b126), (.ref b126)])) rfl (by rw [hml]; rfl) (Steps.refl _) (a := b126) (argsL := [(.int x9102), (.int y9102), (.int z9102)]) (rest := [(.ref b126)]) (lenOf pd_5 rfl) rfl (by show 2 * 0 + _ ≤ _; exact Nat.le_of_eq rfl) (hb hby at_76) (fun _ _ => ⟨rfl, e126, (by decide : 5 + 0 ≤ _), (by decide : 15 + 0 ≤ _)⟩)
  dsimp only [Pt.U, Pt.locs, Pt.cells, Pt.slots] at X134 l134 y134 z134 st134 hQ134
  subst l134 y134 z134
  obtain ⟨rfl, N134q, Kq134, P134_0, P134_1, P134_2⟩ := hQ134
  have N134 := Fr.app N124 N134q
  refine OFin.tr st134 ?_
  have K134 : Keep h0 T134.heap [] := K126.trans Kq134 (allS (Or.inr sz_b126) all0)
  have sg135 : ∀ t, Steps p.tables e below (T134.setTop (mkF m 84 #[.val (.int q0), .val (.int q1), .val (.int q2), .val (.int q3), .val (.int q4), .val (.int q5), .val (.ref b9102), .val (.ref b9104), .val (.ref b106), .val (.ref b116), .val (.ref b126), .unset] [(.int (0 : Int32)), (.ref b9102)])) t → Steps p.tables e below (T134.setTop (mkF m 79 #[.val (.int q0), .val (.int q1), .val (.int q2), .val (.int q3), .val (.int q4), .val (.int q5), .val (.ref b9102), .val (.ref b9104), .val (.ref b106), .val (.ref b116), .unset, .unset] [(.ref b126)])) t := by
    intro t k
    show Steps p.tables e below (T134.setTop (mkF m 79 #[.val (.int q0), .val (.int q1), .val (.int q2), .val (.int q3), .val (.int q4), .val (.int q5), .val (.ref b9102), .val (.ref b9104), .val (.ref b106), .val (.ref b116), .unset, .unset] [(.ref b126)])) t
    refine XS.astore X134.here hx rfl (hb hby at_79) rfl rfl (l' := #[.val (.int q0), .val (.int q1), .val (.int q2), .val (.int q3), .val (.int q4), .val (.int q5), .val (.ref b9102), .val (.ref b9104), .val (.ref b106), .val (.ref b116), .val (.ref b126), .unset]) rfl ?_
    show Steps p.tables e below (T134.setTop (mkF m 81 #[.val (.int q0), .val (.int q1), .val (.int q2), .val (.int q3), .val (.int q4), .val (.int q5), .val (.ref b9102), .val (.ref b9104), .val (.ref b106), .val (.ref b116), .val (.ref b126), .unset] [])) t
    refine XS.aload X134.here hx rfl (hb hby at_81) rfl rfl ?_
    show Steps p.tables e below (T134.setTop (mkF m 83 #[.val (.int q0), .val (.int q1), .val (.int q2), .val (.int q3), .val (.int q4), .val (.int q5), .val (.ref b9102), .val (.ref b9104), .val (.ref b106), .val (.ref b116), .val (.ref b126), .unset] [(.ref b9102)])) t
    refine XS.iconst X134.here hx rfl (hb hby at_83) ?_
    exact k
  refine OFin.go sg135 ?_
  obtain ⟨cl136, Ar136, q136, S136, M136, H136, G136⟩ := id (((((((P102_0.keep Kq104 nin0).ext E106).keep Kq114 (ninS (Nat.ne_of_lt (Nat.lt_of_lt_of_le (P102_0.keep Kq104 nin0).lt (Nat.le_of_eq g106.symm))) nin0)).ext E116).keep Kq124 (ninS (Nat.ne_of_lt (Nat.lt_of_lt_of_le (((P102_0.keep Kq104 nin0).ext E106).keep Kq114 (ninS (Nat.ne_of_lt (Nat.lt_of_lt_of_le (P102_0.keep Kq104 nin0).lt (Nat.le_of_eq g106.symm))) nin0)).lt (Nat.le_of_eq g116.symm))) nin0)).ext E126).keep Kq134 (ninS (Nat.ne_of_lt (Nat.lt_of_lt_of_le (((((P102_0.keep Kq104 nin0).ext E106).keep Kq114 (ninS (Nat.ne_of_lt (Nat.lt_of_lt_of_le (P102_0.keep Kq104 nin0).lt (Nat.le_of_eq g106.symm))) nin0)).ext E116).keep Kq124 (ninS (Nat.ne_of_lt (Nat.lt_of_lt_of_le (((P102_0.keep Kq104 nin0).ext E106).keep Kq114 (ninS (Nat.ne_of_lt (Nat.lt_of_lt_of_le (P102_0.keep Kq104 nin0).lt (Nat.le_of_eq g106.symm))) nin0)).lt (Nat.le_of_eq g116.symm))) nin0)).lt (Nat.le_of_eq g126.symm))) nin0))
  have hin136 : ¬ ((0 : Int32) < 0 ∨ cl136.slots.size ≤ ((0 : Int32)).toNatClampNeg) := inb_of S136 ⟨by decide, by decide⟩
  have hat136 : cl136.slots[((0 : Int32)).toNatClampNeg]? = some (.int x9102) := H136.at hin136 rfl
  have sg137 : ∀ t, Steps p.tables e below (T134.setTop (mkF m 88 #[.val (.int q0), .val (.int q1), .val (.int q2), .val (.int q3), .val (.int q4), .val (.int q5), .val (.ref b9102), .val (.ref b9104), .val (.ref b106), .val (.ref b116), .val (.ref b126), .unset] [(.int (0 : Int32)), (.ref b9104), (.int x9102)])) t → Steps p.tables e below (T134.setTop (mkF m 84 #[.val (.int q0), .val (.int q1), .val (.int q2), .val (.int q3), .val (.int q4), .val (.int q5), .val (.ref b9102), .val (.ref b9104), .val (.ref b106), .val (.ref b116), .val (.ref b126), .unset] [(.int (0 : Int32)), (.ref b9102)])) t := by
    intro t k
    show Steps p.tables e below (T134.setTop (mkF m 84 #[.val (.int q0), .val (.int q1), .val (.int q2), .val (.int q3), .val (.int q4), .val (.int q5), .val (.ref b9102), .val (.ref b9104), .val (.ref b106), .val (.ref b116), .val (.ref b126), .unset] [(.int (0 : Int32)), (.ref b9102)])) t
    refine X134.iaload hx (j := (0 : Int32)) (v := (.int x9102)) Ar136.1 (State.isArrayOf_alike hZ.alike Ar136.2.1) Ar136.2.2 hin136 hat136 (g := (mkF m 84 #[.val (.int q0), .val (.int q1), .val (.int q2), .val (.int q3), .val (.int q4), .val (.int q5), .val (.ref b9102), .val (.ref b9104), .val (.ref b106), .val (.ref b116), .val (.ref b126), .unset] [(.int (0 : Int32)), (.ref b9102)])) rfl rfl (hb hby at_84) _ ?_
    show Steps p.tables e below (T134.setTop (mkF m 85 #[.val (.int q0), .val (.int q1), .val (.int q2), .val (.int q3), .val (.int q4), .val (.int q5), .val (.ref b9102), .val (.ref b9104), .val (.ref b106), .val (.ref b116), .val (.ref b126), .unset] [(.int x9102)])) t
    refine XS.aload X134.here hx rfl (hb hby at_85) rfl rfl ?_
    show Steps p.tables e below (T134.setTop (mkF m 87 #[.val (.int q0), .val (.int q1), .val (.int q2), .val (.int q3), .val (.int q4), .val (.int q5), .val (.ref b9102), .val (.ref b9104), .val (.ref b106), .val (.ref b116), .val (.ref b126), .unset] [(.ref b9104), (.int x9102)])) t
    refine XS.iconst X134.here hx rfl (hb hby at_87) ?_
    exact k
  refine OFin.go sg137 ?_
  obtain ⟨cl138, Ar138, q138, S138, M138, H138, G138⟩ := id ((((((P104_0.ext E106).keep Kq114 (ninS (Nat.ne_of_lt (Nat.lt_of_lt_of_le P104_0.lt (Nat.le_of_eq g106.symm))) nin0)).ext E116).keep Kq124 (ninS (Nat.ne_of_lt (Nat.lt_of_lt_of_le ((P104_0.ext E106).keep Kq114 (ninS (Nat.ne_of_lt (Nat.lt_of_lt_of_le P104_0.lt (Nat.le_of_eq g106.symm))) nin0)).lt (Nat.le_of_eq g116.symm))) nin0)).ext E126).keep Kq134 (ninS (Nat.ne_of_lt (Nat.lt_of_lt_of_le ((((P104_0.ext E106).keep Kq114 (ninS (Nat.ne_of_lt (Nat.lt_of_lt_of_le P104_0.lt (Nat.le_of_eq g106.symm))) nin0)).ext E116).keep Kq124 (ninS (Nat.ne_of_lt (Nat.lt_of_lt_of_le ((P104_0.ext E106).keep Kq114 (ninS (Nat.ne_of_lt (Nat.lt_of_lt_of_le P104_0.lt (Nat.le_of_eq g106.symm))) nin0)).lt (Nat.le_of_eq g116.symm))) nin0)).lt (Nat.le_of_eq g126.symm))) nin0))
  have hin138 : ¬ ((0 : Int32) < 0 ∨ cl138.slots.size ≤ ((0 : Int32)).toNatClampNeg) := inb_of S138 ⟨by decide, by decide⟩
  have hat138 : cl138.slots[((0 : Int32)).toNatClampNeg]? = some (.int x9104) := H138.at hin138 rfl
  have sg140 : ∀ t, Steps p.tables e below (T134.setTop (mkF m 89 #[.val (.int q0), .val (.int q1), .val (.int q2), .val (.int q3), .val (.int q4), .val (.int q5), .val (.ref b9102), .val (.ref b9104), .val (.ref b106), .val (.ref b116), .val (.ref b126), .unset] [(.int x9104), (.int x9102)])) t → Steps p.tables e below (T134.setTop (mkF m 88 #[.val (.int q0), .val (.int q1), .val (.int q2), .val (.int q3), .val (.int q4), .val (.int q5), .val (.ref b9102), .val (.ref b9104), .val (.ref b106), .val (.ref b116), .val (.ref b126), .unset] [(.int (0 : Int32)), (.ref b9104), (.int x9102)])) t := by
    intro t k
    show Steps p.tables e below (T134.setTop (mkF m 88 #[.val (.int q0), .val (.int q1), .val (.int q2), .val (.int q3), .val (.int q4), .val (.int q5), .val (.ref b9102), .val (.ref b9104), .val (.ref b106), .val (.ref b116), .val (.ref b126), .unset] [(.int (0 : Int32)), (.ref b9104), (.int x9102)])) t
    refine X134.iaload hx (j := (0 : Int32)) (v := (.int x9104)) Ar138.1 (State.isArrayOf_alike hZ.alike Ar138.2.1) Ar138.2.2 hin138 hat138 (g := (mkF m 88 #[.val (.int q0), .val (.int q1), .val (.int q2), .val (.int q3), .val (.int q4), .val (.int q5), .val (.ref b9102), .val (.ref b9104), .val (.ref b106), .val (.ref b116), .val (.ref b126), .unset] [(.int (0 : Int32)), (.ref b9104), (.int x9102)])) rfl rfl (hb hby at_88) _ ?_
    exact k
  refine OFin.go sg140 ?_
  by_cases c141 : x9102 = x9104
  · have sg142 : ∀ t, Steps p.tables e below (T134.setTop (mkF m 95 #[.val (.int q0), .val (.int q1), .val (.int q2), .val (.int q3), .val (.int q4), .val (.int q5), .val (.ref b9102), .val (.ref b9104), .val (.ref b106), .val (.ref b116), .val (.ref b126), .unset] [(.int (1 : Int32)), (.ref b9102)])) t → Steps p.tables e below (T134.setTop (mkF m 89 #[.val (.int q0), .val (.int q1), .val (.int q2), .val (.int q3), .val (.int q4), .val (.int q5), .val (.ref b9102), .val (.ref b9104), .val (.ref b106), .val (.ref b116), .val (.ref b126), .unset] [(.int x9104), (.int x9102)])) t := by
      intro t k
      show Steps p.tables e below (T134.setTop (mkF m 89 #[.val (.int q0), .val (.int q1), .val (.int q2), .val (.int q3), .val (.int q4), .val (.int q5), .val (.ref b9102), .val (.ref b9104), .val (.ref b106), .val (.ref b116), .val (.ref b126), .unset] [(.int x9104), (.int x9102)])) t
      refine XS.icmpNo X134.here hx rfl (hb hby at_89) rfl (teq c141).2 ?_
      show Steps p.tables e below (T134.setTop (mkF m 92 #[.val (.int q0), .val (.int q1), .val (.int q2), .val (.int q3), .val (.int q4), .val (.int q5), .val (.ref b9102), .val (.ref b9104), .val (.ref b106), .val (.ref b116), .val (.ref b126), .unset] [])) t
      refine XS.aload X134.here hx rfl (hb hby at_92) rfl rfl ?_
      show Steps p.tables e below (T134.setTop (mkF m 94 #[.val (.int q0), .val (.int q1), .val (.int q2), .val (.int q3), .val (.int q4), .val (.int q5), .val (.ref b9102), .val (.ref b9104), .val (.ref b106), .val (.ref b116), .val (.ref b126), .unset] [(.ref b9102)])) t
      refine XS.iconst X134.here hx rfl (hb hby at_94) ?_
      exact k
    refine OFin.go sg142 ?_
    obtain ⟨cl143, Ar143, q143, S143, M143, H143, G143⟩ := id (((((((P102_0.keep Kq104 nin0).ext E106).keep Kq114 (ninS (Nat.ne_of_lt (Nat.lt_of_lt_of_le (P102_0.keep Kq104 nin0).lt (Nat.le_of_eq g106.symm))) nin0)).ext E116).keep Kq124 (ninS (Nat.ne_of_lt (Nat.lt_of_lt_of_le (((P102_0.keep Kq104 nin0).ext E106).keep Kq114 (ninS (Nat.ne_of_lt (Nat.lt_of_lt_of_le (P102_0.keep Kq104 nin0).lt (Nat.le_of_eq g106.symm))) nin0)).lt (Nat.le_of_eq g116.symm))) nin0)).ext E126).keep Kq134 (ninS (Nat.ne_of_lt (Nat.lt_of_lt_of_le (((((P102_0.keep Kq104 nin0).ext E106).keep Kq114 (ninS (Nat.ne_of_lt (Nat.lt_of_lt_of_le (P102_0.keep Kq104 nin0).lt (Nat.le_of_eq g106.symm))) nin0)).ext E116).keep Kq124 (ninS (Nat.ne_of_lt (Nat.lt_of_lt_of_le (((P102_0.keep Kq104 nin0).ext E106).keep Kq114 (ninS (Nat.ne_of_lt (Nat.lt_of_lt_of_le (P102_0.keep Kq104 nin0).lt (Nat.le_of_eq g106.symm))) nin0)).lt (Nat.le_of_eq g116.symm))) nin0)).lt (Nat.le_of_eq g126.symm))) nin0))
    have hin143 : ¬ ((1 : Int32) < 0 ∨ cl143.slots.size ≤ ((1 : Int32)).toNatClampNeg) := inb_of S143 ⟨by decide, by decide⟩
    have hat143 : cl143.slots[((1 : Int32)).toNatClampNeg]? = some (.int y9102) := H143.at hin143 rfl
    have sg144 : ∀ t, Steps p.tables e below (T134.setTop (mkF m 99 #[.val (.int q0), .val (.int q1), .val (.int q2), .val (.int q3), .val (.int q4), .val (.int q5), .val (.ref b9102), .val (.ref b9104), .val (.ref b106), .val (.ref b116), .val (.ref b126), .unset] [(.int (1 : Int32)), (.ref b9104), (.int y9102)])) t → Steps p.tables e below (T134.setTop (mkF m 95 #[.val (.int q0), .val (.int q1), .val (.int q2), .val (.int q3), .val (.int q4), .val (.int q5), .val (.ref b9102), .val (.ref b9104), .val (.ref b106), .val (.ref b116), .val (.ref b126), .unset] [(.int (1 : Int32)), (.ref b9102)])) t := by
      intro t k
      show Steps p.tables e below (T134.setTop (mkF m 95 #[.val (.int q0), .val (.int q1), .val (.int q2), .val (.int q3), .val (.int q4), .val (.int q5), .val (.ref b9102), .val (.ref b9104), .val (.ref b106), .val (.ref b116), .val (.ref b126), .unset] [(.int (1 : Int32)), (.ref b9102)])) t
      refine X134.iaload hx (j := (1 : Int32)) (v := (.int y9102)) Ar143.1 (State.isArrayOf_alike hZ.alike Ar143.2.1) Ar143.2.2 hin143 hat143 (g := (mkF m 95 #[.val (.int q0), .val (.int q1), .val (.int q2), .val (.int q3), .val (.int q4), .val (.int q5), .val (.ref b9102), .val (.ref b9104), .val (.ref b106), .val (.ref b116), .val (.ref b126), .unset] [(.int (1 : Int32)), (.ref b9102)])) rfl rfl (hb hby at_95) _ ?_
      show Steps p.tables e below (T134.setTop (mkF m 96 #[.val (.int q0), .val (.int q1), .val (.int q2), .val (.int q3), .val (.int q4), .val (.int q5), .val (.ref b9102), .val (.ref b9104), .val (.ref b106), .val (.ref b116), .val (.ref b126), .unset] [(.int y9102)])) t
      refine XS.aload X134.here hx rfl (hb hby at_96) rfl rfl ?_
      show Steps p.tables e below (T134.setTop (mkF m 98 #[.val (.int q0), .val (.int q1), .val (.int q2), .val (.int q3), .val (.int q4), .val (.int q5), .val (.ref b9102), .val (.ref b9104), .val (.ref b106), .val (.ref b116), .val (.ref b126), .unset] [(.ref b9104), (.int y9102)])) t
      refine XS.iconst X134.here hx rfl (hb hby at_98) ?_
      exact k
    refine OFin.go sg144 ?_
    obtain ⟨cl145, Ar145, q145, S145, M145, H145, G145⟩ := id ((((((P104_0.ext E106).keep Kq114 (ninS (Nat.ne_of_lt (Nat.lt_of_lt_of_le P104_0.lt (Nat.le_of_eq g106.symm))) nin0)).ext E116).keep Kq124 (ninS (Nat.ne_of_lt (Nat.lt_of_lt_of_le ((P104_0.ext E106).keep Kq114 (ninS (Nat.ne_of_lt (Nat.lt_of_lt_of_le P104_0.lt (Nat.le_of_eq g106.symm))) nin0)).lt (Nat.le_of_eq g116.symm))) nin0)).ext E126).keep Kq134 (ninS (Nat.ne_of_lt (Nat.lt_of_lt_of_le ((((P104_0.ext E106).keep Kq114 (ninS (Nat.ne_of_lt (Nat.lt_of_lt_of_le P104_0.lt (Nat.le_of_eq g106.symm))) nin0)).ext E116).keep Kq124 (ninS (Nat.ne_of_lt (Nat.lt_of_lt_of_le ((P104_0.ext E106).keep Kq114 (ninS (Nat.ne_of_lt (Nat.lt_of_lt_of_le P104_0.lt (Nat.le_of_eq g106.symm))) nin0)).lt (Nat.le_of_eq g116.symm))) nin0)).lt (Nat.le_of_eq g126.symm))) nin0))
    have hin145 : ¬ ((1 : Int32) < 0 ∨ cl145.slots.size ≤ ((1 : Int32)).toNatClampNeg) := inb_of S145 ⟨by decide, by decide⟩
    have hat145 : cl145.slots[((1 : Int32)).toNatClampNeg]? = some (.int y9104) := H145.at hin145 rfl
    have sg147 : ∀ t, Steps p.tables e below (T134.setTop (mkF m 100 #[.val (.int q0), .val (.int q1), .val (.int q2), .val (.int q3), .val (.int q4), .val (.int q5), .val (.ref b9102), .val (.ref b9104), .val (.ref b106), .val (.ref b116), .val (.ref b126), .unset] [(.int y9104), (.int y9102)])) t → Steps p.tables e below (T134.setTop (mkF m 99 #[.val (.int q0), .val (.int q1), .val (.int q2), .val (.int q3), .val (.int q4), .val (.int q5), .val (.ref b9102), .val (.ref b9104), .val (.ref b106), .val (.ref b116), .val (.ref b126), .unset] [(.int (1 : Int32)), (.ref b9104), (.int y9102)])) t := by
      intro t k
      show Steps p.tables e below (T134.setTop (mkF m 99 #[.val (.int q0), .val (.int q1), .val (.int q2), .val (.int q3), .val (.int q4), .val (.int q5), .val (.ref b9102), .val (.ref b9104), .val (.ref b106), .val (.ref b116), .val (.ref b126), .unset] [(.int (1 : Int32)), (.ref b9104), (.int y9102)])) t
      refine X134.iaload hx (j := (1 : Int32)) (v := (.int y9104)) Ar145.1 (State.isArrayOf_alike hZ.alike Ar145.2.1) Ar145.2.2 hin145 hat145 (g := (mkF m 99 #[.val (.int q0), .val (.int q1), .val (.int q2), .val (.int q3), .val (.int q4), .val (.int q5), .val (.ref b9102), .val (.ref b9104), .val (.ref b106), .val (.ref b116), .val (.ref b126), .unset] [(.int (1 : Int32)), (.ref b9104), (.int y9102)])) rfl rfl (hb hby at_99) _ ?_
      exact k
    refine OFin.go sg147 ?_
    by_cases c148 : y9102 = y9104
    · have sg149 : ∀ t, Steps p.tables e below (T134.setTop (mkF m 106 #[.val (.int q0), .val (.int q1), .val (.int q2), .val (.int q3), .val (.int q4), .val (.int q5), .val (.ref b9102), .val (.ref b9104), .val (.ref b106), .val (.ref b116), .val (.ref b126), .unset] [(.int (2 : Int32)), (.ref b9102)])) t → Steps p.tables e below (T134.setTop (mkF m 100 #[.val (.int q0), .val (.int q1), .val (.int q2), .val (.int q3), .val (.int q4), .val (.int q5), .val (.ref b9102), .val (.ref b9104), .val (.ref b106), .val (.ref b116), .val (.ref b126), .unset] [(.int y9104), (.int y9102)])) t := by
        intro t k
        show Steps p.tables e below (T134.setTop (mkF m 100 #[.val (.int q0), .val (.int q1), .val (.int q2), .val (.int q3), .val (.int q4), .val (.int q5), .val (.ref b9102), .val (.ref b9104), .val (.ref b106), .val (.ref b116), .val (.ref b126), .unset] [(.int y9104), (.int y9102)])) t
        refine XS.icmpNo X134.here hx rfl (hb hby at_100) rfl (teq c148).2 ?_
        show Steps p.tables e below (T134.setTop (mkF m 103 #[.val (.int q0), .val (.int q1), .val (.int q2), .val (.int q3), .val (.int q4), .val (.int q5), .val (.ref b9102), .val (.ref b9104), .val (.ref b106), .val (.ref b116), .val (.ref b126), .unset] [])) t
        refine XS.aload X134.here hx rfl (hb hby at_103) rfl rfl ?_
        show Steps p.tables e below (T134.setTop (mkF m 105 #[.val (.int q0), .val (.int q1), .val (.int q2), .val (.int q3), .val (.int q4), .val (.int q5), .val (.ref b9102), .val (.ref b9104), .val (.ref b106), .val (.ref b116), .val (.ref b126), .unset] [(.ref b9102)])) t
        refine XS.iconst X134.here hx rfl (hb hby at_105) ?_
        exact k
      refine OFin.go sg149 ?_
      obtain ⟨cl150, Ar150, q150, S150, M150, H150, G150⟩ := id (((((((P102_0.keep Kq104 nin0).ext E106).keep Kq114 (ninS (Nat.ne_of_lt (Nat.lt_of_lt_of_le (P102_0.keep Kq104 nin0).lt (Nat.le_of_eq g106.symm))) nin0)).ext E116).keep Kq124 (ninS (Nat.ne_of_lt (Nat.lt_of_lt_of_le (((P102_0.keep Kq104 nin0).ext E106).keep Kq114 (ninS (Nat.ne_of_lt (Nat.lt_of_lt_of_le (P102_0.keep Kq104 nin0).lt (Nat.le_of_eq g106.symm))) nin0)).lt (Nat.le_of_eq g116.symm))) nin0)).ext E126).keep Kq134 (ninS (Nat.ne_of_lt (Nat.lt_of_lt_of_le (((((P102_0.keep Kq104 nin0).ext E106).keep Kq114 (ninS (Nat.ne_of_lt (Nat.lt_of_lt_of_le (P102_0.keep Kq104 nin0).lt (Nat.le_of_eq g106.symm))) nin0)).ext E116).keep Kq124 (ninS (Nat.ne_of_lt (Nat.lt_of_lt_of_le (((P102_0.keep Kq104 nin0).ext E106).keep Kq114 (ninS (Nat.ne_of_lt (Nat.lt_of_lt_of_le (P102_0.keep Kq104 nin0).lt (Nat.le_of_eq g106.symm))) nin0)).lt (Nat.le_of_eq g116.symm))) nin0)).lt (Nat.le_of_eq g126.symm))) nin0))
      have hin150 : ¬ ((2 : Int32) < 0 ∨ cl150.slots.size ≤ ((2 : Int32)).toNatClampNeg) := inb_of S150 ⟨by decide, by decide⟩
      have hat150 : cl150.slots[((2 : Int32)).toNatClampNeg]? = some (.int z9102) := H150.at hin150 rfl
      have sg151 : ∀ t, Steps p.tables e below (T134.setTop (mkF m 110 #[.val (.int q0), .val (.int q1), .val (.int q2), .val (.int q3), .val (.int q4), .val (.int q5), .val (.ref b9102), .val (.ref b9104), .val (.ref b106), .val (.ref b116), .val (.ref b126), .unset] [(.int (2 : Int32)), (.ref b9104), (.int z9102)])) t → Steps p.tables e below (T134.setTop (mkF m 106 #[.val (.int q0), .val (.int q1), .val (.int q2), .val (.int q3), .val (.int q4), .val (.int q5), .val (.ref b9102), .val (.ref b9104), .val (.ref b106), .val (.ref b116), .val (.ref b126), .unset] [(.int (2 : Int32)), (.ref b9102)])) t := by
        intro t k
        show Steps p.tables e below (T134.setTop (mkF m 106 #[.val (.int q0), .val (.int q1), .val (.int q2), .val (.int q3), .val (.int q4), .val (.int q5), .val (.ref b9102), .val (.ref b9104), .val (.ref b106), .val (.ref b116), .val (.ref b126), .unset] [(.int (2 : Int32)), (.ref b9102)])) t
        refine X134.iaload hx (j := (2 : Int32)) (v := (.int z9102)) Ar150.1 (State.isArrayOf_alike hZ.alike Ar150.2.1) Ar150.2.2 hin150 hat150 (g := (mkF m 106 #[.val (.int q0), .val (.int q1), .val (.int q2), .val (.int q3), .val (.int q4), .val (.int q5), .val (.ref b9102), .val (.ref b9104), .val (.ref b106), .val (.ref b116), .val (.ref b126), .unset] [(.int (2 : Int32)), (.ref b9102)])) rfl rfl (hb hby at_106) _ ?_
        show Steps p.tables e below (T134.setTop (mkF m 107 #[.val (.int q0), .val (.int q1), .val (.int q2), .val (.int q3), .val (.int q4), .val (.int q5), .val (.ref b9102), .val (.ref b9104), .val (.ref b106), .val (.ref b116), .val (.ref b126), .unset] [(.int z9102)])) t
        refine XS.aload X134.here hx rfl (hb hby at_107) rfl rfl ?_
        show Steps p.tables e below (T134.setTop (mkF m 109 #[.val (.int q0), .val (.int q1), .val (.int q2), .val (.int q3), .val (.int q4), .val (.int q5), .val (.ref b9102), .val (.ref b9104), .val (.ref b106), .val (.ref b116), .val (.ref b126), .unset] [(.ref b9104), (.int z9102)])) t
        refine XS.iconst X134.here hx rfl (hb hby at_109) ?_
        exact k
      refine OFin.go sg151 ?_
      obtain ⟨cl152, Ar152, q152, S152, M152, H152, G152⟩ := id ((((((P104_0.ext E106).keep Kq114 (ninS (Nat.ne_of_lt (Nat.lt_of_lt_of_le P104_0.lt (Nat.le_of_eq g106.symm))) nin0)).ext E116).keep Kq124 (ninS (Nat.ne_of_lt (Nat.lt_of_lt_of_le ((P104_0.ext E106).keep Kq114 (ninS (Nat.ne_of_lt (Nat.lt_of_lt_of_le P104_0.lt (Nat.le_of_eq g106.symm))) nin0)).lt (Nat.le_of_eq g116.symm))) nin0)).ext E126).keep Kq134 (ninS (Nat.ne_of_lt (Nat.lt_of_lt_of_le ((((P104_0.ext E106).keep Kq114 (ninS (Nat.ne_of_lt (Nat.lt_of_lt_of_le P104_0.lt (Nat.le_of_eq g106.symm))) nin0)).ext E116).keep Kq124 (ninS (Nat.ne_of_lt (Nat.lt_of_lt_of_le ((P104_0.ext E106).keep Kq114 (ninS (Nat.ne_of_lt (Nat.lt_of_lt_of_le P104_0.lt (Nat.le_of_eq g106.symm))) nin0)).lt (Nat.le_of_eq g116.symm))) nin0)).lt (Nat.le_of_eq g126.symm))) nin0))
      have hin152 : ¬ ((2 : Int32) < 0 ∨ cl152.slots.size ≤ ((2 : Int32)).toNatClampNeg) := inb_of S152 ⟨by decide, by decide⟩
      have hat152 : cl152.slots[((2 : Int32)).toNatClampNeg]? = some (.int z9104) := H152.at hin152 rfl
      have sg155 : ∀ t, Steps p.tables e below (T134.setTop (mkF m 111 #[.val (.int q0), .val (.int q1), .val (.int q2), .val (.int q3), .val (.int q4), .val (.int q5), .val (.ref b9102), .val (.ref b9104), .val (.ref b106), .val (.ref b116), .val (.ref b126), .unset] [(.int z9104), (.int z9102)])) t → Steps p.tables e below (T134.setTop (mkF m 110 #[.val (.int q0), .val (.int q1), .val (.int q2), .val (.int q3), .val (.int q4), .val (.int q5), .val (.ref b9102), .val (.ref b9104), .val (.ref b106), .val (.ref b116), .val (.ref b126), .unset] [(.int (2 : Int32)), (.ref b9104), (.int z9102)])) t := by
        intro t k
        show Steps p.tables e below (T134.setTop (mkF m 110 #[.val (.int q0), .val (.int q1), .val (.int q2), .val (.int q3), .val (.int q4), .val (.int q5), .val (.ref b9102), .val (.ref b9104), .val (.ref b106), .val (.ref b116), .val (.ref b126), .unset] [(.int (2 : Int32)), (.ref b9104), (.int z9102)])) t
        refine X134.iaload hx (j := (2 : Int32)) (v := (.int z9104)) Ar152.1 (State.isArrayOf_alike hZ.alike Ar152.2.1) Ar152.2.2 hin152 hat152 (g := (mkF m 110 #[.val (.int q0), .val (.int q1), .val (.int q2), .val (.int q3), .val (.int q4), .val (.int q5), .val (.ref b9102), .val (.ref b9104), .val (.ref b106), .val (.ref b116), .val (.ref b126), .unset] [(.int (2 : Int32)), (.ref b9104), (.int z9102)])) rfl rfl (hb hby at_110) _ ?_
        exact k
      refine OFin.go sg155 ?_
      obtain ⟨v154, e_v154⟩ : ∃ z : Int32, z = (if z9102 = z9104 then (1 : Int32) else (0 : Int32)) := ⟨_, rfl⟩
      have sg156 : ∀ t, Steps p.tables e below (T134.setTop (mkF m 119 #[.val (.int q0), .val (.int q1), .val (.int q2), .val (.int q3), .val (.int q4), .val (.int q5), .val (.ref b9102), .val (.ref b9104), .val (.ref b106), .val (.ref b116), .val (.ref b126), .unset] [(.int v154)])) t → Steps p.tables e below (T134.setTop (mkF m 111 #[.val (.int q0), .val (.int q1), .val (.int q2), .val (.int q3), .val (.int q4), .val (.int q5), .val (.ref b9102), .val (.ref b9104), .val (.ref b106), .val (.ref b116), .val (.ref b126), .unset] [(.int z9104), (.int z9102)])) t := by
        intro t k
        by_cases c153 : z9102 = z9104
        · show Steps p.tables e below (T134.setTop (mkF m 111 #[.val (.int q0), .val (.int q1), .val (.int q2), .val (.int q3), .val (.int q4), .val (.int q5), .val (.ref b9102), .val (.ref b9104), .val (.ref b106), .val (.ref b116), .val (.ref b126), .unset] [(.int z9104), (.int z9102)])) t
          refine XS.icmpNo X134.here hx rfl (hb hby at_111) rfl (teq c153).2 ?_
          show Steps p.tables e below (T134.setTop (mkF m 114 #[.val (.int q0), .val (.int q1), .val (.int q2), .val (.int q3), .val (.int q4), .val (.int q5), .val (.ref b9102), .val (.ref b9104), .val (.ref b106), .val (.ref b116), .val (.ref b126), .unset] [])) t
          refine XS.iconst X134.here hx rfl (hb hby at_114) ?_
          show Steps p.tables e below (T134.setTop (mkF m 115 #[.val (.int q0), .val (.int q1), .val (.int q2), .val (.int q3), .val (.int q4), .val (.int q5), .val (.ref b9102), .val (.ref b9104), .val (.ref b106), .val (.ref b116), .val (.ref b126), .unset] [(.int (1 : Int32))])) t
          refine XS.goto X134.here hx rfl (pc0 := 115) (pc' := 119) rfl (hb hby at_115) (by decide) (by decide) ?_
          have e_v154' := e_v154
          try rw [if_pos c153] at e_v154'
          subst e_v154'
          exact k
        · show Steps p.tables e below (T134.setTop (mkF m 111 #[.val (.int q0), .val (.int q1), .val (.int q2), .val (.int q3), .val (.int q4), .val (.int q5), .val (.ref b9102), .val (.ref b9104), .val (.ref b106), .val (.ref b116), .val (.ref b126), .unset] [(.int z9104), (.int z9102)])) t
          refine XS.icmpYes X134.here hx rfl (pc0 := 111) (pc' := 118) rfl (hb hby at_111) rfl (feq c153).2 (by decide) (by decide) ?_
          show Steps p.tables e below (T134.setTop (mkF m 118 #[.val (.int q0), .val (.int q1), .val (.int q2), .val (.int q3), .val (.int q4), .val (.int q5), .val (.ref b9102), .val (.ref b9104), .val (.ref b106), .val (.ref b116), .val (.ref b126), .unset] [])) t
          refine XS.iconst X134.here hx rfl (hb hby at_118) ?_
          have e_v154' := e_v154
          try rw [if_neg c153] at e_v154'
          subst e_v154'
          exact k
      refine OFin.go sg156 ?_
      have sg157 : ∀ t, Steps p.tables e below (T134.setTop (mkF m 121 #[.val (.int q0), .val (.int q1), .val (.int q2), .val (.int q3), .val (.int q4), .val (.int q5), .val (.ref b9102), .val (.ref b9104), .val (.ref b106), .val (.ref b116), .val (.ref b126), .val (.int v154)] [])) t → Steps p.tables e below (T134.setTop (mkF m 119 #[.val (.int q0), .val (.int q1), .val (.int q2), .val (.int q3), .val (.int q4), .val (.int q5), .val (.ref b9102), .val (.ref b9104), .val (.ref b106), .val (.ref b116), .val (.ref b126), .unset] [(.int v154)])) t := by
        intro t k
        show Steps p.tables e below (T134.setTop (mkF m 119 #[.val (.int q0), .val (.int q1), .val (.int q2), .val (.int q3), .val (.int q4), .val (.int q5), .val (.ref b9102), .val (.ref b9104), .val (.ref b106), .val (.ref b116), .val (.ref b126), .unset] [(.int v154)])) t
        refine XS.istore X134.here hx rfl (hb hby at_119) rfl (l' := #[.val (.int q0), .val (.int q1), .val (.int q2), .val (.int q3), .val (.int q4), .val (.int q5), .val (.ref b9102), .val (.ref b9104), .val (.ref b106), .val (.ref b116), .val (.ref b126), .val (.int v154)]) rfl ?_
        exact k
      refine OFin.go sg157 ?_
      exact pt0_121 Z aZ hw q0 q1 q2 q3 q4 q5 ca ccl h0 n0 Z0 S1 S2 hB b9102 b9104 b106 b116 b126 v154 k9102 x9102 y9102 z9102 x9104 y9104 z9104 T134.heap X134 hx hZ hby hml hown hnm hret hlk rfl K134 N134 ((((((((O0.keep Kq102 all0).keep Kq104 all0).ext E106).keep Kq114 (allS g_b106 all0)).ext E116).keep Kq124 (allS g_b116 all0)).ext E126).keep Kq134 (allS g_b126 all0)) (((((A106.keep Kq114).ext E116).keep Kq124).ext E126).keep Kq134) ((((P114_0.ext E116).keep Kq124 (ninS (Nat.ne_of_lt (Nat.lt_of_lt_of_le (A106.keep Kq114).lt (Nat.le_of_eq g116.symm))) nin0)).ext E126).keep Kq134 (ninS (Nat.ne_of_lt (Nat.lt_of_lt_of_le (((A106.keep Kq114).ext E116).keep Kq124).lt (Nat.le_of_eq g126.symm))) nin0)) ((((P114_1.ext E116).keep Kq124 (ninS (Nat.ne_of_lt (Nat.lt_of_lt_of_le (A106.keep Kq114).lt (Nat.le_of_eq g116.symm))) nin0)).ext E126).keep Kq134 (ninS (Nat.ne_of_lt (Nat.lt_of_lt_of_le (((A106.keep Kq114).ext E116).keep Kq124).lt (Nat.le_of_eq g126.symm))) nin0)) ((((P114_2.ext E116).keep Kq124 (ninS (Nat.ne_of_lt (Nat.lt_of_lt_of_le (A106.keep Kq114).lt (Nat.le_of_eq g116.symm))) nin0)).ext E126).keep Kq134 (ninS (Nat.ne_of_lt (Nat.lt_of_lt_of_le (((A106.keep Kq114).ext E116).keep Kq124).lt (Nat.le_of_eq g126.symm))) nin0)) (((A116.keep Kq124).ext E126).keep Kq134) ((P124_0.ext E126).keep Kq134 (ninS (Nat.ne_of_lt (Nat.lt_of_lt_of_le (A116.keep Kq124).lt (Nat.le_of_eq g126.symm))) nin0)) ((P124_1.ext E126).keep Kq134 (ninS (Nat.ne_of_lt (Nat.lt_of_lt_of_le (A116.keep Kq124).lt (Nat.le_of_eq g126.symm))) nin0)) ((P124_2.ext E126).keep Kq134 (ninS (Nat.ne_of_lt (Nat.lt_of_lt_of_le (A116.keep Kq124).lt (Nat.le_of_eq g126.symm))) nin0)) (A126.keep Kq134) P134_0 P134_1 P134_2 (((((((P102_0.keep Kq104 nin0).ext E106).keep Kq114 (ninS (Nat.ne_of_lt (Nat.lt_of_lt_of_le (P102_0.keep Kq104 nin0).lt (Nat.le_of_eq g106.symm))) nin0)).ext E116).keep Kq124 (ninS (Nat.ne_of_lt (Nat.lt_of_lt_of_le (((P102_0.keep Kq104 nin0).ext E106).keep Kq114 (ninS (Nat.ne_of_lt (Nat.lt_of_lt_of_le (P102_0.keep Kq104 nin0).lt (Nat.le_of_eq g106.symm))) nin0)).lt (Nat.le_of_eq g116.symm))) nin0)).ext E126).keep Kq134 (ninS (Nat.ne_of_lt (Nat.lt_of_lt_of_le (((((P102_0.keep Kq104 nin0).ext E106).keep Kq114 (ninS (Nat.ne_of_lt (Nat.lt_of_lt_of_le (P102_0.keep Kq104 nin0).lt (Nat.le_of_eq g106.symm))) nin0)).ext E116).keep Kq124 (ninS (Nat.ne_of_lt (Nat.lt_of_lt_of_le (((P102_0.keep Kq104 nin0).ext E106).keep Kq114 (ninS (Nat.ne_of_lt (Nat.lt_of_lt_of_le (P102_0.keep Kq104 nin0).lt (Nat.le_of_eq g106.symm))) nin0)).lt (Nat.le_of_eq g116.symm))) nin0)).lt (Nat.le_of_eq g126.symm))) nin0)) (by unfold own_f4; rw [if_pos c141, if_pos c148, e_v154]) R102_1
    · have sg158 : ∀ t, Steps p.tables e below (T134.setTop (mkF m 121 #[.val (.int q0), .val (.int q1), .val (.int q2), .val (.int q3), .val (.int q4), .val (.int q5), .val (.ref b9102), .val (.ref b9104), .val (.ref b106), .val (.ref b116), .val (.ref b126), .val (.int (0 : Int32))] [])) t → Steps p.tables e below (T134.setTop (mkF m 100 #[.val (.int q0), .val (.int q1), .val (.int q2), .val (.int q3), .val (.int q4), .val (.int q5), .val (.ref b9102), .val (.ref b9104), .val (.ref b106), .val (.ref b116), .val (.ref b126), .unset] [(.int y9104), (.int y9102)])) t := by
        intro t k
        show Steps p.tables e below (T134.setTop (mkF m 100 #[.val (.int q0), .val (.int q1), .val (.int q2), .val (.int q3), .val (.int q4), .val (.int q5), .val (.ref b9102), .val (.ref b9104), .val (.ref b106), .val (.ref b116), .val (.ref b126), .unset] [(.int y9104), (.int y9102)])) t
        refine XS.icmpYes X134.here hx rfl (pc0 := 100) (pc' := 118) rfl (hb hby at_100) rfl (feq c148).2 (by decide) (by decide) ?_
        show Steps p.tables e below (T134.setTop (mkF m 118 #[.val (.int q0), .val (.int q1), .val (.int q2), .val (.int q3), .val (.int q4), .val (.int q5), .val (.ref b9102), .val (.ref b9104), .val (.ref b106), .val (.ref b116), .val (.ref b126), .unset] [])) t
        refine XS.iconst X134.here hx rfl (hb hby at_118) ?_
        show Steps p.tables e below (T134.setTop (mkF m 119 #[.val (.int q0), .val (.int q1), .val (.int q2), .val (.int q3), .val (.int q4), .val (.int q5), .val (.ref b9102), .val (.ref b9104), .val (.ref b106), .val (.ref b116), .val (.ref b126), .unset] [(.int (0 : Int32))])) t
        refine XS.istore X134.here hx rfl (hb hby at_119) rfl (l' := #[.val (.int q0), .val (.int q1), .val (.int q2), .val (.int q3), .val (.int q4), .val (.int q5), .val (.ref b9102), .val (.ref b9104), .val (.ref b106), .val (.ref b116), .val (.ref b126), .val (.int (0 : Int32))]) rfl ?_
        exact k
      refine OFin.go sg158 ?_
      exact pt0_121 Z aZ hw q0 q1 q2 q3 q4 q5 ca ccl h0 n0 Z0 S1 S2 hB b9102 b9104 b106 b116 b126 (0 : Int32) k9102 x9102 y9102 z9102 x9104 y9104 z9104 T134.heap X134 hx hZ hby hml hown hnm hret hlk rfl K134 N134 ((((((((O0.keep Kq102 all0).keep Kq104 all0).ext E106).keep Kq114 (allS g_b106 all0)).ext E116).keep Kq124 (allS g_b116 all0)).ext E126).keep Kq134 (allS g_b126 all0)) (((((A106.keep Kq114).ext E116).keep Kq124).ext E126).keep Kq134) ((((P114_0.ext E116).keep Kq124 (ninS (Nat.ne_of_lt (Nat.lt_of_lt_of_le (A106.keep Kq114).lt (Nat.le_of_eq g116.symm))) nin0)).ext E126).keep Kq134 (ninS (Nat.ne_of_lt (Nat.lt_of_lt_of_le (((A106.keep Kq114).ext E116).keep Kq124).lt (Nat.le_of_eq g126.symm))) nin0)) ((((P114_1.ext E116).keep Kq124 (ninS (Nat.ne_of_lt (Nat.lt_of_lt_of_le (A106.keep Kq114).lt (Nat.le_of_eq g116.symm))) nin0)).ext E126).keep Kq134 (ninS (Nat.ne_of_lt (Nat.lt_of_lt_of_le (((A106.keep Kq114).ext E116).keep Kq124).lt (Nat.le_of_eq g126.symm))) nin0)) ((((P114_2.ext E116).keep Kq124 (ninS (Nat.ne_of_lt (Nat.lt_of_lt_of_le (A106.keep Kq114).lt (Nat.le_of_eq g116.symm))) nin0)).ext E126).keep Kq134 (ninS (Nat.ne_of_lt (Nat.lt_of_lt_of_le (((A106.keep Kq114).ext E116).keep Kq124).lt (Nat.le_of_eq g126.symm))) nin0)) (((A116.keep Kq124).ext E126).keep Kq134) ((P124_0.ext E126).keep Kq134 (ninS (Nat.ne_of_lt (Nat.lt_of_lt_of_le (A116.keep Kq124).lt (Nat.le_of_eq g126.symm))) nin0)) ((P124_1.ext E126).keep Kq134 (ninS (Nat.ne_of_lt (Nat.lt_of_lt_of_le (A116.keep Kq124).lt (Nat.le_of_eq g126.symm))) nin0)) ((P124_2.ext E126).keep Kq134 (ninS (Nat.ne_of_lt (Nat.lt_of_lt_of_le (A116.keep Kq124).lt (Nat.le_of_eq g126.symm))) nin0)) (A126.keep Kq134) P134_0 P134_1 P134_2 (((((((P102_0.keep Kq104 nin0).ext E106).keep Kq114 (ninS (Nat.ne_of_lt (Nat.lt_of_lt_of_le (P102_0.keep Kq104 nin0).lt (Nat.le_of_eq g106.symm))) nin0)).ext E116).keep Kq124 (ninS (Nat.ne_of_lt (Nat.lt_of_lt_of_le (((P102_0.keep Kq104 nin0).ext E106).keep Kq114 (ninS (Nat.ne_of_lt (Nat.lt_of_lt_of_le (P102_0.keep Kq104 nin0).lt (Nat.le_of_eq g106.symm))) nin0)).lt (Nat.le_of_eq g116.symm))) nin0)).ext E126).keep Kq134 (ninS (Nat.ne_of_lt (Nat.lt_of_lt_of_le (((((P102_0.keep Kq104 nin0).ext E106).keep Kq114 (ninS (Nat.ne_of_lt (Nat.lt_of_lt_of_le (P102_0.keep Kq104 nin0).lt (Nat.le_of_eq g106.symm))) nin0)).ext E116).keep Kq124 (ninS (Nat.ne_of_lt (Nat.lt_of_lt_of_le (((P102_0.keep Kq104 nin0).ext E106).keep Kq114 (ninS (Nat.ne_of_lt (Nat.lt_of_lt_of_le (P102_0.keep Kq104 nin0).lt (Nat.le_of_eq g106.symm))) nin0)).lt (Nat.le_of_eq g116.symm))) nin0)).lt (Nat.le_of_eq g126.symm))) nin0)) (by unfold own_f4; rw [if_pos c141, if_neg c148]) R102_1
  · have sg159 : ∀ t, Steps p.tables e below (T134.setTop (mkF m 121 #[.val (.int q0), .val (.int q1), .val (.int q2), .val (.int q3), .val (.int q4), .val (.int q5), .val (.ref b9102), .val (.ref b9104), .val (.ref b106), .val (.ref b116), .val (.ref b126), .val (.int (0 : Int32))] [])) t → Steps p.tables e below (T134.setTop (mkF m 89 #[.val (.int q0), .val (.int q1), .val (.int q2), .val (.int q3), .val (.int q4), .val (.int q5), .val (.ref b9102), .val (.ref b9104), .val (.ref b106), .val (.ref b116), .val (.ref b126), .unset] [(.int x9104), (.int x9102)])) t := by
      intro t k
      show Steps p.tables e below (T134.setTop (mkF m 89 #[.val (.int q0), .val (.int q1), .val (.int q2), .val (.int q3), .val (.int q4), .val (.int q5), .val (.ref b9102), .val (.ref b9104), .val (.ref b106), .val (.ref b116), .val (.ref b126), .unset] [(.int x9104), (.int x9102)])) t
      refine XS.icmpYes X134.here hx rfl (pc0 := 89) (pc' := 118) rfl (hb hby at_89) rfl (feq c141).2 (by decide) (by decide) ?_
      show Steps p.tables e below (T134.setTop (mkF m 118 #[.val (.int q0), .val (.int q1), .val (.int q2), .val (.int q3), .val (.int q4), .val (.int q5), .val (.ref b9102), .val (.ref b9104), .val (.ref b106), .val (.ref b116), .val (.ref b126), .unset] [])) t
      refine XS.iconst X134.here hx rfl (hb hby at_118) ?_
      show Steps p.tables e below (T134.setTop (mkF m 119 #[.val (.int q0), .val (.int q1), .val (.int q2), .val (.int q3), .val (.int q4), .val (.int q5), .val (.ref b9102), .val (.ref b9104), .val (.ref b106), .val (.ref b116), .val (.ref b126), .unset] [(.int (0 : Int32))])) t
      refine XS.istore X134.here hx rfl (hb hby at_119) rfl (l' := #[.val (.int q0), .val (.int q1), .val (.int q2), .val (.int q3), .val (.int q4), .val (.int q5), .val (.ref b9102), .val (.ref b9104), .val (.ref b106), .val (.ref b116), .val (.ref b126), .val (.int (0 : Int32))]) rfl ?_
      exact k
    refine OFin.go sg159 ?_
    exact pt0_121 Z aZ hw q0 q1 q2 q3 q4 q5 ca ccl h0 n0 Z0 S1 S2 hB b9102 b9104 b106 b116 b126 (0 : Int32) k9102 x9102 y9102 z9102 x9104 y9104 z9104 T134.heap X134 hx hZ hby hml hown hnm hret hlk rfl K134 N134 ((((((((O0.keep Kq102 all0).keep Kq104 all0).ext E106).keep Kq114 (allS g_b106 all0)).ext E116).keep Kq124 (allS g_b116 all0)).ext E126).keep Kq134 (allS g_b126 all0)) (((((A106.keep Kq114).ext E116).keep Kq124).ext E126).keep Kq134) ((((P114_0.ext E116).keep Kq124 (ninS (Nat.ne_of_lt (Nat.lt_of_lt_of_le (A106.keep Kq114).lt (Nat.le_of_eq g116.symm))) nin0)).ext E126).keep Kq134 (ninS (Nat.ne_of_lt (Nat.lt_of_lt_of_le (((A106.keep Kq114).ext E116).keep Kq124).lt (Nat.le_of_eq g126.symm))) nin0)) ((((P114_1.ext E116).keep Kq124 (ninS (Nat.ne_of_lt (Nat.lt_of_lt_of_le (A106.keep Kq114).lt (Nat.le_of_eq g116.symm))) nin0)).ext E126).keep Kq134 (ninS (Nat.ne_of_lt (Nat.lt_of_lt_of_le (((A106.keep Kq114).ext E116).keep Kq124).lt (Nat.le_of_eq g126.symm))) nin0)) ((((P114_2.ext E116).keep Kq124 (ninS (Nat.ne_of_lt (Nat.lt_of_lt_of_le (A106.keep Kq114).lt (Nat.le_of_eq g116.symm))) nin0)).ext E126).keep Kq134 (ninS (Nat.ne_of_lt (Nat.lt_of_lt_of_le (((A106.keep Kq114).ext E116).keep Kq124).lt (Nat.le_of_eq g126.symm))) nin0)) (((A116.keep Kq124).ext E126).keep Kq134) ((P124_0.ext E126).keep Kq134 (ninS (Nat.ne_of_lt (Nat.lt_of_lt_of_le (A116.keep Kq124).lt (Nat.le_of_eq g126.symm))) nin0)) ((P124_1.ext E126).keep Kq134 (ninS (Nat.ne_of_lt (Nat.lt_of_lt_of_le (A116.keep Kq124).lt (Nat.le_of_eq g126.symm))) nin0)) ((P124_2.ext E126).keep Kq134 (ninS (Nat.ne_of_lt (Nat.lt_of_lt_of_le (A116.keep Kq124).lt (Nat.le_of_eq g126.symm))) nin0)) (A126.keep Kq134) P134_0 P134_1 P134_2 (((((((P102_0.keep Kq104 nin0).ext E106).keep Kq114 (ninS (Nat.ne_of_lt (Nat.lt_of_lt_of_le (P102_0.keep Kq104 nin0).lt (Nat.le_of_eq g106.symm))) nin0)).ext E116).keep Kq124 (ninS (Nat.ne_of_lt (Nat.lt_of_lt_of_le (((P102_0.keep Kq104 nin0).ext E106).keep Kq114 (ninS (Nat.ne_of_lt (Nat.lt_of_lt_of_le (P102_0.keep Kq104 nin0).lt (Nat.le_of_eq g106.symm))) nin0)).lt (Nat.le_of_eq g116.symm))) nin0)).ext E126).keep Kq134 (ninS (Nat.ne_of_lt (Nat.lt_of_lt_of_le (((((P102_0.keep Kq104 nin0).ext E106).keep Kq114 (ninS (Nat.ne_of_lt (Nat.lt_of_lt_of_le (P102_0.keep Kq104 nin0).lt (Nat.le_of_eq g106.symm))) nin0)).ext E116).keep Kq124 (ninS (Nat.ne_of_lt (Nat.lt_of_lt_of_le (((P102_0.keep Kq104 nin0).ext E106).keep Kq114 (ninS (Nat.ne_of_lt (Nat.lt_of_lt_of_le (P102_0.keep Kq104 nin0).lt (Nat.le_of_eq g106.symm))) nin0)).lt (Nat.le_of_eq g116.symm))) nin0)).lt (Nat.le_of_eq g126.symm))) nin0)) (by unfold own_f4; rw [if_neg c141]) R102_1
theorem own_len {args : Array Value} {s : State} {t : Term} {a : Addr} {cl : Cell} {v : Value} (h : (Term.length t).eval args s none [] s = some v) (ht : t.eval args s none [] s = some (.ref a)) (hc : s.arrayAt? a = some cl) : cl.slots.size < 2 ^ 31 := by
  by_cases q : cl.slots.size < 2 ^ 31
  · exact q
  · simp [Term.eval, ht, hc, q] at h
set_option maxHeartbeats 40000000 in
theorem comes_1 {Post : Tables → Env → Array Value → State → Outcome → State → Prop} (hpost : ∀ tb e args s v u, (limb_1_1.after args s (.returned v) u = true ∧ limb_1_2.after args s (.returned v) u = true ∧ True) → FrameEnd s (.returned v) u (Jvm.fieldLocs frame_1_writes args s ++ Jvm.arrayLocs frame_1_arrays args s ++ Jvm.staticLocs frame_1_statics s) 24 128 → Post tb e args s (.returned v) u) :
    ArmFor flags0 classFile x code maxLocals ret World_1 tables_1 room_1 Calls_1 rest_1 Pre_1 Post := by
  intro l hfl _ _ p e ha hc hk s m args below hf hA hF happ hP
  obtain ⟨hcalls, hrest, hpre⟩ := hP
  obtain ⟨-, -, -, hnamed, -, -, -, hat⟩ := (Spec.applies_iff hf).mp happ
  obtain ⟨hg, hn⟩ := and_e (Cond.before_iff.mp (show (Jvm.Cond.and given_1 narrow_1).before args s = true from hpre))
  obtain ⟨gg1, gg2⟩ := and_e hg
  obtain ⟨gg3, gg4⟩ := and_e gg2
  obtain ⟨gg5, gg6⟩ := and_e gg4
  obtain ⟨gg7, gg8⟩ := and_e gg6
  obtain ⟨gg9, gg10⟩ := and_e gg8
  obtain ⟨gg11, gg12⟩ := and_e gg10
  obtain ⟨w0, w1, w2, w3, w4, w5, rfl⟩ : ∃ w0 w1 w2 w3 w4 w5 : Value, args = #[w0, w1, w2, w3, w4, w5] := by
    have hs : args.size = 6 := by simpa [Cond.value, given_1] using gg1
    obtain ⟨L⟩ := args
    match L, hs with
    | [w0, w1, w2, w3, w4, w5], _ => exact ⟨w0, w1, w2, w3, w4, w5, rfl⟩
  have hw := fun d (hd : d ∈ tables_1) => atoms_spec (ws := Jvm.Cond.code x code maxLocals ret :: tables_1) hat d (List.mem_cons_of_mem _ hd)
  have hfit : Fit s := fun {y c} hc i hi => by
    obtain ⟨ha, rfl⟩ := Array.getElem?_eq_some_iff.mp hc
    have q := List.all_eq_true.mp ((Array.all_eq_true_iff_forall_mem.mp hF) _ (Array.getElem_mem ha)) i (List.mem_range.mpr hi)
    simpa [Array.getElem?_eq_getElem hi] using q
  obtain ⟨hsets, hown0⟩ := atoms_of _ (rest_1_c_eq ▸ (show rest_1_c.before _ s = true from hrest))
  have hr0 := Cond.before_iff.mp hown0
  obtain ⟨i0, ei0⟩ := is_v gg3
  obtain rfl : w0 = (.int i0) := Option.some.inj ei0
  obtain ⟨i1, ei1⟩ := is_v gg5
  obtain rfl : w1 = (.int i1) := Option.some.inj ei1
  obtain ⟨i2, ei2⟩ := is_v gg7
  obtain rfl : w2 = (.int i2) := Option.some.inj ei2
  obtain ⟨i3, ei3⟩ := is_v gg9
  obtain rfl : w3 = (.int i3) := Option.some.inj ei3
  obtain ⟨i4, ei4⟩ := is_v gg11
  obtain rfl : w4 = (.int i4) := Option.some.inj ei4
  obtain ⟨i5, ei5⟩ := is_v gg12
  obtain rfl : w5 = (.int i5) := Option.some.inj ei5
  have j3 := Cond.before_iff.mp (hsets _ (List.mem_of_getElem? (i := 3) rfl))
  have j4 := Cond.before_iff.mp (hsets _ (List.mem_of_getElem? (i := 4) rfl))
  have j6 := Cond.before_iff.mp (hsets _ (List.mem_of_getElem? (i := 6) rfl))
  have j7 := Cond.before_iff.mp (hsets _ (List.mem_of_getElem? (i := 7) rfl))
  have S1 := Sta.start (eqv_i (Term.int_eval (127)) j3) (Or.inl (hsets _ (List.mem_of_getElem? (i := 1) rfl)))
  obtain ⟨ca, ev⟩ := arr_v j4
  have S2 := Sta.start ev (Or.inr ⟨(hw _ (List.mem_of_getElem? (i := 33) rfl)), hsets _ (List.mem_of_getElem? (i := 2) rfl)⟩)
  obtain ⟨ccl, hA⟩ := Arr.start ev j4
  have ln := eqv_i (Term.int_eval (256)) j6
  obtain ⟨a', cell', la, lb, lc⟩ := Term.length_spec ln
  cases ev.symm.trans la
  cases (hA.fin (Vm.Alike.refl _)).symm.trans lb
  have hz : ccl.slots.size.toInt32 = 256 := (Value.int.inj lc).symm
  have hlt : ccl.slots.size < 2 ^ 31 := own_len ln ev (hA.fin (Vm.Alike.refl _))
  have hB : Bxs s ca ccl "java/lang/Integer" "I" (256 : Int32) (fun j => .int (j - (128 : Int32))) := Bxs.start (fun idx => (by simpa [Term.eval] using ev)) hA hlt hz (by decide) j7 (fun X j nn h => eqv_i (by simp [Term.eval, back32 nn]) h)
  obtain ⟨n, o, h1, h2, h3, _, L, rfl, ⟨rfl, N⟩, hq⟩ := rm0 l s _ hw tables_1 i0 i1 i2 i3 i4 i5 ca ccl s.heap s.heap.size (Nat.le_refl _) (Old.start s) S1 S2 hB p e ha hc hk s m _ below hf ((Spec.applies_iff_loose hf).mp happ).1 ⟨rfl, State.Warmed39.refl s, rfl⟩ trivial
  refine ⟨n, _, h1, h2, h3, hpost _ _ _ _ _ _ ⟨Cond.after_iff.mpr rfl, Cond.after_iff.mpr (eq_i res_at (Term.int_eval (1)) rfl), trivial⟩ ⟨hq.1, hq.2.1, (hq.2.2.sift fun y hy => Or.inr (N y hy)).mono (by decide) (by decide)⟩⟩
theorem main_1_1 : Claimed_1_1 := comes_1 fun _ _ _ _ _ _ h hF => ⟨h.1, hF⟩
theorem main_1_2 : Claimed_1_2 := comes_1 fun _ _ _ _ _ _ h hF => ⟨h.2.1, hF⟩
end Jvm.Pilot.@@N@@
namespace Jvm.Pilot.@@N@@
open Jvm Jvm.ClassFile Sem Op Lib Jvm.Free Jvm.Stand Jvm.Pilot.@@N@@.Jvm.D
/-! MADE BY PROGRAM (witnessworld.py) out of the Statement's table words and the real class files: 16 classes; the members and pool entries that the words name. The judged class is class 1, her method 2. -/
namespace start1
open Jvm.ClassFile
def u (s : String) : CpInfo := .utf8 (stringToUtf16 s)
/-- a pool by its gaps: so many unusable entries, then the entry; so many at the end -/
def gap : Nat → List CpInfo → List CpInfo
  | 0, r => r
  | n + 1, r => .unusable :: gap n r
def poolList (es : List (Nat × CpInfo)) (last : Nat) : List CpInfo := es.foldr (fun e r => gap e.1 (e.2 :: r)) (gap last [])
def pool (es : List (Nat × CpInfo)) (last : Nat) : Array CpInfo := ⟨poolList es last⟩
def fileOf (pool : Array CpInfo) (this : Nat) (attrs : Array Attribute := #[]) (ms : Array MethodInfo := #[]) (fl : Nat := 33) (sup : Nat := 0) (ifs : Array Nat := #[]) (fds : Array FieldInfo := #[]) : ClassFile where
  minorVersion := 0
  majorVersion := 65
  constantPool := pool
  accessFlags := fl
  thisClass := this
  superClass := sup
  interfaces := ifs
  fields := fds
  methods := ms
  attributes := attrs
def plain (name : String) (sup : Option ClassId) : Class where
  name := name
  kind := .ordinary
  loader := none
  accessFlags := 33
  super := sup
  interfaces := #[]
  cf := none
  fields := #[]
  methods := #[]
  instanceTypes := #[]
  staticTypes := #[]
  resolved := #[]
  callSites := []
  init := .initialized
  statics := none
  mirror := none

def pool0 : Array CpInfo := pool [(5, u "<init>"), (0, u "()V"), (1, .class_ 10), (1, u "java/lang/Object")] 113

def k0c0 : Code := { maxStack := 0, maxLocals := 1, code := object_method_1_code, exceptionTable := #[], attributes := #[] }
def k0m0 : Method := { name := "<init>", desc := "()V", sig := { parameters := [], returnType := none }, accessFlags := 1, code := some k0c0 }
/-- java/lang/Object -/
def k0 : Class := { plain "java/lang/Object" none with
  accessFlags := 33
  interfaces := #[]
  cf := some (fileOf pool0 8 #[] #[{ accessFlags := 1, nameIndex := 5, descriptorIndex := 6, attributes := #[] }] 33 0 #[] #[])
  fields := #[]
  methods := #[k0m0]
  instanceTypes := #[]
  staticTypes := #[]
  resolved := Array.replicate 124 none
  statics := none }

def pool1 : Array CpInfo := pool [(2, .class_ 4), (1, u "java/lang/Object"), (0, u "<init>"), (0, u "()V"), (0, .integer 2147483647), (0, .methodref 9 10), (0, .class_ 11), (0, .nameAndType 12 13), (0, u "com/example/parlint/parlint/BlockShapeEqualsPinLaw"), (0, u "extents"), (0, u "(III)[I"), (0, .class_ 15), (0, u "com/example/parlint/parlint/BlockShape"), (0, .methodref 14 17), (0, .nameAndType 5 18), (0, u "(III)V"), (0, .methodref 14 20), (0, .nameAndType 21 22), (0, u "equals"), (0, u "(Ljava/lang/Object;)Z"), (0, .methodref 24 25), (0, .class_ 26), (0, .nameAndType 27 28), (0, u "java/lang/Integer"), (0, u "valueOf"), (0, u "(I)Ljava/lang/Integer;"), (2, u "law"), (0, u "(IIIIII)Z")] 5

def k1m0 : Method := { name := "<init>", desc := "()V", sig := { parameters := [], returnType := none }, accessFlags := 1, code := none }
def k1c1 : Code := { maxStack := 4, maxLocals := 7, code := method_2_code, exceptionTable := #[], attributes := #[] }
def k1m1 : Method := { name := "extents", desc := "(III)[I", sig := { parameters := [.int, .int, .int], returnType := some (.array .int) }, accessFlags := 10, code := some k1c1 }
def k1c2 : Code := { maxStack := 6, maxLocals := 12, code := code, exceptionTable := #[], attributes := #[] }
def k1m2 : Method := { name := "law", desc := "(IIIIII)Z", sig := { parameters := [.int, .int, .int, .int, .int, .int], returnType := some .boolean }, accessFlags := 9, code := some k1c2 }
/-- com/example/parlint/parlint/BlockShapeEqualsPinLaw -/
def k1 : Class := { plain "com/example/parlint/parlint/BlockShapeEqualsPinLaw" (some 0) with
  accessFlags := 49
  interfaces := #[]
  cf := some (fileOf pool1 9 #[] #[{ accessFlags := 1, nameIndex := 5, descriptorIndex := 6, attributes := #[] }, { accessFlags := 10, nameIndex := 12, descriptorIndex := 13, attributes := #[] }, { accessFlags := 9, nameIndex := 31, descriptorIndex := 32, attributes := #[] }] 49 2 #[] #[])
  fields := #[]
  methods := #[k1m0, k1m1, k1m2]
  instanceTypes := #[]
  staticTypes := #[]
  resolved := Array.replicate 38 none
  statics := none }

def pool2 : Array CpInfo := pool [(1, .methodref 2 3), (0, .class_ 4), (0, .nameAndType 5 6), (0, u "java/lang/Object"), (0, u "<init>"), (0, u "()V"), (3, .class_ 12), (1, u "com/example/parlint/parlint/BlockShape"), (12, .fieldref 10 26), (0, .nameAndType 27 28), (0, u "dimX"), (0, u "I"), (0, .fieldref 10 30), (0, .nameAndType 31 28), (0, u "dimY"), (0, .fieldref 10 33), (0, .nameAndType 34 28), (0, u "dimZ"), (2, u "TEXT"), (0, u "Ljava/util/regex/Pattern;"), (23, u "(III)V"), (38, u "MAX_THREADS"), (15, u "equals"), (0, u "(Ljava/lang/Object;)Z")] 27

def k2c0 : Code := { maxStack := 5, maxLocals := 4, code := prog_1_method_1_code, exceptionTable := #[], attributes := #[] }
def k2m0 : Method := { name := "<init>", desc := "(III)V", sig := { parameters := [.int, .int, .int], returnType := none }, accessFlags := 1, code := some k2c0 }
def k2c1 : Code := { maxStack := 2, maxLocals := 3, code := prog_1_method_14_code, exceptionTable := #[], attributes := #[] }
def k2m1 : Method := { name := "equals", desc := "(Ljava/lang/Object;)Z", sig := { parameters := [(.object "java/lang/Object")], returnType := some .boolean }, accessFlags := 1, code := some k2c1 }
/-- com/example/parlint/parlint/BlockShape -/
def k2 : Class := { plain "com/example/parlint/parlint/BlockShape" (some 0) with
  accessFlags := 33
  interfaces := #[]
  cf := some (fileOf pool2 10 #[] #[{ accessFlags := 1, nameIndex := 5, descriptorIndex := 62, attributes := #[] }, { accessFlags := 1, nameIndex := 117, descriptorIndex := 118, attributes := #[] }] 33 2 #[] #[{ accessFlags := 25, nameIndex := 101, descriptorIndex := 28, attributes := #[] }, { accessFlags := 26, nameIndex := 37, descriptorIndex := 38, attributes := #[] }, { accessFlags := 18, nameIndex := 27, descriptorIndex := 28, attributes := #[] }, { accessFlags := 18, nameIndex := 31, descriptorIndex := 28, attributes := #[] }, { accessFlags := 18, nameIndex := 34, descriptorIndex := 28, attributes := #[] }])
  fields := #[{ name := "MAX_THREADS", type := .int, accessFlags := 25, slot := 0, constantValue := 0 }, { name := "TEXT", type := (.object "java/util/regex/Pattern"), accessFlags := 26, slot := 1, constantValue := 0 }, { name := "dimX", type := .int, accessFlags := 18, slot := 0, constantValue := 0 }, { name := "dimY", type := .int, accessFlags := 18, slot := 1, constantValue := 0 }, { name := "dimZ", type := .int, accessFlags := 18, slot := 2, constantValue := 0 }]
  methods := #[k2m0, k2m1]
  instanceTypes := #[.int, .int, .int]
  staticTypes := #[.int, (.object "java/util/regex/Pattern")]
  resolved := Array.replicate 146 none
  statics := none }

def pool3 : Array CpInfo := pool [(1, .class_ 2), (0, u "java/io/Serializable"), (0, .class_ 4), (0, u "java/lang/Object")] 2

/-- java/io/Serializable -/
def k3 : Class := { plain "java/io/Serializable" (some 0) with
  accessFlags := 1537
  interfaces := #[]
  cf := some (fileOf pool3 1 #[] #[] 1537 3 #[] #[])
  fields := #[]
  methods := #[]
  instanceTypes := #[]
  staticTypes := #[]
  resolved := Array.replicate 7 none
  statics := none }

def pool4 : Array CpInfo := pool [(1, .methodref 2 3), (0, .class_ 4), (0, .nameAndType 5 6), (0, u "java/lang/Object"), (0, u "<init>"), (0, u "()V"), (1, .class_ 10), (1, u "java/lang/Number"), (2, .class_ 14), (0, u "java/io/Serializable"), (0, u "serialVersionUID"), (0, u "J")] 20

def k4c0 : Code := { maxStack := 1, maxLocals := 1, code := jdk_18_method_1_code, exceptionTable := #[], attributes := #[] }
def k4m0 : Method := { name := "<init>", desc := "()V", sig := { parameters := [], returnType := none }, accessFlags := 1, code := some k4c0 }
/-- java/lang/Number -/
def k4 : Class := { plain "java/lang/Number" (some 0) with
  accessFlags := 1057
  interfaces := #[3]
  cf := some (fileOf pool4 8 #[] #[{ accessFlags := 1, nameIndex := 5, descriptorIndex := 6, attributes := #[] }] 1057 2 #[13] #[{ accessFlags := 26, nameIndex := 15, descriptorIndex := 16, attributes := #[] }])
  fields := #[{ name := "serialVersionUID", type := .long, accessFlags := 26, slot := 0, constantValue := 0 }]
  methods := #[k4m0]
  instanceTypes := #[]
  staticTypes := #[.long]
  resolved := Array.replicate 37 none
  statics := none }

def pool5 : Array CpInfo := pool [(1, .class_ 2), (0, u "java/lang/Comparable"), (0, .class_ 4), (0, u "java/lang/Object")] 7

/-- java/lang/Comparable -/
def k5 : Class := { plain "java/lang/Comparable" (some 0) with
  accessFlags := 1537
  interfaces := #[]
  cf := some (fileOf pool5 1 #[] #[] 1537 3 #[] #[])
  fields := #[]
  methods := #[]
  instanceTypes := #[]
  staticTypes := #[]
  resolved := Array.replicate 12 none
  statics := none }

def pool6 : Array CpInfo := pool [(1, .class_ 2), (0, u "java/lang/constant/Constable"), (0, .class_ 4), (0, u "java/lang/Object")] 6

/-- java/lang/constant/Constable -/
def k6 : Class := { plain "java/lang/constant/Constable" (some 0) with
  accessFlags := 1537
  interfaces := #[]
  cf := some (fileOf pool6 1 #[] #[] 1537 3 #[] #[])
  fields := #[]
  methods := #[]
  instanceTypes := #[]
  staticTypes := #[]
  resolved := Array.replicate 11 none
  statics := none }

def pool7 : Array CpInfo := pool [(1, .class_ 2), (0, u "java/lang/constant/ConstantDesc"), (0, .class_ 4), (0, u "java/lang/Object")] 32

/-- java/lang/constant/ConstantDesc -/
def k7 : Class := { plain "java/lang/constant/ConstantDesc" (some 0) with
  accessFlags := 1537
  interfaces := #[]
  cf := some (fileOf pool7 1 #[] #[] 1537 3 #[] #[])
  fields := #[]
  methods := #[]
  instanceTypes := #[]
  staticTypes := #[]
  resolved := Array.replicate 37 none
  statics := none }

def pool8 : Array CpInfo := pool [(1, .class_ 2), (0, u "java/lang/Integer"), (16, u "digits"), (0, u "[C"), (46, u "<init>"), (17, u "DigitOnes"), (0, u "[B"), (2, u "DigitTens"), (10, .nameAndType 67 101), (0, u "()V"), (85, u "valueOf"), (0, u "(I)Ljava/lang/Integer;"), (0, .class_ 190), (0, u "java/lang/Integer$IntegerCache"), (0, .fieldref 189 192), (0, .nameAndType 193 194), (0, u "high"), (0, u "I"), (0, .fieldref 189 196), (0, .nameAndType 197 198), (0, u "cache"), (0, u "[Ljava/lang/Integer;"), (0, .methodref 1 200), (0, .nameAndType 67 201), (0, u "(I)V"), (0, .methodref 203 100), (0, .class_ 204), (0, u "java/lang/Number"), (0, .fieldref 1 206), (0, .nameAndType 207 194), (0, u "value"), (94, u "TYPE"), (0, u "Ljava/lang/Class;"), (0, .class_ 305), (0, u "java/lang/Comparable"), (0, .class_ 307), (0, u "java/lang/constant/Constable"), (0, .class_ 309), (0, u "java/lang/constant/ConstantDesc"), (0, u "MIN_VALUE"), (1, u "MAX_VALUE"), (3, u "SIZE"), (1, u "BYTES"), (1, u "serialVersionUID"), (0, u "J")] 131

def k8c0 : Code := { maxStack := 3, maxLocals := 1, code := jdk_33_method_22_code, exceptionTable := #[], attributes := #[] }
def k8m0 : Method := { name := "valueOf", desc := "(I)Ljava/lang/Integer;", sig := { parameters := [.int], returnType := some (.object "java/lang/Integer") }, accessFlags := 9, code := some k8c0 }
def k8c1 : Code := { maxStack := 2, maxLocals := 2, code := jdk_33_method_23_code, exceptionTable := #[], attributes := #[] }
def k8m1 : Method := { name := "<init>", desc := "(I)V", sig := { parameters := [.int], returnType := none }, accessFlags := 1, code := some k8c1 }
/-- java/lang/Integer -/
def k8 : Class := { plain "java/lang/Integer" (some 4) with
  accessFlags := 49
  interfaces := #[5, 6, 7]
  cf := some (fileOf pool8 1 #[.nestMembers #[189]] #[{ accessFlags := 9, nameIndex := 187, descriptorIndex := 188, attributes := #[] }, { accessFlags := 1, nameIndex := 67, descriptorIndex := 201, attributes := #[] }] 49 203 #[304, 306, 308] #[{ accessFlags := 25, nameIndex := 310, descriptorIndex := 194, attributes := #[] }, { accessFlags := 25, nameIndex := 312, descriptorIndex := 194, attributes := #[] }, { accessFlags := 25, nameIndex := 302, descriptorIndex := 303, attributes := #[] }, { accessFlags := 24, nameIndex := 19, descriptorIndex := 20, attributes := #[] }, { accessFlags := 24, nameIndex := 89, descriptorIndex := 86, attributes := #[] }, { accessFlags := 24, nameIndex := 85, descriptorIndex := 86, attributes := #[] }, { accessFlags := 18, nameIndex := 207, descriptorIndex := 194, attributes := #[] }, { accessFlags := 25, nameIndex := 316, descriptorIndex := 194, attributes := #[] }, { accessFlags := 25, nameIndex := 318, descriptorIndex := 194, attributes := #[] }, { accessFlags := 26, nameIndex := 320, descriptorIndex := 321, attributes := #[] }])
  fields := #[{ name := "MIN_VALUE", type := .int, accessFlags := 25, slot := 0, constantValue := 0 }, { name := "MAX_VALUE", type := .int, accessFlags := 25, slot := 1, constantValue := 0 }, { name := "TYPE", type := (.object "java/lang/Class"), accessFlags := 25, slot := 2, constantValue := 0 }, { name := "digits", type := (.array .char), accessFlags := 24, slot := 3, constantValue := 0 }, { name := "DigitTens", type := (.array .byte), accessFlags := 24, slot := 4, constantValue := 0 }, { name := "DigitOnes", type := (.array .byte), accessFlags := 24, slot := 5, constantValue := 0 }, { name := "value", type := .int, accessFlags := 18, slot := 0, constantValue := 0 }, { name := "SIZE", type := .int, accessFlags := 25, slot := 6, constantValue := 0 }, { name := "BYTES", type := .int, accessFlags := 25, slot := 7, constantValue := 0 }, { name := "serialVersionUID", type := .long, accessFlags := 26, slot := 8, constantValue := 0 }]
  methods := #[k8m0, k8m1]
  instanceTypes := #[.int]
  staticTypes := #[.int, .int, (.object "java/lang/Class"), (.array .char), (.array .byte), (.array .byte), .int, .int, .long]
  resolved := Array.replicate 453 none
  statics := none }

def pool9 : Array CpInfo := pool [(2, .class_ 4), (1, u "java/lang/Object"), (0, u "<init>"), (0, u "()V"), (0, .class_ 8), (0, u "java/lang/Integer"), (7, .class_ 18), (1, u "java/lang/Integer$IntegerCache"), (0, u "$assertionsDisabled"), (0, u "Z"), (26, u "high"), (0, u "I"), (8, u "archivedCache"), (0, u "[Ljava/lang/Integer;"), (12, u "cache"), (0, u "low")] 27

def k9m0 : Method := { name := "<init>", desc := "()V", sig := { parameters := [], returnType := none }, accessFlags := 2, code := none }
/-- java/lang/Integer$IntegerCache -/
def k9 : Class := { plain "java/lang/Integer$IntegerCache" (some 0) with
  accessFlags := 48
  interfaces := #[]
  cf := some (fileOf pool9 16 #[.nestHost 7] #[{ accessFlags := 2, nameIndex := 5, descriptorIndex := 6, attributes := #[] }] 48 2 #[] #[{ accessFlags := 24, nameIndex := 72, descriptorIndex := 48, attributes := #[] }, { accessFlags := 24, nameIndex := 47, descriptorIndex := 48, attributes := #[] }, { accessFlags := 24, nameIndex := 71, descriptorIndex := 58, attributes := #[] }, { accessFlags := 8, nameIndex := 57, descriptorIndex := 58, attributes := #[] }, { accessFlags := 4120, nameIndex := 19, descriptorIndex := 20, attributes := #[] }])
  fields := #[{ name := "low", type := .int, accessFlags := 24, slot := 0, constantValue := 0 }, { name := "high", type := .int, accessFlags := 24, slot := 1, constantValue := 0 }, { name := "cache", type := (.array (.object "java/lang/Integer")), accessFlags := 24, slot := 2, constantValue := 0 }, { name := "archivedCache", type := (.array (.object "java/lang/Integer")), accessFlags := 8, slot := 3, constantValue := 0 }, { name := "$assertionsDisabled", type := .boolean, accessFlags := 4120, slot := 4, constantValue := 0 }]
  methods := #[k9m0]
  instanceTypes := #[]
  staticTypes := #[.int, .int, (.array (.object "java/lang/Integer")), (.array (.object "java/lang/Integer")), .boolean]
  resolved := Array.replicate 100 none
  statics := some 0 }

def pool10 : Array CpInfo := pool [(1, u "java/lang/Cloneable"), (0, .class_ 1), (0, u "java/lang/Object"), (0, .class_ 3)] 3

/-- java/lang/Cloneable -/
def k10 : Class := { plain "java/lang/Cloneable" (some 0) with
  accessFlags := 1537
  interfaces := #[]
  cf := some (fileOf pool10 2 #[] #[] 1537 4 #[] #[])
  fields := #[]
  methods := #[]
  instanceTypes := #[]
  staticTypes := #[]
  resolved := Array.replicate 8 none
  statics := none }

/-- the primitive byte -/
def k11 : Class := { plain "byte" none with kind := .primitive 'B', accessFlags := 0x411 }
/-- [B -/
def k12 : Class := { plain "[B" (some 0) with kind := .array 11 .byte, interfaces := #[10, 3], accessFlags := 1041 }

/-- the primitive int -/
def k13 : Class := { plain "int" none with kind := .primitive 'I', accessFlags := 0x411 }
/-- [I -/
def k14 : Class := { plain "[I" (some 0) with kind := .array 13 .int, interfaces := #[10, 3], accessFlags := 1041 }

/-- [Ljava/lang/Integer; -/
def k15 : Class := { plain "[Ljava/lang/Integer;" (some 0) with kind := .array 8 (.object "java/lang/Integer"), interfaces := #[10, 3], accessFlags := 1041 }

def heap : Heap := #[{ cls := 9, slots := #[.int 0, .int 127, .ref 1, .null, .int 0], vm := .statics 9 },
  { cls := 15, slots := #[.ref 2, .ref 3, .ref 4, .ref 5, .ref 6, .ref 7, .ref 8, .ref 9, .ref 10, .ref 11, .ref 12, .ref 13, .ref 14, .ref 15, .ref 16, .ref 17, .ref 18, .ref 19, .ref 20, .ref 21, .ref 22, .ref 23, .ref 24, .ref 25, .ref 26, .ref 27, .ref 28, .ref 29, .ref 30, .ref 31, .ref 32, .ref 33, .ref 34, .ref 35, .ref 36, .ref 37, .ref 38, .ref 39, .ref 40, .ref 41, .ref 42, .ref 43, .ref 44, .ref 45, .ref 46, .ref 47, .ref 48, .ref 49, .ref 50, .ref 51, .ref 52, .ref 53, .ref 54, .ref 55, .ref 56, .ref 57, .ref 58, .ref 59, .ref 60, .ref 61, .ref 62, .ref 63, .ref 64, .ref 65, .ref 66, .ref 67, .ref 68, .ref 69, .ref 70, .ref 71, .ref 72, .ref 73, .ref 74, .ref 75, .ref 76, .ref 77, .ref 78, .ref 79, .ref 80, .ref 81, .ref 82, .ref 83, .ref 84, .ref 85, .ref 86, .ref 87, .ref 88, .ref 89, .ref 90, .ref 91, .ref 92, .ref 93, .ref 94, .ref 95, .ref 96, .ref 97, .ref 98, .ref 99, .ref 100, .ref 101, .ref 102, .ref 103, .ref 104, .ref 105, .ref 106, .ref 107, .ref 108, .ref 109, .ref 110, .ref 111, .ref 112, .ref 113, .ref 114, .ref 115, .ref 116, .ref 117, .ref 118, .ref 119, .ref 120, .ref 121, .ref 122, .ref 123, .ref 124, .ref 125, .ref 126, .ref 127, .ref 128, .ref 129, .ref 130, .ref 131, .ref 132, .ref 133, .ref 134, .ref 135, .ref 136, .ref 137, .ref 138, .ref 139, .ref 140, .ref 141, .ref 142, .ref 143, .ref 144, .ref 145, .ref 146, .ref 147, .ref 148, .ref 149, .ref 150, .ref 151, .ref 152, .ref 153, .ref 154, .ref 155, .ref 156, .ref 157, .ref 158, .ref 159, .ref 160, .ref 161, .ref 162, .ref 163, .ref 164, .ref 165, .ref 166, .ref 167, .ref 168, .ref 169, .ref 170, .ref 171, .ref 172, .ref 173, .ref 174, .ref 175, .ref 176, .ref 177, .ref 178, .ref 179, .ref 180, .ref 181, .ref 182, .ref 183, .ref 184, .ref 185, .ref 186, .ref 187, .ref 188, .ref 189, .ref 190, .ref 191, .ref 192, .ref 193, .ref 194, .ref 195, .ref 196, .ref 197, .ref 198, .ref 199, .ref 200, .ref 201, .ref 202, .ref 203, .ref 204, .ref 205, .ref 206, .ref 207, .ref 208, .ref 209, .ref 210, .ref 211, .ref 212, .ref 213, .ref 214, .ref 215, .ref 216, .ref 217, .ref 218, .ref 219, .ref 220, .ref 221, .ref 222, .ref 223, .ref 224, .ref 225, .ref 226, .ref 227, .ref 228, .ref 229, .ref 230, .ref 231, .ref 232, .ref 233, .ref 234, .ref 235, .ref 236, .ref 237, .ref 238, .ref 239, .ref 240, .ref 241, .ref 242, .ref 243, .ref 244, .ref 245, .ref 246, .ref 247, .ref 248, .ref 249, .ref 250, .ref 251, .ref 252, .ref 253, .ref 254, .ref 255, .ref 256, .ref 257], vm := .none },
  { cls := 8, slots := #[.int (-128)], vm := .none },
  { cls := 8, slots := #[.int (-127)], vm := .none },
  { cls := 8, slots := #[.int (-126)], vm := .none },
  { cls := 8, slots := #[.int (-125)], vm := .none },
  { cls := 8, slots := #[.int (-124)], vm := .none },
  { cls := 8, slots := #[.int (-123)], vm := .none },
  { cls := 8, slots := #[.int (-122)], vm := .none },
  { cls := 8, slots := #[.int (-121)], vm := .none },
  { cls := 8, slots := #[.int (-120)], vm := .none },
  { cls := 8, slots := #[.int (-119)], vm := .none },
  { cls := 8, slots := #[.int (-118)], vm := .none },
  { cls := 8, slots := #[.int (-117)], vm := .none },
  { cls := 8, slots := #[.int (-116)], vm := .none },
  { cls := 8, slots := #[.int (-115)], vm := .none },
  { cls := 8, slots := #[.int (-114)], vm := .none },
  { cls := 8, slots := #[.int (-113)], vm := .none },
  { cls := 8, slots := #[.int (-112)], vm := .none },
  { cls := 8, slots := #[.int (-111)], vm := .none },
  { cls := 8, slots := #[.int (-110)], vm := .none },
  { cls := 8, slots := #[.int (-109)], vm := .none },
  { cls := 8, slots := #[.int (-108)], vm := .none },
  { cls := 8, slots := #[.int (-107)], vm := .none },
  { cls := 8, slots := #[.int (-106)], vm := .none },
  { cls := 8, slots := #[.int (-105)], vm := .none },
  { cls := 8, slots := #[.int (-104)], vm := .none },
  { cls := 8, slots := #[.int (-103)], vm := .none },
  { cls := 8, slots := #[.int (-102)], vm := .none },
  { cls := 8, slots := #[.int (-101)], vm := .none },
  { cls := 8, slots := #[.int (-100)], vm := .none },
  { cls := 8, slots := #[.int (-99)], vm := .none },
  { cls := 8, slots := #[.int (-98)], vm := .none },
  { cls := 8, slots := #[.int (-97)], vm := .none },
  { cls := 8, slots := #[.int (-96)], vm := .none },
  { cls := 8, slots := #[.int (-95)], vm := .none },
  { cls := 8, slots := #[.int (-94)], vm := .none },
  { cls := 8, slots := #[.int (-93)], vm := .none },
  { cls := 8, slots := #[.int (-92)], vm := .none },
  { cls := 8, slots := #[.int (-91)], vm := .none },
  { cls := 8, slots := #[.int (-90)], vm := .none },
  { cls := 8, slots := #[.int (-89)], vm := .none },
  { cls := 8, slots := #[.int (-88)], vm := .none },
  { cls := 8, slots := #[.int (-87)], vm := .none },
  { cls := 8, slots := #[.int (-86)], vm := .none },
  { cls := 8, slots := #[.int (-85)], vm := .none },
  { cls := 8, slots := #[.int (-84)], vm := .none },
  { cls := 8, slots := #[.int (-83)], vm := .none },
  { cls := 8, slots := #[.int (-82)], vm := .none },
  { cls := 8, slots := #[.int (-81)], vm := .none },
  { cls := 8, slots := #[.int (-80)], vm := .none },
  { cls := 8, slots := #[.int (-79)], vm := .none },
  { cls := 8, slots := #[.int (-78)], vm := .none },
  { cls := 8, slots := #[.int (-77)], vm := .none },
  { cls := 8, slots := #[.int (-76)], vm := .none },
  { cls := 8, slots := #[.int (-75)], vm := .none },
  { cls := 8, slots := #[.int (-74)], vm := .none },
  { cls := 8, slots := #[.int (-73)], vm := .none },
  { cls := 8, slots := #[.int (-72)], vm := .none },
  { cls := 8, slots := #[.int (-71)], vm := .none },
  { cls := 8, slots := #[.int (-70)], vm := .none },
  { cls := 8, slots := #[.int (-69)], vm := .none },
  { cls := 8, slots := #[.int (-68)], vm := .none },
  { cls := 8, slots := #[.int (-67)], vm := .none },
  { cls := 8, slots := #[.int (-66)], vm := .none },
  { cls := 8, slots := #[.int (-65)], vm := .none },
  { cls := 8, slots := #[.int (-64)], vm := .none },
  { cls := 8, slots := #[.int (-63)], vm := .none },
  { cls := 8, slots := #[.int (-62)], vm := .none },
  { cls := 8, slots := #[.int (-61)], vm := .none },
  { cls := 8, slots := #[.int (-60)], vm := .none },
  { cls := 8, slots := #[.int (-59)], vm := .none },
  { cls := 8, slots := #[.int (-58)], vm := .none },
  { cls := 8, slots := #[.int (-57)], vm := .none },
  { cls := 8, slots := #[.int (-56)], vm := .none },
  { cls := 8, slots := #[.int (-55)], vm := .none },
  { cls := 8, slots := #[.int (-54)], vm := .none },
  { cls := 8, slots := #[.int (-53)], vm := .none },
  { cls := 8, slots := #[.int (-52)], vm := .none },
  { cls := 8, slots := #[.int (-51)], vm := .none },
  { cls := 8, slots := #[.int (-50)], vm := .none },
  { cls := 8, slots := #[.int (-49)], vm := .none },
  { cls := 8, slots := #[.int (-48)], vm := .none },
  { cls := 8, slots := #[.int (-47)], vm := .none },
  { cls := 8, slots := #[.int (-46)], vm := .none },
  { cls := 8, slots := #[.int (-45)], vm := .none },
  { cls := 8, slots := #[.int (-44)], vm := .none },
  { cls := 8, slots := #[.int (-43)], vm := .none },
  { cls := 8, slots := #[.int (-42)], vm := .none },
  { cls := 8, slots := #[.int (-41)], vm := .none },
  { cls := 8, slots := #[.int (-40)], vm := .none },
  { cls := 8, slots := #[.int (-39)], vm := .none },
  { cls := 8, slots := #[.int (-38)], vm := .none },
  { cls := 8, slots := #[.int (-37)], vm := .none },
  { cls := 8, slots := #[.int (-36)], vm := .none },
  { cls := 8, slots := #[.int (-35)], vm := .none },
  { cls := 8, slots := #[.int (-34)], vm := .none },
  { cls := 8, slots := #[.int (-33)], vm := .none },
  { cls := 8, slots := #[.int (-32)], vm := .none },
  { cls := 8, slots := #[.int (-31)], vm := .none },
  { cls := 8, slots := #[.int (-30)], vm := .none },
  { cls := 8, slots := #[.int (-29)], vm := .none },
  { cls := 8, slots := #[.int (-28)], vm := .none },
  { cls := 8, slots := #[.int (-27)], vm := .none },
  { cls := 8, slots := #[.int (-26)], vm := .none },
  { cls := 8, slots := #[.int (-25)], vm := .none },
  { cls := 8, slots := #[.int (-24)], vm := .none },
  { cls := 8, slots := #[.int (-23)], vm := .none },
  { cls := 8, slots := #[.int (-22)], vm := .none },
  { cls := 8, slots := #[.int (-21)], vm := .none },
  { cls := 8, slots := #[.int (-20)], vm := .none },
  { cls := 8, slots := #[.int (-19)], vm := .none },
  { cls := 8, slots := #[.int (-18)], vm := .none },
  { cls := 8, slots := #[.int (-17)], vm := .none },
  { cls := 8, slots := #[.int (-16)], vm := .none },
  { cls := 8, slots := #[.int (-15)], vm := .none },
  { cls := 8, slots := #[.int (-14)], vm := .none },
  { cls := 8, slots := #[.int (-13)], vm := .none },
  { cls := 8, slots := #[.int (-12)], vm := .none },
  { cls := 8, slots := #[.int (-11)], vm := .none },
  { cls := 8, slots := #[.int (-10)], vm := .none },
  { cls := 8, slots := #[.int (-9)], vm := .none },
  { cls := 8, slots := #[.int (-8)], vm := .none },
  { cls := 8, slots := #[.int (-7)], vm := .none },
  { cls := 8, slots := #[.int (-6)], vm := .none },
  { cls := 8, slots := #[.int (-5)], vm := .none },
  { cls := 8, slots := #[.int (-4)], vm := .none },
  { cls := 8, slots := #[.int (-3)], vm := .none },
  { cls := 8, slots := #[.int (-2)], vm := .none },
  { cls := 8, slots := #[.int (-1)], vm := .none },
  { cls := 8, slots := #[.int 0], vm := .none },
  { cls := 8, slots := #[.int 1], vm := .none },
  { cls := 8, slots := #[.int 2], vm := .none },
  { cls := 8, slots := #[.int 3], vm := .none },
  { cls := 8, slots := #[.int 4], vm := .none },
  { cls := 8, slots := #[.int 5], vm := .none },
  { cls := 8, slots := #[.int 6], vm := .none },
  { cls := 8, slots := #[.int 7], vm := .none },
  { cls := 8, slots := #[.int 8], vm := .none },
  { cls := 8, slots := #[.int 9], vm := .none },
  { cls := 8, slots := #[.int 10], vm := .none },
  { cls := 8, slots := #[.int 11], vm := .none },
  { cls := 8, slots := #[.int 12], vm := .none },
  { cls := 8, slots := #[.int 13], vm := .none },
  { cls := 8, slots := #[.int 14], vm := .none },
  { cls := 8, slots := #[.int 15], vm := .none },
  { cls := 8, slots := #[.int 16], vm := .none },
  { cls := 8, slots := #[.int 17], vm := .none },
  { cls := 8, slots := #[.int 18], vm := .none },
  { cls := 8, slots := #[.int 19], vm := .none },
  { cls := 8, slots := #[.int 20], vm := .none },
  { cls := 8, slots := #[.int 21], vm := .none },
  { cls := 8, slots := #[.int 22], vm := .none },
  { cls := 8, slots := #[.int 23], vm := .none },
  { cls := 8, slots := #[.int 24], vm := .none },
  { cls := 8, slots := #[.int 25], vm := .none },
  { cls := 8, slots := #[.int 26], vm := .none },
  { cls := 8, slots := #[.int 27], vm := .none },
  { cls := 8, slots := #[.int 28], vm := .none },
  { cls := 8, slots := #[.int 29], vm := .none },
  { cls := 8, slots := #[.int 30], vm := .none },
  { cls := 8, slots := #[.int 31], vm := .none },
  { cls := 8, slots := #[.int 32], vm := .none },
  { cls := 8, slots := #[.int 33], vm := .none },
  { cls := 8, slots := #[.int 34], vm := .none },
  { cls := 8, slots := #[.int 35], vm := .none },
  { cls := 8, slots := #[.int 36], vm := .none },
  { cls := 8, slots := #[.int 37], vm := .none },
  { cls := 8, slots := #[.int 38], vm := .none },
  { cls := 8, slots := #[.int 39], vm := .none },
  { cls := 8, slots := #[.int 40], vm := .none },
  { cls := 8, slots := #[.int 41], vm := .none },
  { cls := 8, slots := #[.int 42], vm := .none },
  { cls := 8, slots := #[.int 43], vm := .none },
  { cls := 8, slots := #[.int 44], vm := .none },
  { cls := 8, slots := #[.int 45], vm := .none },
  { cls := 8, slots := #[.int 46], vm := .none },
  { cls := 8, slots := #[.int 47], vm := .none },
  { cls := 8, slots := #[.int 48], vm := .none },
  { cls := 8, slots := #[.int 49], vm := .none },
  { cls := 8, slots := #[.int 50], vm := .none },
  { cls := 8, slots := #[.int 51], vm := .none },
  { cls := 8, slots := #[.int 52], vm := .none },
  { cls := 8, slots := #[.int 53], vm := .none },
  { cls := 8, slots := #[.int 54], vm := .none },
  { cls := 8, slots := #[.int 55], vm := .none },
  { cls := 8, slots := #[.int 56], vm := .none },
  { cls := 8, slots := #[.int 57], vm := .none },
  { cls := 8, slots := #[.int 58], vm := .none },
  { cls := 8, slots := #[.int 59], vm := .none },
  { cls := 8, slots := #[.int 60], vm := .none },
  { cls := 8, slots := #[.int 61], vm := .none },
  { cls := 8, slots := #[.int 62], vm := .none },
  { cls := 8, slots := #[.int 63], vm := .none },
  { cls := 8, slots := #[.int 64], vm := .none },
  { cls := 8, slots := #[.int 65], vm := .none },
  { cls := 8, slots := #[.int 66], vm := .none },
  { cls := 8, slots := #[.int 67], vm := .none },
  { cls := 8, slots := #[.int 68], vm := .none },
  { cls := 8, slots := #[.int 69], vm := .none },
  { cls := 8, slots := #[.int 70], vm := .none },
  { cls := 8, slots := #[.int 71], vm := .none },
  { cls := 8, slots := #[.int 72], vm := .none },
  { cls := 8, slots := #[.int 73], vm := .none },
  { cls := 8, slots := #[.int 74], vm := .none },
  { cls := 8, slots := #[.int 75], vm := .none },
  { cls := 8, slots := #[.int 76], vm := .none },
  { cls := 8, slots := #[.int 77], vm := .none },
  { cls := 8, slots := #[.int 78], vm := .none },
  { cls := 8, slots := #[.int 79], vm := .none },
  { cls := 8, slots := #[.int 80], vm := .none },
  { cls := 8, slots := #[.int 81], vm := .none },
  { cls := 8, slots := #[.int 82], vm := .none },
  { cls := 8, slots := #[.int 83], vm := .none },
  { cls := 8, slots := #[.int 84], vm := .none },
  { cls := 8, slots := #[.int 85], vm := .none },
  { cls := 8, slots := #[.int 86], vm := .none },
  { cls := 8, slots := #[.int 87], vm := .none },
  { cls := 8, slots := #[.int 88], vm := .none },
  { cls := 8, slots := #[.int 89], vm := .none },
  { cls := 8, slots := #[.int 90], vm := .none },
  { cls := 8, slots := #[.int 91], vm := .none },
  { cls := 8, slots := #[.int 92], vm := .none },
  { cls := 8, slots := #[.int 93], vm := .none },
  { cls := 8, slots := #[.int 94], vm := .none },
  { cls := 8, slots := #[.int 95], vm := .none },
  { cls := 8, slots := #[.int 96], vm := .none },
  { cls := 8, slots := #[.int 97], vm := .none },
  { cls := 8, slots := #[.int 98], vm := .none },
  { cls := 8, slots := #[.int 99], vm := .none },
  { cls := 8, slots := #[.int 100], vm := .none },
  { cls := 8, slots := #[.int 101], vm := .none },
  { cls := 8, slots := #[.int 102], vm := .none },
  { cls := 8, slots := #[.int 103], vm := .none },
  { cls := 8, slots := #[.int 104], vm := .none },
  { cls := 8, slots := #[.int 105], vm := .none },
  { cls := 8, slots := #[.int 106], vm := .none },
  { cls := 8, slots := #[.int 107], vm := .none },
  { cls := 8, slots := #[.int 108], vm := .none },
  { cls := 8, slots := #[.int 109], vm := .none },
  { cls := 8, slots := #[.int 110], vm := .none },
  { cls := 8, slots := #[.int 111], vm := .none },
  { cls := 8, slots := #[.int 112], vm := .none },
  { cls := 8, slots := #[.int 113], vm := .none },
  { cls := 8, slots := #[.int 114], vm := .none },
  { cls := 8, slots := #[.int 115], vm := .none },
  { cls := 8, slots := #[.int 116], vm := .none },
  { cls := 8, slots := #[.int 117], vm := .none },
  { cls := 8, slots := #[.int 118], vm := .none },
  { cls := 8, slots := #[.int 119], vm := .none },
  { cls := 8, slots := #[.int 120], vm := .none },
  { cls := 8, slots := #[.int 121], vm := .none },
  { cls := 8, slots := #[.int 122], vm := .none },
  { cls := 8, slots := #[.int 123], vm := .none },
  { cls := 8, slots := #[.int 124], vm := .none },
  { cls := 8, slots := #[.int 125], vm := .none },
  { cls := 8, slots := #[.int 126], vm := .none },
  { cls := 8, slots := #[.int 127], vm := .none }]
def classes : Array Class := #[k0, k1, k2, k3, k4, k5, k6, k7, k8, k9, k10, k11, k12, k13, k14, k15]
def interned : List (Array UInt16 × Addr) := []
def slotsUsed : Nat := 517
def theMethod : MethodId := ⟨1, 2⟩
def args0 : Array Value := #[.int 5, .int 6, .int 7, .int 8, .int 9, .int 10]
def aboutOver (below : List Frame) : State where
  vm := { classes := classes, interned := interned.toArray }
  heap := heap
  slotsUsed := slotsUsed
  threads := #[{ frames := .invoking theMethod args0 :: below }]
def below0 : List Frame := [.native { method := ⟨0, 0⟩, args := #[] }]
def about1 : State := aboutOver below0
def p0 : Program := .bare "" "" ""
def e0 : Env := launch0.env 0 0 0
theorem w_frames : about1.frames = Frame.invoking theMethod args0 :: below0 := rfl
set_option maxRecDepth 65536 in
theorem w_args : argsFit about1.vm theMethod args0 = true := by decide +kernel
set_option maxRecDepth 65536 in
theorem w_heap : heapFits about1 = true := by decide +kernel
set_option maxRecDepth 65536 in
theorem w_runnable : about1.curStatus? = some .runnable := by decide +kernel
set_option maxRecDepth 65536 in
theorem w_alone : about1.alone = true := by decide +kernel
set_option maxRecDepth 65536 in
theorem w_named : about1.methodNamed? x = some theMethod := by decide +kernel
set_option maxRecDepth 65536 in
theorem w_hears : about1.hears theMethod below0 = true := by decide +kernel
set_option maxRecDepth 65536 in
theorem w_ripe : about1.ripe theMethod args0 below0 = true := by decide +kernel
theorem w_running : about1.status = .running := rfl
set_option maxRecDepth 65536 in
theorem w_room : about1.hasRoom e0.platform room_1 = true :=
  launch0.hasRoom_least _ room_1 (by decide +kernel) (by decide +kernel) (by decide +kernel) (by decide +kernel) (by decide +kernel) (by decide +kernel)
theorem allAtoms_all (ts : List Jvm.Cond) (a : Array Jvm.Value) (st : Jvm.State) : (allAtoms ts).before a st = ts.all (fun c => c.before a st) := by
  induction ts with
  | nil => rfl
  | cons c t ih =>
    show (Jvm.Cond.and c (allAtoms t)).before a st = _
    rw [Jvm.Cond.before_and, ih, List.all_cons]
def words1 : List Jvm.Cond := Jvm.Cond.code x code maxLocals ret :: tables_1
/-- a 'code' word, met by the world's own term for the bytes: nothing is compared byte by byte -/
theorem code_word {y : MethodName} {bytes : ByteArray} {mx : Nat} {rt : Option FieldType} {a : Array Value} {s : State} {m : MethodId} {meth : Method} {c : Code} (h1 : s.methodNamed? y = some m) (h2 : s.vm.method? m = some meth) (h3 : meth.code = some c) (h4 : c.code = bytes)
    (h5 : (c.maxLocals == mx && c.exceptionTable.isEmpty && decide (c.maxStack ≤ mostOperands) && decide (meth.sig.returnType = rt) && !meth.locks && decide (parseMethodDescriptor y.desc = some meth.sig)) = true) : (Jvm.Cond.code y bytes mx rt).before a s = true := by
  simp only [Bool.and_eq_true, beq_iff_eq, Bool.not_eq_true', decide_eq_true_eq] at h5
  obtain ⟨⟨⟨⟨⟨g1, g2⟩, g3⟩, g4⟩, g5⟩, g6⟩ := h5
  simp [Cond.before, Cond.holds, Cond.value, h1, h2, h3, h4, g1, g2, g3, g4, g5, g6]
def isCode : Jvm.Cond → Bool
  | .code _ _ _ _ => true
  | _ => false
theorem all_split {L : List Jvm.Cond} {P : Jvm.Cond → Bool} (h1 : L.all (fun c => isCode c || P c) = true) (h2 : ∀ c ∈ L.filter isCode, P c = true) : L.all P = true := by
  refine List.all_eq_true.mpr fun c hc => ?_
  have h := List.all_eq_true.mp h1 c hc
  rcases Bool.eq_false_or_eq_true (isCode c) with hi | hi
  · exact h2 c (List.mem_filter.mpr ⟨hc, hi⟩)
  · simpa [hi] using h
set_option maxRecDepth 65536 in
theorem w_c0 : (Jvm.Cond.code x code maxLocals ret).before args0 about1 = true := code_word (m := ⟨1, 2⟩) (meth := k1m2) (c := k1c2) (by decide +kernel) rfl rfl rfl (by decide +kernel)
set_option maxRecDepth 65536 in
theorem w_c1 : (Jvm.Cond.code ({ cls := "com/example/parlint/parlint/BlockShapeEqualsPinLaw", name := "extents", desc := "(III)[I" } : Jvm.MethodName) method_2_code (7 : Nat) (Option.some (Jvm.ClassFile.FieldType.array Jvm.ClassFile.FieldType.int))).before args0 about1 = true := code_word (m := ⟨1, 1⟩) (meth := k1m1) (c := k1c1) (by decide +kernel) rfl rfl rfl (by decide +kernel)
set_option maxRecDepth 65536 in
theorem w_c2 : (Jvm.Cond.code ({ cls := "com/example/parlint/parlint/BlockShape", name := "<init>", desc := "(III)V" } : Jvm.MethodName) prog_1_method_1_code (4 : Nat) (Option.none : Option Jvm.ClassFile.FieldType)).before args0 about1 = true := code_word (m := ⟨2, 0⟩) (meth := k2m0) (c := k2c0) (by decide +kernel) rfl rfl rfl (by decide +kernel)
set_option maxRecDepth 65536 in
theorem w_c3 : (Jvm.Cond.code ({ cls := "java/lang/Object", name := "<init>", desc := "()V" } : Jvm.MethodName) object_method_1_code (1 : Nat) (Option.none : Option Jvm.ClassFile.FieldType)).before args0 about1 = true := code_word (m := ⟨0, 0⟩) (meth := k0m0) (c := k0c0) (by decide +kernel) rfl rfl rfl (by decide +kernel)
set_option maxRecDepth 65536 in
theorem w_c4 : (Jvm.Cond.code ({ cls := "com/example/parlint/parlint/BlockShape", name := "equals", desc := "(Ljava/lang/Object;)Z" } : Jvm.MethodName) prog_1_method_14_code (3 : Nat) (Option.some Jvm.ClassFile.FieldType.boolean)).before args0 about1 = true := code_word (m := ⟨2, 1⟩) (meth := k2m1) (c := k2c1) (by decide +kernel) rfl rfl rfl (by decide +kernel)
set_option maxRecDepth 65536 in
theorem w_c5 : (Jvm.Cond.code ({ cls := "java/lang/Integer", name := "valueOf", desc := "(I)Ljava/lang/Integer;" } : Jvm.MethodName) jdk_33_method_22_code (1 : Nat) (Option.some (Jvm.ClassFile.FieldType.object "java/lang/Integer"))).before args0 about1 = true := code_word (m := ⟨8, 0⟩) (meth := k8m0) (c := k8c0) (by decide +kernel) rfl rfl rfl (by decide +kernel)
set_option maxRecDepth 65536 in
theorem w_c6 : (Jvm.Cond.code ({ cls := "java/lang/Integer", name := "<init>", desc := "(I)V" } : Jvm.MethodName) jdk_33_method_23_code (2 : Nat) (Option.none : Option Jvm.ClassFile.FieldType)).before args0 about1 = true := code_word (m := ⟨8, 1⟩) (meth := k8m1) (c := k8c1) (by decide +kernel) rfl rfl rfl (by decide +kernel)
set_option maxRecDepth 65536 in
theorem w_c7 : (Jvm.Cond.code ({ cls := "java/lang/Number", name := "<init>", desc := "()V" } : Jvm.MethodName) jdk_18_method_1_code (1 : Nat) (Option.none : Option Jvm.ClassFile.FieldType)).before args0 about1 = true := code_word (m := ⟨4, 0⟩) (meth := k4m0) (c := k4c0) (by decide +kernel) rfl rfl rfl (by decide +kernel)
def codes1 : List Jvm.Cond := [Jvm.Cond.code x code maxLocals ret, Jvm.Cond.code ({ cls := "com/example/parlint/parlint/BlockShapeEqualsPinLaw", name := "extents", desc := "(III)[I" } : Jvm.MethodName) method_2_code (7 : Nat) (Option.some (Jvm.ClassFile.FieldType.array Jvm.ClassFile.FieldType.int)), Jvm.Cond.code ({ cls := "com/example/parlint/parlint/BlockShape", name := "<init>", desc := "(III)V" } : Jvm.MethodName) prog_1_method_1_code (4 : Nat) (Option.none : Option Jvm.ClassFile.FieldType), Jvm.Cond.code ({ cls := "java/lang/Object", name := "<init>", desc := "()V" } : Jvm.MethodName) object_method_1_code (1 : Nat) (Option.none : Option Jvm.ClassFile.FieldType), Jvm.Cond.code ({ cls := "com/example/parlint/parlint/BlockShape", name := "equals", desc := "(Ljava/lang/Object;)Z" } : Jvm.MethodName) prog_1_method_14_code (3 : Nat) (Option.some Jvm.ClassFile.FieldType.boolean), Jvm.Cond.code ({ cls := "java/lang/Integer", name := "valueOf", desc := "(I)Ljava/lang/Integer;" } : Jvm.MethodName) jdk_33_method_22_code (1 : Nat) (Option.some (Jvm.ClassFile.FieldType.object "java/lang/Integer")), Jvm.Cond.code ({ cls := "java/lang/Integer", name := "<init>", desc := "(I)V" } : Jvm.MethodName) jdk_33_method_23_code (2 : Nat) (Option.none : Option Jvm.ClassFile.FieldType), Jvm.Cond.code ({ cls := "java/lang/Number", name := "<init>", desc := "()V" } : Jvm.MethodName) jdk_18_method_1_code (1 : Nat) (Option.none : Option Jvm.ClassFile.FieldType)]
set_option maxRecDepth 65536 in
theorem codes_eq : words1.filter isCode = codes1 := rfl
theorem w_codes : ∀ c ∈ words1.filter isCode, c.before args0 about1 = true := by
  rw [codes_eq]
  intro c hc
  simp only [codes1, List.mem_cons, List.not_mem_nil, or_false] at hc
  rcases hc with rfl | rfl | rfl | rfl | rfl | rfl | rfl | rfl
  · exact w_c0
  · exact w_c1
  · exact w_c2
  · exact w_c3
  · exact w_c4
  · exact w_c5
  · exact w_c6
  · exact w_c7
set_option maxRecDepth 65536 in
theorem w_t1 : (words1.take 24).all (fun c => isCode c || c.before args0 about1) = true := by decide +kernel
set_option maxRecDepth 65536 in
theorem w_t2 : ((words1.drop 24).take 24).all (fun c => isCode c || c.before args0 about1) = true := by decide +kernel
set_option maxRecDepth 65536 in
theorem w_t3 : ((words1.drop 24).drop 24).all (fun c => isCode c || c.before args0 about1) = true := by decide +kernel
theorem w_tables : (allAtoms (Jvm.Cond.code x code maxLocals ret :: tables_1)).before args0 about1 = true := by
  rw [allAtoms_all]
  show words1.all (fun c => c.before args0 about1) = true
  refine all_split ?_ w_codes
  rw [← List.take_append_drop 24 words1, List.all_append, w_t1, ← List.take_append_drop 24 (words1.drop 24), List.all_append, w_t2, w_t3]
  rfl
set_option maxRecDepth 65536 in
theorem w_rest : rest_1_c.before args0 about1 = true := by decide +kernel
set_option maxRecDepth 65536 in
theorem w_case : (Jvm.Cond.and given_1 narrow_1).before args0 about1 = true := by decide +kernel
theorem w_applies : (headSpec (Jvm.Cond.code x code maxLocals ret :: tables_1) room_1).applies x e0.platform about1 = true :=
  (Spec.applies_iff w_frames).mpr ⟨w_running, w_runnable, w_alone, w_named, w_hears, w_ripe, w_room, w_tables⟩
theorem atStart : AtStart classFile x code maxLocals ret World_1 tables_1 room_1 Calls_1 rest_1 Pre_1 launch0 p0 e0 about1 theMethod args0 below0 :=
  ⟨lists_1, trivial, launch0.admits_env _ _ _, launch0.least_env, fairChoices_fair.cas, fairChoices_fair.clock, w_frames, w_args, w_heap, w_applies, trivial, w_rest, w_case⟩
end start1
theorem witness_1 : WitnessClaimed_1 := ⟨start1.p0, start1.e0, start1.about1, start1.theMethod, start1.args0, start1.below0, start1.atStart⟩
end Jvm.Pilot.@@N@@
