import JvmDerived
import JvmDerived.Pilot.@@N@@Statement
import JvmDerived.Pilot.@@N@@Code
set_option linter.unusedVariables false
set_option linter.unusedSimpArgs false
set_option maxRecDepth 65536
namespace Jvm.Pilot.@@N@@
open Jvm Jvm.ClassFile Sem Op Lib Jvm.Free Jvm.Stand Jvm.LawKit Jvm.RoadKit Bundle Jvm.Pilot.@@N@@.Jvm.D
/-- the run goes on from S to a return that Q says, within so many new cells and slots -/
def OFin (p : Program) (e : Env) (below : List Frame) (s : State) (Q : Option Value → Heap → List Loc → Prop) (cells slots : Nat) (S : State) : Prop :=
  ∃ s₂ o, Steps p.tables e below S s₂ ∧ s₂.status = .running ∧ Ended s₂ below o ∧ ∃ v L, o = .returned v ∧ Q v s₂.heap L ∧ FrameEnd s o s₂ L cells slots
section Own
variable {p : Program} {l : Launch} {e : Env} {R : Room} {s : State} {m : MethodId} {args : Array Value} {below : List Frame} {meth : Method} {c : Code} {T S S' : State} {locs : List Loc} {cells slots k n : Nat} {Q : Option Value → Heap → List Loc → Prop} {pc : Nat} {Ls : Array Slot} {rest : List Value}
theorem OFin.go (st : ∀ t, Steps p.tables e below S' t → Steps p.tables e below S t) (F : OFin p e below s Q cells slots S') : OFin p e below s Q cells slots S := by
  obtain ⟨s₂, o, h, r⟩ := F
  exact ⟨s₂, o, st _ h, r⟩
theorem OFin.tr (st : Steps p.tables e below S S') (F : OFin p e below s Q cells slots S') : OFin p e below s Q cells slots S := by
  obtain ⟨s₂, o, h, r⟩ := F
  exact ⟨s₂, o, st.trans h, r⟩
theorem OFin.ends (X : Stand p l e R s m args below meth c T locs k n) {v : Option Value} (hv : meth.sig.returnType = none → v = none) (hlk : meth.locks = false) (hq : Q v T.heap locs) (hk : k ≤ cells) (hn : n ≤ slots)
    (st : ∀ fs, (∀ (f : JFrame) (acts : List Action), f.method = m → f.locked = none → f.entered = [] → (doReturn e (T.setTop f) acts v).1 = T.setFrames fs) → Steps p.tables e below S (T.setFrames fs)) : OFin p e below s Q cells slots S := by
  obtain ⟨fs, hr, hrun, hended, hW, hsame⟩ := X.leave (v := v) hv hlk
  exact ⟨_, _, st fs hr, hrun, hended, _, _, rfl, hq, ⟨_, rfl⟩, hW, hsame.mono hk hn⟩
theorem OFin.retN (X : Stand p l e R s m args below meth c T locs k n) (hx : p.tables.exec = Jvm.exec) {z w : Int32} {t : FieldType} (hret : meth.sig.returnType = some t) (ht : t = .boolean ∨ t = .byte ∨ t = .char ∨ t = .short) (hlk : meth.locks = false)
    (hd : decode c.code pc = .ok (.ireturn, 1)) (hz : nar t z = w) (hq : Q (some (.int w)) T.heap locs) (hk : k ≤ cells) (hn : n ≤ slots) : OFin p e below s Q cells slots (T.setTop (mkF m pc Ls (.int z :: rest))) :=
  OFin.ends X (v := some (.int w)) (fun h => by rw [hret] at h; cases h) hlk hq hk hn fun fs hr => Jvm.RoadKit.retN X hx hret ht hd (by rw [hz]; exact hr)
theorem OFin.retI (X : Stand p l e R s m args below meth c T locs k n) (hx : p.tables.exec = Jvm.exec) {z : Int32} (hret : meth.sig.returnType = some .int) (hlk : meth.locks = false)
    (hd : decode c.code pc = .ok (.ireturn, 1)) (hq : Q (some (.int z)) T.heap locs) (hk : k ≤ cells) (hn : n ≤ slots) : OFin p e below s Q cells slots (T.setTop (mkF m pc Ls (.int z :: rest))) :=
  OFin.ends X (v := some (.int z)) (fun h => by rw [hret] at h; cases h) hlk hq hk hn fun fs hr => retOut X hx hret rfl (Or.inl ⟨rfl, Or.inl rfl, z, rfl⟩) hd hr
theorem OFin.retL (X : Stand p l e R s m args below meth c T locs k n) (hx : p.tables.exec = Jvm.exec) {z : Int64} (hret : meth.sig.returnType = some .long) (hlk : meth.locks = false)
    (hd : decode c.code pc = .ok (.lreturn, 1)) (hq : Q (some (.long z)) T.heap locs) (hk : k ≤ cells) (hn : n ≤ slots) : OFin p e below s Q cells slots (T.setTop (mkF m pc Ls (.long z :: rest))) :=
  OFin.ends X (v := some (.long z)) (fun h => by rw [hret] at h; cases h) hlk hq hk hn fun fs hr => retOut X hx hret rfl (Or.inr (Or.inl ⟨rfl, rfl, z, rfl⟩)) hd hr
theorem OFin.retA (X : Stand p l e R s m args below meth c T locs k n) (hx : p.tables.exec = Jvm.exec) {w : Value} {t : FieldType} (hret : meth.sig.returnType = some t) (ht : t.isReference = true) (hw : w.isRef = true) (hnr : narrow t w = w) (hlk : meth.locks = false)
    (hd : decode c.code pc = .ok (.areturn, 1)) (hq : Q (some w) T.heap locs) (hk : k ≤ cells) (hn : n ≤ slots) : OFin p e below s Q cells slots (T.setTop (mkF m pc Ls (w :: rest))) :=
  OFin.ends X (v := some w) (fun h => by rw [hret] at h; cases h) hlk hq hk hn fun fs hr => retOut X hx hret hnr (Or.inr (Or.inr (Or.inr (Or.inr ⟨rfl, ht, hw⟩)))) hd hr
theorem OFin.retV (X : Stand p l e R s m args below meth c T locs k n) (hx : p.tables.exec = Jvm.exec) (hret : meth.sig.returnType = none) (hlk : meth.locks = false)
    (hd : decode c.code pc = .ok (.return_, 1)) (hq : Q none T.heap locs) (hk : k ≤ cells) (hn : n ≤ slots) : OFin p e below s Q cells slots (T.setTop (mkF m pc Ls [])) :=
  OFin.ends X (v := none) (fun _ => rfl) hlk hq hk hn fun fs hr => X.returnOut hx hret hd hr
end Own
theorem d1_0 : decode prog_1_method_3_code 0 = .ok (.lload_n 0, 1) := by decide +kernel
theorem d1_1 : decode prog_1_method_3_code 1 = .ok (.ldc2_w 36, 3) := by decide +kernel
theorem d1_4 : decode prog_1_method_3_code 4 = .ok (.land, 1) := by decide +kernel
theorem d1_5 : decode prog_1_method_3_code 5 = .ok (.ldc2_w 36, 3) := by decide +kernel
theorem d1_8 : decode prog_1_method_3_code 8 = .ok (.ladd, 1) := by decide +kernel
theorem d1_9 : decode prog_1_method_3_code 9 = .ok (.lload_n 0, 1) := by decide +kernel
theorem d1_10 : decode prog_1_method_3_code 10 = .ok (.lor, 1) := by decide +kernel
theorem d1_11 : decode prog_1_method_3_code 11 = .ok (.ldc2_w 38, 3) := by decide +kernel
theorem d1_14 : decode prog_1_method_3_code 14 = .ok (.lxor, 1) := by decide +kernel
theorem d1_15 : decode prog_1_method_3_code 15 = .ok (.ldc2_w 40, 3) := by decide +kernel
theorem d1_18 : decode prog_1_method_3_code 18 = .ok (.land, 1) := by decide +kernel
theorem d1_19 : decode prog_1_method_3_code 19 = .ok (.lreturn, 1) := by decide +kernel
theorem pn_0 : plainName "com/example/bits21/bits21/Coding" = true := by first | (simp [plainName, overriddenIn]; done) | decide +kernel
theorem ef_1 (m : MethodId) (x0 : Int64) : entryFrame m #[(.long x0)] 2 = mkF m 0 #[.val (.long x0), .second] [] := by first | (simp [entryFrame, mkF, argsToLocals, Value.category]; done) | rfl
def own_f1 (q0 : Int64) : Int64 := (((((q0 &&& (9223231297218904063 : Int64)) + (9223231297218904063 : Int64)) ||| q0) ^^^ (-1 : Int64)) &&& (-9223231297218904064 : Int64))
def Q1 (Z : State) (q0 : Int64) (h0 : Heap) (n0 : Nat) (v : Option Value) (h : Heap) (L : List Loc) : Prop := v = some (.long (own_f1 q0)) ∧ Fr n0 L ∧ h = h0
set_option maxHeartbeats 40000000 in
theorem rm1 (l : Launch) (Z : State) (aZ : Array Value) (hw : ∀ d ∈ tables_1, d.before aZ Z = true) (ws : List Jvm.Cond) (q0 : Int64) (h0 : Heap) (n0 : Nat) (Z0 : n0 ≤ h0.size) :
    MetFree l (⟨"com/example/bits21/bits21/Coding", "zeroLanes", "(J)J"⟩ : MethodName) (head1 (Jvm.Cond.code (⟨"com/example/bits21/bits21/Coding", "zeroLanes", "(J)J"⟩ : MethodName) prog_1_method_3_code 2 (some .long) :: ws) ({ frames := 0, cells := 0, slots := 0, locals := 0 } : Room)) (fun a U => a = #[(.long q0)] ∧ Z.Warmed39 U.vm ∧ U.heap = h0) (fun _ _ _ _ _ => True) (fun _ U o U' => ∃ v L, o = .returned v ∧ Q1 Z q0 h0 n0 v U'.heap L ∧ FrameEnd U o U' L ({ frames := 0, cells := 0, slots := 0, locals := 0 } : Room).cells ({ frames := 0, cells := 0, slots := 0, locals := 0 } : Room).slots) := by
  refine MetFree.of_bodySF (plainFor_of_name pn_0) hisR ?_
  intro p e s m args below meth c s₁ Bd hml0 hP hK
  obtain ⟨rfl, hZ, hh⟩ := hP
  have hx := Bd.exec
  have hby := Bd.bytes
  have hret := Bd.returns
  have hlk : meth.locks = false := BodyLoose.notSynchronized Bd
  have hml : c.maxLocals = 2 := hml0
  have hown : s.vm.findClass "com/example/bits21/bits21/Coding" = some m.cls := findClass_of_methodNamed Bd.named
  have hnm := (name_of_methodNamed Bd.named Bd.method).1
  have X0 : Stand p l e ({ frames := 0, cells := 0, slots := 0, locals := 0 } : Room) s m #[(.long q0)] below meth c s₁ [] 0 0 := Stand.of_body Bd
  have e0 : s₁.heap = h0 := by rw [← hh, Bd.state]; rfl
  have N0 := Fr.nil n0
  have K0 : Keep h0 h0 [] := Keep.refl _ _
  have pre0 : ∀ t, Steps p.tables e below (s₁.setTop (mkF m 0 #[.val (.long q0), .second] [])) t → Steps p.tables e below (s₁.setTop (entryFrame m #[(.long q0)] 2)) t := fun t k => castTop (ef_1 m q0) k
  show OFin p e below s (Q1 Z q0 h0 n0) ({ frames := 0, cells := 0, slots := 0, locals := 0 } : Room).cells ({ frames := 0, cells := 0, slots := 0, locals := 0 } : Room).slots _
  refine OFin.go pre0 ?_
  have sg101 : ∀ t, Steps p.tables e below (s₁.setTop (mkF m 19 #[.val (.long q0), .second] [(.long (((((q0 &&& (9223231297218904063 : Int64)) + (9223231297218904063 : Int64)) ||| q0) ^^^ (-1 : Int64)) &&& (-9223231297218904064 : Int64)))])) t → Steps p.tables e below (s₁.setTop (mkF m 0 #[.val (.long q0), .second] [])) t := by
    intro t k
    show Steps p.tables e below (s₁.setTop (mkF m 0 #[.val (.long q0), .second] [])) t
    refine XS.lloadN X0.here hx rfl (hb hby d1_0) rfl ?_
    show Steps p.tables e below (s₁.setTop (mkF m 1 #[.val (.long q0), .second] [(.long q0)])) t
    refine X0.ldc2Long hx hown (mvT hZ (hw _ (List.mem_of_getElem? (i := 11) rfl))) (g := (mkF m 1 #[.val (.long q0), .second] [(.long q0)])) rfl (hb hby d1_1) _ ?_
    show Steps p.tables e below (s₁.setTop (mkF m 4 #[.val (.long q0), .second] [(.long (9223231297218904063 : Int64)), (.long q0)])) t
    refine XS.land X0.here hx rfl (hb hby d1_4) rfl ?_
    show Steps p.tables e below (s₁.setTop (mkF m 5 #[.val (.long q0), .second] [(.long (q0 &&& (9223231297218904063 : Int64)))])) t
    refine X0.ldc2Long hx hown (mvT hZ (hw _ (List.mem_of_getElem? (i := 11) rfl))) (g := (mkF m 5 #[.val (.long q0), .second] [(.long (q0 &&& (9223231297218904063 : Int64)))])) rfl (hb hby d1_5) _ ?_
    show Steps p.tables e below (s₁.setTop (mkF m 8 #[.val (.long q0), .second] [(.long (9223231297218904063 : Int64)), (.long (q0 &&& (9223231297218904063 : Int64)))])) t
    refine XS.ladd X0.here hx rfl (hb hby d1_8) rfl ?_
    show Steps p.tables e below (s₁.setTop (mkF m 9 #[.val (.long q0), .second] [(.long ((q0 &&& (9223231297218904063 : Int64)) + (9223231297218904063 : Int64)))])) t
    refine XS.lloadN X0.here hx rfl (hb hby d1_9) rfl ?_
    show Steps p.tables e below (s₁.setTop (mkF m 10 #[.val (.long q0), .second] [(.long q0), (.long ((q0 &&& (9223231297218904063 : Int64)) + (9223231297218904063 : Int64)))])) t
    refine XS.lor X0.here hx rfl (hb hby d1_10) rfl ?_
    show Steps p.tables e below (s₁.setTop (mkF m 11 #[.val (.long q0), .second] [(.long (((q0 &&& (9223231297218904063 : Int64)) + (9223231297218904063 : Int64)) ||| q0))])) t
    refine X0.ldc2Long hx hown (mvT hZ (hw _ (List.mem_of_getElem? (i := 12) rfl))) (g := (mkF m 11 #[.val (.long q0), .second] [(.long (((q0 &&& (9223231297218904063 : Int64)) + (9223231297218904063 : Int64)) ||| q0))])) rfl (hb hby d1_11) _ ?_
    show Steps p.tables e below (s₁.setTop (mkF m 14 #[.val (.long q0), .second] [(.long (-1 : Int64)), (.long (((q0 &&& (9223231297218904063 : Int64)) + (9223231297218904063 : Int64)) ||| q0))])) t
    refine XS.lxor X0.here hx rfl (hb hby d1_14) rfl ?_
    show Steps p.tables e below (s₁.setTop (mkF m 15 #[.val (.long q0), .second] [(.long ((((q0 &&& (9223231297218904063 : Int64)) + (9223231297218904063 : Int64)) ||| q0) ^^^ (-1 : Int64)))])) t
    refine X0.ldc2Long hx hown (mvT hZ (hw _ (List.mem_of_getElem? (i := 13) rfl))) (g := (mkF m 15 #[.val (.long q0), .second] [(.long ((((q0 &&& (9223231297218904063 : Int64)) + (9223231297218904063 : Int64)) ||| q0) ^^^ (-1 : Int64)))])) rfl (hb hby d1_15) _ ?_
    show Steps p.tables e below (s₁.setTop (mkF m 18 #[.val (.long q0), .second] [(.long (-9223231297218904064 : Int64)), (.long ((((q0 &&& (9223231297218904063 : Int64)) + (9223231297218904063 : Int64)) ||| q0) ^^^ (-1 : Int64)))])) t
    refine XS.land X0.here hx rfl (hb hby d1_18) rfl ?_
    exact k
  refine OFin.go sg101 ?_
  exact OFin.retL X0 hx hret hlk (hb hby d1_19) (by rw [e0]; exact ⟨(congrArg (fun z => some (Value.long z)) (show (((((q0 &&& (9223231297218904063 : Int64)) + (9223231297218904063 : Int64)) ||| q0) ^^^ (-1 : Int64)) &&& (-9223231297218904064 : Int64)) = own_f1 q0 from (by rw [own_f1]))), N0, rfl⟩) (by decide) (by decide)
theorem own_addapp {m n : Nat} (h1 h2 : BitVec m) (l1 l2 : BitVec n) (hlt : l1.toNat + l2.toNat < 2 ^ n) : (h1 ++ l1) + (h2 ++ l2) = (h1 + h2) ++ (l1 + l2) := by
  apply BitVec.eq_of_toNat_eq
  have ap : ∀ (a : BitVec m) (b : BitVec n), (a ++ b).toNat = a.toNat * 2 ^ n + b.toNat := fun a b => by
    rw [BitVec.toNat_append, ← Nat.shiftLeft_add_eq_or_of_lt b.isLt, Nat.shiftLeft_eq]
  rw [BitVec.toNat_add, ap, ap, ap, BitVec.toNat_add, BitVec.toNat_add, Nat.mod_eq_of_lt hlt]
  have e : h1.toNat * 2 ^ n + l1.toNat + (h2.toNat * 2 ^ n + l2.toNat) = (l1.toNat + l2.toNat) + 2 ^ n * (h1.toNat + h2.toNat) := by
    rw [Nat.mul_add, Nat.mul_comm (2 ^ n), Nat.mul_comm (2 ^ n)]; omega
  rw [e, Nat.pow_add, Nat.mul_comm (2 ^ m), Nat.mod_mul, Nat.add_mul_mod_self_left, Nat.add_mul_div_left _ _ (Nat.two_pow_pos n), Nat.mod_eq_of_lt hlt, Nat.div_eq_of_lt hlt, Nat.zero_add, Nat.mul_comm (2 ^ n)]
  omega
def own_l (a : BitVec 16) : BitVec 16 := ((((a &&& 0x7fff#16) + 0x7fff#16) ||| a) ^^^ 0xffff#16) &&& 0x8000#16
theorem own_hi (y : BitVec 16) (h : y.getLsbD 15 = true) : (y ^^^ 0xffff#16) &&& 0x8000#16 = 0#16 := by
  apply BitVec.eq_of_getLsbD_eq
  intro i hi
  have z : i = 15 ∨ (0x8000#16).getLsbD i = false := by revert i; decide
  rcases z with rfl | z
  · simp [h]
  · simp [z]
theorem own_l_ne (a : BitVec 16) (h : a ≠ 0#16) : own_l a = 0#16 := by
  refine own_hi _ ?_
  rw [BitVec.getLsbD_or]
  by_cases q : a.getLsbD 15 = true
  · simp [q]
  · have e : a &&& 0x7fff#16 = a := by
      apply BitVec.eq_of_getLsbD_eq
      intro i hi
      have z : i = 15 ∨ (0x7fff#16).getLsbD i = true := by revert i; decide
      rcases z with rfl | z
      · rw [BitVec.getLsbD_and, Bool.eq_false_iff.mpr q]; rfl
      · simp [z]
    have q2 : a.toNat < 32768 := by
      have m : a.msb = false := by simpa [BitVec.msb, BitVec.getMsbD] using q
      rw [BitVec.msb_eq_decide] at m
      simpa using m
    have q3 : a.toNat ≠ 0 := fun z => h (BitVec.eq_of_toNat_eq (by simpa using z))
    have m : (a + 0x7fff#16).msb = true := by
      rw [BitVec.msb_eq_decide, BitVec.toNat_add]
      simp
      omega
    rw [e]
    have m2 : (a + 0x7fff#16).getLsbD 15 = true := by simpa [BitVec.msb, BitVec.getMsbD] using m
    simp [m2]
theorem own_l0 : own_l 0#16 = 0x8000#16 := by decide
theorem own_split (X : BitVec 64) : ∃ d c b a : BitVec 16, X = (d ++ c) ++ (b ++ a) := by
  have e1 : ∀ Y : BitVec 32, ∃ h l : BitVec 16, Y = h ++ l := fun Y => ⟨Y.extractLsb' 16 16, Y.extractLsb' 0 16, (BitVec.extractLsb'_append_extractLsb' (x := Y) (w := 16) (len := 16)).symm⟩
  obtain ⟨h, l, e⟩ : ∃ h l : BitVec 32, X = h ++ l := ⟨X.extractLsb' 32 32, X.extractLsb' 0 32, (BitVec.extractLsb'_append_extractLsb' (x := X) (w := 32) (len := 32)).symm⟩
  obtain ⟨d, c, e2⟩ := e1 h
  obtain ⟨b, a, e3⟩ := e1 l
  exact ⟨d, c, b, a, by rw [e, e2, e3]⟩
theorem own_small (a : BitVec 16) : (a &&& 0x7fff#16).toNat + (0x7fff#16).toNat < 2 ^ 16 := by
  have h : (a &&& 0x7fff#16).toNat ≤ 0x7fff := by rw [BitVec.toNat_and]; exact Nat.and_le_right
  have e : (0x7fff#16).toNat = 0x7fff := rfl
  omega
theorem own_small2 (b a : BitVec 16) : ((b ++ a) &&& (0x7fff#16 ++ 0x7fff#16)).toNat + (0x7fff#16 ++ 0x7fff#16).toNat < 2 ^ 32 := by
  have h : ((b ++ a) &&& (0x7fff#16 ++ 0x7fff#16)).toNat ≤ (0x7fff#16 ++ 0x7fff#16).toNat := by rw [BitVec.toNat_and]; exact Nat.and_le_right
  have e : (0x7fff#16 ++ 0x7fff#16).toNat = 0x7fff7fff := rfl
  omega
theorem own_F (x : Int64) (d c b a : BitVec 16) (h : x.toBitVec = (d ++ c) ++ (b ++ a)) : (own_f1 x).toBitVec = (own_l d ++ own_l c) ++ (own_l b ++ own_l a) := by
  have e : (own_f1 x).toBitVec = ((((x.toBitVec &&& ((0x7fff#16 ++ 0x7fff#16) ++ (0x7fff#16 ++ 0x7fff#16))) + ((0x7fff#16 ++ 0x7fff#16) ++ (0x7fff#16 ++ 0x7fff#16))) ||| x.toBitVec) ^^^ ((0xffff#16 ++ 0xffff#16) ++ (0xffff#16 ++ 0xffff#16))) &&& ((0x8000#16 ++ 0x8000#16) ++ (0x8000#16 ++ 0x8000#16)) := rfl
  rw [e, h, BitVec.and_append, own_addapp _ _ _ _ (own_small2 b a), BitVec.and_append, BitVec.and_append, own_addapp _ _ _ _ (own_small c), own_addapp _ _ _ _ (own_small a)]
  rw [BitVec.or_append, BitVec.or_append, BitVec.or_append, BitVec.xor_append, BitVec.xor_append, BitVec.xor_append, BitVec.and_append, BitVec.and_append, BitVec.and_append]
  rfl
theorem own_app0 {m n : Nat} (h : BitVec m) (l : BitVec n) : h ++ l = 0#(m + n) ↔ h = 0#m ∧ l = 0#n := by
  constructor
  · intro q
    rw [← BitVec.zero_append_zero] at q
    have q1 := congrArg (BitVec.extractLsb' n m) q
    have q2 := congrArg (BitVec.extractLsb' 0 n) q
    rw [BitVec.extractLsb'_append_eq_left, BitVec.extractLsb'_append_eq_left] at q1
    rw [BitVec.extractLsb'_append_eq_right, BitVec.extractLsb'_append_eq_right] at q2
    exact ⟨q1, q2⟩
  · rintro ⟨rfl, rfl⟩; simp
theorem own_mask (x m : Int64) (d c b a d' c' b' a' : BitVec 16) (h : x.toBitVec = (d ++ c) ++ (b ++ a)) (hm : m.toBitVec = (d' ++ c') ++ (b' ++ a')) : x &&& m = 0 ↔ (d &&& d' = 0#16 ∧ c &&& c' = 0#16) ∧ (b &&& b' = 0#16 ∧ a &&& a' = 0#16) := by
  have e : x &&& m = 0 ↔ x.toBitVec &&& m.toBitVec = 0#64 := by rw [← Int64.toBitVec_inj]; simp
  rw [e, h, hm, BitVec.and_append, BitVec.and_append, BitVec.and_append]
  rw [show (0#64) = 0#(16 + 16 + (16 + 16)) from rfl, own_app0, own_app0, own_app0]
theorem own_swar (x v1 v2 v3 v4 : Int64) (h1 : v1 = if (x &&& (65535 : Int64)) = (0 : Int64) then ((0 : Int64) ||| (32768 : Int64)) else (0 : Int64)) (h2 : v2 = if (x &&& (4294901760 : Int64)) = (0 : Int64) then (v1 ||| (2147483648 : Int64)) else v1)
    (h3 : v3 = if (x &&& (281470681743360 : Int64)) = (0 : Int64) then (v2 ||| (140737488355328 : Int64)) else v2) (h4 : v4 = if (x &&& (-281474976710656 : Int64)) = (0 : Int64) then (v3 ||| (-9223372036854775808 : Int64)) else v3) : own_f1 x = v4 := by
  obtain ⟨d, c, b, a, e⟩ := own_split x.toBitVec
  have F := own_F x d c b a e
  have f0 : ∀ z : BitVec 16, z &&& 0#16 = 0#16 := fun z => by simp
  have f1 : ∀ z : BitVec 16, z &&& 0xffff#16 = z := fun z => by
    have := BitVec.and_allOnes (x := z); simpa using this
  have m1 : (x &&& (65535 : Int64)) = (0 : Int64) ↔ a = 0#16 := by rw [own_mask x _ d c b a 0#16 0#16 0#16 0xffff#16 e rfl, f0, f0, f0, f1]; simp
  have m2 : (x &&& (4294901760 : Int64)) = (0 : Int64) ↔ b = 0#16 := by rw [own_mask x _ d c b a 0#16 0#16 0xffff#16 0#16 e rfl, f0, f0, f0, f1]; simp
  have m3 : (x &&& (281470681743360 : Int64)) = (0 : Int64) ↔ c = 0#16 := by rw [own_mask x _ d c b a 0#16 0xffff#16 0#16 0#16 e rfl, f0, f0, f0, f1]; simp
  have m4 : (x &&& (-281474976710656 : Int64)) = (0 : Int64) ↔ d = 0#16 := by rw [own_mask x _ d c b a 0xffff#16 0#16 0#16 0#16 e rfl, f0, f0, f0, f1]; simp
  simp only [m1] at h1
  simp only [m2] at h2
  simp only [m3] at h3
  simp only [m4] at h4
  apply Int64.toBitVec_inj.mp
  rw [F]
  by_cases qa : a = 0#16 <;> by_cases qb : b = 0#16 <;> by_cases qc : c = 0#16 <;> by_cases qd : d = 0#16
  all_goals
    first | rw [if_pos qa] at h1 | rw [if_neg qa] at h1
    first | rw [if_pos qb] at h2 | rw [if_neg qb] at h2
    first | rw [if_pos qc] at h3 | rw [if_neg qc] at h3
    first | rw [if_pos qd] at h4 | rw [if_neg qd] at h4
    first | rw [qa, own_l0] | rw [own_l_ne a qa]
    first | rw [qb, own_l0] | rw [own_l_ne b qb]
    first | rw [qc, own_l0] | rw [own_l_ne c qc]
    first | rw [qd, own_l0] | rw [own_l_ne d qd]
    subst h1 h2 h3 h4
    decide
theorem pn_1 : plainName "com/example/bits21/bits21/CodingZeroLanesPinLaw" = true := by first | (simp [plainName, overriddenIn]; done) | decide +kernel
theorem pd_0 : parseMethodDescriptor "(J)J" = some ⟨[.long], some .long⟩ := by decide +kernel
theorem ef_0 (m : MethodId) (x0 : Int64) (x1 : Int32) : entryFrame m #[(.long x0), (.int x1)] maxLocals = mkF m 0 #[.val (.long x0), .second, .val (.int x1), .unset, .unset, .unset, .unset, .unset, .unset] [] := by first | (simp [entryFrame, mkF, argsToLocals, Value.category, maxLocals]; done) | rfl
def Q0 (Z : State) (q0 : Int64) (q1 : Int32) (h0 : Heap) (n0 : Nat) (v : Option Value) (h : Heap) (L : List Loc) : Prop := v = some (.int (1 : Int32)) ∧ Fr n0 L
set_option maxHeartbeats 40000000 in
theorem rm0 (l : Launch) (Z : State) (aZ : Array Value) (hw : ∀ d ∈ tables_1, d.before aZ Z = true) (ws : List Jvm.Cond) (q0 : Int64) (q1 : Int32) (h0 : Heap) (n0 : Nat) (Z0 : n0 ≤ h0.size) (O0 : Old Z n0 h0) :
    MetFree l x (head1 (Jvm.Cond.code x code maxLocals ret :: ws) room_1) (fun a U => a = #[(.long q0), (.int q1)] ∧ Z.Warmed39 U.vm ∧ U.heap = h0) (fun _ _ _ _ _ => True) (fun _ U o U' => ∃ v L, o = .returned v ∧ Q0 Z q0 q1 h0 n0 v U'.heap L ∧ FrameEnd U o U' L room_1.cells room_1.slots) := by
  refine MetFree.of_bodySF (plainFor_of_name pn_1) hisR ?_
  intro p e s m args below meth c s₁ Bd hml0 hP hK
  obtain ⟨rfl, hZ, hh⟩ := hP
  have hx := Bd.exec
  have hby := Bd.bytes
  have hret := Bd.returns
  have hlk : meth.locks = false := BodyLoose.notSynchronized Bd
  have hml : c.maxLocals = 9 := hml0
  have hown : s.vm.findClass "com/example/bits21/bits21/CodingZeroLanesPinLaw" = some m.cls := findClass_of_methodNamed Bd.named
  have hnm := (name_of_methodNamed Bd.named Bd.method).1
  have X0 : Stand p l e room_1 s m #[(.long q0), (.int q1)] below meth c s₁ [] 0 0 := Stand.of_body Bd
  have e0 : s₁.heap = h0 := by rw [← hh, Bd.state]; rfl
  have N0 := Fr.nil n0
  have K0 : Keep h0 h0 [] := Keep.refl _ _
  have pre0 : ∀ t, Steps p.tables e below (s₁.setTop (mkF m 0 #[.val (.long q0), .second, .val (.int q1), .unset, .unset, .unset, .unset, .unset, .unset] [])) t → Steps p.tables e below (s₁.setTop (entryFrame m #[(.long q0), (.int q1)] maxLocals)) t := fun t k => castTop (ef_0 m q0 q1) k
  show OFin p e below s (Q0 Z q0 q1 h0 n0) room_1.cells room_1.slots _
  refine OFin.go pre0 ?_
  have sg103 : ∀ t, Steps p.tables e below (s₁.setTop (mkF m 5 #[.val (.long q0), .second, .val (.int q1), .val (.long (0 : Int64)), .second, .unset, .unset, .unset, .unset] [(.int (q1 &&& (1 : Int32)))])) t → Steps p.tables e below (s₁.setTop (mkF m 0 #[.val (.long q0), .second, .val (.int q1), .unset, .unset, .unset, .unset, .unset, .unset] [])) t := by
    intro t k
    show Steps p.tables e below (s₁.setTop (mkF m 0 #[.val (.long q0), .second, .val (.int q1), .unset, .unset, .unset, .unset, .unset, .unset] [])) t
    refine XS.lconst X0.here hx rfl (hb hby at_0) ?_
    show Steps p.tables e below (s₁.setTop (mkF m 1 #[.val (.long q0), .second, .val (.int q1), .unset, .unset, .unset, .unset, .unset, .unset] [(.long (0 : Int64))])) t
    refine XS.lstoreN X0.here hx rfl (hb hby at_1) rfl (l' := #[.val (.long q0), .second, .val (.int q1), .val (.long (0 : Int64)), .second, .unset, .unset, .unset, .unset]) rfl ?_
    show Steps p.tables e below (s₁.setTop (mkF m 2 #[.val (.long q0), .second, .val (.int q1), .val (.long (0 : Int64)), .second, .unset, .unset, .unset, .unset] [])) t
    refine XS.iloadN X0.here hx rfl (hb hby at_2) rfl ?_
    show Steps p.tables e below (s₁.setTop (mkF m 3 #[.val (.long q0), .second, .val (.int q1), .val (.long (0 : Int64)), .second, .unset, .unset, .unset, .unset] [(.int q1)])) t
    refine XS.iconst X0.here hx rfl (hb hby at_3) ?_
    show Steps p.tables e below (s₁.setTop (mkF m 4 #[.val (.long q0), .second, .val (.int q1), .val (.long (0 : Int64)), .second, .unset, .unset, .unset, .unset] [(.int (1 : Int32)), (.int q1)])) t
    refine XS.iand X0.here hx rfl (hb hby at_4) rfl ?_
    exact k
  refine OFin.go sg103 ?_
  obtain ⟨v102, e_v102⟩ : ∃ z : Int64, z = (if (q1 &&& (1 : Int32)) = (0 : Int32) then ((0 : Int64) ||| (65535 : Int64)) else (0 : Int64)) := ⟨_, rfl⟩
  have sg104 : ∀ t, Steps p.tables e below (s₁.setTop (mkF m 14 #[.val (.long q0), .second, .val (.int q1), .val (.long v102), .second, .unset, .unset, .unset, .unset] [])) t → Steps p.tables e below (s₁.setTop (mkF m 5 #[.val (.long q0), .second, .val (.int q1), .val (.long (0 : Int64)), .second, .unset, .unset, .unset, .unset] [(.int (q1 &&& (1 : Int32)))])) t := by
    intro t k
    by_cases c101 : (q1 &&& (1 : Int32)) = (0 : Int32)
    · show Steps p.tables e below (s₁.setTop (mkF m 5 #[.val (.long q0), .second, .val (.int q1), .val (.long (0 : Int64)), .second, .unset, .unset, .unset, .unset] [(.int (q1 &&& (1 : Int32)))])) t
      refine XS.ifNo X0.here hx rfl (hb hby at_5) rfl ((if0 _ _).trans (teq c101).2) ?_
      show Steps p.tables e below (s₁.setTop (mkF m 8 #[.val (.long q0), .second, .val (.int q1), .val (.long (0 : Int64)), .second, .unset, .unset, .unset, .unset] [])) t
      refine XS.lloadN X0.here hx rfl (hb hby at_8) rfl ?_
      show Steps p.tables e below (s₁.setTop (mkF m 9 #[.val (.long q0), .second, .val (.int q1), .val (.long (0 : Int64)), .second, .unset, .unset, .unset, .unset] [(.long (0 : Int64))])) t
      refine X0.ldc2Long hx hown (mvT hZ (hw _ (List.mem_of_getElem? (i := 0) rfl))) (g := (mkF m 9 #[.val (.long q0), .second, .val (.int q1), .val (.long (0 : Int64)), .second, .unset, .unset, .unset, .unset] [(.long (0 : Int64))])) rfl (hb hby at_9) _ ?_
      show Steps p.tables e below (s₁.setTop (mkF m 12 #[.val (.long q0), .second, .val (.int q1), .val (.long (0 : Int64)), .second, .unset, .unset, .unset, .unset] [(.long (65535 : Int64)), (.long (0 : Int64))])) t
      refine XS.lor X0.here hx rfl (hb hby at_12) rfl ?_
      show Steps p.tables e below (s₁.setTop (mkF m 13 #[.val (.long q0), .second, .val (.int q1), .val (.long (0 : Int64)), .second, .unset, .unset, .unset, .unset] [(.long ((0 : Int64) ||| (65535 : Int64)))])) t
      refine XS.lstoreN X0.here hx rfl (hb hby at_13) rfl (l' := #[.val (.long q0), .second, .val (.int q1), .val (.long ((0 : Int64) ||| (65535 : Int64))), .second, .unset, .unset, .unset, .unset]) rfl ?_
      have e_v102' := e_v102
      try rw [if_pos c101] at e_v102'
      subst e_v102'
      exact k
    · show Steps p.tables e below (s₁.setTop (mkF m 5 #[.val (.long q0), .second, .val (.int q1), .val (.long (0 : Int64)), .second, .unset, .unset, .unset, .unset] [(.int (q1 &&& (1 : Int32)))])) t
      refine XS.ifYes X0.here hx rfl (pc0 := 5) (pc' := 14) rfl (hb hby at_5) rfl ((if0 _ _).trans (feq c101).2) (by decide) (by decide) ?_
      have e_v102' := e_v102
      try rw [if_neg c101] at e_v102'
      subst e_v102'
      exact k
  refine OFin.go sg104 ?_
  have sg107 : ∀ t, Steps p.tables e below (s₁.setTop (mkF m 17 #[.val (.long q0), .second, .val (.int q1), .val (.long v102), .second, .unset, .unset, .unset, .unset] [(.int (q1 &&& (2 : Int32)))])) t → Steps p.tables e below (s₁.setTop (mkF m 14 #[.val (.long q0), .second, .val (.int q1), .val (.long v102), .second, .unset, .unset, .unset, .unset] [])) t := by
    intro t k
    show Steps p.tables e below (s₁.setTop (mkF m 14 #[.val (.long q0), .second, .val (.int q1), .val (.long v102), .second, .unset, .unset, .unset, .unset] [])) t
    refine XS.iloadN X0.here hx rfl (hb hby at_14) rfl ?_
    show Steps p.tables e below (s₁.setTop (mkF m 15 #[.val (.long q0), .second, .val (.int q1), .val (.long v102), .second, .unset, .unset, .unset, .unset] [(.int q1)])) t
    refine XS.iconst X0.here hx rfl (hb hby at_15) ?_
    show Steps p.tables e below (s₁.setTop (mkF m 16 #[.val (.long q0), .second, .val (.int q1), .val (.long v102), .second, .unset, .unset, .unset, .unset] [(.int (2 : Int32)), (.int q1)])) t
    refine XS.iand X0.here hx rfl (hb hby at_16) rfl ?_
    exact k
  refine OFin.go sg107 ?_
  obtain ⟨v106, e_v106⟩ : ∃ z : Int64, z = (if (q1 &&& (2 : Int32)) = (0 : Int32) then (v102 ||| (4294901760 : Int64)) else v102) := ⟨_, rfl⟩
  have sg108 : ∀ t, Steps p.tables e below (s₁.setTop (mkF m 26 #[.val (.long q0), .second, .val (.int q1), .val (.long v106), .second, .unset, .unset, .unset, .unset] [])) t → Steps p.tables e below (s₁.setTop (mkF m 17 #[.val (.long q0), .second, .val (.int q1), .val (.long v102), .second, .unset, .unset, .unset, .unset] [(.int (q1 &&& (2 : Int32)))])) t := by
    intro t k
    by_cases c105 : (q1 &&& (2 : Int32)) = (0 : Int32)
    · show Steps p.tables e below (s₁.setTop (mkF m 17 #[.val (.long q0), .second, .val (.int q1), .val (.long v102), .second, .unset, .unset, .unset, .unset] [(.int (q1 &&& (2 : Int32)))])) t
      refine XS.ifNo X0.here hx rfl (hb hby at_17) rfl ((if0 _ _).trans (teq c105).2) ?_
      show Steps p.tables e below (s₁.setTop (mkF m 20 #[.val (.long q0), .second, .val (.int q1), .val (.long v102), .second, .unset, .unset, .unset, .unset] [])) t
      refine XS.lloadN X0.here hx rfl (hb hby at_20) rfl ?_
      show Steps p.tables e below (s₁.setTop (mkF m 21 #[.val (.long q0), .second, .val (.int q1), .val (.long v102), .second, .unset, .unset, .unset, .unset] [(.long v102)])) t
      refine X0.ldc2Long hx hown (mvT hZ (hw _ (List.mem_of_getElem? (i := 3) rfl))) (g := (mkF m 21 #[.val (.long q0), .second, .val (.int q1), .val (.long v102), .second, .unset, .unset, .unset, .unset] [(.long v102)])) rfl (hb hby at_21) _ ?_
      show Steps p.tables e below (s₁.setTop (mkF m 24 #[.val (.long q0), .second, .val (.int q1), .val (.long v102), .second, .unset, .unset, .unset, .unset] [(.long (4294901760 : Int64)), (.long v102)])) t
      refine XS.lor X0.here hx rfl (hb hby at_24) rfl ?_
      show Steps p.tables e below (s₁.setTop (mkF m 25 #[.val (.long q0), .second, .val (.int q1), .val (.long v102), .second, .unset, .unset, .unset, .unset] [(.long (v102 ||| (4294901760 : Int64)))])) t
      refine XS.lstoreN X0.here hx rfl (hb hby at_25) rfl (l' := #[.val (.long q0), .second, .val (.int q1), .val (.long (v102 ||| (4294901760 : Int64))), .second, .unset, .unset, .unset, .unset]) rfl ?_
      have e_v106' := e_v106
      try rw [if_pos c105] at e_v106'
      subst e_v106'
      exact k
    · show Steps p.tables e below (s₁.setTop (mkF m 17 #[.val (.long q0), .second, .val (.int q1), .val (.long v102), .second, .unset, .unset, .unset, .unset] [(.int (q1 &&& (2 : Int32)))])) t
      refine XS.ifYes X0.here hx rfl (pc0 := 17) (pc' := 26) rfl (hb hby at_17) rfl ((if0 _ _).trans (feq c105).2) (by decide) (by decide) ?_
      have e_v106' := e_v106
      try rw [if_neg c105] at e_v106'
      subst e_v106'
      exact k
  refine OFin.go sg108 ?_
  have sg111 : ∀ t, Steps p.tables e below (s₁.setTop (mkF m 29 #[.val (.long q0), .second, .val (.int q1), .val (.long v106), .second, .unset, .unset, .unset, .unset] [(.int (q1 &&& (4 : Int32)))])) t → Steps p.tables e below (s₁.setTop (mkF m 26 #[.val (.long q0), .second, .val (.int q1), .val (.long v106), .second, .unset, .unset, .unset, .unset] [])) t := by
    intro t k
    show Steps p.tables e below (s₁.setTop (mkF m 26 #[.val (.long q0), .second, .val (.int q1), .val (.long v106), .second, .unset, .unset, .unset, .unset] [])) t
    refine XS.iloadN X0.here hx rfl (hb hby at_26) rfl ?_
    show Steps p.tables e below (s₁.setTop (mkF m 27 #[.val (.long q0), .second, .val (.int q1), .val (.long v106), .second, .unset, .unset, .unset, .unset] [(.int q1)])) t
    refine XS.iconst X0.here hx rfl (hb hby at_27) ?_
    show Steps p.tables e below (s₁.setTop (mkF m 28 #[.val (.long q0), .second, .val (.int q1), .val (.long v106), .second, .unset, .unset, .unset, .unset] [(.int (4 : Int32)), (.int q1)])) t
    refine XS.iand X0.here hx rfl (hb hby at_28) rfl ?_
    exact k
  refine OFin.go sg111 ?_
  obtain ⟨v110, e_v110⟩ : ∃ z : Int64, z = (if (q1 &&& (4 : Int32)) = (0 : Int32) then (v106 ||| (281470681743360 : Int64)) else v106) := ⟨_, rfl⟩
  have sg112 : ∀ t, Steps p.tables e below (s₁.setTop (mkF m 38 #[.val (.long q0), .second, .val (.int q1), .val (.long v110), .second, .unset, .unset, .unset, .unset] [])) t → Steps p.tables e below (s₁.setTop (mkF m 29 #[.val (.long q0), .second, .val (.int q1), .val (.long v106), .second, .unset, .unset, .unset, .unset] [(.int (q1 &&& (4 : Int32)))])) t := by
    intro t k
    by_cases c109 : (q1 &&& (4 : Int32)) = (0 : Int32)
    · show Steps p.tables e below (s₁.setTop (mkF m 29 #[.val (.long q0), .second, .val (.int q1), .val (.long v106), .second, .unset, .unset, .unset, .unset] [(.int (q1 &&& (4 : Int32)))])) t
      refine XS.ifNo X0.here hx rfl (hb hby at_29) rfl ((if0 _ _).trans (teq c109).2) ?_
      show Steps p.tables e below (s₁.setTop (mkF m 32 #[.val (.long q0), .second, .val (.int q1), .val (.long v106), .second, .unset, .unset, .unset, .unset] [])) t
      refine XS.lloadN X0.here hx rfl (hb hby at_32) rfl ?_
      show Steps p.tables e below (s₁.setTop (mkF m 33 #[.val (.long q0), .second, .val (.int q1), .val (.long v106), .second, .unset, .unset, .unset, .unset] [(.long v106)])) t
      refine X0.ldc2Long hx hown (mvT hZ (hw _ (List.mem_of_getElem? (i := 1) rfl))) (g := (mkF m 33 #[.val (.long q0), .second, .val (.int q1), .val (.long v106), .second, .unset, .unset, .unset, .unset] [(.long v106)])) rfl (hb hby at_33) _ ?_
      show Steps p.tables e below (s₁.setTop (mkF m 36 #[.val (.long q0), .second, .val (.int q1), .val (.long v106), .second, .unset, .unset, .unset, .unset] [(.long (281470681743360 : Int64)), (.long v106)])) t
      refine XS.lor X0.here hx rfl (hb hby at_36) rfl ?_
      show Steps p.tables e below (s₁.setTop (mkF m 37 #[.val (.long q0), .second, .val (.int q1), .val (.long v106), .second, .unset, .unset, .unset, .unset] [(.long (v106 ||| (281470681743360 : Int64)))])) t
      refine XS.lstoreN X0.here hx rfl (hb hby at_37) rfl (l' := #[.val (.long q0), .second, .val (.int q1), .val (.long (v106 ||| (281470681743360 : Int64))), .second, .unset, .unset, .unset, .unset]) rfl ?_
      have e_v110' := e_v110
      try rw [if_pos c109] at e_v110'
      subst e_v110'
      exact k
    · show Steps p.tables e below (s₁.setTop (mkF m 29 #[.val (.long q0), .second, .val (.int q1), .val (.long v106), .second, .unset, .unset, .unset, .unset] [(.int (q1 &&& (4 : Int32)))])) t
      refine XS.ifYes X0.here hx rfl (pc0 := 29) (pc' := 38) rfl (hb hby at_29) rfl ((if0 _ _).trans (feq c109).2) (by decide) (by decide) ?_
      have e_v110' := e_v110
      try rw [if_neg c109] at e_v110'
      subst e_v110'
      exact k
  refine OFin.go sg112 ?_
  have sg115 : ∀ t, Steps p.tables e below (s₁.setTop (mkF m 42 #[.val (.long q0), .second, .val (.int q1), .val (.long v110), .second, .unset, .unset, .unset, .unset] [(.int (q1 &&& (8 : Int32)))])) t → Steps p.tables e below (s₁.setTop (mkF m 38 #[.val (.long q0), .second, .val (.int q1), .val (.long v110), .second, .unset, .unset, .unset, .unset] [])) t := by
    intro t k
    show Steps p.tables e below (s₁.setTop (mkF m 38 #[.val (.long q0), .second, .val (.int q1), .val (.long v110), .second, .unset, .unset, .unset, .unset] [])) t
    refine XS.iloadN X0.here hx rfl (hb hby at_38) rfl ?_
    show Steps p.tables e below (s₁.setTop (mkF m 39 #[.val (.long q0), .second, .val (.int q1), .val (.long v110), .second, .unset, .unset, .unset, .unset] [(.int q1)])) t
    refine XS.bipush X0.here hx rfl (hb hby at_39) ?_
    show Steps p.tables e below (s₁.setTop (mkF m 41 #[.val (.long q0), .second, .val (.int q1), .val (.long v110), .second, .unset, .unset, .unset, .unset] [(.int (8 : Int32)), (.int q1)])) t
    refine XS.iand X0.here hx rfl (hb hby at_41) rfl ?_
    exact k
  refine OFin.go sg115 ?_
  obtain ⟨v114, e_v114⟩ : ∃ z : Int64, z = (if (q1 &&& (8 : Int32)) = (0 : Int32) then (v110 ||| (-281474976710656 : Int64)) else v110) := ⟨_, rfl⟩
  have sg116 : ∀ t, Steps p.tables e below (s₁.setTop (mkF m 51 #[.val (.long q0), .second, .val (.int q1), .val (.long v114), .second, .unset, .unset, .unset, .unset] [])) t → Steps p.tables e below (s₁.setTop (mkF m 42 #[.val (.long q0), .second, .val (.int q1), .val (.long v110), .second, .unset, .unset, .unset, .unset] [(.int (q1 &&& (8 : Int32)))])) t := by
    intro t k
    by_cases c113 : (q1 &&& (8 : Int32)) = (0 : Int32)
    · show Steps p.tables e below (s₁.setTop (mkF m 42 #[.val (.long q0), .second, .val (.int q1), .val (.long v110), .second, .unset, .unset, .unset, .unset] [(.int (q1 &&& (8 : Int32)))])) t
      refine XS.ifNo X0.here hx rfl (hb hby at_42) rfl ((if0 _ _).trans (teq c113).2) ?_
      show Steps p.tables e below (s₁.setTop (mkF m 45 #[.val (.long q0), .second, .val (.int q1), .val (.long v110), .second, .unset, .unset, .unset, .unset] [])) t
      refine XS.lloadN X0.here hx rfl (hb hby at_45) rfl ?_
      show Steps p.tables e below (s₁.setTop (mkF m 46 #[.val (.long q0), .second, .val (.int q1), .val (.long v110), .second, .unset, .unset, .unset, .unset] [(.long v110)])) t
      refine X0.ldc2Long hx hown (mvT hZ (hw _ (List.mem_of_getElem? (i := 2) rfl))) (g := (mkF m 46 #[.val (.long q0), .second, .val (.int q1), .val (.long v110), .second, .unset, .unset, .unset, .unset] [(.long v110)])) rfl (hb hby at_46) _ ?_
      show Steps p.tables e below (s₁.setTop (mkF m 49 #[.val (.long q0), .second, .val (.int q1), .val (.long v110), .second, .unset, .unset, .unset, .unset] [(.long (-281474976710656 : Int64)), (.long v110)])) t
      refine XS.lor X0.here hx rfl (hb hby at_49) rfl ?_
      show Steps p.tables e below (s₁.setTop (mkF m 50 #[.val (.long q0), .second, .val (.int q1), .val (.long v110), .second, .unset, .unset, .unset, .unset] [(.long (v110 ||| (-281474976710656 : Int64)))])) t
      refine XS.lstoreN X0.here hx rfl (hb hby at_50) rfl (l' := #[.val (.long q0), .second, .val (.int q1), .val (.long (v110 ||| (-281474976710656 : Int64))), .second, .unset, .unset, .unset, .unset]) rfl ?_
      have e_v114' := e_v114
      try rw [if_pos c113] at e_v114'
      subst e_v114'
      exact k
    · show Steps p.tables e below (s₁.setTop (mkF m 42 #[.val (.long q0), .second, .val (.int q1), .val (.long v110), .second, .unset, .unset, .unset, .unset] [(.int (q1 &&& (8 : Int32)))])) t
      refine XS.ifYes X0.here hx rfl (pc0 := 42) (pc' := 51) rfl (hb hby at_42) rfl ((if0 _ _).trans (feq c113).2) (by decide) (by decide) ?_
      have e_v114' := e_v114
      try rw [if_neg c113] at e_v114'
      subst e_v114'
      exact k
  refine OFin.go sg116 ?_
  have sg119 : ∀ t, Steps p.tables e below (s₁.setTop (mkF m 67 #[.val (.long q0), .second, .val (.int q1), .val (.long v114), .second, .val (.long (q0 &&& v114)), .second, .val (.long (0 : Int64)), .second] [(.int (lcmpW ((q0 &&& v114) &&& (65535 : Int64)) (0 : Int64)))])) t → Steps p.tables e below (s₁.setTop (mkF m 51 #[.val (.long q0), .second, .val (.int q1), .val (.long v114), .second, .unset, .unset, .unset, .unset] [])) t := by
    intro t k
    show Steps p.tables e below (s₁.setTop (mkF m 51 #[.val (.long q0), .second, .val (.int q1), .val (.long v114), .second, .unset, .unset, .unset, .unset] [])) t
    refine XS.lloadN X0.here hx rfl (hb hby at_51) rfl ?_
    show Steps p.tables e below (s₁.setTop (mkF m 52 #[.val (.long q0), .second, .val (.int q1), .val (.long v114), .second, .unset, .unset, .unset, .unset] [(.long q0)])) t
    refine XS.lloadN X0.here hx rfl (hb hby at_52) rfl ?_
    show Steps p.tables e below (s₁.setTop (mkF m 53 #[.val (.long q0), .second, .val (.int q1), .val (.long v114), .second, .unset, .unset, .unset, .unset] [(.long v114), (.long q0)])) t
    refine XS.land X0.here hx rfl (hb hby at_53) rfl ?_
    show Steps p.tables e below (s₁.setTop (mkF m 54 #[.val (.long q0), .second, .val (.int q1), .val (.long v114), .second, .unset, .unset, .unset, .unset] [(.long (q0 &&& v114))])) t
    refine XS.lstore X0.here hx rfl (hb hby at_54) rfl (l' := #[.val (.long q0), .second, .val (.int q1), .val (.long v114), .second, .val (.long (q0 &&& v114)), .second, .unset, .unset]) rfl ?_
    show Steps p.tables e below (s₁.setTop (mkF m 56 #[.val (.long q0), .second, .val (.int q1), .val (.long v114), .second, .val (.long (q0 &&& v114)), .second, .unset, .unset] [])) t
    refine XS.lconst X0.here hx rfl (hb hby at_56) ?_
    show Steps p.tables e below (s₁.setTop (mkF m 57 #[.val (.long q0), .second, .val (.int q1), .val (.long v114), .second, .val (.long (q0 &&& v114)), .second, .unset, .unset] [(.long (0 : Int64))])) t
    refine XS.lstore X0.here hx rfl (hb hby at_57) rfl (l' := #[.val (.long q0), .second, .val (.int q1), .val (.long v114), .second, .val (.long (q0 &&& v114)), .second, .val (.long (0 : Int64)), .second]) rfl ?_
    show Steps p.tables e below (s₁.setTop (mkF m 59 #[.val (.long q0), .second, .val (.int q1), .val (.long v114), .second, .val (.long (q0 &&& v114)), .second, .val (.long (0 : Int64)), .second] [])) t
    refine XS.lload X0.here hx rfl (hb hby at_59) rfl ?_
    show Steps p.tables e below (s₁.setTop (mkF m 61 #[.val (.long q0), .second, .val (.int q1), .val (.long v114), .second, .val (.long (q0 &&& v114)), .second, .val (.long (0 : Int64)), .second] [(.long (q0 &&& v114))])) t
    refine X0.ldc2Long hx hown (mvT hZ (hw _ (List.mem_of_getElem? (i := 0) rfl))) (g := (mkF m 61 #[.val (.long q0), .second, .val (.int q1), .val (.long v114), .second, .val (.long (q0 &&& v114)), .second, .val (.long (0 : Int64)), .second] [(.long (q0 &&& v114))])) rfl (hb hby at_61) _ ?_
    show Steps p.tables e below (s₁.setTop (mkF m 64 #[.val (.long q0), .second, .val (.int q1), .val (.long v114), .second, .val (.long (q0 &&& v114)), .second, .val (.long (0 : Int64)), .second] [(.long (65535 : Int64)), (.long (q0 &&& v114))])) t
    refine XS.land X0.here hx rfl (hb hby at_64) rfl ?_
    show Steps p.tables e below (s₁.setTop (mkF m 65 #[.val (.long q0), .second, .val (.int q1), .val (.long v114), .second, .val (.long (q0 &&& v114)), .second, .val (.long (0 : Int64)), .second] [(.long ((q0 &&& v114) &&& (65535 : Int64)))])) t
    refine XS.lconst X0.here hx rfl (hb hby at_65) ?_
    show Steps p.tables e below (s₁.setTop (mkF m 66 #[.val (.long q0), .second, .val (.int q1), .val (.long v114), .second, .val (.long (q0 &&& v114)), .second, .val (.long (0 : Int64)), .second] [(.long (0 : Int64)), (.long ((q0 &&& v114) &&& (65535 : Int64)))])) t
    refine XS.lcmp X0.here hx rfl (hb hby at_66) rfl ?_
    exact k
  refine OFin.go sg119 ?_
  obtain ⟨v118, e_v118⟩ : ∃ z : Int64, z = (if ((q0 &&& v114) &&& (65535 : Int64)) = (0 : Int64) then ((0 : Int64) ||| (32768 : Int64)) else (0 : Int64)) := ⟨_, rfl⟩
  have sg120 : ∀ t, Steps p.tables e below (s₁.setTop (mkF m 78 #[.val (.long q0), .second, .val (.int q1), .val (.long v114), .second, .val (.long (q0 &&& v114)), .second, .val (.long v118), .second] [])) t → Steps p.tables e below (s₁.setTop (mkF m 67 #[.val (.long q0), .second, .val (.int q1), .val (.long v114), .second, .val (.long (q0 &&& v114)), .second, .val (.long (0 : Int64)), .second] [(.int (lcmpW ((q0 &&& v114) &&& (65535 : Int64)) (0 : Int64)))])) t := by
    intro t k
    by_cases c117 : ((q0 &&& v114) &&& (65535 : Int64)) = (0 : Int64)
    · show Steps p.tables e below (s₁.setTop (mkF m 67 #[.val (.long q0), .second, .val (.int q1), .val (.long v114), .second, .val (.long (q0 &&& v114)), .second, .val (.long (0 : Int64)), .second] [(.int (lcmpW ((q0 &&& v114) &&& (65535 : Int64)) (0 : Int64)))])) t
      refine XS.ifNo X0.here hx rfl (hb hby at_67) rfl ((if0 _ _).trans (teq ((lw_eq _ _).mpr c117)).2) ?_
      show Steps p.tables e below (s₁.setTop (mkF m 70 #[.val (.long q0), .second, .val (.int q1), .val (.long v114), .second, .val (.long (q0 &&& v114)), .second, .val (.long (0 : Int64)), .second] [])) t
      refine XS.lload X0.here hx rfl (hb hby at_70) rfl ?_
      show Steps p.tables e below (s₁.setTop (mkF m 72 #[.val (.long q0), .second, .val (.int q1), .val (.long v114), .second, .val (.long (q0 &&& v114)), .second, .val (.long (0 : Int64)), .second] [(.long (0 : Int64))])) t
      refine X0.ldc2Long hx hown (mvT hZ (hw _ (List.mem_of_getElem? (i := 14) rfl))) (g := (mkF m 72 #[.val (.long q0), .second, .val (.int q1), .val (.long v114), .second, .val (.long (q0 &&& v114)), .second, .val (.long (0 : Int64)), .second] [(.long (0 : Int64))])) rfl (hb hby at_72) _ ?_
      show Steps p.tables e below (s₁.setTop (mkF m 75 #[.val (.long q0), .second, .val (.int q1), .val (.long v114), .second, .val (.long (q0 &&& v114)), .second, .val (.long (0 : Int64)), .second] [(.long (32768 : Int64)), (.long (0 : Int64))])) t
      refine XS.lor X0.here hx rfl (hb hby at_75) rfl ?_
      show Steps p.tables e below (s₁.setTop (mkF m 76 #[.val (.long q0), .second, .val (.int q1), .val (.long v114), .second, .val (.long (q0 &&& v114)), .second, .val (.long (0 : Int64)), .second] [(.long ((0 : Int64) ||| (32768 : Int64)))])) t
      refine XS.lstore X0.here hx rfl (hb hby at_76) rfl (l' := #[.val (.long q0), .second, .val (.int q1), .val (.long v114), .second, .val (.long (q0 &&& v114)), .second, .val (.long ((0 : Int64) ||| (32768 : Int64))), .second]) rfl ?_
      have e_v118' := e_v118
      try rw [if_pos c117] at e_v118'
      subst e_v118'
      exact k
    · show Steps p.tables e below (s₁.setTop (mkF m 67 #[.val (.long q0), .second, .val (.int q1), .val (.long v114), .second, .val (.long (q0 &&& v114)), .second, .val (.long (0 : Int64)), .second] [(.int (lcmpW ((q0 &&& v114) &&& (65535 : Int64)) (0 : Int64)))])) t
      refine XS.ifYes X0.here hx rfl (pc0 := 67) (pc' := 78) rfl (hb hby at_67) rfl ((if0 _ _).trans (feq (mt (lw_eq _ _).mp c117)).2) (by decide) (by decide) ?_
      have e_v118' := e_v118
      try rw [if_neg c117] at e_v118'
      subst e_v118'
      exact k
  refine OFin.go sg120 ?_
  have sg123 : ∀ t, Steps p.tables e below (s₁.setTop (mkF m 86 #[.val (.long q0), .second, .val (.int q1), .val (.long v114), .second, .val (.long (q0 &&& v114)), .second, .val (.long v118), .second] [(.int (lcmpW ((q0 &&& v114) &&& (4294901760 : Int64)) (0 : Int64)))])) t → Steps p.tables e below (s₁.setTop (mkF m 78 #[.val (.long q0), .second, .val (.int q1), .val (.long v114), .second, .val (.long (q0 &&& v114)), .second, .val (.long v118), .second] [])) t := by
    intro t k
    show Steps p.tables e below (s₁.setTop (mkF m 78 #[.val (.long q0), .second, .val (.int q1), .val (.long v114), .second, .val (.long (q0 &&& v114)), .second, .val (.long v118), .second] [])) t
    refine XS.lload X0.here hx rfl (hb hby at_78) rfl ?_
    show Steps p.tables e below (s₁.setTop (mkF m 80 #[.val (.long q0), .second, .val (.int q1), .val (.long v114), .second, .val (.long (q0 &&& v114)), .second, .val (.long v118), .second] [(.long (q0 &&& v114))])) t
    refine X0.ldc2Long hx hown (mvT hZ (hw _ (List.mem_of_getElem? (i := 3) rfl))) (g := (mkF m 80 #[.val (.long q0), .second, .val (.int q1), .val (.long v114), .second, .val (.long (q0 &&& v114)), .second, .val (.long v118), .second] [(.long (q0 &&& v114))])) rfl (hb hby at_80) _ ?_
    show Steps p.tables e below (s₁.setTop (mkF m 83 #[.val (.long q0), .second, .val (.int q1), .val (.long v114), .second, .val (.long (q0 &&& v114)), .second, .val (.long v118), .second] [(.long (4294901760 : Int64)), (.long (q0 &&& v114))])) t
    refine XS.land X0.here hx rfl (hb hby at_83) rfl ?_
    show Steps p.tables e below (s₁.setTop (mkF m 84 #[.val (.long q0), .second, .val (.int q1), .val (.long v114), .second, .val (.long (q0 &&& v114)), .second, .val (.long v118), .second] [(.long ((q0 &&& v114) &&& (4294901760 : Int64)))])) t
    refine XS.lconst X0.here hx rfl (hb hby at_84) ?_
    show Steps p.tables e below (s₁.setTop (mkF m 85 #[.val (.long q0), .second, .val (.int q1), .val (.long v114), .second, .val (.long (q0 &&& v114)), .second, .val (.long v118), .second] [(.long (0 : Int64)), (.long ((q0 &&& v114) &&& (4294901760 : Int64)))])) t
    refine XS.lcmp X0.here hx rfl (hb hby at_85) rfl ?_
    exact k
  refine OFin.go sg123 ?_
  obtain ⟨v122, e_v122⟩ : ∃ z : Int64, z = (if ((q0 &&& v114) &&& (4294901760 : Int64)) = (0 : Int64) then (v118 ||| (2147483648 : Int64)) else v118) := ⟨_, rfl⟩
  have sg124 : ∀ t, Steps p.tables e below (s₁.setTop (mkF m 97 #[.val (.long q0), .second, .val (.int q1), .val (.long v114), .second, .val (.long (q0 &&& v114)), .second, .val (.long v122), .second] [])) t → Steps p.tables e below (s₁.setTop (mkF m 86 #[.val (.long q0), .second, .val (.int q1), .val (.long v114), .second, .val (.long (q0 &&& v114)), .second, .val (.long v118), .second] [(.int (lcmpW ((q0 &&& v114) &&& (4294901760 : Int64)) (0 : Int64)))])) t := by
    intro t k
    by_cases c121 : ((q0 &&& v114) &&& (4294901760 : Int64)) = (0 : Int64)
    · show Steps p.tables e below (s₁.setTop (mkF m 86 #[.val (.long q0), .second, .val (.int q1), .val (.long v114), .second, .val (.long (q0 &&& v114)), .second, .val (.long v118), .second] [(.int (lcmpW ((q0 &&& v114) &&& (4294901760 : Int64)) (0 : Int64)))])) t
      refine XS.ifNo X0.here hx rfl (hb hby at_86) rfl ((if0 _ _).trans (teq ((lw_eq _ _).mpr c121)).2) ?_
      show Steps p.tables e below (s₁.setTop (mkF m 89 #[.val (.long q0), .second, .val (.int q1), .val (.long v114), .second, .val (.long (q0 &&& v114)), .second, .val (.long v118), .second] [])) t
      refine XS.lload X0.here hx rfl (hb hby at_89) rfl ?_
      show Steps p.tables e below (s₁.setTop (mkF m 91 #[.val (.long q0), .second, .val (.int q1), .val (.long v114), .second, .val (.long (q0 &&& v114)), .second, .val (.long v118), .second] [(.long v118)])) t
      refine X0.ldc2Long hx hown (mvT hZ (hw _ (List.mem_of_getElem? (i := 4) rfl))) (g := (mkF m 91 #[.val (.long q0), .second, .val (.int q1), .val (.long v114), .second, .val (.long (q0 &&& v114)), .second, .val (.long v118), .second] [(.long v118)])) rfl (hb hby at_91) _ ?_
      show Steps p.tables e below (s₁.setTop (mkF m 94 #[.val (.long q0), .second, .val (.int q1), .val (.long v114), .second, .val (.long (q0 &&& v114)), .second, .val (.long v118), .second] [(.long (2147483648 : Int64)), (.long v118)])) t
      refine XS.lor X0.here hx rfl (hb hby at_94) rfl ?_
      show Steps p.tables e below (s₁.setTop (mkF m 95 #[.val (.long q0), .second, .val (.int q1), .val (.long v114), .second, .val (.long (q0 &&& v114)), .second, .val (.long v118), .second] [(.long (v118 ||| (2147483648 : Int64)))])) t
      refine XS.lstore X0.here hx rfl (hb hby at_95) rfl (l' := #[.val (.long q0), .second, .val (.int q1), .val (.long v114), .second, .val (.long (q0 &&& v114)), .second, .val (.long (v118 ||| (2147483648 : Int64))), .second]) rfl ?_
      have e_v122' := e_v122
      try rw [if_pos c121] at e_v122'
      subst e_v122'
      exact k
    · show Steps p.tables e below (s₁.setTop (mkF m 86 #[.val (.long q0), .second, .val (.int q1), .val (.long v114), .second, .val (.long (q0 &&& v114)), .second, .val (.long v118), .second] [(.int (lcmpW ((q0 &&& v114) &&& (4294901760 : Int64)) (0 : Int64)))])) t
      refine XS.ifYes X0.here hx rfl (pc0 := 86) (pc' := 97) rfl (hb hby at_86) rfl ((if0 _ _).trans (feq (mt (lw_eq _ _).mp c121)).2) (by decide) (by decide) ?_
      have e_v122' := e_v122
      try rw [if_neg c121] at e_v122'
      subst e_v122'
      exact k
  refine OFin.go sg124 ?_
  have sg127 : ∀ t, Steps p.tables e below (s₁.setTop (mkF m 105 #[.val (.long q0), .second, .val (.int q1), .val (.long v114), .second, .val (.long (q0 &&& v114)), .second, .val (.long v122), .second] [(.int (lcmpW ((q0 &&& v114) &&& (281470681743360 : Int64)) (0 : Int64)))])) t → Steps p.tables e below (s₁.setTop (mkF m 97 #[.val (.long q0), .second, .val (.int q1), .val (.long v114), .second, .val (.long (q0 &&& v114)), .second, .val (.long v122), .second] [])) t := by
    intro t k
    show Steps p.tables e below (s₁.setTop (mkF m 97 #[.val (.long q0), .second, .val (.int q1), .val (.long v114), .second, .val (.long (q0 &&& v114)), .second, .val (.long v122), .second] [])) t
    refine XS.lload X0.here hx rfl (hb hby at_97) rfl ?_
    show Steps p.tables e below (s₁.setTop (mkF m 99 #[.val (.long q0), .second, .val (.int q1), .val (.long v114), .second, .val (.long (q0 &&& v114)), .second, .val (.long v122), .second] [(.long (q0 &&& v114))])) t
    refine X0.ldc2Long hx hown (mvT hZ (hw _ (List.mem_of_getElem? (i := 1) rfl))) (g := (mkF m 99 #[.val (.long q0), .second, .val (.int q1), .val (.long v114), .second, .val (.long (q0 &&& v114)), .second, .val (.long v122), .second] [(.long (q0 &&& v114))])) rfl (hb hby at_99) _ ?_
    show Steps p.tables e below (s₁.setTop (mkF m 102 #[.val (.long q0), .second, .val (.int q1), .val (.long v114), .second, .val (.long (q0 &&& v114)), .second, .val (.long v122), .second] [(.long (281470681743360 : Int64)), (.long (q0 &&& v114))])) t
    refine XS.land X0.here hx rfl (hb hby at_102) rfl ?_
    show Steps p.tables e below (s₁.setTop (mkF m 103 #[.val (.long q0), .second, .val (.int q1), .val (.long v114), .second, .val (.long (q0 &&& v114)), .second, .val (.long v122), .second] [(.long ((q0 &&& v114) &&& (281470681743360 : Int64)))])) t
    refine XS.lconst X0.here hx rfl (hb hby at_103) ?_
    show Steps p.tables e below (s₁.setTop (mkF m 104 #[.val (.long q0), .second, .val (.int q1), .val (.long v114), .second, .val (.long (q0 &&& v114)), .second, .val (.long v122), .second] [(.long (0 : Int64)), (.long ((q0 &&& v114) &&& (281470681743360 : Int64)))])) t
    refine XS.lcmp X0.here hx rfl (hb hby at_104) rfl ?_
    exact k
  refine OFin.go sg127 ?_
  obtain ⟨v126, e_v126⟩ : ∃ z : Int64, z = (if ((q0 &&& v114) &&& (281470681743360 : Int64)) = (0 : Int64) then (v122 ||| (140737488355328 : Int64)) else v122) := ⟨_, rfl⟩
  have sg128 : ∀ t, Steps p.tables e below (s₁.setTop (mkF m 116 #[.val (.long q0), .second, .val (.int q1), .val (.long v114), .second, .val (.long (q0 &&& v114)), .second, .val (.long v126), .second] [])) t → Steps p.tables e below (s₁.setTop (mkF m 105 #[.val (.long q0), .second, .val (.int q1), .val (.long v114), .second, .val (.long (q0 &&& v114)), .second, .val (.long v122), .second] [(.int (lcmpW ((q0 &&& v114) &&& (281470681743360 : Int64)) (0 : Int64)))])) t := by
    intro t k
    by_cases c125 : ((q0 &&& v114) &&& (281470681743360 : Int64)) = (0 : Int64)
    · show Steps p.tables e below (s₁.setTop (mkF m 105 #[.val (.long q0), .second, .val (.int q1), .val (.long v114), .second, .val (.long (q0 &&& v114)), .second, .val (.long v122), .second] [(.int (lcmpW ((q0 &&& v114) &&& (281470681743360 : Int64)) (0 : Int64)))])) t
      refine XS.ifNo X0.here hx rfl (hb hby at_105) rfl ((if0 _ _).trans (teq ((lw_eq _ _).mpr c125)).2) ?_
      show Steps p.tables e below (s₁.setTop (mkF m 108 #[.val (.long q0), .second, .val (.int q1), .val (.long v114), .second, .val (.long (q0 &&& v114)), .second, .val (.long v122), .second] [])) t
      refine XS.lload X0.here hx rfl (hb hby at_108) rfl ?_
      show Steps p.tables e below (s₁.setTop (mkF m 110 #[.val (.long q0), .second, .val (.int q1), .val (.long v114), .second, .val (.long (q0 &&& v114)), .second, .val (.long v122), .second] [(.long v122)])) t
      refine X0.ldc2Long hx hown (mvT hZ (hw _ (List.mem_of_getElem? (i := 5) rfl))) (g := (mkF m 110 #[.val (.long q0), .second, .val (.int q1), .val (.long v114), .second, .val (.long (q0 &&& v114)), .second, .val (.long v122), .second] [(.long v122)])) rfl (hb hby at_110) _ ?_
      show Steps p.tables e below (s₁.setTop (mkF m 113 #[.val (.long q0), .second, .val (.int q1), .val (.long v114), .second, .val (.long (q0 &&& v114)), .second, .val (.long v122), .second] [(.long (140737488355328 : Int64)), (.long v122)])) t
      refine XS.lor X0.here hx rfl (hb hby at_113) rfl ?_
      show Steps p.tables e below (s₁.setTop (mkF m 114 #[.val (.long q0), .second, .val (.int q1), .val (.long v114), .second, .val (.long (q0 &&& v114)), .second, .val (.long v122), .second] [(.long (v122 ||| (140737488355328 : Int64)))])) t
      refine XS.lstore X0.here hx rfl (hb hby at_114) rfl (l' := #[.val (.long q0), .second, .val (.int q1), .val (.long v114), .second, .val (.long (q0 &&& v114)), .second, .val (.long (v122 ||| (140737488355328 : Int64))), .second]) rfl ?_
      have e_v126' := e_v126
      try rw [if_pos c125] at e_v126'
      subst e_v126'
      exact k
    · show Steps p.tables e below (s₁.setTop (mkF m 105 #[.val (.long q0), .second, .val (.int q1), .val (.long v114), .second, .val (.long (q0 &&& v114)), .second, .val (.long v122), .second] [(.int (lcmpW ((q0 &&& v114) &&& (281470681743360 : Int64)) (0 : Int64)))])) t
      refine XS.ifYes X0.here hx rfl (pc0 := 105) (pc' := 116) rfl (hb hby at_105) rfl ((if0 _ _).trans (feq (mt (lw_eq _ _).mp c125)).2) (by decide) (by decide) ?_
      have e_v126' := e_v126
      try rw [if_neg c125] at e_v126'
      subst e_v126'
      exact k
  refine OFin.go sg128 ?_
  have sg131 : ∀ t, Steps p.tables e below (s₁.setTop (mkF m 124 #[.val (.long q0), .second, .val (.int q1), .val (.long v114), .second, .val (.long (q0 &&& v114)), .second, .val (.long v126), .second] [(.int (lcmpW ((q0 &&& v114) &&& (-281474976710656 : Int64)) (0 : Int64)))])) t → Steps p.tables e below (s₁.setTop (mkF m 116 #[.val (.long q0), .second, .val (.int q1), .val (.long v114), .second, .val (.long (q0 &&& v114)), .second, .val (.long v126), .second] [])) t := by
    intro t k
    show Steps p.tables e below (s₁.setTop (mkF m 116 #[.val (.long q0), .second, .val (.int q1), .val (.long v114), .second, .val (.long (q0 &&& v114)), .second, .val (.long v126), .second] [])) t
    refine XS.lload X0.here hx rfl (hb hby at_116) rfl ?_
    show Steps p.tables e below (s₁.setTop (mkF m 118 #[.val (.long q0), .second, .val (.int q1), .val (.long v114), .second, .val (.long (q0 &&& v114)), .second, .val (.long v126), .second] [(.long (q0 &&& v114))])) t
    refine X0.ldc2Long hx hown (mvT hZ (hw _ (List.mem_of_getElem? (i := 2) rfl))) (g := (mkF m 118 #[.val (.long q0), .second, .val (.int q1), .val (.long v114), .second, .val (.long (q0 &&& v114)), .second, .val (.long v126), .second] [(.long (q0 &&& v114))])) rfl (hb hby at_118) _ ?_
    show Steps p.tables e below (s₁.setTop (mkF m 121 #[.val (.long q0), .second, .val (.int q1), .val (.long v114), .second, .val (.long (q0 &&& v114)), .second, .val (.long v126), .second] [(.long (-281474976710656 : Int64)), (.long (q0 &&& v114))])) t
    refine XS.land X0.here hx rfl (hb hby at_121) rfl ?_
    show Steps p.tables e below (s₁.setTop (mkF m 122 #[.val (.long q0), .second, .val (.int q1), .val (.long v114), .second, .val (.long (q0 &&& v114)), .second, .val (.long v126), .second] [(.long ((q0 &&& v114) &&& (-281474976710656 : Int64)))])) t
    refine XS.lconst X0.here hx rfl (hb hby at_122) ?_
    show Steps p.tables e below (s₁.setTop (mkF m 123 #[.val (.long q0), .second, .val (.int q1), .val (.long v114), .second, .val (.long (q0 &&& v114)), .second, .val (.long v126), .second] [(.long (0 : Int64)), (.long ((q0 &&& v114) &&& (-281474976710656 : Int64)))])) t
    refine XS.lcmp X0.here hx rfl (hb hby at_123) rfl ?_
    exact k
  refine OFin.go sg131 ?_
  obtain ⟨v130, e_v130⟩ : ∃ z : Int64, z = (if ((q0 &&& v114) &&& (-281474976710656 : Int64)) = (0 : Int64) then (v126 ||| (-9223372036854775808 : Int64)) else v126) := ⟨_, rfl⟩
  have sg132 : ∀ t, Steps p.tables e below (s₁.setTop (mkF m 135 #[.val (.long q0), .second, .val (.int q1), .val (.long v114), .second, .val (.long (q0 &&& v114)), .second, .val (.long v130), .second] [])) t → Steps p.tables e below (s₁.setTop (mkF m 124 #[.val (.long q0), .second, .val (.int q1), .val (.long v114), .second, .val (.long (q0 &&& v114)), .second, .val (.long v126), .second] [(.int (lcmpW ((q0 &&& v114) &&& (-281474976710656 : Int64)) (0 : Int64)))])) t := by
    intro t k
    by_cases c129 : ((q0 &&& v114) &&& (-281474976710656 : Int64)) = (0 : Int64)
    · show Steps p.tables e below (s₁.setTop (mkF m 124 #[.val (.long q0), .second, .val (.int q1), .val (.long v114), .second, .val (.long (q0 &&& v114)), .second, .val (.long v126), .second] [(.int (lcmpW ((q0 &&& v114) &&& (-281474976710656 : Int64)) (0 : Int64)))])) t
      refine XS.ifNo X0.here hx rfl (hb hby at_124) rfl ((if0 _ _).trans (teq ((lw_eq _ _).mpr c129)).2) ?_
      show Steps p.tables e below (s₁.setTop (mkF m 127 #[.val (.long q0), .second, .val (.int q1), .val (.long v114), .second, .val (.long (q0 &&& v114)), .second, .val (.long v126), .second] [])) t
      refine XS.lload X0.here hx rfl (hb hby at_127) rfl ?_
      show Steps p.tables e below (s₁.setTop (mkF m 129 #[.val (.long q0), .second, .val (.int q1), .val (.long v114), .second, .val (.long (q0 &&& v114)), .second, .val (.long v126), .second] [(.long v126)])) t
      refine X0.ldc2Long hx hown (mvT hZ (hw _ (List.mem_of_getElem? (i := 6) rfl))) (g := (mkF m 129 #[.val (.long q0), .second, .val (.int q1), .val (.long v114), .second, .val (.long (q0 &&& v114)), .second, .val (.long v126), .second] [(.long v126)])) rfl (hb hby at_129) _ ?_
      show Steps p.tables e below (s₁.setTop (mkF m 132 #[.val (.long q0), .second, .val (.int q1), .val (.long v114), .second, .val (.long (q0 &&& v114)), .second, .val (.long v126), .second] [(.long (-9223372036854775808 : Int64)), (.long v126)])) t
      refine XS.lor X0.here hx rfl (hb hby at_132) rfl ?_
      show Steps p.tables e below (s₁.setTop (mkF m 133 #[.val (.long q0), .second, .val (.int q1), .val (.long v114), .second, .val (.long (q0 &&& v114)), .second, .val (.long v126), .second] [(.long (v126 ||| (-9223372036854775808 : Int64)))])) t
      refine XS.lstore X0.here hx rfl (hb hby at_133) rfl (l' := #[.val (.long q0), .second, .val (.int q1), .val (.long v114), .second, .val (.long (q0 &&& v114)), .second, .val (.long (v126 ||| (-9223372036854775808 : Int64))), .second]) rfl ?_
      have e_v130' := e_v130
      try rw [if_pos c129] at e_v130'
      subst e_v130'
      exact k
    · show Steps p.tables e below (s₁.setTop (mkF m 124 #[.val (.long q0), .second, .val (.int q1), .val (.long v114), .second, .val (.long (q0 &&& v114)), .second, .val (.long v126), .second] [(.int (lcmpW ((q0 &&& v114) &&& (-281474976710656 : Int64)) (0 : Int64)))])) t
      refine XS.ifYes X0.here hx rfl (pc0 := 124) (pc' := 135) rfl (hb hby at_124) rfl ((if0 _ _).trans (feq (mt (lw_eq _ _).mp c129)).2) (by decide) (by decide) ?_
      have e_v130' := e_v130
      try rw [if_neg c129] at e_v130'
      subst e_v130'
      exact k
  refine OFin.go sg132 ?_
  have sg133 : ∀ t, Steps p.tables e below (s₁.setTop (mkF m 137 #[.val (.long q0), .second, .val (.int q1), .val (.long v114), .second, .val (.long (q0 &&& v114)), .second, .val (.long v130), .second] [(.long (q0 &&& v114))])) t → Steps p.tables e below (s₁.setTop (mkF m 135 #[.val (.long q0), .second, .val (.int q1), .val (.long v114), .second, .val (.long (q0 &&& v114)), .second, .val (.long v130), .second] [])) t := by
    intro t k
    show Steps p.tables e below (s₁.setTop (mkF m 135 #[.val (.long q0), .second, .val (.int q1), .val (.long v114), .second, .val (.long (q0 &&& v114)), .second, .val (.long v130), .second] [])) t
    refine XS.lload X0.here hx rfl (hb hby at_135) rfl ?_
    exact k
  refine OFin.go sg133 ?_
  obtain ⟨_, _, ⟨T134, L134, k134, n134⟩, -, X134, ⟨Lc134, hQ134, l134, y134, z134⟩, st134⟩ := Jvm.LawKit.callS X0 hx (y := (⟨"com/example/bits21/bits21/Coding", "zeroLanes", "(J)J"⟩ : MethodName)) hown (mvT hZ (hw _ (List.mem_of_getElem? (i := 7) rfl))) (mvT hZ (hw _ (List.mem_of_getElem? (i := 8) rfl))) (mvT hZ (hw _ (List.mem_of_getElem? (i := 9) rfl))) (mvT hZ (hw _ (List.mem_of_getElem? (i := 10) rfl))) (by decide) (backOf (W := 0) (rm1 l Z aZ hw [] (q0 &&& v114) h0 n0 (Nat.le_trans Z0 K0.1) ) hZ (hw _ (List.mem_of_getElem? (i := 10) rfl)) (hw _ (List.mem_of_getElem? (i := 9) rfl)) (by decide) (by decide)) (g := (mkF m 137 #[.val (.long q0), .second, .val (.int q1), .val (.long v114), .second, .val (.long (q0 &&& v114)), .second, .val (.long v130), .second] [(.long (q0 &&& v114))])) rfl (by rw [hml]; rfl) (argsL := [(.long (q0 &&& v114))]) (rest := []) (lenOf pd_0 rfl) rfl (by show 2 * 0 + _ ≤ _; exact Nat.le_of_eq rfl) (hb hby at_137) (fun _ _ => ⟨rfl, e0, (by decide : 0 + 0 ≤ _), (by decide : 0 + 0 ≤ _)⟩)
  dsimp only [Pt.U, Pt.locs, Pt.cells, Pt.slots] at X134 l134 y134 z134 st134 hQ134
  subst l134 y134 z134
  obtain ⟨rfl, N134q, e134⟩ := hQ134
  have N134 := Fr.app N0 N134q
  refine OFin.go st134 ?_
  have sg136 : ∀ t, Steps p.tables e below (T134.setTop (mkF m 143 #[.val (.long q0), .second, .val (.int q1), .val (.long v114), .second, .val (.long (q0 &&& v114)), .second, .val (.long v130), .second] [(.int (lcmpW (own_f1 (q0 &&& v114)) v130))])) t → Steps p.tables e below (T134.setTop (mkF m 140 #[.val (.long q0), .second, .val (.int q1), .val (.long v114), .second, .val (.long (q0 &&& v114)), .second, .val (.long v130), .second] [(.long (own_f1 (q0 &&& v114)))])) t := by
    intro t k
    show Steps p.tables e below (T134.setTop (mkF m 140 #[.val (.long q0), .second, .val (.int q1), .val (.long v114), .second, .val (.long (q0 &&& v114)), .second, .val (.long v130), .second] [(.long (own_f1 (q0 &&& v114)))])) t
    refine XS.lload X134.here hx rfl (hb hby at_140) rfl ?_
    show Steps p.tables e below (T134.setTop (mkF m 142 #[.val (.long q0), .second, .val (.int q1), .val (.long v114), .second, .val (.long (q0 &&& v114)), .second, .val (.long v130), .second] [(.long v130), (.long (own_f1 (q0 &&& v114)))])) t
    refine XS.lcmp X134.here hx rfl (hb hby at_142) rfl ?_
    exact k
  refine OFin.go sg136 ?_
  have c135 : (own_f1 (q0 &&& v114)) = v130 := own_swar _ v118 v122 v126 v130 e_v118 e_v122 e_v126 e_v130
  have sg137 : ∀ t, Steps p.tables e below (T134.setTop (mkF m 151 #[.val (.long q0), .second, .val (.int q1), .val (.long v114), .second, .val (.long (q0 &&& v114)), .second, .val (.long v130), .second] [(.int (1 : Int32))])) t → Steps p.tables e below (T134.setTop (mkF m 143 #[.val (.long q0), .second, .val (.int q1), .val (.long v114), .second, .val (.long (q0 &&& v114)), .second, .val (.long v130), .second] [(.int (lcmpW (own_f1 (q0 &&& v114)) v130))])) t := by
    intro t k
    show Steps p.tables e below (T134.setTop (mkF m 143 #[.val (.long q0), .second, .val (.int q1), .val (.long v114), .second, .val (.long (q0 &&& v114)), .second, .val (.long v130), .second] [(.int (lcmpW (own_f1 (q0 &&& v114)) v130))])) t
    refine XS.ifNo X134.here hx rfl (hb hby at_143) rfl ((if0 _ _).trans (teq ((lw_eq _ _).mpr c135)).2) ?_
    show Steps p.tables e below (T134.setTop (mkF m 146 #[.val (.long q0), .second, .val (.int q1), .val (.long v114), .second, .val (.long (q0 &&& v114)), .second, .val (.long v130), .second] [])) t
    refine XS.iconst X134.here hx rfl (hb hby at_146) ?_
    show Steps p.tables e below (T134.setTop (mkF m 147 #[.val (.long q0), .second, .val (.int q1), .val (.long v114), .second, .val (.long (q0 &&& v114)), .second, .val (.long v130), .second] [(.int (1 : Int32))])) t
    refine XS.goto X134.here hx rfl (pc0 := 147) (pc' := 151) rfl (hb hby at_147) (by decide) (by decide) ?_
    exact k
  refine OFin.go sg137 ?_
  exact OFin.retN X134 hx hret (by simp) hlk (hb hby at_151) rfl (by rw [e134]; exact ⟨rfl, N134⟩) (by decide) (by decide)
set_option maxHeartbeats 40000000 in
theorem comes_1 {Post : Tables → Env → Array Value → State → Outcome → State → Prop} (hpost : ∀ tb e args s v u, (limb_1_1.after args s (.returned v) u = true ∧ limb_1_2.after args s (.returned v) u = true ∧ True) → FrameEnd s (.returned v) u (Jvm.fieldLocs frame_1_writes args s ++ Jvm.arrayLocs frame_1_arrays args s ++ Jvm.staticLocs frame_1_statics s) 0 0 → Post tb e args s (.returned v) u) :
    ArmFor flags0 classFile x code maxLocals ret World_1 tables_1 room_1 Calls_1 rest_1 Pre_1 Post := by
  intro l hfl _ _ p e ha hc hk s m args below hf hA hF happ hP
  obtain ⟨hcalls, hrest, hpre⟩ := hP
  obtain ⟨-, -, -, hnamed, -, -, -, hat⟩ := (Spec.applies_iff hf).mp happ
  obtain ⟨hg, hn⟩ := and_e (Cond.before_iff.mp (show (Jvm.Cond.and given_1 narrow_1).before args s = true from hpre))
  obtain ⟨gg1, gg2⟩ := and_e hg
  obtain ⟨gg3, gg4⟩ := and_e gg2
  obtain ⟨w0, w1, rfl⟩ : ∃ w0 w1 : Value, args = #[w0, w1] := by
    have hs : args.size = 2 := by simpa [Cond.value, given_1] using gg1
    obtain ⟨L⟩ := args
    match L, hs with
    | [w0, w1], _ => exact ⟨w0, w1, rfl⟩
  have hw := fun d (hd : d ∈ tables_1) => atoms_spec (ws := Jvm.Cond.code x code maxLocals ret :: tables_1) hat d (List.mem_cons_of_mem _ hd)
  have hfit : Fit s := fun {y c} hc i hi => by
    obtain ⟨ha, rfl⟩ := Array.getElem?_eq_some_iff.mp hc
    have q := List.all_eq_true.mp ((Array.all_eq_true_iff_forall_mem.mp hF) _ (Array.getElem_mem ha)) i (List.mem_range.mpr hi)
    simpa [Array.getElem?_eq_getElem hi] using q
  obtain ⟨i0, ei0⟩ := isL_v gg3
  obtain rfl : w0 = (.long i0) := Option.some.inj ei0
  obtain ⟨i1, ei1⟩ := is_v gg4
  obtain rfl : w1 = (.int i1) := Option.some.inj ei1
  obtain ⟨n, o, h1, h2, h3, _, L, rfl, ⟨rfl, N⟩, hq⟩ := rm0 l s _ hw tables_1 i0 i1 s.heap s.heap.size (Nat.le_refl _) (Old.start s)  p e ha hc hk s m _ below hf ((Spec.applies_iff_loose hf).mp happ).1 ⟨rfl, State.Warmed39.refl s, rfl⟩ trivial
  refine ⟨n, _, h1, h2, h3, hpost _ _ _ _ _ _ ⟨Cond.after_iff.mpr rfl, Cond.after_iff.mpr (eq_i res_at (Term.int_eval (1)) rfl), trivial⟩ ⟨hq.1, hq.2.1, (hq.2.2.sift fun y hy => Or.inr (N y hy)).mono (by decide) (by decide)⟩⟩
theorem main_1_1 : Claimed_1_1 := comes_1 fun _ _ _ _ _ _ h hF => ⟨h.1, hF⟩
theorem main_1_2 : Claimed_1_2 := comes_1 fun _ _ _ _ _ _ h hF => ⟨h.2.1, hF⟩
end Jvm.Pilot.@@N@@
namespace Jvm.Pilot.@@N@@
open Jvm Jvm.ClassFile Sem Op Lib Jvm.Free Jvm.Stand Jvm.Pilot.@@N@@.Jvm.D
/-! MADE BY PROGRAM (witnessworld.py) out of the Statement's table words and the real class files: 9 classes; the members and pool entries that the words name. The judged class is class 1, her method 1. -/
namespace start1
open Jvm.ClassFile
def u (s : String) : CpInfo := .utf8 (stringToUtf16 s)
/-- a pool by its gaps: so many unusable entries, then the entry; so many at the end -/
def gap : Nat → List CpInfo → List CpInfo
  | 0, r => r
  | n + 1, r => .unusable :: gap n r
def poolList (es : List (Nat × CpInfo)) (last : Nat) : List CpInfo := es.foldr (fun e r => gap e.1 (e.2 :: r)) (gap last [])
def pool (es : List (Nat × CpInfo)) (last : Nat) : Array CpInfo := ⟨poolList es last⟩
def fileOf (pool : Array CpInfo) (this : Nat) (attrs : Array Attribute := #[]) (ms : Array MethodInfo := #[]) (fl : Nat := 33) (sup : Nat := 0) (ifs : Array Nat := #[]) (fds : Array FieldInfo := #[]) : ClassFile where
  minorVersion := 0
  majorVersion := 65
  constantPool := pool
  accessFlags := fl
  thisClass := this
  superClass := sup
  interfaces := ifs
  fields := fds
  methods := ms
  attributes := attrs
def plain (name : String) (sup : Option ClassId) : Class where
  name := name
  kind := .ordinary
  loader := none
  accessFlags := 33
  super := sup
  interfaces := #[]
  cf := none
  fields := #[]
  methods := #[]
  instanceTypes := #[]
  staticTypes := #[]
  resolved := #[]
  callSites := []
  init := .initialized
  statics := none
  mirror := none

def pool0 : Array CpInfo := pool [(5, u "<init>"), (0, u "()V"), (1, .class_ 10), (1, u "java/lang/Object")] 113

def k0m0 : Method := { name := "<init>", desc := "()V", sig := { parameters := [], returnType := none }, accessFlags := 1, code := none }
/-- java/lang/Object -/
def k0 : Class := { plain "java/lang/Object" none with
  accessFlags := 33
  interfaces := #[]
  cf := some (fileOf pool0 8 #[] #[{ accessFlags := 1, nameIndex := 5, descriptorIndex := 6, attributes := #[] }] 33 0 #[] #[])
  fields := #[]
  methods := #[k0m0]
  instanceTypes := #[]
  staticTypes := #[]
  resolved := Array.replicate 124 none
  statics := none }

def pool1 : Array CpInfo := pool [(2, .class_ 4), (1, u "java/lang/Object"), (0, u "<init>"), (0, u "()V"), (0, .long 65535), (1, .long 4294901760), (1, .long 281470681743360), (1, .long 18446462598732840960), (1, .long 32768), (1, .long 2147483648), (1, .long 140737488355328), (1, .long 9223372036854775808), (1, .methodref 24 25), (0, .class_ 26), (0, .nameAndType 27 28), (0, u "com/example/bits21/bits21/Coding"), (0, u "zeroLanes"), (0, u "(J)J"), (0, .class_ 30), (0, u "com/example/bits21/bits21/CodingZeroLanesPinLaw"), (2, u "law"), (0, u "(JI)Z")] 3

def k1m0 : Method := { name := "<init>", desc := "()V", sig := { parameters := [], returnType := none }, accessFlags := 2, code := none }
def k1c1 : Code := { maxStack := 4, maxLocals := 9, code := code, exceptionTable := #[], attributes := #[] }
def k1m1 : Method := { name := "law", desc := "(JI)Z", sig := { parameters := [.long, .int], returnType := some .boolean }, accessFlags := 9, code := some k1c1 }
/-- com/example/bits21/bits21/CodingZeroLanesPinLaw -/
def k1 : Class := { plain "com/example/bits21/bits21/CodingZeroLanesPinLaw" (some 0) with
  accessFlags := 49
  interfaces := #[]
  cf := some (fileOf pool1 29 #[] #[{ accessFlags := 2, nameIndex := 5, descriptorIndex := 6, attributes := #[] }, { accessFlags := 9, nameIndex := 33, descriptorIndex := 34, attributes := #[] }] 49 2 #[] #[])
  fields := #[]
  methods := #[k1m0, k1m1]
  instanceTypes := #[]
  staticTypes := #[]
  resolved := Array.replicate 38 none
  statics := none }

def pool2 : Array CpInfo := pool [(4, .class_ 6), (1, u "java/lang/Object"), (0, u "<init>"), (0, u "()V"), (25, .class_ 35), (0, u "com/example/bits21/bits21/Coding"), (0, .long 9223231297218904063), (1, .long 18446744073709551615), (1, .long 9223512776490647552), (46, u "REPLACEMENT"), (0, u "C"), (1, u "MAX_ARRAY_LENGTH"), (0, u "I"), (1, u "CHUNK"), (1, u "SHORT_TEXT"), (1, u "LANE_TOPS"), (0, u "J"), (6, u "zeroLanes"), (0, u "(J)J")] 27

def k2m0 : Method := { name := "<init>", desc := "()V", sig := { parameters := [], returnType := none }, accessFlags := 2, code := none }
def k2c1 : Code := { maxStack := 4, maxLocals := 2, code := prog_1_method_3_code, exceptionTable := #[], attributes := #[] }
def k2m1 : Method := { name := "zeroLanes", desc := "(J)J", sig := { parameters := [.long], returnType := some .long }, accessFlags := 8, code := some k2c1 }
/-- com/example/bits21/bits21/Coding -/
def k2 : Class := { plain "com/example/bits21/bits21/Coding" (some 0) with
  accessFlags := 48
  interfaces := #[]
  cf := some (fileOf pool2 34 #[] #[{ accessFlags := 2, nameIndex := 7, descriptorIndex := 8, attributes := #[] }, { accessFlags := 8, nameIndex := 105, descriptorIndex := 106, attributes := #[] }] 48 4 #[] #[{ accessFlags := 24, nameIndex := 87, descriptorIndex := 88, attributes := #[] }, { accessFlags := 24, nameIndex := 90, descriptorIndex := 91, attributes := #[] }, { accessFlags := 24, nameIndex := 93, descriptorIndex := 91, attributes := #[] }, { accessFlags := 24, nameIndex := 95, descriptorIndex := 91, attributes := #[] }, { accessFlags := 24, nameIndex := 97, descriptorIndex := 98, attributes := #[] }])
  fields := #[{ name := "REPLACEMENT", type := .char, accessFlags := 24, slot := 0, constantValue := 0 }, { name := "MAX_ARRAY_LENGTH", type := .int, accessFlags := 24, slot := 1, constantValue := 0 }, { name := "CHUNK", type := .int, accessFlags := 24, slot := 2, constantValue := 0 }, { name := "SHORT_TEXT", type := .int, accessFlags := 24, slot := 3, constantValue := 0 }, { name := "LANE_TOPS", type := .long, accessFlags := 24, slot := 4, constantValue := 0 }]
  methods := #[k2m0, k2m1]
  instanceTypes := #[]
  staticTypes := #[.char, .int, .int, .int, .long]
  resolved := Array.replicate 134 none
  statics := none }

def pool3 : Array CpInfo := pool [(1, u "java/lang/Cloneable"), (0, .class_ 1), (0, u "java/lang/Object"), (0, .class_ 3)] 3

/-- java/lang/Cloneable -/
def k3 : Class := { plain "java/lang/Cloneable" (some 0) with
  accessFlags := 1537
  interfaces := #[]
  cf := some (fileOf pool3 2 #[] #[] 1537 4 #[] #[])
  fields := #[]
  methods := #[]
  instanceTypes := #[]
  staticTypes := #[]
  resolved := Array.replicate 8 none
  statics := none }

def pool4 : Array CpInfo := pool [(1, u "java/io/Serializable"), (0, .class_ 1), (0, u "java/lang/Object"), (0, .class_ 3)] 3

/-- java/io/Serializable -/
def k4 : Class := { plain "java/io/Serializable" (some 0) with
  accessFlags := 1537
  interfaces := #[]
  cf := some (fileOf pool4 2 #[] #[] 1537 4 #[] #[])
  fields := #[]
  methods := #[]
  instanceTypes := #[]
  staticTypes := #[]
  resolved := Array.replicate 8 none
  statics := none }

/-- the primitive byte -/
def k5 : Class := { plain "byte" none with kind := .primitive 'B', accessFlags := 0x411 }
/-- [B -/
def k6 : Class := { plain "[B" (some 0) with kind := .array 5 .byte, interfaces := #[3, 4], accessFlags := 1041 }

/-- the primitive int -/
def k7 : Class := { plain "int" none with kind := .primitive 'I', accessFlags := 0x411 }
/-- [I -/
def k8 : Class := { plain "[I" (some 0) with kind := .array 7 .int, interfaces := #[3, 4], accessFlags := 1041 }

def heap : Heap := #[]
def classes : Array Class := #[k0, k1, k2, k3, k4, k5, k6, k7, k8]
def interned : List (Array UInt16 × Addr) := []
def slotsUsed : Nat := 0
def theMethod : MethodId := ⟨1, 1⟩
def args0 : Array Value := #[.long 5, .int 3]
def aboutOver (below : List Frame) : State where
  vm := { classes := classes, interned := interned.toArray }
  heap := heap
  slotsUsed := slotsUsed
  threads := #[{ frames := .invoking theMethod args0 :: below }]
def below0 : List Frame := [.native { method := ⟨0, 0⟩, args := #[] }]
def about1 : State := aboutOver below0
def p0 : Program := .bare "" "" ""
def e0 : Env := launch0.env 0 0 0
theorem w_frames : about1.frames = Frame.invoking theMethod args0 :: below0 := rfl
set_option maxRecDepth 65536 in
theorem w_args : argsFit about1.vm theMethod args0 = true := by decide +kernel
set_option maxRecDepth 65536 in
theorem w_heap : heapFits about1 = true := by decide +kernel
set_option maxRecDepth 65536 in
theorem w_runnable : about1.curStatus? = some .runnable := by decide +kernel
set_option maxRecDepth 65536 in
theorem w_alone : about1.alone = true := by decide +kernel
set_option maxRecDepth 65536 in
theorem w_named : about1.methodNamed? x = some theMethod := by decide +kernel
set_option maxRecDepth 65536 in
theorem w_hears : about1.hears theMethod below0 = true := by decide +kernel
set_option maxRecDepth 65536 in
theorem w_ripe : about1.ripe theMethod args0 below0 = true := by decide +kernel
theorem w_running : about1.status = .running := rfl
set_option maxRecDepth 65536 in
theorem w_room : about1.hasRoom e0.platform room_1 = true :=
  launch0.hasRoom_least _ room_1 (by decide +kernel) (by decide +kernel) (by decide +kernel) (by decide +kernel) (by decide +kernel) (by decide +kernel)
theorem allAtoms_all (ts : List Jvm.Cond) (a : Array Jvm.Value) (st : Jvm.State) : (allAtoms ts).before a st = ts.all (fun c => c.before a st) := by
  induction ts with
  | nil => rfl
  | cons c t ih =>
    show (Jvm.Cond.and c (allAtoms t)).before a st = _
    rw [Jvm.Cond.before_and, ih, List.all_cons]
def words1 : List Jvm.Cond := Jvm.Cond.code x code maxLocals ret :: tables_1
/-- a 'code' word, met by the world's own term for the bytes: nothing is compared byte by byte -/
theorem code_word {y : MethodName} {bytes : ByteArray} {mx : Nat} {rt : Option FieldType} {a : Array Value} {s : State} {m : MethodId} {meth : Method} {c : Code} (h1 : s.methodNamed? y = some m) (h2 : s.vm.method? m = some meth) (h3 : meth.code = some c) (h4 : c.code = bytes)
    (h5 : (c.maxLocals == mx && c.exceptionTable.isEmpty && decide (c.maxStack ≤ mostOperands) && decide (meth.sig.returnType = rt) && !meth.locks && decide (parseMethodDescriptor y.desc = some meth.sig)) = true) : (Jvm.Cond.code y bytes mx rt).before a s = true := by
  simp only [Bool.and_eq_true, beq_iff_eq, Bool.not_eq_true', decide_eq_true_eq] at h5
  obtain ⟨⟨⟨⟨⟨g1, g2⟩, g3⟩, g4⟩, g5⟩, g6⟩ := h5
  simp [Cond.before, Cond.holds, Cond.value, h1, h2, h3, h4, g1, g2, g3, g4, g5, g6]
def isCode : Jvm.Cond → Bool
  | .code _ _ _ _ => true
  | _ => false
theorem all_split {L : List Jvm.Cond} {P : Jvm.Cond → Bool} (h1 : L.all (fun c => isCode c || P c) = true) (h2 : ∀ c ∈ L.filter isCode, P c = true) : L.all P = true := by
  refine List.all_eq_true.mpr fun c hc => ?_
  have h := List.all_eq_true.mp h1 c hc
  rcases Bool.eq_false_or_eq_true (isCode c) with hi | hi
  · exact h2 c (List.mem_filter.mpr ⟨hc, hi⟩)
  · simpa [hi] using h
set_option maxRecDepth 65536 in
theorem w_c0 : (Jvm.Cond.code x code maxLocals ret).before args0 about1 = true := code_word (m := ⟨1, 1⟩) (meth := k1m1) (c := k1c1) (by decide +kernel) rfl rfl rfl (by decide +kernel)
set_option maxRecDepth 65536 in
theorem w_c1 : (Jvm.Cond.code ({ cls := "com/example/bits21/bits21/Coding", name := "zeroLanes", desc := "(J)J" } : Jvm.MethodName) prog_1_method_3_code (2 : Nat) (Option.some Jvm.ClassFile.FieldType.long)).before args0 about1 = true := code_word (m := ⟨2, 1⟩) (meth := k2m1) (c := k2c1) (by decide +kernel) rfl rfl rfl (by decide +kernel)
def codes1 : List Jvm.Cond := [Jvm.Cond.code x code maxLocals ret, Jvm.Cond.code ({ cls := "com/example/bits21/bits21/Coding", name := "zeroLanes", desc := "(J)J" } : Jvm.MethodName) prog_1_method_3_code (2 : Nat) (Option.some Jvm.ClassFile.FieldType.long)]
set_option maxRecDepth 65536 in
theorem codes_eq : words1.filter isCode = codes1 := rfl
theorem w_codes : ∀ c ∈ words1.filter isCode, c.before args0 about1 = true := by
  rw [codes_eq]
  intro c hc
  simp only [codes1, List.mem_cons, List.not_mem_nil, or_false] at hc
  rcases hc with rfl | rfl
  · exact w_c0
  · exact w_c1
set_option maxRecDepth 65536 in
theorem w_t1 : words1.all (fun c => isCode c || c.before args0 about1) = true := by decide +kernel
theorem w_tables : (allAtoms (Jvm.Cond.code x code maxLocals ret :: tables_1)).before args0 about1 = true := by
  rw [allAtoms_all]
  show words1.all (fun c => c.before args0 about1) = true
  refine all_split ?_ w_codes
  rw [w_t1]
set_option maxRecDepth 65536 in
theorem w_case : (Jvm.Cond.and given_1 narrow_1).before args0 about1 = true := by decide +kernel
theorem w_applies : (headSpec (Jvm.Cond.code x code maxLocals ret :: tables_1) room_1).applies x e0.platform about1 = true :=
  (Spec.applies_iff w_frames).mpr ⟨w_running, w_runnable, w_alone, w_named, w_hears, w_ripe, w_room, w_tables⟩
theorem atStart : AtStart classFile x code maxLocals ret World_1 tables_1 room_1 Calls_1 rest_1 Pre_1 launch0 p0 e0 about1 theMethod args0 below0 :=
  ⟨lists_1, trivial, launch0.admits_env _ _ _, launch0.least_env, fairChoices_fair.cas, fairChoices_fair.clock, w_frames, w_args, w_heap, w_applies, trivial, trivial, w_case⟩
end start1
theorem witness_1 : WitnessClaimed_1 := ⟨start1.p0, start1.e0, start1.about1, start1.theMethod, start1.args0, start1.below0, start1.atStart⟩
end Jvm.Pilot.@@N@@
