import JvmDerived
import JvmDerived.Pilot.@@N@@Statement
import JvmDerived.Pilot.@@N@@Code
set_option linter.unusedVariables false
set_option linter.unusedSimpArgs false
/- laws to paste: Road.backV, Road.eqW, Road.codOf (cut by pick.py; bodies as the Statement names them) -/
namespace Jvm.Pilot.@@N@@
namespace StrChars
open Jvm Sem ClassFile Op Lib Jvm.Stand Jvm.Free.XT Jvm.Free.ALB Jvm.Free.JM Jvm.Free
open Jvm.Lib.Cold (StaticIs)
/-- a char array whose places are chars -/
def Ch (a : Addr) (A : Cell) (U : State) : Prop := Arr .char a A U ∧ Typed .char A
theorem Ch.mv {a : Addr} {A : Cell} {U U' : State} (h : Ch a A U) (hal : U.vm.Alike U'.vm) (hh : U'.heap = U.heap) : Ch a A U' := ⟨h.1.mv hal hh, h.2⟩
theorem Ch.keep {a : Addr} {A : Cell} {U U' : State} (h : Ch a A U) (hal : U.vm.Alike U'.vm) (hk : U'.heap[a]? = some A) : Ch a A U' := ⟨h.1.keep hal hk, h.2⟩
/-- what place i of a char[]'s cell holds -/
def cv (A : Cell) (i : Nat) : Int32 := match A.slots[i]? with | some (.int x) => x | _ => 0
theorem Ch.get {a : Addr} {A : Cell} {U : State} (h : Ch a A U) {i : Nat} (hi : i < A.slots.size) : A.slots[i]? = some (.int (cv A i)) := by
  have e := Array.getElem?_eq_getElem hi
  have f := h.2 i _ e
  unfold cv; rw [e]
  generalize A.slots[i] = v at f
  cases v <;> simp [fits] at f ⊢
/-- the byte that i2b leaves of a char -/
def lo8 (x : Int32) : Int32 := x.toInt8.toInt32
theorem fits_lo8 (y : Int32) : fits .byte (.int (lo8 y)) = true := by
  have h1 := y.toInt8.le_toInt
  have h2 := y.toInt8.toInt_lt
  simp only [lo8, fits, Bool.and_eq_true, decide_eq_true_eq, Int32.le_iff_toInt_le, Int8.toInt_toInt32, show (-128 : Int32).toInt = -128 from by decide, show (127 : Int32).toInt = 127 from by decide]
  omega
/-- A' is A but that each place j of lo .. hi - 1 holds f j -/
def Laid (A A' : Cell) (lo hi : Nat) (f : Nat → Value) : Prop := A'.cls = A.cls ∧ A'.vm = A.vm ∧ A'.slots.size = A.slots.size ∧ ∀ i, A'.slots[i]? = if lo ≤ i ∧ i < hi then some (f i) else A.slots[i]?
theorem Laid.zero (A : Cell) (lo : Nat) (f : Nat → Value) : Laid A A lo (lo + 0) f := ⟨rfl, rfl, rfl, fun i => by rw [if_neg (by omega)]⟩
theorem Laid.step {A Ak : Cell} {lo k : Nat} {f : Nat → Value} {v : Value} (h : Laid A Ak lo k f) (hlo : lo ≤ k) (hk : k < Ak.slots.size) (hv : v = f k) : Laid A (Ak.setSlot k v) lo (k + 1) f := by
  refine ⟨h.1, h.2.1, by simpa [Cell.setSlot] using h.2.2.1, fun i => ?_⟩
  by_cases e : k = i
  · subst e; rw [Cell.slots_setSlot_self v hk, if_pos (by omega), hv]
  · rw [Cell.slots_setSlot_ne v e, h.2.2.2 i]
    by_cases q : lo ≤ i ∧ i < k
    · rw [if_pos q, if_pos (by omega)]
    · rw [if_neg q, if_neg (by omega)]
def U16 : String := "java/lang/StringUTF16"
namespace Cmp5
def yN : MethodName := ⟨"java/lang/StringUTF16", "compress", "([CI[BII)I"⟩
abbrev yB : ByteArray := jdk_52_method_21_code
theorem d0 : decode yB 0 = .ok (.iconst 0, 1) := by decide +kernel
theorem d1 : decode yB 1 = .ok (.istore 5, 2) := by decide +kernel
theorem d3 : decode yB 3 = .ok (.iload 5, 2) := by decide +kernel
theorem d5 : decode yB 5 = .ok (.iload 4, 2) := by decide +kernel
theorem d7 : decode yB 7 = .ok (.if_icmp (.ge) 37, 3) := by decide +kernel
theorem d10 : decode yB 10 = .ok (.aload_n 0, 1) := by decide +kernel
theorem d11 : decode yB 11 = .ok (.iload_n 1, 1) := by decide +kernel
theorem d12 : decode yB 12 = .ok (.caload, 1) := by decide +kernel
theorem d13 : decode yB 13 = .ok (.istore 6, 2) := by decide +kernel
theorem d15 : decode yB 15 = .ok (.iload 6, 2) := by decide +kernel
theorem d17 : decode yB 17 = .ok (.sipush 255, 3) := by decide +kernel
theorem d20 : decode yB 20 = .ok (.if_icmp (.le) 6, 3) := by decide +kernel
theorem d26 : decode yB 26 = .ok (.aload_n 2, 1) := by decide +kernel
theorem d27 : decode yB 27 = .ok (.iload_n 3, 1) := by decide +kernel
theorem d28 : decode yB 28 = .ok (.iload 6, 2) := by decide +kernel
theorem d30 : decode yB 30 = .ok (.i2b, 1) := by decide +kernel
theorem d31 : decode yB 31 = .ok (.bastore, 1) := by decide +kernel
theorem d32 : decode yB 32 = .ok (.iinc 1 1, 3) := by decide +kernel
theorem d35 : decode yB 35 = .ok (.iinc 3 1, 3) := by decide +kernel
theorem d38 : decode yB 38 = .ok (.iinc 5 1, 3) := by decide +kernel
theorem d41 : decode yB 41 = .ok (.goto (-38), 3) := by decide +kernel
theorem d44 : decode yB 44 = .ok (.iload 4, 2) := by decide +kernel
theorem d46 : decode yB 46 = .ok (.ireturn, 1) := by decide +kernel
def site : List Cond := []
def tab : Cond := tabOf yN yB 7 (some .int) site
def P (b : Addr) (A : Cell) (d : Addr) (B : Cell) (o q len : Nat) (args : Array Value) (s : State) : Prop := args = #[.ref b, .int (Int32.ofNat o), .ref d, .int (Int32.ofNat q), .int (Int32.ofNat len)] ∧ Ch b A s ∧ Arr .byte d B s ∧ b ≠ d ∧ o + len ≤ A.slots.size ∧ q + len ≤ B.slots.size ∧ ∀ i, i < len → ¬ 255 < cv A (o + i)
def E (b : Addr) (A : Cell) (d : Addr) (B : Cell) (o q len : Nat) (r : Option Value) (s u : State) : Prop := r = some (.int (Int32.ofNat len)) ∧ ∃ B', Put d B' s u ∧ Laid B B' q (q + len) (fun j => Value.int (lo8 (cv A (o + (j - q)))))
/-- no char of the range above 255: len; the places written hold each char's low byte -/
theorem law (l : Launch) (b : Addr) (A : Cell) (d : Addr) (B : Cell) (o q len : Nat) : Law l yN 5 5 0 0 yB 7 (some .int) site (P b A d B o q len) (E b A d B o q len) (copyLocs d q len) 0 0 := by
  refine Law.of_walk (plainFor_of_name (by decide +kernel)) (by decide +kernel) (by decide +kernel) (by decide) (fun _ _ h => by rw [h.1]; rfl) (fun _ U U' hal hh h => ⟨h.1, h.2.1.mv hal hh, h.2.2.1.mv hal hh, h.2.2.2⟩) (fun r U U' V V' h1 hal h2 h => ⟨h.1, h.2.elim fun B' q => ⟨B', q.1.mv h1 h2, q.2⟩⟩) ?_
  intro p e s m args below meth c s₁ X0 hexec hbytes hml hret hlk hnm hown hh0 W hP
  obtain ⟨rfl, hA, hB, hne, l1, l2, hp⟩ := hP
  have c1 : Steps p.tables e below (s₁.setTop (entryFrame m #[.ref b, .int (Int32.ofNat o), .ref d, .int (Int32.ofNat q), .int (Int32.ofNat len)] 7)) (s₁.setTop (mkF m 0 #[.val (.ref b), .val (.int (Int32.ofNat o)), .val (.ref d), .val (.int (Int32.ofNat q)), .val (.int (Int32.ofNat len)), .unset, .unset] [])) := entry rfl
  have hA0 := hA.1.mv X0.warmed.alike hh0
  have hB0 := hB.mv X0.warmed.alike hh0
  have a31 := hA.1.2.2.2
  have c2 : Steps p.tables e below (s₁.setTop (entryFrame m #[.ref b, .int (Int32.ofNat o), .ref d, .int (Int32.ofNat q), .int (Int32.ofNat len)] 7)) (s₁.setTop (mkF m 3 #[.val (.ref b), .val (.int (Int32.ofNat o)), .val (.ref d), .val (.int (Int32.ofNat q)), .val (.int (Int32.ofNat len)), .val (.int 0), .unset] [])) := c1.trans (by
    refine iconstV X0.here hexec rfl 0 (hb hbytes d0) (by decide) ?_
    refine XS.istore X0.here hexec rfl (hb hbytes d1) rfl rfl ?_
    exact Steps.refl _)
  have loop : ∀ (r i : Nat), i + r = len → ∀ (z : Slot), (z = .unset ∨ ∃ w, z = .val w ∧ w.category = 1) → ∀ (Tl : State) (Bk : Cell), Stand p l e { frames := 0, locals := 0, cells := 0, slots := 0 } s m #[.ref b, .int (Int32.ofNat o), .ref d, .int (Int32.ofNat q), .int (Int32.ofNat len)] below meth c Tl ([] ++ copyLocs d q i) 0 0 → Put d Bk s₁ Tl → Laid B Bk q (q + i) (fun j => Value.int (lo8 (cv A (o + (j - q))))) →
      Steps p.tables e below (s₁.setTop (entryFrame m #[.ref b, .int (Int32.ofNat o), .ref d, .int (Int32.ofNat q), .int (Int32.ofNat len)] 7)) (Tl.setTop (mkF m 3 #[.val (.ref b), .val (.int (Int32.ofNat (o + i))), .val (.ref d), .val (.int (Int32.ofNat (q + i))), .val (.int (Int32.ofNat len)), .val (.int (Int32.ofNat i)), z] [])) → ∃ (T' : State) (B' : Cell) (z' : Slot), Stand p l e { frames := 0, locals := 0, cells := 0, slots := 0 } s m #[.ref b, .int (Int32.ofNat o), .ref d, .int (Int32.ofNat q), .int (Int32.ofNat len)] below meth c T' ([] ++ copyLocs d q len) 0 0 ∧ Put d B' s₁ T' ∧ Laid B B' q (q + len) (fun j => Value.int (lo8 (cv A (o + (j - q))))) ∧
      Steps p.tables e below (s₁.setTop (entryFrame m #[.ref b, .int (Int32.ofNat o), .ref d, .int (Int32.ofNat q), .int (Int32.ofNat len)] 7)) (T'.setTop (mkF m 3 #[.val (.ref b), .val (.int (Int32.ofNat (o + len))), .val (.ref d), .val (.int (Int32.ofNat (q + len))), .val (.int (Int32.ofNat len)), .val (.int (Int32.ofNat len)), z'] [])) := by
    intro r
    induction r with
    | zero =>
      intro i hi z hz Tl Bk Xl pl fl cl
      have hil : i = len := by omega
      rw [hil] at Xl fl cl
      exact ⟨Tl, Bk, z, Xl, pl, fl, cl⟩
    | succ r ih =>
      intro i hi z hz Tl Bk Xl pl fl cl
      have all := X0.warmed.alike.symm.trans Xl.warmed.alike
      have hAl := hA0.keep all (pl.other hne hA0.1)
      have hBk := hB0.like all pl.1 fl.1 fl.2.1 fl.2.2.1
      have hlt : q + i < Bk.slots.size := by rw [fl.2.2.1]; omega
      have c3 : Steps p.tables e below (s₁.setTop (entryFrame m #[.ref b, .int (Int32.ofNat o), .ref d, .int (Int32.ofNat q), .int (Int32.ofNat len)] 7)) (Tl.setTop (mkF m 12 #[.val (.ref b), .val (.int (Int32.ofNat (o + i))), .val (.ref d), .val (.int (Int32.ofNat (q + i))), .val (.int (Int32.ofNat len)), .val (.int (Int32.ofNat i)), z] [.int (Int32.ofNat (o + i)), .ref b])) := cl.trans (by
        refine XS.iload Xl.here hexec rfl (hb hbytes d3) rfl ?_
        refine XS.iload Xl.here hexec rfl (hb hbytes d5) rfl ?_
        refine XS.icmpNo Xl.here hexec rfl (hb hbytes d7) rfl (ii_ge_f (lt32 (by omega) (by omega))) ?_
        refine XS.aloadN Xl.here hexec rfl (hb hbytes d10) rfl rfl ?_
        refine XS.iloadN Xl.here hexec rfl (hb hbytes d11) rfl ?_
        exact Steps.refl _)
      have c4 : Steps p.tables e below (s₁.setTop (entryFrame m #[.ref b, .int (Int32.ofNat o), .ref d, .int (Int32.ofNat q), .int (Int32.ofNat len)] 7)) (Tl.setTop (mkF m 13 #[.val (.ref b), .val (.int (Int32.ofNat (o + i))), .val (.ref d), .val (.int (Int32.ofNat (q + i))), .val (.int (Int32.ofNat len)), .val (.int (Int32.ofNat i)), z] [.int (cv A (o + i))])) := c3.trans (by
        refine Xl.aget hexec hAl rfl (hA.get (i := o + i) (by omega)) rfl rfl (hb hbytes d12) ?_
        exact Steps.refl _)
      have c5 : Steps p.tables e below (s₁.setTop (entryFrame m #[.ref b, .int (Int32.ofNat o), .ref d, .int (Int32.ofNat q), .int (Int32.ofNat len)] 7)) (Tl.setTop (mkF m 15 #[.val (.ref b), .val (.int (Int32.ofNat (o + i))), .val (.ref d), .val (.int (Int32.ofNat (q + i))), .val (.int (Int32.ofNat len)), .val (.int (Int32.ofNat i)), .val (.int (cv A (o + i)))] [])) := c4.trans (by
        refine XS.istoreS Xl.here hexec rfl (hb hbytes d13) rfl rfl hz ?_
        exact Steps.refl _)
      have c6 : Steps p.tables e below (s₁.setTop (entryFrame m #[.ref b, .int (Int32.ofNat o), .ref d, .int (Int32.ofNat q), .int (Int32.ofNat len)] 7)) (Tl.setTop (mkF m 31 #[.val (.ref b), .val (.int (Int32.ofNat (o + i))), .val (.ref d), .val (.int (Int32.ofNat (q + i))), .val (.int (Int32.ofNat len)), .val (.int (Int32.ofNat i)), .val (.int (cv A (o + i)))] [.int (lo8 (cv A (o + i))), .int (Int32.ofNat (q + i)), .ref d])) := c5.trans (by
        refine XS.iload Xl.here hexec rfl (hb hbytes d15) rfl ?_
        refine sipushV Xl.here hexec rfl 255 (hb hbytes d17) (by decide) ?_
        refine XS.icmpYes Xl.here hexec rfl (pc0 := 20) rfl (hb hbytes d20) rfl (ii_le_t (hp i (by omega))) (by decide) rfl ?_
        refine XS.aloadN Xl.here hexec rfl (hb hbytes d26) rfl rfl ?_
        refine XS.iloadN Xl.here hexec rfl (hb hbytes d27) rfl ?_
        refine XS.iload Xl.here hexec rfl (hb hbytes d28) rfl ?_
        refine i2b Xl.here hexec rfl (hb hbytes d30) rfl ?_
        exact Steps.refl _)
      obtain ⟨T7, X7, p7, st7⟩ := Xl.aput hexec hBk rfl hlt rfl (fits_lo8 (cv A (o + i))) (g := (mkF m 31 #[.val (.ref b), .val (.int (Int32.ofNat (o + i))), .val (.ref d), .val (.int (Int32.ofNat (q + i))), .val (.int (Int32.ofNat len)), .val (.int (Int32.ofNat i)), .val (.int (cv A (o + i)))] [.int (lo8 (cv A (o + i))), .int (Int32.ofNat (q + i)), .ref d])) rfl (rest := []) rfl (hb hbytes d31)
      have c8 : Steps p.tables e below (s₁.setTop (entryFrame m #[.ref b, .int (Int32.ofNat o), .ref d, .int (Int32.ofNat q), .int (Int32.ofNat len)] 7)) (T7.setTop (mkF m 32 #[.val (.ref b), .val (.int (Int32.ofNat (o + i))), .val (.ref d), .val (.int (Int32.ofNat (q + i))), .val (.int (Int32.ofNat len)), .val (.int (Int32.ofNat i)), .val (.int (cv A (o + i)))] [])) := c6.trans (st7 _ (Steps.refl _))
      have c9 : Steps p.tables e below (s₁.setTop (entryFrame m #[.ref b, .int (Int32.ofNat o), .ref d, .int (Int32.ofNat q), .int (Int32.ofNat len)] 7)) (T7.setTop (mkF m 3 #[.val (.ref b), .val (.int (Int32.ofNat (o + i) + 1)), .val (.ref d), .val (.int (Int32.ofNat (q + i) + 1)), .val (.int (Int32.ofNat len)), .val (.int (Int32.ofNat i + 1)), .val (.int (cv A (o + i)))] [])) := c8.trans (by
        refine iincV X7.here hexec rfl 1 (hb hbytes d32) (by decide) rfl rfl ?_
        refine iincV X7.here hexec rfl 1 (hb hbytes d35) (by decide) rfl rfl ?_
        refine iincV X7.here hexec rfl 1 (hb hbytes d38) (by decide) rfl rfl ?_
        refine XS.goto X7.here hexec rfl (pc0 := 41) rfl (hb hbytes d41) (by decide) rfl ?_
        exact Steps.refl _)
      have c10 : Steps p.tables e below (s₁.setTop (entryFrame m #[.ref b, .int (Int32.ofNat o), .ref d, .int (Int32.ofNat q), .int (Int32.ofNat len)] 7)) (T7.setTop (mkF m 3 #[.val (.ref b), .val (.int (Int32.ofNat (o + (i + 1)))), .val (.ref d), .val (.int (Int32.ofNat (q + (i + 1)))), .val (.int (Int32.ofNat len)), .val (.int (Int32.ofNat (i + 1))), .val (.int (cv A (o + i)))] [])) := by
        have := c9
        rw [succ32, succ32, succ32] at this
        exact this
      exact ih (i + 1) (by omega) _ (Or.inr ⟨_, rfl, rfl⟩) T7 _ (by rw [copyLocs_step, ← List.append_assoc]; exact X7) (pl.trans p7) (fl.step (by omega) hlt (by simp)) c10
  obtain ⟨T9, B9, z9, X9, p9, f9, g9⟩ := loop len 0 (by omega) .unset (Or.inl rfl) s₁ B (by simpa [copyLocs] using X0) ⟨hB0.1, fun _ _ => rfl, rfl⟩ (Laid.zero _ _ _) c2
  have c11 : Steps p.tables e below (s₁.setTop (entryFrame m #[.ref b, .int (Int32.ofNat o), .ref d, .int (Int32.ofNat q), .int (Int32.ofNat len)] 7)) (T9.setTop (mkF m 46 #[.val (.ref b), .val (.int (Int32.ofNat (o + len))), .val (.ref d), .val (.int (Int32.ofNat (q + len))), .val (.int (Int32.ofNat len)), .val (.int (Int32.ofNat len)), z9] [.int (Int32.ofNat len)])) := g9.trans (by
    refine XS.iload X9.here hexec rfl (hb hbytes d3) rfl ?_
    refine XS.iload X9.here hexec rfl (hb hbytes d5) rfl ?_
    refine XS.icmpYes X9.here hexec rfl (pc0 := 7) rfl (hb hbytes d7) rfl (ii_ge_t (nlt32 (by omega) (Nat.le_refl _))) (by decide) rfl ?_
    refine XS.iload X9.here hexec rfl (hb hbytes d44) rfl ?_
    exact Steps.refl _)
  exact ⟨T9, some (.int (Int32.ofNat len)), _, _, _, X9, by simp, rfl, rfl, (fun h => by cases h), ⟨rfl, B9, p9.from hh0, f9⟩, fun fs hl => c11.trans (X9.ireturnOut hexec hret rfl (Or.inl rfl) (hb hbytes d46) hl)⟩
end Cmp5
namespace Cmp3
def yN : MethodName := ⟨"java/lang/StringUTF16", "compress", "([CII)[B"⟩
abbrev yB : ByteArray := jdk_52_method_16_code
theorem d0 : decode yB 0 = .ok (.iload_n 2, 1) := by decide +kernel
theorem d1 : decode yB 1 = .ok (.newarray .byte, 2) := by decide +kernel
theorem d3 : decode yB 3 = .ok (.astore_n 3, 1) := by decide +kernel
theorem d4 : decode yB 4 = .ok (.aload_n 0, 1) := by decide +kernel
theorem d5 : decode yB 5 = .ok (.iload_n 1, 1) := by decide +kernel
theorem d6 : decode yB 6 = .ok (.aload_n 3, 1) := by decide +kernel
theorem d7 : decode yB 7 = .ok (.iconst 0, 1) := by decide +kernel
theorem d8 : decode yB 8 = .ok (.iload_n 2, 1) := by decide +kernel
theorem d9 : decode yB 9 = .ok (.invokestatic 115, 3) := by decide +kernel
theorem d12 : decode yB 12 = .ok (.istore 4, 2) := by decide +kernel
theorem d14 : decode yB 14 = .ok (.iload 4, 2) := by decide +kernel
theorem d16 : decode yB 16 = .ok (.iload_n 2, 1) := by decide +kernel
theorem d17 : decode yB 17 = .ok (.if_icmp (.eq) 40, 3) := by decide +kernel
theorem d57 : decode yB 57 = .ok (.aload_n 3, 1) := by decide +kernel
theorem d58 : decode yB 58 = .ok (.areturn, 1) := by decide +kernel
def site : List Cond := [.arrayClass .byte, Cmp5.tab] ++ staticW U16 115 Cmp5.yN
def tab : Cond := tabOf yN yB 6 (some (.array .byte)) site
def P (b : Addr) (A : Cell) (o len : Nat) (args : Array Value) (s : State) : Prop := args = #[.ref b, .int (Int32.ofNat o), .int (Int32.ofNat len)] ∧ Ch b A s ∧ o + len ≤ A.slots.size ∧ len ≤ 536870912 ∧ ∀ i, i < len → ¬ 255 < cv A (o + i)
def E (b : Addr) (A : Cell) (o len : Nat) (r : Option Value) (s u : State) : Prop := NewArr .byte "[B" len (fun j => .int (lo8 (cv A (o + j)))) r s u ∧ u.heap.size = s.heap.size + 1
/-- no char of the range above 255: a new byte[] of their low bytes -/
theorem law (l : Launch) (b : Addr) (A : Cell) (o len : Nat) : Law l yN 3 3 1 18 yB 6 (some (.array .byte)) site (P b A o len) (E b A o len) [] 1 len := by
  refine Law.of_walk (plainFor_of_name (by decide +kernel)) (by decide +kernel) (by decide +kernel) (by decide) (fun _ _ h => by rw [h.1]; rfl) (fun _ U U' hal hh h => ⟨h.1, h.2.1.mv hal hh, h.2.2⟩) (fun r U U' V V' h1 hal h2 h => ⟨NewArr.mv r U U' V V' h1 hal h2 h.1, by rw [h1, h2]; exact h.2⟩) ?_
  intro p e s m args below meth c s₁ X0 hexec hbytes hml hret hlk hnm hown hh0 W hP
  obtain ⟨rfl, hA, l1, l2, hp⟩ := hP
  have a31 := hA.1.2.2.2
  have c1 : Steps p.tables e below (s₁.setTop (entryFrame m #[.ref b, .int (Int32.ofNat o), .int (Int32.ofNat len)] 6)) (s₁.setTop (mkF m 0 #[.val (.ref b), .val (.int (Int32.ofNat o)), .val (.int (Int32.ofNat len)), .unset, .unset, .unset] [])) := entry rfl
  have c2 : Steps p.tables e below (s₁.setTop (entryFrame m #[.ref b, .int (Int32.ofNat o), .int (Int32.ofNat len)] 6)) (s₁.setTop (mkF m 1 #[.val (.ref b), .val (.int (Int32.ofNat o)), .val (.int (Int32.ofNat len)), .unset, .unset, .unset] [.int (Int32.ofNat len)])) := c1.trans (by
    refine XS.iloadN X0.here hexec rfl (hb hbytes d0) rfl ?_
    exact Steps.refl _)
  obtain ⟨T3, B3, X3, ba3, bs3, bv3, bh3, bf3, st3⟩ := X0.anew hexec (atype := .byte) (wk W (.arrayClass .byte)) rfl (by show len * 1 ≤ _; omega) (by omega) (g := (mkF m 1 #[.val (.ref b), .val (.int (Int32.ofNat o)), .val (.int (Int32.ofNat len)), .unset, .unset, .unset] [.int (Int32.ofNat len)])) rfl (hb hbytes d1) (rest := []) rfl (Nat.le_refl _) (by show 0 + len ≤ len; omega)
  rw [hh0] at ba3 st3
  have kp3 : XT.Kept s T3 := (XT.Kept.of_eq hh0).push bh3
  have hA3 := hA.keep X3.warmed.alike (kp3 _ _ hA.1.1)
  have hne : b ≠ s.heap.size := hA.1.ne
  have c4 : Steps p.tables e below (s₁.setTop (entryFrame m #[.ref b, .int (Int32.ofNat o), .int (Int32.ofNat len)] 6)) (T3.setTop (mkF m 3 #[.val (.ref b), .val (.int (Int32.ofNat o)), .val (.int (Int32.ofNat len)), .unset, .unset, .unset] [.ref s.heap.size])) := c2.trans (st3 _ (Steps.refl _))
  have c5 : Steps p.tables e below (s₁.setTop (entryFrame m #[.ref b, .int (Int32.ofNat o), .int (Int32.ofNat len)] 6)) (T3.setTop (mkF m 9 #[.val (.ref b), .val (.int (Int32.ofNat o)), .val (.int (Int32.ofNat len)), .val (.ref s.heap.size), .unset, .unset] [.int (Int32.ofNat len), .int 0, .ref s.heap.size, .int (Int32.ofNat o), .ref b])) := c4.trans (by
    refine XS.astoreN X3.here hexec rfl (hb hbytes d3) rfl rfl rfl ?_
    refine XS.aloadN X3.here hexec rfl (hb hbytes d4) rfl rfl ?_
    refine XS.iloadN X3.here hexec rfl (hb hbytes d5) rfl ?_
    refine XS.aloadN X3.here hexec rfl (hb hbytes d6) rfl rfl ?_
    refine iconstV X3.here hexec rfl 0 (hb hbytes d7) (by decide) ?_
    refine XS.iloadN X3.here hexec rfl (hb hbytes d8) rfl ?_
    exact Steps.refl _)
  obtain ⟨v6, T6, X6, E6, g6⟩ := X3.callS hexec (Cmp5.law l b A s.heap.size B3 o 0 len) hown (wks W (staticW U16 115 Cmp5.yN)) (wk W Cmp5.tab) (W := 0) (Nat.le_of_ble_eq_true rfl) (Nat.le_of_ble_eq_true rfl) (Nat.le_refl _) (by show 0 + len + 0 ≤ len; omega) (g := (mkF m 9 #[.val (.ref b), .val (.int (Int32.ofNat o)), .val (.int (Int32.ofNat len)), .val (.ref s.heap.size), .unset, .unset] [.int (Int32.ofNat len), .int (Int32.ofNat 0), .ref s.heap.size, .int (Int32.ofNat o), .ref b])) rfl (by rw [hml]; rfl) c5 (argsL := [.ref b, .int (Int32.ofNat o), .ref s.heap.size, .int (Int32.ofNat 0), .int (Int32.ofNat len)]) (rest := []) rfl rfl (by show 2 * 0 + 0 ≤ _; decide) (hb hbytes d9) (⟨rfl, hA3, ba3, hne, l1, by rw [bs3]; simp, hp⟩)
  obtain ⟨rfl, B6, p6, f6⟩ := E6
  have c7 : Steps p.tables e below (s₁.setTop (entryFrame m #[.ref b, .int (Int32.ofNat o), .int (Int32.ofNat len)] 6)) (T6.setTop (mkF m 12 #[.val (.ref b), .val (.int (Int32.ofNat o)), .val (.int (Int32.ofNat len)), .val (.ref s.heap.size), .unset, .unset] [.int (Int32.ofNat len)])) := g6
  have c8 : Steps p.tables e below (s₁.setTop (entryFrame m #[.ref b, .int (Int32.ofNat o), .int (Int32.ofNat len)] 6)) (T6.setTop (mkF m 58 #[.val (.ref b), .val (.int (Int32.ofNat o)), .val (.int (Int32.ofNat len)), .val (.ref s.heap.size), .val (.int (Int32.ofNat len)), .unset] [.ref s.heap.size])) := c7.trans (by
    refine XS.istore X6.here hexec rfl (hb hbytes d12) rfl rfl ?_
    refine XS.iload X6.here hexec rfl (hb hbytes d14) rfl ?_
    refine XS.iloadN X6.here hexec rfl (hb hbytes d16) rfl ?_
    refine XS.icmpYes X6.here hexec rfl (pc0 := 17) rfl (hb hbytes d17) rfl (ii_eq_t rfl) (by decide) rfl ?_
    refine XS.aloadN X6.here hexec rfl (hb hbytes d57) rfl rfl ?_
    exact Steps.refl _)
  have X8 := X6.wide (L' := []) (cells' := 1) (slots' := len) (fun x hx hlt => by
    simp only [List.nil_append, copyLocs, List.mem_map, List.mem_range] at hx
    obtain ⟨i, -, rfl⟩ := hx
    exact absurd hlt (Nat.lt_irrefl _)) (Nat.le_refl _) (by omega)
  exact ⟨T6, some (.ref s.heap.size), _, _, _, X8, rfl, rfl, rfl, (fun h => by cases h), ⟨⟨rfl, B6, ba3.like (X3.warmed.alike.symm.trans X6.warmed.alike) p6.1 f6.1 f6.2.1 f6.2.2.1, f6.2.1.trans bv3, by rw [X6.warmed.alike.findClass, f6.1]; exact bf3, by rw [f6.2.2.1, bs3]; simp, fun j hj => by rw [f6.2.2.2 j, if_pos (by omega)]; rfl, kp3.put p6 (Nat.le_refl _)⟩, by rw [p6.2.2, bh3, hh0]; simp⟩, fun fs hl => c8.trans (X8.areturnOut hexec rfl hret rfl (hb hbytes d58) hl)⟩
end Cmp3
namespace CodL
def yN : MethodName := ⟨"java/lang/StringUTF16", "coderFromArrayLen", "([BI)B"⟩
abbrev yB : ByteArray := jdk_52_method_15_code
theorem d0 : decode yB 0 = .ok (.iload_n 1, 1) := by decide +kernel
theorem d1 : decode yB 1 = .ok (.aload_n 0, 1) := by decide +kernel
theorem d2 : decode yB 2 = .ok (.arraylength, 1) := by decide +kernel
theorem d3 : decode yB 3 = .ok (.isub, 1) := by decide +kernel
theorem d4 : decode yB 4 = .ok (.bipush 31, 2) := by decide +kernel
theorem d6 : decode yB 6 = .ok (.iushr, 1) := by decide +kernel
theorem d7 : decode yB 7 = .ok (.i2b, 1) := by decide +kernel
theorem d8 : decode yB 8 = .ok (.ireturn, 1) := by decide +kernel
def site : List Cond := []
def tab : Cond := tabOf yN yB 2 (some .byte) site
def P (d : Addr) (B : Cell) (args : Array Value) (s : State) : Prop := args = #[.ref d, .int (Int32.ofNat B.slots.size)] ∧ Arr .byte d B s
def E (r : Option Value) (s u : State) : Prop := XT.PureE (some (.int 0)) r s u
/-- an array as long as the number of chars: LATIN1 -/
theorem law (l : Launch) (d : Addr) (B : Cell) : Law l yN 2 2 0 0 yB 2 (some .byte) site (P d B) E [] 0 0 := by
  refine Law.of_walk (plainFor_of_name (by decide +kernel)) (by decide +kernel) (by decide +kernel) (by decide) (fun _ _ h => by rw [h.1]; rfl) (fun _ U U' hal hh h => ⟨h.1, h.2.mv hal hh⟩) (fun r U U' V V' h1 hal h2 h => XT.PureE.mv r U U' V V' h1 hal h2 h) ?_
  intro p e s m args below meth c s₁ X0 hexec hbytes hml hret hlk hnm hown hh0 W hP
  obtain ⟨rfl, hB⟩ := hP
  have hB0 := hB.mv X0.warmed.alike hh0
  have c1 : Steps p.tables e below (s₁.setTop (entryFrame m #[.ref d, .int (Int32.ofNat B.slots.size)] 2)) (s₁.setTop (mkF m 0 #[.val (.ref d), .val (.int (Int32.ofNat B.slots.size))] [])) := entry rfl
  have c2 : Steps p.tables e below (s₁.setTop (entryFrame m #[.ref d, .int (Int32.ofNat B.slots.size)] 2)) (s₁.setTop (mkF m 2 #[.val (.ref d), .val (.int (Int32.ofNat B.slots.size))] [.ref d, .int (Int32.ofNat B.slots.size)])) := c1.trans (by
    refine XS.iloadN X0.here hexec rfl (hb hbytes d0) rfl ?_
    refine XS.aloadN X0.here hexec rfl (hb hbytes d1) rfl rfl ?_
    exact Steps.refl _)
  have c3 : Steps p.tables e below (s₁.setTop (entryFrame m #[.ref d, .int (Int32.ofNat B.slots.size)] 2)) (s₁.setTop (mkF m 8 #[.val (.ref d), .val (.int (Int32.ofNat B.slots.size))] [.int (lo8 (ushr (Int32.ofNat B.slots.size - Int32.ofNat B.slots.size) 31))])) := c2.trans (by
    refine X0.alen hexec hB0 rfl rfl (hb hbytes d2) ?_
    refine XS.isub X0.here hexec rfl (hb hbytes d3) rfl ?_
    refine bipushV X0.here hexec rfl 31 (hb hbytes d4) (by decide) ?_
    refine iushr X0.here hexec rfl (hb hbytes d6) rfl ?_
    refine i2b X0.here hexec rfl (hb hbytes d7) rfl ?_
    exact Steps.refl _)
  have e0 : lo8 (ushr (Int32.ofNat B.slots.size - Int32.ofNat B.slots.size) 31) = 0 := by rw [Int32.sub_self]; decide
  rw [e0] at c3
  exact ⟨s₁, some (.int 0), _, _, _, X0, rfl, rfl, rfl, (fun h => by cases h), ⟨rfl, hh0⟩, fun fs hl => c3.trans (X0.ireturnOut hexec hret rfl (Or.inr (Or.inr (Or.inl rfl))) (hb hbytes d8) hl)⟩
end CodL
/-- the String at a is Latin-1 over a new byte[] (the heap's one new cell): the low bytes of the len chars of A from o on; every cell but a is kept -/
def Got (a : Addr) (D : Cell) (fV fC : Field) (A : Cell) (o len : Nat) (r : Option Value) (s u : State) : Prop := r = none ∧ ∃ D' V : Cell, Blank "java/lang/String" a D' u ∧ Same D D' [fV.slot, fC.slot] ∧ D'.slots[fV.slot]? = some (.ref s.heap.size) ∧ D'.slots[fC.slot]? = some (.int 0) ∧ Arr .byte s.heap.size V u ∧ V.vm = .none ∧ u.vm.findClass "[B" = some V.cls ∧ V.slots.size = len ∧ (∀ j, j < len → V.slots[j]? = some (.int (lo8 (cv A (o + j))))) ∧ (∀ (y : Addr) (c : Cell), y ≠ a → s.heap[y]? = some c → u.heap[y]? = some c) ∧ u.heap.size = s.heap.size + 1
theorem Got.mv {a : Addr} {D A : Cell} {fV fC : Field} {o len : Nat} : ∀ r (U U' V V' : State), U'.heap = U.heap → V.vm.Alike V'.vm → V'.heap = V.heap → Got a D fV fC A o len r U V → Got a D fV fC A o len r U' V' :=
  fun r U U' V V' h1 hal h2 ⟨e0, D', X, a1, a2, a3, a4, a5, a6, a7, a8, a9, a10, a11⟩ => ⟨e0, D', X, a1.mv hal h2, a2, by rw [h1]; exact a3, a4, by rw [h1]; exact a5.mv hal h2, a6, by rw [hal.findClass]; exact a7, a8, a9, by rw [h1, h2]; exact a10, by rw [h1, h2]; exact a11⟩
namespace New4
def yN : MethodName := ⟨"java/lang/String", "<init>", "([CIILjava/lang/Void;)V"⟩
abbrev yB : ByteArray := jdk_42_method_149_code
theorem d0 : decode yB 0 = .ok (.aload_n 0, 1) := by decide +kernel
theorem d1 : decode yB 1 = .ok (.invokespecial 1, 3) := by decide +kernel
theorem d4 : decode yB 4 = .ok (.iload_n 3, 1) := by decide +kernel
theorem d5 : decode yB 5 = .ok (.ifCond (.ne) 22, 3) := by decide +kernel
theorem d27 : decode yB 27 = .ok (.getstatic 38, 3) := by decide +kernel
theorem d30 : decode yB 30 = .ok (.ifCond (.eq) 28, 3) := by decide +kernel
theorem d33 : decode yB 33 = .ok (.aload_n 1, 1) := by decide +kernel
theorem d34 : decode yB 34 = .ok (.iload_n 2, 1) := by decide +kernel
theorem d35 : decode yB 35 = .ok (.iload_n 3, 1) := by decide +kernel
theorem d36 : decode yB 36 = .ok (.invokestatic 177, 3) := by decide +kernel
theorem d39 : decode yB 39 = .ok (.astore 5, 2) := by decide +kernel
theorem d41 : decode yB 41 = .ok (.aload_n 0, 1) := by decide +kernel
theorem d42 : decode yB 42 = .ok (.aload 5, 2) := by decide +kernel
theorem d44 : decode yB 44 = .ok (.iload_n 3, 1) := by decide +kernel
theorem d45 : decode yB 45 = .ok (.invokestatic 47, 3) := by decide +kernel
theorem d48 : decode yB 48 = .ok (.putfield 15, 3) := by decide +kernel
theorem d51 : decode yB 51 = .ok (.aload_n 0, 1) := by decide +kernel
theorem d52 : decode yB 52 = .ok (.aload 5, 2) := by decide +kernel
theorem d54 : decode yB 54 = .ok (.putfield 9, 3) := by decide +kernel
theorem d57 : decode yB 57 = .ok (.return_, 1) := by decide +kernel
def site : List Cond := [.fieldLink "java/lang/String" 38 "java/lang/String" "COMPACT_STRINGS" "Z", Cmp3.tab, CodL.tab, .laysFinal "java/lang/String" "java/lang/String" "value" "[B", .fieldLink "java/lang/String" 9 "java/lang/String" "value" "[B", .laysFinal "java/lang/String" "java/lang/String" "coder" "B", .fieldLink "java/lang/String" 15 "java/lang/String" "coder" "B"] ++ objW "java/lang/String" 1 ++ staticW "java/lang/String" 177 Cmp3.yN ++ staticW "java/lang/String" 47 CodL.yN
def tab : Cond := tabOf yN yB 6 none site
def P (a : Addr) (D : Cell) (fV fC : Field) (b : Addr) (A : Cell) (z : Int32) (o len : Nat) (args : Array Value) (s : State) : Prop := args = #[.ref a, .ref b, .int (Int32.ofNat o), .int (Int32.ofNat len), .null] ∧ Blank "java/lang/String" a D s ∧ Found "java/lang/String" "value" "[B" fV s ∧ Found "java/lang/String" "coder" "B" fC s ∧ Ch b A s ∧ StaticIs s "java/lang/String" "COMPACT_STRINGS" "Z" (.int z) ∧ ¬ z = 0 ∧ 0 < len ∧ o + len ≤ A.slots.size ∧ len ≤ 536870912 ∧ ∀ i, i < len → ¬ 255 < cv A (o + i)
def E (a : Addr) (D : Cell) (fV fC : Field) (A : Cell) (o len : Nat) (r : Option Value) (s u : State) : Prop := Got a D fV fC A o len r s u
/-- len > 0, no char of the range above 255: a Latin-1 String of their low bytes -/
theorem law (l : Launch) (a : Addr) (D : Cell) (fV fC : Field) (b : Addr) (A : Cell) (z : Int32) (o len : Nat) : Law l yN 5 4 2 35 yB 6 none site (P a D fV fC b A z o len) (E a D fV fC A o len) [⟨a, fC.slot⟩, ⟨a, fV.slot⟩] 1 len := by
  refine Law.of_walk (plainFor_of_name (by decide +kernel)) (by decide +kernel) (by decide +kernel) (by decide) (fun _ _ h => by rw [h.1]; rfl) (fun _ U U' hal hh h => ⟨h.1, h.2.1.mv hal hh, h.2.2.1.al hal, h.2.2.2.1.al hal, h.2.2.2.2.1.mv hal hh, h.2.2.2.2.2.1.there hal hh, h.2.2.2.2.2.2⟩) (fun r U U' V V' h1 hal h2 h => Got.mv r U U' V V' h1 hal h2 h) ?_
  intro p e s m args below meth c s₁ X0 hexec hbytes hml hret hlk hnm hown hh0 W hP
  obtain ⟨rfl, hB, f1, f2, hA, s1, hz, l0, l1, l2, hp⟩ := hP
  have a31 := hA.1.2.2.2
  have c1 : Steps p.tables e below (s₁.setTop (entryFrame m #[.ref a, .ref b, .int (Int32.ofNat o), .int (Int32.ofNat len), .null] 6)) (s₁.setTop (mkF m 0 #[.val (.ref a), .val (.ref b), .val (.int (Int32.ofNat o)), .val (.int (Int32.ofNat len)), .val .null, .unset] [])) := entry rfl
  have c2 : Steps p.tables e below (s₁.setTop (entryFrame m #[.ref a, .ref b, .int (Int32.ofNat o), .int (Int32.ofNat len), .null] 6)) (s₁.setTop (mkF m 1 #[.val (.ref a), .val (.ref b), .val (.int (Int32.ofNat o)), .val (.int (Int32.ofNat len)), .val .null, .unset] [.ref a])) := c1.trans (by
    refine XS.aloadN X0.here hexec rfl (hb hbytes d0) rfl rfl ?_
    exact Steps.refl _)
  obtain ⟨T3, X3, q3, st3⟩ := X0.oinit hexec hown (wks W (objW "java/lang/String" 1)) (g := (mkF m 1 #[.val (.ref a), .val (.ref b), .val (.int (Int32.ofNat o)), .val (.int (Int32.ofNat len)), .val .null, .unset] [.ref a])) rfl (by rw [hml]; rfl) (rest := []) rfl (hb hbytes d1) (W := 0) (by show 2 * 0 + 0 ≤ _; decide) (Nat.le_of_ble_eq_true rfl) (Nat.le_of_ble_eq_true rfl)
  have hh3 := q3.trans hh0
  have c4 : Steps p.tables e below (s₁.setTop (entryFrame m #[.ref a, .ref b, .int (Int32.ofNat o), .int (Int32.ofNat len), .null] 6)) (T3.setTop (mkF m 27 #[.val (.ref a), .val (.ref b), .val (.int (Int32.ofNat o)), .val (.int (Int32.ofNat len)), .val .null, .unset] [])) := (c2.trans (st3 _ (Steps.refl _))).trans (by
    refine XS.iloadN X3.here hexec rfl (hb hbytes d4) rfl ?_
    refine XS.ifYes X3.here hexec rfl (pc0 := 5) rfl (hb hbytes d5) rfl (i0_ne_t (nz32 (by omega) l0)) (by decide) rfl ?_
    exact Steps.refl _)
  obtain ⟨T5, X5, q5, st5⟩ := X3.sget hexec hown (wk W (.fieldLink "java/lang/String" 38 "java/lang/String" "COMPACT_STRINGS" "Z")) s1 (fun _ _ h => by rw [hh3]; exact h) (g := (mkF m 27 #[.val (.ref a), .val (.ref b), .val (.int (Int32.ofNat o)), .val (.int (Int32.ofNat len)), .val .null, .unset] [])) rfl (hb hbytes d27)
  have hh5 := q5.trans hh3
  have c6 : Steps p.tables e below (s₁.setTop (entryFrame m #[.ref a, .ref b, .int (Int32.ofNat o), .int (Int32.ofNat len), .null] 6)) (T5.setTop (mkF m 30 #[.val (.ref a), .val (.ref b), .val (.int (Int32.ofNat o)), .val (.int (Int32.ofNat len)), .val .null, .unset] [.int z])) := c4.trans (st5 _ (Steps.refl _))
  have c7 : Steps p.tables e below (s₁.setTop (entryFrame m #[.ref a, .ref b, .int (Int32.ofNat o), .int (Int32.ofNat len), .null] 6)) (T5.setTop (mkF m 36 #[.val (.ref a), .val (.ref b), .val (.int (Int32.ofNat o)), .val (.int (Int32.ofNat len)), .val .null, .unset] [.int (Int32.ofNat len), .int (Int32.ofNat o), .ref b])) := c6.trans (by
    refine XS.ifNo X5.here hexec rfl (hb hbytes d30) rfl (i0_eq_f hz) ?_
    refine XS.aloadN X5.here hexec rfl (hb hbytes d33) rfl rfl ?_
    refine XS.iloadN X5.here hexec rfl (hb hbytes d34) rfl ?_
    refine XS.iloadN X5.here hexec rfl (hb hbytes d35) rfl ?_
    exact Steps.refl _)
  obtain ⟨v8, T8, X8, E8, g8⟩ := X5.callS hexec (Cmp3.law l b A o len) hown (wks W (staticW "java/lang/String" 177 Cmp3.yN)) (wk W Cmp3.tab) (W := 0) (Nat.le_of_ble_eq_true rfl) (Nat.le_of_ble_eq_true rfl) (Nat.le_refl _) (by show 0 + len ≤ len; omega) (g := (mkF m 36 #[.val (.ref a), .val (.ref b), .val (.int (Int32.ofNat o)), .val (.int (Int32.ofNat len)), .val .null, .unset] [.int (Int32.ofNat len), .int (Int32.ofNat o), .ref b])) rfl (by rw [hml]; rfl) c7 (argsL := [.ref b, .int (Int32.ofNat o), .int (Int32.ofNat len)]) (rest := []) rfl rfl (by show 2 * 0 + 0 ≤ _; decide) (hb hbytes d36) (⟨rfl, hA.mv X5.warmed.alike hh5, l1, l2, hp⟩)
  obtain ⟨e8, z8⟩ := E8
  obtain ⟨rfl, N, n1, n2, n3, n4, n5, n6⟩ := NewArr.mv _ T5 s _ _ hh5.symm (Vm.Alike.refl _) rfl e8
  rw [hh5] at z8
  have hB1 := hB.keep X8.warmed.alike (n6 _ _ hB.1)
  have hne : s.heap.size ≠ a := (Nat.ne_of_lt (Array.getElem?_eq_some_iff.mp hB.1).1).symm
  have c9 : Steps p.tables e below (s₁.setTop (entryFrame m #[.ref a, .ref b, .int (Int32.ofNat o), .int (Int32.ofNat len), .null] 6)) (T8.setTop (mkF m 39 #[.val (.ref a), .val (.ref b), .val (.int (Int32.ofNat o)), .val (.int (Int32.ofNat len)), .val .null, .unset] [.ref s.heap.size])) := g8
  have c10 : Steps p.tables e below (s₁.setTop (entryFrame m #[.ref a, .ref b, .int (Int32.ofNat o), .int (Int32.ofNat len), .null] 6)) (T8.setTop (mkF m 45 #[.val (.ref a), .val (.ref b), .val (.int (Int32.ofNat o)), .val (.int (Int32.ofNat len)), .val .null, .val (.ref s.heap.size)] [.int (Int32.ofNat N.slots.size), .ref s.heap.size, .ref a])) := by
    have hc : Steps p.tables e below (s₁.setTop (entryFrame m #[.ref a, .ref b, .int (Int32.ofNat o), .int (Int32.ofNat len), .null] 6)) (T8.setTop (mkF m 45 #[.val (.ref a), .val (.ref b), .val (.int (Int32.ofNat o)), .val (.int (Int32.ofNat len)), .val .null, .val (.ref s.heap.size)] [.int (Int32.ofNat len), .ref s.heap.size, .ref a])) := c9.trans (by
      refine XS.astore X8.here hexec rfl (hb hbytes d39) rfl rfl rfl ?_
      refine XS.aloadN X8.here hexec rfl (hb hbytes d41) rfl rfl ?_
      refine XS.aload X8.here hexec rfl (hb hbytes d42) rfl rfl ?_
      refine XS.iloadN X8.here hexec rfl (hb hbytes d44) rfl ?_
      exact Steps.refl _)
    rw [n4]; exact hc
  obtain ⟨v11, T11, X11, E11, g11⟩ := X8.callS hexec (CodL.law l s.heap.size N) hown (wks W (staticW "java/lang/String" 47 CodL.yN)) (wk W CodL.tab) (W := 1) (Nat.le_of_ble_eq_true rfl) (Nat.le_of_ble_eq_true rfl) (Nat.le_refl _) (by show 0 + len + 0 ≤ len; omega) (g := (mkF m 45 #[.val (.ref a), .val (.ref b), .val (.int (Int32.ofNat o)), .val (.int (Int32.ofNat len)), .val .null, .val (.ref s.heap.size)] [.int (Int32.ofNat N.slots.size), .ref s.heap.size, .ref a])) rfl (by rw [hml]; rfl) c10 (argsL := [.ref s.heap.size, .int (Int32.ofNat N.slots.size)]) (rest := [.ref a]) rfl rfl (by show 2 * 0 + (1 + 0) ≤ _; decide) (hb hbytes d45) (⟨rfl, n1⟩)
  obtain ⟨rfl, q11⟩ := E11
  have hB11 := hB1.mv (X8.warmed.alike.symm.trans X11.warmed.alike) q11
  have c12 : Steps p.tables e below (s₁.setTop (entryFrame m #[.ref a, .ref b, .int (Int32.ofNat o), .int (Int32.ofNat len), .null] 6)) (T11.setTop (mkF m 48 #[.val (.ref a), .val (.ref b), .val (.int (Int32.ofNat o)), .val (.int (Int32.ofNat len)), .val .null, .val (.ref s.heap.size)] [.int 0, .ref a])) := g11
  obtain ⟨T13, X13, p13, bl13, sl13, st13⟩ := X11.finit hexec hown (wk W (.fieldLink "java/lang/String" 15 "java/lang/String" "coder" "B")) (Or.inr ⟨_, (wk W (.laysFinal "java/lang/String" "java/lang/String" "coder" "B"))⟩) (Or.inl ⟨rfl, hnm⟩) f2 (Or.inl rfl) hB11 (t := .byte) (by decide +kernel) rfl (g := (mkF m 48 #[.val (.ref a), .val (.ref b), .val (.int (Int32.ofNat o)), .val (.int (Int32.ofNat len)), .val .null, .val (.ref s.heap.size)] [.int 0, .ref a])) rfl (rest := []) rfl (hb hbytes d48)
  have c14 : Steps p.tables e below (s₁.setTop (entryFrame m #[.ref a, .ref b, .int (Int32.ofNat o), .int (Int32.ofNat len), .null] 6)) (T13.setTop (mkF m 54 #[.val (.ref a), .val (.ref b), .val (.int (Int32.ofNat o)), .val (.int (Int32.ofNat len)), .val .null, .val (.ref s.heap.size)] [.ref s.heap.size, .ref a])) := (c12.trans (st13 _ (Steps.refl _))).trans (by
    refine XS.aloadN X13.here hexec rfl (hb hbytes d51) rfl rfl ?_
    refine XS.aload X13.here hexec rfl (hb hbytes d52) rfl rfl ?_
    exact Steps.refl _)
  obtain ⟨T15, X15, p15, bl15, sl15, st15⟩ := X13.finit hexec hown (wk W (.fieldLink "java/lang/String" 9 "java/lang/String" "value" "[B")) (Or.inr ⟨_, (wk W (.laysFinal "java/lang/String" "java/lang/String" "value" "[B"))⟩) (Or.inl ⟨rfl, hnm⟩) f1 (Or.inl rfl) bl13 (t := (.array .byte)) (by decide +kernel) rfl (g := (mkF m 54 #[.val (.ref a), .val (.ref b), .val (.int (Int32.ofNat o)), .val (.int (Int32.ofNat len)), .val .null, .val (.ref s.heap.size)] [.ref s.heap.size, .ref a])) rfl (rest := []) rfl (hb hbytes d54)
  have c16 : Steps p.tables e below (s₁.setTop (entryFrame m #[.ref a, .ref b, .int (Int32.ofNat o), .int (Int32.ofNat len), .null] 6)) (T15.setTop (mkF m 57 #[.val (.ref a), .val (.ref b), .val (.int (Int32.ofNat o)), .val (.int (Int32.ofNat len)), .val .null, .val (.ref s.heap.size)] [])) := c14.trans (st15 _ (Steps.refl _))
  have ap := apart (Or.inr ⟨_, (wk W (.laysFinal "java/lang/String" "java/lang/String" "value" "[B"))⟩) (Or.inr ⟨_, (wk W (.laysFinal "java/lang/String" "java/lang/String" "coder" "B"))⟩) f1 f2 (t₁ := .array .byte) (t₂ := .byte) (by decide +kernel) (by decide +kernel) (by decide)
  have al := X8.warmed.alike.symm.trans X15.warmed.alike
  have n7 : T11.heap[s.heap.size]? = some N := by rw [q11]; exact n1.1
  exact ⟨T15, none, _, _, _, X15, by simp, rfl, by omega, (fun _ => rfl), ⟨rfl, _, N, bl15, ((Same.refl D _).set _ (by simp)).set _ (by simp), sl15, (Cell.slots_setSlot_ne _ ap).trans sl13, n1.keep al (p15.other hne (p13.other hne n7)), n2, by rw [al.findClass]; exact n3, n4, n5, fun y c h1 h2 => p15.other h1 (p13.other h1 (by rw [q11]; exact n6 y c h2)), by rw [p15.2.2, p13.2.2, q11]; exact z8⟩, fun fs hl => c16.trans (X15.returnOut hexec hret (hb hbytes d57) hl)⟩
end New4
namespace New1
def yN : MethodName := ⟨"java/lang/String", "<init>", "([C)V"⟩
abbrev yB : ByteArray := jdk_42_method_3_code
theorem d0 : decode yB 0 = .ok (.aload_n 0, 1) := by decide +kernel
theorem d1 : decode yB 1 = .ok (.aload_n 1, 1) := by decide +kernel
theorem d2 : decode yB 2 = .ok (.iconst 0, 1) := by decide +kernel
theorem d3 : decode yB 3 = .ok (.aload_n 1, 1) := by decide +kernel
theorem d4 : decode yB 4 = .ok (.arraylength, 1) := by decide +kernel
theorem d5 : decode yB 5 = .ok (.aconst_null, 1) := by decide +kernel
theorem d6 : decode yB 6 = .ok (.invokespecial 27, 3) := by decide +kernel
theorem d9 : decode yB 9 = .ok (.return_, 1) := by decide +kernel
def site : List Cond := [New4.tab] ++ initW "java/lang/String" 27 New4.yN
def tab : Cond := tabOf yN yB 2 none site
def P (a : Addr) (D : Cell) (fV fC : Field) (b : Addr) (A : Cell) (z : Int32) (args : Array Value) (s : State) : Prop := args = #[.ref a, .ref b] ∧ Blank "java/lang/String" a D s ∧ Found "java/lang/String" "value" "[B" fV s ∧ Found "java/lang/String" "coder" "B" fC s ∧ Ch b A s ∧ StaticIs s "java/lang/String" "COMPACT_STRINGS" "Z" (.int z) ∧ ¬ z = 0 ∧ 0 < A.slots.size ∧ A.slots.size ≤ 536870912 ∧ ∀ i, i < A.slots.size → ¬ 255 < cv A i
def E (a : Addr) (D : Cell) (fV fC : Field) (A : Cell) (r : Option Value) (s u : State) : Prop := Got a D fV fC A 0 A.slots.size r s u
/-- new String(chars), not empty, no char above 255: a Latin-1 String of their low bytes -/
theorem law (l : Launch) (a : Addr) (D : Cell) (fV fC : Field) (b : Addr) (A : Cell) (z : Int32) : Law l yN 2 1 3 52 yB 2 none site (P a D fV fC b A z) (E a D fV fC A) [⟨a, fC.slot⟩, ⟨a, fV.slot⟩] 1 A.slots.size := by
  refine Law.of_walk (plainFor_of_name (by decide +kernel)) (by decide +kernel) (by decide +kernel) (by decide) (fun _ _ h => by rw [h.1]; rfl) (fun _ U U' hal hh h => ⟨h.1, h.2.1.mv hal hh, h.2.2.1.al hal, h.2.2.2.1.al hal, h.2.2.2.2.1.mv hal hh, h.2.2.2.2.2.1.there hal hh, h.2.2.2.2.2.2⟩) (fun r U U' V V' h1 hal h2 h => Got.mv r U U' V V' h1 hal h2 h) ?_
  intro p e s m args below meth c s₁ X0 hexec hbytes hml hret hlk hnm hown hh0 W hP
  obtain ⟨rfl, hB, f1, f2, hA, s1, hz, l0, l2, hp⟩ := hP
  have c1 : Steps p.tables e below (s₁.setTop (entryFrame m #[.ref a, .ref b] 2)) (s₁.setTop (mkF m 0 #[.val (.ref a), .val (.ref b)] [])) := entry rfl
  have c2 : Steps p.tables e below (s₁.setTop (entryFrame m #[.ref a, .ref b] 2)) (s₁.setTop (mkF m 6 #[.val (.ref a), .val (.ref b)] [.null, .int (Int32.ofNat A.slots.size), .int 0, .ref b, .ref a])) := c1.trans (by
    refine XS.aloadN X0.here hexec rfl (hb hbytes d0) rfl rfl ?_
    refine XS.aloadN X0.here hexec rfl (hb hbytes d1) rfl rfl ?_
    refine iconstV X0.here hexec rfl 0 (hb hbytes d2) (by decide) ?_
    refine XS.aloadN X0.here hexec rfl (hb hbytes d3) rfl rfl ?_
    refine X0.alen hexec (hA.1.mv X0.warmed.alike hh0) rfl rfl (hb hbytes d4) ?_
    refine XS.aconstNull X0.here hexec rfl (hb hbytes d5) ?_
    exact Steps.refl _)
  obtain ⟨v3, T3, X3, E3, g3⟩ := X0.callN hexec (New4.law l a D fV fC b A z 0 A.slots.size) rfl hown (wks W (initW "java/lang/String" 27 New4.yN)) (W New4.tab (by simp only [site, List.mem_cons, List.mem_append, true_or, or_true])) (W := 0) (Nat.le_of_ble_eq_true rfl) (Nat.le_of_ble_eq_true rfl) (Nat.le_refl _) (by show 0 + A.slots.size ≤ A.slots.size; omega) (g := (mkF m 6 #[.val (.ref a), .val (.ref b)] [.null, .int (Int32.ofNat A.slots.size), .int (Int32.ofNat 0), .ref b, .ref a])) rfl (by rw [hml]; rfl) c2 (argsL := [.ref b, .int (Int32.ofNat 0), .int (Int32.ofNat A.slots.size), .null]) (rest := []) rfl rfl (by show 2 * 0 + 0 ≤ _; decide) (hb hbytes d6) (⟨rfl, hB.mv X0.warmed.alike hh0, f1.al X0.warmed.alike, f2.al X0.warmed.alike, hA.mv X0.warmed.alike hh0, s1.there X0.warmed.alike hh0, hz, l0, by omega, l2, fun i hi => by rw [Nat.zero_add]; exact hp i hi⟩)
  have e0 := Got.mv _ s₁ s _ _ hh0.symm (Vm.Alike.refl _) rfl E3
  obtain rfl := e0.1
  have c4 : Steps p.tables e below (s₁.setTop (entryFrame m #[.ref a, .ref b] 2)) (T3.setTop (mkF m 9 #[.val (.ref a), .val (.ref b)] [])) := g3
  exact ⟨T3, none, _, _, _, X3, by simp, rfl, by omega, (fun _ => rfl), e0, fun fs hl => c4.trans (X3.returnOut hexec hret (hb hbytes d9) hl)⟩
theorem pays {l : Launch} {R : Room} {p : Program} {e : Env} {below : List Frame} {s : State} {sargs : Array Value} {len W : Nat} (a : Addr) (D : Cell) (fV fC : Field) (b : Addr) (A : Cell) (z : Int32) (htab : tab.before sargs s = true) (hfr : 4 ≤ R.frames) (hlo : W + 65 ≤ R.locals) :
    Back l R p e below s sargs yN len W (fun A₁ a₁ => A₁.cells + 1 ≤ R.cells ∧ A₁.slots + A.slots.size ≤ R.slots ∧ P a D fV fC b A z a₁ A₁.U) (fun A₁ _ v₁ B₁ => E a D fV fC A v₁ A₁.U B₁.U ∧ B₁.locs = A₁.locs ++ [⟨a, fC.slot⟩, ⟨a, fV.slot⟩] ∧ B₁.cells = A₁.cells + 1 ∧ B₁.slots = A₁.slots + A.slots.size) :=
  (law l a D fV fC b A z).pays htab hfr (by omega)
end New1
/-- the byte, read back as charAt reads it, is the char -/
theorem lo8_mask {x : Int32} (h0 : ¬ x < 0) (h1 : ¬ 255 < x) : lo8 x &&& 255 = x := by
  have t : ∀ k : Fin 256, lo8 (Int32.ofNat k.val) &&& 255 = Int32.ofNat k.val := by decide +kernel
  rw [Int32.lt_iff_toInt_lt] at h0 h1
  have e0 : (0 : Int32).toInt = 0 := rfl
  have e1 : (255 : Int32).toInt = 255 := rfl
  obtain ⟨k, hk⟩ : ∃ k : Nat, x.toInt = k := ⟨x.toInt.toNat, by omega⟩
  have hx : x = Int32.ofNat k := Int32.toInt_inj.mp (by rw [hk, Int32.toInt_ofNat_small (by omega)])
  rw [hx]
  exact t ⟨k, by omega⟩
end StrChars
namespace StrChars.Road
open Jvm Sem ClassFile Op Lib Jvm.Stand Jvm.Free Jvm.Free.XT
open Jvm.Lib.Cold (StaticIs)
abbrev ST : String := "java/lang/String"
/-- every table word that New1's law asks, flat -/
abbrev words : List Jvm.Cond := [.code New1.yN New1.yB 2 none, .initialized ST, .methodLink ST 27 New4.yN, .instanceMethod New4.yN,
  .code New4.yN New4.yB 6 none, .fieldLink ST 38 ST "COMPACT_STRINGS" "Z", .laysFinal ST ST "value" "[B", .fieldLink ST 9 ST "value" "[B", .laysFinal ST ST "coder" "B", .fieldLink ST 15 ST "coder" "B",
  .methodLink ST 1 Lib.objectInit, .instanceMethod Lib.objectInit, .code Lib.objectInit ⟨#[0xb1]⟩ 1 none, .methodLink ST 177 Cmp3.yN, .static Cmp3.yN, .methodLink ST 47 CodL.yN, .static CodL.yN,
  .code Cmp3.yN Cmp3.yB 6 (some (.array .byte)), .initialized U16, .arrayClass .byte, .methodLink U16 115 Cmp5.yN, .static Cmp5.yN, .code Cmp5.yN Cmp5.yB 7 (some .int), .code CodL.yN CodL.yB 2 (some .byte)]
theorem tab_of {a : Array Value} {s : State} (h : ∀ w ∈ words, w.before a s = true) : New1.tab.before a s = true := by
  have h5 : Cmp5.tab.before a s = true := unparts (wk h (.code Cmp5.yN Cmp5.yB 7 (some .int))) (wks h (.initialized Cmp5.yN.cls :: Cmp5.site))
  have hc : CodL.tab.before a s = true := unparts (wk h (.code CodL.yN CodL.yB 2 (some .byte))) (wks h (.initialized CodL.yN.cls :: CodL.site))
  have q5 : ∀ w ∈ Cmp5.tab :: words, w.before a s = true := fun w hw => (List.mem_cons.mp hw).elim (fun e => e ▸ h5) (h w)
  have h3 : Cmp3.tab.before a s = true := unparts (wk q5 (.code Cmp3.yN Cmp3.yB 6 (some (.array .byte)))) (wks q5 (.initialized Cmp3.yN.cls :: Cmp3.site))
  have q3 : ∀ w ∈ Cmp3.tab :: CodL.tab :: words, w.before a s = true := fun w hw => (List.mem_cons.mp hw).elim (fun e => e ▸ h3) fun hw => (List.mem_cons.mp hw).elim (fun e => e ▸ hc) (h w)
  have h4 : New4.tab.before a s = true := unparts (wk q3 (.code New4.yN New4.yB 6 none)) (wks q3 (.initialized New4.yN.cls :: New4.site))
  have q4 : ∀ w ∈ New4.tab :: words, w.before a s = true := fun w hw => (List.mem_cons.mp hw).elim (fun e => e ▸ h4) (h w)
  exact unparts (wk q4 (.code New1.yN New1.yB 2 none)) (wks q4 (.initialized New1.yN.cls :: New1.site))
/-- the words ride from the start Z to the walk's own state -/
theorem moved {Z s : State} {a0 args : Array Value} (hZ : Z.Warmed39 s.vm) (hw : ∀ d ∈ words, d.before a0 Z = true) : ∀ d ∈ words, d.before args s = true := fun d hd => by
  have q := hw d hd
  have t : ∀ d ∈ words, d = .arrayClass .byte ∨ (d.onTables && d.keepsFace) = true := by decide +kernel
  rcases t d hd with rfl | t
  · exact RoadKit.mvA hZ q
  · exact RoadKit.mv hZ q t
/-- WHAT COMES BACK, over the tables of the start Z: h the heap at the call, h' behind it -/
def Q (Z : State) (x : Addr) (A : Cell) (h : Heap) (v : Option Value) (h' : Heap) (L : List Loc) : Prop := v = none ∧ (∀ y ∈ L, y.base = x) ∧ RoadKit.Keep h h' [x] ∧ h'.size = h.size + 1 ∧ RoadKit.Exa Z h' x ST ∧ RoadKit.Fld Z h' x ST "value" "[B" (.ref h.size) ∧ RoadKit.Fld Z h' x ST "coder" "B" (.int 0) ∧
  (∃ V : Cell, RoadKit.Arr Z h' h.size V .byte ∧ V.vm = .none ∧ Z.vm.findClass "[B" = some V.cls ∧ V.slots.size = A.slots.size ∧ ∀ j, j < A.slots.size → V.slots[j]? = some (.int (lo8 (cv A j)))) ∧
  ∀ (O n d : String) (w : Value), RoadKit.Fld Z h x O n d w → RoadKit.slotOf Z O n d ≠ RoadKit.slotOf Z ST "value" "[B" → RoadKit.slotOf Z O n d ≠ RoadKit.slotOf Z ST "coder" "B" → RoadKit.Fld Z h' x O n d w
/-- **new String(chars) AT A CALL, IN THE ROAD'S FORM**: for specialBack behind newO: x the fresh String, b the char[] with the cell A -/
theorem back {p : Program} {l : Launch} {e : Env} {R : Room} {s : State} {args : Array Value} {below : List Frame} {len W : Nat} {Z : State} {a0 : Array Value} {h : Heap} (hZ : Z.Warmed39 s.vm) (hw : ∀ d ∈ words, d.before a0 Z = true) {kI : Nat} (wi : (Jvm.Cond.instantiable ST kI).before a0 Z = true)
    {x b : Addr} {A : Cell} {z : Int32} {v0 c0 : Value} (E : RoadKit.Exa Z h x ST) (V : RoadKit.Fld Z h x ST "value" "[B" v0) (C : RoadKit.Fld Z h x ST "coder" "B" c0) (K : RoadKit.Arr Z h b A .char) (hty : Typed .char A) (S : RoadKit.Sta Z h ST "COMPACT_STRINGS" "Z" (.int z)) (hz : ¬ z = 0)
    (l0 : 0 < A.slots.size) (l2 : A.slots.size ≤ 536870912) (hp : ∀ i, i < A.slots.size → ¬ 255 < cv A i) (hfr : 4 ≤ R.frames) (hlo : W + 65 ≤ R.locals) :
    Back l R p e below s args New1.yN len W (fun P a => a = #[.ref x, .ref b] ∧ P.U.heap = h ∧ P.cells + 1 ≤ R.cells ∧ P.slots + A.slots.size ≤ R.slots)
      (fun P _ v B => ∃ L, Q Z x A h v B.U.heap L ∧ B.locs = P.locs ++ L ∧ B.cells = P.cells + 1 ∧ B.slots = P.slots + A.slots.size) := by
  intro m meth c P g ig mk a X hg hsize hdg hW hn hp'
  obtain ⟨rfl, rfl, r1, r2⟩ := hp'
  have al : Z.vm.Alike P.U.vm := hZ.alike.trans X.warmed.alike
  obtain ⟨D, cfV, kV, iV, fV, hD, gV, stV, knV, obV, asV, slV⟩ := id V
  obtain ⟨D', cfC, kC, iC, fC, hD', gC, stC, -, -, asC, slC⟩ := id C
  cases hD.symm.trans hD'
  obtain ⟨D2, kD, e1, e2, e3, e4, e5⟩ := id E
  cases hD.symm.trans e1
  obtain ⟨c2, k2, i1, i2, i3, -⟩ := Cond.instantiable_spec wi
  cases e2.symm.trans i1
  cases e3.symm.trans i2
  obtain ⟨kU, u1, u2⟩ := al.2.2 _ _ e3
  have hB : Blank ST x D P.U := ⟨hD, ⟨knV, fun q hq => by rw [hq] at obV; cases obV⟩, by rw [al.findClass]; exact e2, kU, u1, by rw [u2]; exact i3, by rw [u2]; exact e5 i3⟩
  have F1 : Found ST "value" "[B" fV P.U := ⟨SBG.found_only al ⟨cfV, kV, iV, gV⟩, stV⟩
  have F2 : Found ST "coder" "B" fC P.U := ⟨SBG.found_only al ⟨cfC, kC, iC, gC⟩, stC⟩
  have hA : Ch b A P.U := ⟨⟨K.1, State.isArrayOf_alike al K.2.1, K.2.2, by omega⟩, hty⟩
  have hS : StaticIs P.U ST "COMPACT_STRINGS" "Z" (.int z) := by
    obtain ⟨cfS, iS, kS, fS, st, cS, t1, t2, t3, t4, t5, t6, t7⟩ := S
    exact StaticIs.there (s := { Z with heap := P.U.heap }) ⟨cfS, iS, kS, fS, st, cS, t1, t2, t3, t4, t5, (fun q => by rw [q] at t6; cases t6), t7⟩ al rfl
  obtain ⟨v, B, X', ⟨⟨hv, E', V', q1, q2, q3, q4, q5, q6, q7, q8, q9, q10, q11⟩, hl, hc, hs⟩, st⟩ := New1.pays x D fV fC b A z (tab_of (moved hZ hw)) hfr hlo m meth c P g ig mk _ X hg hsize hdg hW hn ⟨r1, r2, rfl, hB, F1, F2, hA, hS, hz, l0, l2, hp⟩
  have al' : Z.vm.Alike B.U.vm := hZ.alike.trans X'.warmed.alike
  have hsz : E'.slots.size = D.slots.size := by
    obtain ⟨-, -, -, kB, w1, w2, w3⟩ := q1
    obtain ⟨kB', y1, y2⟩ := al'.2.2 _ _ e3
    rw [q2.2.1] at w1
    cases w1.symm.trans y1
    rw [w3, e5 i3, y2]
  refine ⟨v, B, X', ⟨_, ⟨hv, ?_, ⟨by omega, fun y cy hy hn' => q10 y cy (by simpa using hn') hy, fun y cy hy => ?_⟩, q11, ⟨E', _, q1.1, by rw [q2.2.1]; exact e2, by rw [q2.2.1]; exact e3, by rw [q2.1]; exact obV, fun _ => by rw [hsz]; exact e5 i3⟩,
    ⟨E', cfV, kV, iV, fV, q1.1, gV, stV, by rw [q2.1]; exact knV, by rw [q2.1]; exact obV, by rw [q2.2.1]; exact asV, q3⟩, ⟨E', cfC, kC, iC, fC, q1.1, gC, stC, by rw [q2.1]; exact knV, by rw [q2.1]; exact obV, by rw [q2.2.1]; exact asC, q4⟩,
    ⟨V', ⟨q5.1, State.isArrayOf_alike al'.symm q5.2.1, q5.2.2.1⟩, q6, by rw [← al'.findClass]; exact q7, q8, fun j hj => by have := q9 j hj; rwa [Nat.zero_add] at this⟩, fun O n d w F n1 n2 => ?_⟩, hl, hc, hs⟩, st⟩
  · intro y hy
    simp only [List.mem_cons, List.not_mem_nil, or_false] at hy
    rcases hy with rfl | rfl <;> rfl
  · by_cases q : y = x
    · subst q
      cases hD.symm.trans hy
      exact ⟨E', q1.1, q2.2.1, q2.1, hsz⟩
    · exact ⟨cy, q10 y cy q hy, rfl, rfl, rfl⟩
  · obtain ⟨D3, cf, k, i, f, g1, g2, g3, g4, g5, g6, g7⟩ := F
    cases hD.symm.trans g1
    simp only [RoadKit.slotOf, g2, gV, gC, Option.map_some, Option.getD_some] at n1 n2
    exact ⟨E', cf, k, i, f, q1.1, g2, g3, by rw [q2.1]; exact g4, by rw [q2.1]; exact g5, by rw [q2.2.1]; exact g6, by rw [q2.2.2 f.slot (by simp [n1, n2])]; exact g7⟩
end StrChars.Road
namespace StrChars.Road
open Jvm Sem ClassFile Op Lib Jvm.Stand Jvm.Free Jvm.Free.XT
/-- WHAT COMES BACK, the byte[] as a list of values -/
def QA (Z : State) (x : Addr) (zn : Int32) (cs : List Int32) (h : Heap) (v : Option Value) (h' : Heap) (L : List Loc) : Prop := v = none ∧ (∀ y ∈ L, y.base = x) ∧ RoadKit.Keep h h' [x] ∧ h'.size = h.size + 1 ∧ RoadKit.Exa Z h' x ST ∧ RoadKit.Fld Z h' x ST "value" "[B" (.ref h.size) ∧ RoadKit.Fld Z h' x ST "coder" "B" (.int 0) ∧
  (∃ kb, Z.vm.findClass "[B" = some kb ∧ RoadKit.Arv Z h' h.size kb .byte zn (cs.map fun c => .int (lo8 c)) (.int 0)) ∧
  ∀ (O n d : String) (w : Value), RoadKit.Fld Z h x O n d w → RoadKit.slotOf Z O n d ≠ RoadKit.slotOf Z ST "value" "[B" → RoadKit.slotOf Z O n d ≠ RoadKit.slotOf Z ST "coder" "B" → RoadKit.Fld Z h' x O n d w
/-- **new String(chars) AT A CALL, THE ARRAYS AS LISTS**: the char[] at b holds cs, not empty, no char above 255 -/
theorem backArv {p : Program} {l : Launch} {e : Env} {R : Room} {s : State} {args : Array Value} {below : List Frame} {len W : Nat} {Z : State} {a0 : Array Value} {h : Heap} (hZ : Z.Warmed39 s.vm) (hw : ∀ d ∈ words, d.before a0 Z = true) {kI : Nat} (wi : (Jvm.Cond.instantiable ST kI).before a0 Z = true)
    {x b : Addr} {k : ClassId} {zn z : Int32} {cs : List Int32} {dv v0 c0 : Value} (E : RoadKit.Exa Z h x ST) (V : RoadKit.Fld Z h x ST "value" "[B" v0) (C : RoadKit.Fld Z h x ST "coder" "B" c0) (K : RoadKit.Arv Z h b k .char zn (cs.map Value.int) dv) (S : RoadKit.Sta Z h ST "COMPACT_STRINGS" "Z" (.int z)) (hz : ¬ z = 0)
    (hlen : zn.toNatClampNeg = cs.length) (h0 : 0 < cs.length) (hbig : cs.length ≤ 536870912) (hall : ∀ c ∈ cs, ¬ 255 < c) (hfr : 4 ≤ R.frames) (hlo : W + 65 ≤ R.locals) :
    Back l R p e below s args New1.yN len W (fun P a => a = #[.ref x, .ref b] ∧ P.U.heap = h ∧ P.cells + 1 ≤ R.cells ∧ P.slots + cs.length ≤ R.slots)
      (fun P _ v B => ∃ L, QA Z x zn cs h v B.U.heap L ∧ B.locs = P.locs ++ L ∧ B.cells = P.cells + 1 ∧ B.slots = P.slots + cs.length) := by
  obtain ⟨A, K1, K2, K3, K4, K5, K6⟩ := K
  have e : A.slots.size = cs.length := K3.trans hlen
  have hat : ∀ (i : Nat) (hi : i < cs.length), A.slots[i]? = some (.int cs[i]) := fun i hi => by rw [K5 i (by omega)]; simp [List.getD_eq_getElem?_getD, hi]
  have hcv : ∀ (i : Nat) (hi : i < cs.length), cv A i = cs[i] := fun i hi => by unfold cv; rw [hat i hi]
  have hty : Typed .char A := fun i v hv => by
    have hi : i < A.slots.size := (Array.getElem?_eq_some_iff.mp hv).1
    have q := K5 i hi
    rw [hv] at q
    rw [Option.some.inj q]
    exact K6 i hi
  refine Back.mono (back hZ hw wi E V C K1 hty S hz (by omega) (by omega) (fun i hi => by rw [hcv i (by omega)]; exact hall _ (List.getElem_mem _)) hfr hlo) (fun P a hp => ⟨hp.1, hp.2.1, hp.2.2.1, by rw [e]; exact hp.2.2.2⟩) (fun P a v B hp hq => ?_)
  obtain ⟨L, ⟨q1, q2, q3, q4, q5, q6, q7, ⟨V', v1, v2, v3, v4, v5⟩, q9⟩, hl, hc, hs⟩ := hq
  refine ⟨L, ⟨q1, q2, q3, q4, q5, q6, q7, ⟨V'.cls, v3, V', v1, rfl, by rw [v4, e, hlen], K4, fun i hi => ?_, fun i hi => ?_⟩, q9⟩, hl, hc, by rw [hs, e]⟩
  · have hi' : i < cs.length := by omega
    rw [v5 i (by omega), hcv i hi']; simp [List.getD_eq_getElem?_getD, hi']
  · have hi' : i < cs.length := by omega
    simp only [List.getD_eq_getElem?_getD, List.getElem?_map, List.getElem?_eq_getElem hi', Option.map_some, Option.getD_some]
    exact fits_lo8 _
end StrChars.Road
namespace StrChars.Road
open Jvm Sem ClassFile Op Lib Jvm.Stand Jvm.Free Jvm.Free.XT
/-- WHAT COMES BACK, in the writer's own shape -/
def QV (Z : State) (x : Addr) (N : Int32) (bs : List Int32) (h : Heap) (n0 : Nat) (v : Option Value) (h' : Heap) (L : List Loc) : Prop := v = none ∧ RoadKit.Fr n0 L ∧ RoadKit.Keep h h' [x] ∧ RoadKit.Exa Z h' x ST ∧ RoadKit.Fld Z h' x ST "coder" "B" (.int 0) ∧
  ∃ (t : Addr) (kb : ClassId), n0 ≤ t ∧ h.size ≤ t ∧ ¬ t = x ∧ RoadKit.Fld Z h' x ST "value" "[B" (.ref t) ∧ RoadKit.Arv Z h' t kb .byte N (bs.map Value.int) (.int 0)
/-- **new String(chars) AT A CALL, FOR THE WRITER**: a char[] of n known ints, each 0 to 255 -/
theorem backV {p : Program} {l : Launch} {e : Env} {R : Room} {s : State} {args : Array Value} {below : List Frame} {len W : Nat} {Z : State} {a0 : Array Value} {h : Heap} (hZ : Z.Warmed39 s.vm) (hw : ∀ d ∈ words, d.before a0 Z = true) {kI : Nat} (wi : (Jvm.Cond.instantiable ST kI).before a0 Z = true)
    {x b : Addr} {kC : ClassId} {cs bs : List Int32} {d v0 c0 : Value} {z N : Int32} {n n0 : Nat} (hx0 : n0 ≤ x) (hh0 : n0 ≤ h.size) (E : RoadKit.Exa Z h x ST) (V : RoadKit.Fld Z h x ST "value" "[B" v0) (C : RoadKit.Fld Z h x ST "coder" "B" c0) (K : RoadKit.Arv Z h b kC .char N (cs.map Value.int) d) (S : RoadKit.Sta Z h ST "COMPACT_STRINGS" "Z" (.int z)) (hz : ¬ z = 0)
    (hn : cs.length = n) (hN : N = Int32.ofNat n) (l0 : 0 < n) (l2 : n ≤ 4000) (hp : ∀ c ∈ cs, ¬ c < 0 ∧ ¬ (255 : Int32) < c) (hb : bs = cs.map (fun c => c.toInt8.toInt32)) (hfr : 4 ≤ R.frames) (hlo : W + 65 ≤ R.locals) :
    Back l R p e below s args (⟨"java/lang/String", "<init>", "([C)V"⟩ : MethodName) len W (fun P a => a = #[.ref x, .ref b] ∧ P.U.heap = h ∧ P.cells + 1 ≤ R.cells ∧ P.slots + n ≤ R.slots)
      (fun P _ v B => ∃ L, QV Z x N bs h n0 v B.U.heap L ∧ B.locs = P.locs ++ L ∧ B.cells = P.cells + 1 ∧ B.slots = P.slots + n) := by
  subst hn hN hb
  refine Back.mono (backArv hZ hw wi E V C K S hz (n32 (by omega)) l0 (by omega) (fun c hc => (hp c hc).2) hfr hlo) (fun P a hp => hp) (fun P a v B hp hq => ?_)
  obtain ⟨L, ⟨q1, q2, q3, q4, q5, q6, q7, ⟨kb, v1, v2⟩, q9⟩, hl, hc, hs⟩ := hq
  exact ⟨L, ⟨q1, fun y hy => by rw [q2 y hy]; exact hx0, q3, q5, q7, h.size, kb, hh0, Nat.le_refl _, Nat.ne_of_gt E.lt, q6, by rw [List.map_map]; exact v2⟩, hl, hc, hs⟩
end StrChars.Road
namespace StrChars
open Jvm Sem ClassFile Op Lib Jvm.Stand Jvm.Free.XT Jvm.Free.ALB Jvm.Free.JM Jvm.Free
open Jvm.Lib.Cold (StaticIs)
def hi8 (x : Int32) : Int32 := lo8 (x >>> ((8 : Int32) &&& 31))
/-- what StringUTF16.getChar makes of two bytes -/
def pairCh (u v : Int32) : Int32 := (((u &&& 255) <<< ((0 : Int32) &&& 31)) ||| ((v &&& 255) <<< ((8 : Int32) &&& 31))).toUInt32.toUInt16.toUInt32.toInt32
theorem lo8_and (x : Int32) : (lo8 x &&& 255).toBitVec.toNat = x.toBitVec.toNat % 256 := by
  have h : (lo8 x).toBitVec = (x.toBitVec.signExtend 8).signExtend 32 := by rw [lo8, Int8.toBitVec_toInt32, Int32.toBitVec_toInt8]
  rw [Int32.toBitVec_and, BitVec.toNat_and, h]
  have e : ((x.toBitVec.signExtend 8).signExtend 32).toNat % 256 = x.toBitVec.toNat % 256 := by
    rw [BitVec.toNat_signExtend]
    have hlt := x.toBitVec.isLt
    simp only [BitVec.toNat_setWidth, BitVec.toNat_signExtend]
    split <;> split <;> omega
  rw [← e]
  exact Nat.and_two_pow_sub_one_eq_mod _ 8
theorem pair_says {c : Int32} (h0 : ¬ c < 0) (h1 : ¬ 65535 < c) : pairCh (lo8 c) (hi8 c) = c := by
  rw [Int32.lt_iff_toInt_lt] at h0 h1
  have e0 : (0 : Int32).toInt = 0 := rfl
  have e1 : (65535 : Int32).toInt = 65535 := rfl
  have hc : c.toInt = c.toBitVec.toNat := by
    have := c.toBitVec.isLt
    have e : c.toInt = c.toBitVec.toInt := rfl
    rw [e] at h0 h1
    rw [e]
    rw [BitVec.toInt_eq_toNat_cond] at h0 h1 ⊢
    split at h0 <;> split <;> omega
  have hn : c.toBitVec.toNat < 65536 := by omega
  have a1 := lo8_and c
  have a2 : (hi8 c &&& 255).toBitVec.toNat = c.toBitVec.toNat / 256 := by
    rw [hi8, lo8_and]
    have e : ((8 : Int32) &&& 31) = 8 := by decide
    rw [e, Int32.toBitVec_shiftRight]
    have e2 : ((8 : Int32).toBitVec.smod 32) = 8#32 := by decide
    rw [e2, BitVec.sshiftRight_eq', BitVec.toNat_sshiftRight_of_msb_false (by rw [BitVec.msb_eq_false_iff_two_mul_lt]; omega)]
    show c.toBitVec.toNat >>> 8 % 256 = _
    rw [Nat.shiftRight_eq_div_pow]
    omega
  unfold pairCh
  apply Int32.toBitVec_inj.mp
  apply BitVec.eq_of_toNat_eq
  have f0 : ((0 : Int32) &&& 31) = 0 := by decide
  have f8 : ((8 : Int32) &&& 31) = 8 := by decide
  rw [f0, f8]
  have g : (((lo8 c &&& 255) <<< (0 : Int32)) ||| ((hi8 c &&& 255) <<< (8 : Int32))).toBitVec.toNat = c.toBitVec.toNat := by
    rw [Int32.toBitVec_or, Int32.toBitVec_shiftLeft, Int32.toBitVec_shiftLeft]
    have s0 : ((0 : Int32).toBitVec.smod 32) = 0#32 := by decide
    have s8 : ((8 : Int32).toBitVec.smod 32) = 8#32 := by decide
    rw [s0, s8, BitVec.toNat_or]
    simp only [BitVec.shiftLeft_eq', BitVec.toNat_shiftLeft, a1, a2]
    show (c.toBitVec.toNat % 256) <<< 0 % 2 ^ 32 ||| (c.toBitVec.toNat / 256) <<< 8 % 2 ^ 32 = _
    rw [Nat.shiftLeft_zero, Nat.mod_eq_of_lt (show c.toBitVec.toNat % 256 < 2 ^ 32 by omega), Nat.mod_eq_of_lt (show (c.toBitVec.toNat / 256) <<< 8 < 2 ^ 32 by rw [Nat.shiftLeft_eq]; omega), Nat.or_comm, ← Nat.shiftLeft_add_eq_or_of_lt (by omega), Nat.shiftLeft_eq]
    omega
  show BitVec.toNat (((((lo8 c &&& 255) <<< (0 : Int32)) ||| ((hi8 c &&& 255) <<< (8 : Int32))).toBitVec.setWidth 16).setWidth 32) = _
  rw [BitVec.toNat_setWidth, BitVec.toNat_setWidth, g]
  omega
end StrChars
namespace StrChars
open Jvm Sem ClassFile Op Lib Jvm.Stand Jvm.Free.XT Jvm.Free.ALB Jvm.Free.JM Jvm.Free
open Jvm.Lib.Cold (StaticIs)
/-- the array's cell V codes the n chars f 0 .. f (n - 1) by the coder cd, as the JDK does: coder 1 just where some char is above 255 -/
def Cod (cd : Int32) (n : Nat) (f : Nat → Int32) (V : Cell) : Prop := (cd = 0 ∧ V.slots.size = n ∧ ∀ j, j < n → V.slots[j]? = some (.int (lo8 (f j))) ∧ ¬ 255 < f j) ∨ (cd = 1 ∧ V.slots.size = 2 * n ∧ (∀ j, j < n → V.slots[2 * j]? = some (.int (lo8 (f j))) ∧ V.slots[2 * j + 1]? = some (.int (hi8 (f j)))) ∧ ∃ j, j < n ∧ 255 < f j)
/-- **x is a String of the n chars f 0 .. f (n - 1)**, Latin-1 or UTF-16; its array at t has the cell V -/
def Txt (x t : Addr) (V : Cell) (cd : Int32) (n : Nat) (f : Nat → Int32) (U : State) : Prop := Exact "java/lang/String" x U ∧ Has x "java/lang/String" "value" "[B" (.ref t) U ∧ Has x "java/lang/String" "coder" "B" (.int cd) U ∧ XT.Arr .byte t V U ∧ Cod cd n f V ∧ ∀ j, j < n → ¬ f j < 0 ∧ ¬ 65535 < f j
theorem Txt.mv {x t : Addr} {V : Cell} {cd : Int32} {n : Nat} {f : Nat → Int32} {U U' : State} (h : Txt x t V cd n f U) (hal : U.vm.Alike U'.vm) (hh : U'.heap = U.heap) : Txt x t V cd n f U' := ⟨h.1.mv hal hh, h.2.1.mv hal hh, h.2.2.1.mv hal hh, h.2.2.2.1.mv hal hh, h.2.2.2.2⟩
end StrChars
namespace StrChars.Road
open Jvm Sem ClassFile Op Lib Jvm.Stand Jvm.Free Jvm.Free.XT
open Jvm.Lib.Cold (StaticIs)
theorem consq {a : Array Value} {s : State} {c : Jvm.Cond} {L : List Jvm.Cond} (h0 : c.before a s = true) (h : ∀ w ∈ L, w.before a s = true) : ∀ w ∈ c :: L, w.before a s = true := fun w hw => (List.mem_cons.mp hw).elim (fun e => e ▸ h0) (h w)
/-- the bytes of the chars cs, low before high -/
def wideBytes : List Int32 → List Value
  | [] => []
  | c :: cs => .int (lo8 c) :: .int (hi8 c) :: wideBytes cs
theorem wide_lo (d : Value) : ∀ (cs : List Int32) (j : Nat), j < cs.length → (wideBytes cs).getD (2 * j) d = .int (lo8 (cs.getD j 0))
  | [], j, h => absurd h (Nat.not_lt_zero j)
  | c :: cs, 0, _ => rfl
  | c :: cs, j + 1, h => by
    have q := wide_lo d cs j (by simpa using h)
    rw [show 2 * (j + 1) = 2 * j + 1 + 1 from by omega]
    simpa [wideBytes] using q
theorem wide_hi (d : Value) : ∀ (cs : List Int32) (j : Nat), j < cs.length → (wideBytes cs).getD (2 * j + 1) d = .int (hi8 (cs.getD j 0))
  | [], j, h => absurd h (Nat.not_lt_zero j)
  | c :: cs, 0, _ => rfl
  | c :: cs, j + 1, h => by
    have q := wide_hi d cs j (by simpa using h)
    rw [show 2 * (j + 1) + 1 = 2 * j + 1 + 1 + 1 from by omega]
    simpa [wideBytes] using q
theorem low_at (d : Value) (cs : List Int32) (j : Nat) (h : j < cs.length) : (cs.map fun c => Value.int (lo8 c)).getD j d = .int (lo8 (cs.getD j 0)) := by
  simp [List.getD_eq_getElem?_getD, h]
/-- an array of N2 bytes vs codes the chars cs by the coder cd -/
def CodA (cs : List Int32) (cd N2 : Int32) (vs : List Value) : Prop := (cd = 0 ∧ N2 = Int32.ofNat cs.length ∧ vs = (cs.map fun c => Value.int (lo8 c)) ∧ ∀ c ∈ cs, ¬ 255 < c) ∨ (cd = 1 ∧ N2 = Int32.ofNat (2 * cs.length) ∧ vs = wideBytes cs ∧ ∃ c ∈ cs, 255 < c)
theorem CodA.cod {cs : List Int32} {cd N2 : Int32} {vs : List Value} {V : Cell} (h : CodA cs cd N2 vs) (hn : 2 * cs.length < 2 ^ 31) (hs : V.slots.size = N2.toNatClampNeg) (hv : RoadKit.Has V vs (.int 0)) : Cod cd cs.length (fun j => cs.getD j 0) V := by
  rcases h with ⟨rfl, rfl, rfl, h⟩ | ⟨rfl, rfl, rfl, c, hc, hw⟩
  · rw [n32 (by omega)] at hs
    exact Or.inl ⟨rfl, hs, fun j hj => ⟨by rw [hv j (by omega), low_at _ _ _ hj], by
      have e : cs.getD j 0 = cs[j] := by simp [List.getD_eq_getElem?_getD, hj]
      show ¬ 255 < cs.getD j 0
      rw [e]; exact h _ (List.getElem_mem _)⟩⟩
  · rw [n32 (by omega)] at hs
    obtain ⟨j, hj, rfl⟩ := List.getElem_of_mem hc
    exact Or.inr ⟨rfl, hs, fun j hj => ⟨by rw [hv _ (by omega), wide_lo _ _ _ hj], by rw [hv _ (by omega), wide_hi _ _ _ hj]⟩, j, hj, by
      have e : cs.getD j 0 = cs[j] := by simp [List.getD_eq_getElem?_getD, hj]
      show 255 < cs.getD j 0
      rw [e]; exact hw⟩
/-- an object of exactly java/lang/String, its two fields found: as the laws ask it -/
theorem strObj {Z U : State} {a0 : Array Value} {kI : Nat} (wi : (Jvm.Cond.instantiable ST kI).before a0 Z = true) (al : Z.vm.Alike U.vm) {x : Addr} {v0 c0 : Value} (E : RoadKit.Exa Z U.heap x ST) (V : RoadKit.Fld Z U.heap x ST "value" "[B" v0) (C : RoadKit.Fld Z U.heap x ST "coder" "B" c0) :
    ∃ (D : Cell) (fV fC : Field), Blank ST x D U ∧ Found ST "value" "[B" fV U ∧ Found ST "coder" "B" fC U ∧ D.slots[fV.slot]? = some v0 ∧ D.slots[fC.slot]? = some c0 ∧ RoadKit.slotOf Z ST "value" "[B" = fV.slot ∧ RoadKit.slotOf Z ST "coder" "B" = fC.slot := by
  obtain ⟨D, cfV, kV, iV, fV, hD, gV, stV, knV, obV, asV, slV⟩ := V
  obtain ⟨D', cfC, kC, iC, fC, hD', gC, stC, -, -, asC, slC⟩ := C
  cases hD.symm.trans hD'
  obtain ⟨D2, kD, e1, e2, e3, e4, e5⟩ := E
  cases hD.symm.trans e1
  obtain ⟨c2, k2, i1, i2, i3, -⟩ := Cond.instantiable_spec wi
  cases e2.symm.trans i1
  cases e3.symm.trans i2
  obtain ⟨kU, u1, u2⟩ := al.2.2 _ _ e3
  exact ⟨D, fV, fC, ⟨hD, ⟨knV, fun q hq => by rw [hq] at obV; cases obV⟩, by rw [al.findClass]; exact e2, kU, u1, by rw [u2]; exact i3, by rw [u2]; exact e5 i3⟩, ⟨SBG.found_only al ⟨cfV, kV, iV, gV⟩, stV⟩, ⟨SBG.found_only al ⟨cfC, kC, iC, gC⟩, stC⟩, slV, slC, by simp [RoadKit.slotOf, gV], by simp [RoadKit.slotOf, gC]⟩
theorem sta_is {Z U : State} (al : Z.vm.Alike U.vm) {C n d : String} {v : Value} (S : RoadKit.Sta Z U.heap C n d v) : StaticIs U C n d v := by
  obtain ⟨cfS, iS, kS, fS, st, cS, t1, t2, t3, t4, t5, t6, t7⟩ := S
  exact StaticIs.there (s := { Z with heap := U.heap }) ⟨cfS, iS, kS, fS, st, cS, t1, t2, t3, t4, t5, (fun q => by rw [q] at t6; cases t6), t7⟩ al rfl
end StrChars.Road
namespace StrChars
open Jvm Sem ClassFile Op Lib Jvm.Stand Jvm.Free.XT Jvm.Free.ALB Jvm.Free.JM Jvm.Free
open Jvm.Lib.Cold (StaticIs)
/-- what place i of a byte[]'s cell holds -/
def yv (A : Cell) (i : Nat) : Int32 := match A.slots[i]? with | some (.int x) => x | _ => 0
theorem yv_get {a : Addr} {A : Cell} {U : State} (h : XT.Arr .byte a A U) (ht : Typed .byte A) {i : Nat} (hi : i < A.slots.size) : A.slots[i]? = some (.int (yv A i)) := by
  have e := Array.getElem?_eq_getElem hi
  have f := ht i _ e
  unfold yv; rw [e]
  generalize A.slots[i] = v at f
  cases v <;> simp [fits] at f ⊢
/-- the two arrays are equal, place for place -/
def EqC (A B : Cell) : Prop := A.slots.size = B.slots.size ∧ ∀ i, i < A.slots.size → yv A i = yv B i
/-- a boolean that says whether p -/
def Says01 (q : Prop) (r : Option Value) (s u : State) : Prop := ∃ v : Int32, r = some (.int v) ∧ u.heap = s.heap ∧ ((v = 1 ∧ q) ∨ (v = 0 ∧ ¬ q))
theorem Says01.mv {q : Prop} : ∀ r (U U' V V' : State), U'.heap = U.heap → V.vm.Alike V'.vm → V'.heap = V.heap → Says01 q r U V → Says01 q r U' V' :=
  fun r U U' V V' h1 _ h2 ⟨v, a, b, c⟩ => ⟨v, a, by rw [h1, h2]; exact b, c⟩
namespace LEq
def yN : MethodName := ⟨"java/lang/StringLatin1", "equals", "([B[B)Z"⟩
abbrev yB : ByteArray := jdk_43_method_13_code
theorem d0 : decode yB 0 = .ok (.aload_n 0, 1) := by decide +kernel
theorem d1 : decode yB 1 = .ok (.arraylength, 1) := by decide +kernel
theorem d2 : decode yB 2 = .ok (.aload_n 1, 1) := by decide +kernel
theorem d3 : decode yB 3 = .ok (.arraylength, 1) := by decide +kernel
theorem d4 : decode yB 4 = .ok (.if_icmp (.ne) 30, 3) := by decide +kernel
theorem d7 : decode yB 7 = .ok (.iconst 0, 1) := by decide +kernel
theorem d8 : decode yB 8 = .ok (.istore_n 2, 1) := by decide +kernel
theorem d9 : decode yB 9 = .ok (.iload_n 2, 1) := by decide +kernel
theorem d10 : decode yB 10 = .ok (.aload_n 0, 1) := by decide +kernel
theorem d11 : decode yB 11 = .ok (.arraylength, 1) := by decide +kernel
theorem d12 : decode yB 12 = .ok (.if_icmp (.ge) 20, 3) := by decide +kernel
theorem d15 : decode yB 15 = .ok (.aload_n 0, 1) := by decide +kernel
theorem d16 : decode yB 16 = .ok (.iload_n 2, 1) := by decide +kernel
theorem d17 : decode yB 17 = .ok (.baload, 1) := by decide +kernel
theorem d18 : decode yB 18 = .ok (.aload_n 1, 1) := by decide +kernel
theorem d19 : decode yB 19 = .ok (.iload_n 2, 1) := by decide +kernel
theorem d20 : decode yB 20 = .ok (.baload, 1) := by decide +kernel
theorem d21 : decode yB 21 = .ok (.if_icmp (.eq) 5, 3) := by decide +kernel
theorem d24 : decode yB 24 = .ok (.iconst 0, 1) := by decide +kernel
theorem d25 : decode yB 25 = .ok (.ireturn, 1) := by decide +kernel
theorem d26 : decode yB 26 = .ok (.iinc 2 1, 3) := by decide +kernel
theorem d29 : decode yB 29 = .ok (.goto (-20), 3) := by decide +kernel
theorem d32 : decode yB 32 = .ok (.iconst 1, 1) := by decide +kernel
theorem d33 : decode yB 33 = .ok (.ireturn, 1) := by decide +kernel
theorem d34 : decode yB 34 = .ok (.iconst 0, 1) := by decide +kernel
theorem d35 : decode yB 35 = .ok (.ireturn, 1) := by decide +kernel
def site : List Cond := []
def tab : Cond := tabOf yN yB 3 (some .boolean) site
def P (a : Addr) (A : Cell) (b : Addr) (B : Cell) (args : Array Value) (s : State) : Prop := args = #[.ref a, .ref b] ∧ XT.Arr .byte a A s ∧ Typed .byte A ∧ XT.Arr .byte b B s ∧ Typed .byte B
/-- whether two byte[] are equal, place for place -/
theorem law (l : Launch) (a : Addr) (A : Cell) (b : Addr) (B : Cell) : Law l yN 2 2 0 0 yB 3 (some .boolean) site (P a A b B) (Says01 (EqC A B)) [] 0 0 := by
  refine Law.of_walk (plainFor_of_name (by decide +kernel)) (by decide +kernel) (by decide +kernel) (by decide) (fun _ _ h => by rw [h.1]; rfl) (fun _ U U' hal hh h => ⟨h.1, h.2.1.mv hal hh, h.2.2.1, h.2.2.2.1.mv hal hh, h.2.2.2.2⟩) (fun r U U' V V' h1 hal h2 h => Says01.mv r U U' V V' h1 hal h2 h) ?_
  intro p e s m args below meth c s₁ X0 hexec hbytes hml hret hlk hnm hown hh0 W hP
  obtain ⟨rfl, hA, tA, hB, tB⟩ := hP
  have a31 := hA.2.2.2
  have b31 := hB.2.2.2
  have hA0 := hA.mv X0.warmed.alike hh0
  have hB0 := hB.mv X0.warmed.alike hh0
  have c1 : Steps p.tables e below (s₁.setTop (entryFrame m #[.ref a, .ref b] 3)) (s₁.setTop (mkF m 0 #[.val (.ref a), .val (.ref b), .unset] [])) := entry rfl
  have c2 : Steps p.tables e below (s₁.setTop (entryFrame m #[.ref a, .ref b] 3)) (s₁.setTop (mkF m 4 #[.val (.ref a), .val (.ref b), .unset] [.int (Int32.ofNat B.slots.size), .int (Int32.ofNat A.slots.size)])) := c1.trans (by
    refine XS.aloadN X0.here hexec rfl (hb hbytes d0) rfl rfl ?_
    refine X0.alen hexec hA0 rfl rfl (hb hbytes d1) ?_
    refine XS.aloadN X0.here hexec rfl (hb hbytes d2) rfl rfl ?_
    refine X0.alen hexec hB0 rfl rfl (hb hbytes d3) ?_
    exact Steps.refl _)
  by_cases hs : A.slots.size = B.slots.size
  · have c3 : Steps p.tables e below (s₁.setTop (entryFrame m #[.ref a, .ref b] 3)) (s₁.setTop (mkF m 9 #[.val (.ref a), .val (.ref b), .val (.int 0)] [])) := c2.trans (by
      refine XS.icmpNo X0.here hexec rfl (hb hbytes d4) rfl (ii_ne_f (by rw [hs])) ?_
      refine iconstV X0.here hexec rfl 0 (hb hbytes d7) (by decide) ?_
      refine XS.istoreN X0.here hexec rfl (hb hbytes d8) rfl rfl ?_
      exact Steps.refl _)
    have loop : ∀ (r i : Nat), i + r = A.slots.size → (∀ j, j < i → yv A j = yv B j) → Steps p.tables e below (s₁.setTop (entryFrame m #[.ref a, .ref b] 3)) (s₁.setTop (mkF m 9 #[.val (.ref a), .val (.ref b), .val (.int (Int32.ofNat i))] [])) → ∃ (pc : Nat) (Ls : Array Slot) (v : Int32), (pc = 25 ∨ pc = 33) ∧ ((v = 1 ∧ EqC A B) ∨ (v = 0 ∧ ¬ EqC A B)) ∧ Steps p.tables e below (s₁.setTop (entryFrame m #[.ref a, .ref b] 3)) (s₁.setTop (mkF m pc Ls [.int v])) := by
      intro r
      induction r with
      | zero =>
        intro i hi he cl
        exact ⟨33, _, 1, Or.inr rfl, Or.inl ⟨rfl, hs, fun j hj => he j (by omega)⟩, cl.trans (by
          refine XS.iloadN X0.here hexec rfl (hb hbytes d9) rfl ?_
          refine XS.aloadN X0.here hexec rfl (hb hbytes d10) rfl rfl ?_
          refine X0.alen hexec hA0 rfl rfl (hb hbytes d11) ?_
          refine XS.icmpYes X0.here hexec rfl (pc0 := 12) rfl (hb hbytes d12) rfl (ii_ge_t (nlt32 (by omega) (by omega))) (by decide) rfl ?_
          refine iconstV X0.here hexec rfl 1 (hb hbytes d32) (by decide) ?_
          exact Steps.refl _)⟩
      | succ r ih =>
        intro i hi he cl
        have c4 : Steps p.tables e below (s₁.setTop (entryFrame m #[.ref a, .ref b] 3)) (s₁.setTop (mkF m 21 #[.val (.ref a), .val (.ref b), .val (.int (Int32.ofNat i))] [.int (yv B i), .int (yv A i)])) := cl.trans (by
          refine XS.iloadN X0.here hexec rfl (hb hbytes d9) rfl ?_
          refine XS.aloadN X0.here hexec rfl (hb hbytes d10) rfl rfl ?_
          refine X0.alen hexec hA0 rfl rfl (hb hbytes d11) ?_
          refine XS.icmpNo X0.here hexec rfl (hb hbytes d12) rfl (ii_ge_f (lt32 (by omega) (by omega))) ?_
          refine XS.aloadN X0.here hexec rfl (hb hbytes d15) rfl rfl ?_
          refine XS.iloadN X0.here hexec rfl (hb hbytes d16) rfl ?_
          refine X0.aget hexec hA0 rfl (yv_get hA tA (i := i) (by omega)) rfl rfl (hb hbytes d17) ?_
          refine XS.aloadN X0.here hexec rfl (hb hbytes d18) rfl rfl ?_
          refine XS.iloadN X0.here hexec rfl (hb hbytes d19) rfl ?_
          refine X0.aget hexec hB0 rfl (yv_get hB tB (i := i) (by omega)) rfl rfl (hb hbytes d20) ?_
          exact Steps.refl _)
        by_cases hv : yv A i = yv B i
        · have c5 : Steps p.tables e below (s₁.setTop (entryFrame m #[.ref a, .ref b] 3)) (s₁.setTop (mkF m 9 #[.val (.ref a), .val (.ref b), .val (.int (Int32.ofNat i + 1))] [])) := c4.trans (by
            refine XS.icmpYes X0.here hexec rfl (pc0 := 21) rfl (hb hbytes d21) rfl (ii_eq_t hv) (by decide) rfl ?_
            refine iincV X0.here hexec rfl 1 (hb hbytes d26) (by decide) rfl rfl ?_
            refine XS.goto X0.here hexec rfl (pc0 := 29) rfl (hb hbytes d29) (by decide) rfl ?_
            exact Steps.refl _)
          rw [succ32] at c5
          exact ih (i + 1) (by omega) (fun j hj => by
            by_cases e : j = i
            · rw [e]; exact hv
            · exact he j (by omega)) c5
        · exact ⟨25, _, 0, Or.inl rfl, Or.inr ⟨rfl, fun q => hv (q.2 i (by omega))⟩, c4.trans (by
            refine XS.icmpNo X0.here hexec rfl (hb hbytes d21) rfl (ii_eq_f hv) ?_
            refine iconstV X0.here hexec rfl 0 (hb hbytes d24) (by decide) ?_
            exact Steps.refl _)⟩
    obtain ⟨pc, Ls, v, hpc, hv, cz⟩ := loop A.slots.size 0 (by omega) (fun j hj => absurd hj (Nat.not_lt_zero j)) c3
    have nv : narrow .boolean (.int v) = .int v := by rcases hv with ⟨rfl, -⟩ | ⟨rfl, -⟩ <;> rfl
    rcases hpc with rfl | rfl
    · exact ⟨s₁, some (.int v), _, _, _, X0, rfl, rfl, rfl, (fun h => by cases h), ⟨v, rfl, hh0, hv⟩, fun fs hl => cz.trans (X0.ireturnOut hexec hret nv (Or.inr (Or.inl rfl)) (hb hbytes d25) hl)⟩
    · exact ⟨s₁, some (.int v), _, _, _, X0, rfl, rfl, rfl, (fun h => by cases h), ⟨v, rfl, hh0, hv⟩, fun fs hl => cz.trans (X0.ireturnOut hexec hret nv (Or.inr (Or.inl rfl)) (hb hbytes d33) hl)⟩
  · have c3 : Steps p.tables e below (s₁.setTop (entryFrame m #[.ref a, .ref b] 3)) (s₁.setTop (mkF m 35 #[.val (.ref a), .val (.ref b), .unset] [.int 0])) := c2.trans (by
      refine XS.icmpYes X0.here hexec rfl (pc0 := 4) rfl (hb hbytes d4) rfl (ii_ne_t (ne32 a31 b31 hs)) (by decide) rfl ?_
      refine iconstV X0.here hexec rfl 0 (hb hbytes d34) (by decide) ?_
      exact Steps.refl _)
    exact ⟨s₁, some (.int 0), _, _, _, X0, rfl, rfl, rfl, (fun h => by cases h), ⟨0, rfl, hh0, Or.inr ⟨rfl, fun q => hs q.1⟩⟩, fun fs hl => c3.trans (X0.ireturnOut hexec hret rfl (Or.inr (Or.inl rfl)) (hb hbytes d35) hl)⟩
end LEq
theorem Cod.ty {cd : Int32} {n : Nat} {f : Nat → Int32} {V : Cell} (h : Cod cd n f V) : Typed .byte V := fun i v hv => by
  have hi : i < V.slots.size := (Array.getElem?_eq_some_iff.mp hv).1
  rcases h with ⟨-, k1, k2⟩ | ⟨-, k1, k2, -⟩
  · rw [(k2 i (by omega)).1] at hv; cases hv; exact fits_lo8 _
  · rcases Nat.mod_two_eq_zero_or_one i with e | e
    · obtain ⟨j, rfl⟩ : ∃ j, i = 2 * j := ⟨i / 2, by omega⟩
      rw [(k2 j (by omega)).1] at hv; cases hv; exact fits_lo8 _
    · obtain ⟨j, rfl⟩ : ∃ j, i = 2 * j + 1 := ⟨i / 2, by omega⟩
      rw [(k2 j (by omega)).2] at hv; cases hv; exact fits_lo8 _
/-- the same text -/
def SameT (n : Nat) (f : Nat → Int32) (k : Nat) (g : Nat → Int32) : Prop := n = k ∧ ∀ j, j < n → f j = g j
theorem lo8_inj {x y : Int32} (h0 : ¬ x < 0) (h1 : ¬ 255 < x) (k0 : ¬ y < 0) (k1 : ¬ 255 < y) (h : lo8 x = lo8 y) : x = y := by
  rw [← lo8_mask h0 h1, ← lo8_mask k0 k1, h]
/-- arrays coded by one coder are equal just where the texts are -/
theorem Cod.eqv {cd : Int32} {n k : Nat} {f g : Nat → Int32} {V V' : Cell} (h : Cod cd n f V) (h' : Cod cd k g V') (hf : ∀ j, j < n → ¬ f j < 0 ∧ ¬ 65535 < f j) (hg : ∀ j, j < k → ¬ g j < 0 ∧ ¬ 65535 < g j) : EqC V V' ↔ SameT n f k g := by
  have yvv : ∀ {W : Cell} {i : Nat} {x : Int32}, W.slots[i]? = some (.int x) → yv W i = x := fun q => by unfold yv; rw [q]
  rcases h with ⟨rfl, k1, k2⟩ | ⟨rfl, k1, k2, -⟩
  · rcases h' with ⟨-, m1, m2⟩ | ⟨e, -⟩
    · constructor
      · rintro ⟨e1, e2⟩
        refine ⟨by omega, fun j hj => ?_⟩
        have q := e2 j (by omega)
        rw [yvv (k2 j hj).1, yvv (m2 j (by omega)).1] at q
        exact lo8_inj (hf j hj).1 (k2 j hj).2 (hg j (by omega)).1 (m2 j (by omega)).2 q
      · rintro ⟨rfl, e2⟩
        refine ⟨by omega, fun j hj => ?_⟩
        rw [yvv (k2 j (by omega)).1, yvv (m2 j (by omega)).1, e2 j (by omega)]
    · exact absurd e (by decide)
  · rcases h' with ⟨e, -⟩ | ⟨-, m1, m2, -⟩
    · exact absurd e (by decide)
    · constructor
      · rintro ⟨e1, e2⟩
        refine ⟨by omega, fun j hj => ?_⟩
        have q1 := e2 (2 * j) (by omega)
        have q2 := e2 (2 * j + 1) (by omega)
        rw [yvv (k2 j hj).1, yvv (m2 j (by omega)).1] at q1
        rw [yvv (k2 j hj).2, yvv (m2 j (by omega)).2] at q2
        rw [← pair_says (hf j hj).1 (hf j hj).2, ← pair_says (hg j (by omega)).1 (hg j (by omega)).2, q1, q2]
      · rintro ⟨rfl, e2⟩
        refine ⟨by omega, fun i hi => ?_⟩
        rcases Nat.mod_two_eq_zero_or_one i with e | e
        · obtain ⟨j, rfl⟩ : ∃ j, i = 2 * j := ⟨i / 2, by omega⟩
          rw [yvv (k2 j (by omega)).1, yvv (m2 j (by omega)).1, e2 j (by omega)]
        · obtain ⟨j, rfl⟩ : ∃ j, i = 2 * j + 1 := ⟨i / 2, by omega⟩
          rw [yvv (k2 j (by omega)).2, yvv (m2 j (by omega)).2, e2 j (by omega)]
/-- two codings differ: so do the texts -/
theorem Cod.dif {cd cd' : Int32} {n k : Nat} {f g : Nat → Int32} {V V' : Cell} (h : Cod cd n f V) (h' : Cod cd' k g V') (hne : ¬ cd = cd') : ¬ SameT n f k g := by
  rintro ⟨rfl, e⟩
  rcases h with ⟨rfl, -, k2⟩ | ⟨rfl, -, -, j, hj, hw⟩
  · rcases h' with ⟨rfl, -⟩ | ⟨-, -, -, j, hj, hw⟩
    · exact hne rfl
    · exact (k2 j hj).2 (by rw [e j hj]; exact hw)
  · rcases h' with ⟨-, -, m2⟩ | ⟨rfl, -⟩
    · exact (m2 j hj).2 (by rw [← e j hj]; exact hw)
    · exact hne rfl
/-- an object of exactly C is an instance of C -/
theorem cinst {p : Program} {l : Launch} {e : Env} {R : Room} {s : State} {m : MethodId} {args : Array Value} {below : List Frame} {meth : Method} {c : Code} {T : State} {locs : List Loc} {cells slots : Nat} (X : Stand p l e R s m args below meth c T locs cells slots) (hexec : p.tables.exec = Jvm.exec) {own C : String} {index : Nat} (hown : s.vm.findClass own = some m.cls) (hlink : (Cond.classLink own index C).before args s = true) {a : Addr} (hE : Exact C a T)
    {g : JFrame} (hg : g.method = m) {rest : List Value} (hstack : g.stack = .ref a :: rest) (hdg : decode c.code g.pc = .ok (.instanceof index, 3)) :
    ∃ T', Stand p l e R s m args below meth c T' locs cells slots ∧ T'.heap = T.heap ∧ ∀ target, Steps p.tables e below (T'.setTop { g with pc := g.pc + 3, stack := .int 1 :: rest }) target → Steps p.tables e below (T.setTop g) target := by
  obtain ⟨cB, h1, D, h2, h3, h4⟩ := hE
  have h1' : s.vm.findClass C = some cB := by rw [← X.warmed.alike.findClass]; exact h1
  obtain ⟨vm', X', st⟩ := X.instanceofYes hexec hown hlink h2 h4 h1' (by rw [h3]; exact Jvm.Free.SB.assignable_self _ _) hg hstack hdg
  exact ⟨_, X', rfl, st⟩
theorem cself {p : Program} {l : Launch} {e : Env} {R : Room} {s : State} {m : MethodId} {args : Array Value} {below : List Frame} {meth : Method} {c : Code} {T : State} {locs : List Loc} {cells slots : Nat} (X : Stand p l e R s m args below meth c T locs cells slots) (hexec : p.tables.exec = Jvm.exec) {own C : String} {index : Nat} (hown : s.vm.findClass own = some m.cls) (hlink : (Cond.classLink own index C).before args s = true) {a : Addr} (hE : Exact C a T)
    {g : JFrame} (hg : g.method = m) {rest : List Value} (hstack : g.stack = .ref a :: rest) (hdg : decode c.code g.pc = .ok (.checkcast index, 3)) :
    ∃ T', Stand p l e R s m args below meth c T' locs cells slots ∧ T'.heap = T.heap ∧ ∀ target, Steps p.tables e below (T'.setTop { g with pc := g.pc + 3, stack := .ref a :: rest }) target → Steps p.tables e below (T.setTop g) target := by
  obtain ⟨cB, h1, D, h2, h3, h4⟩ := hE
  have h1' : s.vm.findClass C = some cB := by rw [← X.warmed.alike.findClass]; exact h1
  obtain ⟨vm', X', st⟩ := X.checkcastYes hexec hown hlink h2 h4 h1' (by rw [h3]; exact Jvm.Free.SB.assignable_self _ _) hg hstack hdg
  exact ⟨_, X', rfl, fun t h => st t (by rw [← hstack] at h; exact h)⟩
namespace SEq
def yN : MethodName := ⟨"java/lang/String", "equals", "(Ljava/lang/Object;)Z"⟩
abbrev yB : ByteArray := jdk_42_method_66_code
theorem d0 : decode yB 0 = .ok (.aload_n 0, 1) := by decide +kernel
theorem d1 : decode yB 1 = .ok (.aload_n 1, 1) := by decide +kernel
theorem d2 : decode yB 2 = .ok (.if_acmp (.ne) 5, 3) := by decide +kernel
theorem d5 : decode yB 5 = .ok (.iconst 1, 1) := by decide +kernel
theorem d6 : decode yB 6 = .ok (.ireturn, 1) := by decide +kernel
theorem d7 : decode yB 7 = .ok (.aload_n 1, 1) := by decide +kernel
theorem d8 : decode yB 8 = .ok (.instanceof 10, 3) := by decide +kernel
theorem d11 : decode yB 11 = .ok (.ifCond (.eq) 43, 3) := by decide +kernel
theorem d14 : decode yB 14 = .ok (.aload_n 1, 1) := by decide +kernel
theorem d15 : decode yB 15 = .ok (.checkcast 10, 3) := by decide +kernel
theorem d18 : decode yB 18 = .ok (.astore_n 2, 1) := by decide +kernel
theorem d19 : decode yB 19 = .ok (.getstatic 38, 3) := by decide +kernel
theorem d22 : decode yB 22 = .ok (.ifCond (.eq) 14, 3) := by decide +kernel
theorem d25 : decode yB 25 = .ok (.aload_n 0, 1) := by decide +kernel
theorem d26 : decode yB 26 = .ok (.getfield 15, 3) := by decide +kernel
theorem d29 : decode yB 29 = .ok (.aload_n 2, 1) := by decide +kernel
theorem d30 : decode yB 30 = .ok (.getfield 15, 3) := by decide +kernel
theorem d33 : decode yB 33 = .ok (.if_icmp (.ne) 21, 3) := by decide +kernel
theorem d36 : decode yB 36 = .ok (.aload_n 0, 1) := by decide +kernel
theorem d37 : decode yB 37 = .ok (.getfield 9, 3) := by decide +kernel
theorem d40 : decode yB 40 = .ok (.aload_n 2, 1) := by decide +kernel
theorem d41 : decode yB 41 = .ok (.getfield 9, 3) := by decide +kernel
theorem d44 : decode yB 44 = .ok (.invokestatic 541, 3) := by decide +kernel
theorem d47 : decode yB 47 = .ok (.ifCond (.eq) 7, 3) := by decide +kernel
theorem d50 : decode yB 50 = .ok (.iconst 1, 1) := by decide +kernel
theorem d51 : decode yB 51 = .ok (.goto 4, 3) := by decide +kernel
theorem d54 : decode yB 54 = .ok (.iconst 0, 1) := by decide +kernel
theorem d55 : decode yB 55 = .ok (.ireturn, 1) := by decide +kernel
def site : List Cond := [.classLink "java/lang/String" 10 "java/lang/String", .fieldLink "java/lang/String" 38 "java/lang/String" "COMPACT_STRINGS" "Z", .fieldLink "java/lang/String" 15 "java/lang/String" "coder" "B", .fieldLink "java/lang/String" 9 "java/lang/String" "value" "[B", LEq.tab] ++ staticW "java/lang/String" 541 LEq.yN
def tab : Cond := tabOf yN yB 3 (some .boolean) site
def P (x t : Addr) (V : Cell) (cd : Int32) (n : Nat) (f : Nat → Int32) (y t' : Addr) (V' : Cell) (cd' : Int32) (k : Nat) (g : Nat → Int32) (z : Int32) (args : Array Value) (s : State) : Prop := args = #[.ref x, .ref y] ∧ Txt x t V cd n f s ∧ Txt y t' V' cd' k g s ∧ StaticIs s "java/lang/String" "COMPACT_STRINGS" "Z" (.int z) ∧ ¬ z = 0
/-- equals(Object) of two Strings: whether the texts are the same -/
theorem law (l : Launch) (x t : Addr) (V : Cell) (cd : Int32) (n : Nat) (f : Nat → Int32) (y t' : Addr) (V' : Cell) (cd' : Int32) (k : Nat) (g : Nat → Int32) (z : Int32) : Law l yN 2 1 1 14 yB 3 (some .boolean) site (P x t V cd n f y t' V' cd' k g z) (Says01 (SameT n f k g)) [] 0 0 := by
  refine Law.of_walk (plainFor_of_name (by decide +kernel)) (by decide +kernel) (by decide +kernel) (by decide) (fun _ _ h => by rw [h.1]; rfl) (fun _ U U' hal hh h => ⟨h.1, h.2.1.mv hal hh, h.2.2.1.mv hal hh, h.2.2.2.1.there hal hh, h.2.2.2.2⟩) (fun r U U' V V' h1 hal h2 h => Says01.mv r U U' V V' h1 hal h2 h) ?_
  intro p e s m args below meth c s₁ X0 hexec hbytes hml hret hlk hnm hown hh0 W hP
  obtain ⟨rfl, hx, hy, s1, hz⟩ := hP
  have c1 : Steps p.tables e below (s₁.setTop (entryFrame m #[.ref x, .ref y] 3)) (s₁.setTop (mkF m 2 #[.val (.ref x), .val (.ref y), .unset] [.ref y, .ref x])) := Steps.trans (entry rfl) (by
    show Steps p.tables e below (s₁.setTop (mkF m 0 #[.val (.ref x), .val (.ref y), .unset] [])) _
    refine XS.aloadN X0.here hexec rfl (hb hbytes d0) rfl rfl ?_
    refine XS.aloadN X0.here hexec rfl (hb hbytes d1) rfl rfl ?_
    exact Steps.refl _)
  by_cases hxy : x = y
  · have c2 : Steps p.tables e below (s₁.setTop (entryFrame m #[.ref x, .ref y] 3)) (s₁.setTop (mkF m 6 #[.val (.ref x), .val (.ref y), .unset] [.int 1])) := c1.trans (by
      refine acmpNo X0.here hexec rfl (hb hbytes d2) rfl rfl rfl (by simp [acmp, hxy]) ?_
      refine iconstV X0.here hexec rfl 1 (hb hbytes d5) (by decide) ?_
      exact Steps.refl _)
    subst hxy
    have ec : cd = cd' := by
      obtain ⟨D, fd, a1, a2, a3⟩ := hx.2.2.1
      obtain ⟨D', fd', b1, b2, b3⟩ := hy.2.2.1
      cases a1.symm.trans b1
      obtain ⟨q1, q2, q3, q4⟩ := a2.1
      obtain ⟨r1, r2, r3, r4⟩ := b2.1
      cases q4.symm.trans r4
      cases a3.symm.trans b3; rfl
    have et : t = t' := by
      obtain ⟨D, fd, a1, a2, a3⟩ := hx.2.1
      obtain ⟨D', fd', b1, b2, b3⟩ := hy.2.1
      cases a1.symm.trans b1
      obtain ⟨q1, q2, q3, q4⟩ := a2.1
      obtain ⟨r1, r2, r3, r4⟩ := b2.1
      cases q4.symm.trans r4
      cases a3.symm.trans b3; rfl
    subst ec et
    have ev : V = V' := by cases hx.2.2.2.1.1.symm.trans hy.2.2.2.1.1; rfl
    subst ev
    have hs : SameT n f k g := (Cod.eqv hx.2.2.2.2.1 hy.2.2.2.2.1 hx.2.2.2.2.2 hy.2.2.2.2.2).mp ⟨rfl, fun _ _ => rfl⟩
    exact ⟨s₁, some (.int 1), _, _, _, X0, rfl, rfl, rfl, (fun h => by cases h), ⟨1, rfl, hh0, Or.inl ⟨rfl, hs⟩⟩, fun fs hl => c2.trans (X0.ireturnOut hexec hret rfl (Or.inr (Or.inl rfl)) (hb hbytes d6) hl)⟩
  · have c2 : Steps p.tables e below (s₁.setTop (entryFrame m #[.ref x, .ref y] 3)) (s₁.setTop (mkF m 8 #[.val (.ref x), .val (.ref y), .unset] [.ref y])) := c1.trans (by
      refine acmpYes X0.here hexec rfl (pc0 := 2) rfl (hb hbytes d2) rfl rfl rfl (by simp [acmp, hxy]) (by decide) rfl ?_
      refine XS.aloadN X0.here hexec rfl (hb hbytes d7) rfl rfl ?_
      exact Steps.refl _)
    obtain ⟨T3, X3, q3, st3⟩ := cinst X0 hexec hown (wk W (.classLink "java/lang/String" 10 "java/lang/String")) (hy.mv X0.warmed.alike hh0).1 (g := (mkF m 8 #[.val (.ref x), .val (.ref y), .unset] [.ref y])) rfl (rest := []) rfl (hb hbytes d8)
    have hh3 := q3.trans hh0
    have c4 : Steps p.tables e below (s₁.setTop (entryFrame m #[.ref x, .ref y] 3)) (T3.setTop (mkF m 15 #[.val (.ref x), .val (.ref y), .unset] [.ref y])) := (c2.trans (st3 _ (Steps.refl _))).trans (by
      refine XS.ifNo X3.here hexec rfl (hb hbytes d11) rfl (i0_eq_f (by decide)) ?_
      refine XS.aloadN X3.here hexec rfl (hb hbytes d14) rfl rfl ?_
      exact Steps.refl _)
    obtain ⟨T5, X5, q5, st5⟩ := cself X3 hexec hown (wk W (.classLink "java/lang/String" 10 "java/lang/String")) (hy.mv X3.warmed.alike hh3).1 (g := (mkF m 15 #[.val (.ref x), .val (.ref y), .unset] [.ref y])) rfl (rest := []) rfl (hb hbytes d15)
    have hh5 := q5.trans hh3
    have c6 : Steps p.tables e below (s₁.setTop (entryFrame m #[.ref x, .ref y] 3)) (T5.setTop (mkF m 19 #[.val (.ref x), .val (.ref y), .val (.ref y)] [])) := (c4.trans (st5 _ (Steps.refl _))).trans (by
      refine XS.astoreN X5.here hexec rfl (hb hbytes d18) rfl rfl rfl ?_
      exact Steps.refl _)
    obtain ⟨T7, X7, q7, st7⟩ := X5.sget hexec hown (wk W (.fieldLink "java/lang/String" 38 "java/lang/String" "COMPACT_STRINGS" "Z")) s1 (fun _ _ h => by rw [hh5]; exact h) (g := (mkF m 19 #[.val (.ref x), .val (.ref y), .val (.ref y)] [])) rfl (hb hbytes d19)
    have hh7 := q7.trans hh5
    have c8 : Steps p.tables e below (s₁.setTop (entryFrame m #[.ref x, .ref y] 3)) (T7.setTop (mkF m 26 #[.val (.ref x), .val (.ref y), .val (.ref y)] [.ref x])) := (c6.trans (st7 _ (Steps.refl _))).trans (by
      refine XS.ifNo X7.here hexec rfl (hb hbytes d22) rfl (i0_eq_f hz) ?_
      refine XS.aloadN X7.here hexec rfl (hb hbytes d25) rfl rfl ?_
      exact Steps.refl _)
    obtain ⟨T9, X9, q9, st9⟩ := X7.hget hexec hown (wk W (.fieldLink "java/lang/String" 15 "java/lang/String" "coder" "B")) (hx.mv X7.warmed.alike hh7).2.2.1 (g := (mkF m 26 #[.val (.ref x), .val (.ref y), .val (.ref y)] [.ref x])) rfl (rest := []) rfl (hb hbytes d26)
    have hh9 := q9.trans hh7
    have c10 : Steps p.tables e below (s₁.setTop (entryFrame m #[.ref x, .ref y] 3)) (T9.setTop (mkF m 30 #[.val (.ref x), .val (.ref y), .val (.ref y)] [.ref y, .int cd])) := (c8.trans (st9 _ (Steps.refl _))).trans (by
      refine XS.aloadN X9.here hexec rfl (hb hbytes d29) rfl rfl ?_
      exact Steps.refl _)
    obtain ⟨T11, X11, q11, st11⟩ := X9.hget hexec hown (wk W (.fieldLink "java/lang/String" 15 "java/lang/String" "coder" "B")) (hy.mv X9.warmed.alike hh9).2.2.1 (g := (mkF m 30 #[.val (.ref x), .val (.ref y), .val (.ref y)] [.ref y, .int cd])) rfl (rest := [.int cd]) rfl (hb hbytes d30)
    have hh11 := q11.trans hh9
    have c12 : Steps p.tables e below (s₁.setTop (entryFrame m #[.ref x, .ref y] 3)) (T11.setTop (mkF m 33 #[.val (.ref x), .val (.ref y), .val (.ref y)] [.int cd', .int cd])) := c10.trans (st11 _ (Steps.refl _))
    by_cases hcd : cd = cd'
    · subst hcd
      have c13 : Steps p.tables e below (s₁.setTop (entryFrame m #[.ref x, .ref y] 3)) (T11.setTop (mkF m 37 #[.val (.ref x), .val (.ref y), .val (.ref y)] [.ref x])) := c12.trans (by
        refine XS.icmpNo X11.here hexec rfl (hb hbytes d33) rfl (ii_ne_f rfl) ?_
        refine XS.aloadN X11.here hexec rfl (hb hbytes d36) rfl rfl ?_
        exact Steps.refl _)
      obtain ⟨T14, X14, q14, st14⟩ := X11.hget hexec hown (wk W (.fieldLink "java/lang/String" 9 "java/lang/String" "value" "[B")) (hx.mv X11.warmed.alike hh11).2.1 (g := (mkF m 37 #[.val (.ref x), .val (.ref y), .val (.ref y)] [.ref x])) rfl (rest := []) rfl (hb hbytes d37)
      have hh14 := q14.trans hh11
      have c15 : Steps p.tables e below (s₁.setTop (entryFrame m #[.ref x, .ref y] 3)) (T14.setTop (mkF m 41 #[.val (.ref x), .val (.ref y), .val (.ref y)] [.ref y, .ref t])) := (c13.trans (st14 _ (Steps.refl _))).trans (by
        refine XS.aloadN X14.here hexec rfl (hb hbytes d40) rfl rfl ?_
        exact Steps.refl _)
      obtain ⟨T16, X16, q16, st16⟩ := X14.hget hexec hown (wk W (.fieldLink "java/lang/String" 9 "java/lang/String" "value" "[B")) (hy.mv X14.warmed.alike hh14).2.1 (g := (mkF m 41 #[.val (.ref x), .val (.ref y), .val (.ref y)] [.ref y, .ref t])) rfl (rest := [.ref t]) rfl (hb hbytes d41)
      have hh16 := q16.trans hh14
      have c17 : Steps p.tables e below (s₁.setTop (entryFrame m #[.ref x, .ref y] 3)) (T16.setTop (mkF m 44 #[.val (.ref x), .val (.ref y), .val (.ref y)] [.ref t', .ref t])) := c15.trans (st16 _ (Steps.refl _))
      obtain ⟨v18, T18, X18, E18, g18⟩ := X16.callS hexec (LEq.law l t V t' V') hown (wks W (staticW "java/lang/String" 541 LEq.yN)) (wk W LEq.tab) (W := 0) (Nat.le_of_ble_eq_true rfl) (Nat.le_of_ble_eq_true rfl) (Nat.le_refl _) (Nat.le_refl _) (g := (mkF m 44 #[.val (.ref x), .val (.ref y), .val (.ref y)] [.ref t', .ref t])) rfl (by rw [hml]; rfl) c17 (argsL := [.ref t, .ref t']) (rest := []) rfl rfl (by show 2 * 0 + 0 ≤ _; decide) (hb hbytes d44) (⟨rfl, hx.2.2.2.1.mv X16.warmed.alike hh16, hx.2.2.2.2.1.ty, hy.2.2.2.1.mv X16.warmed.alike hh16, hy.2.2.2.2.1.ty⟩)
      obtain ⟨v, rfl, q18, hv⟩ := E18
      have iff := Cod.eqv hx.2.2.2.2.1 hy.2.2.2.2.1 hx.2.2.2.2.2 hy.2.2.2.2.2
      rcases hv with ⟨rfl, he⟩ | ⟨rfl, he⟩
      · have c19 : Steps p.tables e below (s₁.setTop (entryFrame m #[.ref x, .ref y] 3)) (T18.setTop (mkF m 55 #[.val (.ref x), .val (.ref y), .val (.ref y)] [.int 1])) := Steps.trans g18 (by
          refine XS.ifNo X18.here hexec rfl (hb hbytes d47) rfl (i0_eq_f (by decide)) ?_
          refine iconstV X18.here hexec rfl 1 (hb hbytes d50) (by decide) ?_
          refine XS.goto X18.here hexec rfl (pc0 := 51) rfl (hb hbytes d51) (by decide) rfl ?_
          exact Steps.refl _)
        exact ⟨T18, some (.int 1), _, _, _, X18, rfl, rfl, rfl, (fun h => by cases h), ⟨1, rfl, q18.trans hh16, Or.inl ⟨rfl, iff.mp he⟩⟩, fun fs hl => c19.trans (X18.ireturnOut hexec hret rfl (Or.inr (Or.inl rfl)) (hb hbytes d55) hl)⟩
      · have c19 : Steps p.tables e below (s₁.setTop (entryFrame m #[.ref x, .ref y] 3)) (T18.setTop (mkF m 55 #[.val (.ref x), .val (.ref y), .val (.ref y)] [.int 0])) := Steps.trans g18 (by
          refine XS.ifYes X18.here hexec rfl (pc0 := 47) rfl (hb hbytes d47) rfl (i0_eq_t rfl) (by decide) rfl ?_
          refine iconstV X18.here hexec rfl 0 (hb hbytes d54) (by decide) ?_
          exact Steps.refl _)
        exact ⟨T18, some (.int 0), _, _, _, X18, rfl, rfl, rfl, (fun h => by cases h), ⟨0, rfl, q18.trans hh16, Or.inr ⟨rfl, fun q => he (iff.mpr q)⟩⟩, fun fs hl => c19.trans (X18.ireturnOut hexec hret rfl (Or.inr (Or.inl rfl)) (hb hbytes d55) hl)⟩
    · have c13 : Steps p.tables e below (s₁.setTop (entryFrame m #[.ref x, .ref y] 3)) (T11.setTop (mkF m 55 #[.val (.ref x), .val (.ref y), .val (.ref y)] [.int 0])) := c12.trans (by
        refine XS.icmpYes X11.here hexec rfl (pc0 := 33) rfl (hb hbytes d33) rfl (ii_ne_t hcd) (by decide) rfl ?_
        refine iconstV X11.here hexec rfl 0 (hb hbytes d54) (by decide) ?_
        exact Steps.refl _)
      exact ⟨T11, some (.int 0), _, _, _, X11, rfl, rfl, rfl, (fun h => by cases h), ⟨0, rfl, hh11, Or.inr ⟨rfl, Cod.dif hx.2.2.2.2.1 hy.2.2.2.2.1 hcd⟩⟩, fun fs hl => c13.trans (X11.ireturnOut hexec hret rfl (Or.inr (Or.inl rfl)) (hb hbytes d55) hl)⟩
theorem pays {l : Launch} {R : Room} {p : Program} {e : Env} {below : List Frame} {s : State} {sargs : Array Value} {len W : Nat} (x t : Addr) (V : Cell) (cd : Int32) (n : Nat) (f : Nat → Int32) (y t' : Addr) (V' : Cell) (cd' : Int32) (k : Nat) (g : Nat → Int32) (z : Int32) (htab : tab.before sargs s = true) (hfr : 2 ≤ R.frames) (hlo : W + 28 ≤ R.locals) :
    Back l R p e below s sargs yN len W (fun A₁ a₁ => A₁.cells + 0 ≤ R.cells ∧ A₁.slots + 0 ≤ R.slots ∧ P x t V cd n f y t' V' cd' k g z a₁ A₁.U) (fun A₁ _ v₁ B₁ => Says01 (SameT n f k g) v₁ A₁.U B₁.U ∧ B₁.locs = A₁.locs ++ [] ∧ B₁.cells = A₁.cells + 0 ∧ B₁.slots = A₁.slots + 0) :=
  (law l x t V cd n f y t' V' cd' k g z).pays htab hfr (by omega)
end SEq
end StrChars
namespace StrChars.Road
open Jvm Sem ClassFile Op Lib Jvm.Stand Jvm.Free Jvm.Free.XT
open Jvm.Lib.Cold (StaticIs)
/-- the words of String.equals(Object) -/
abbrev wordsEq : List Jvm.Cond := [.code SEq.yN SEq.yB 3 (some .boolean), .initialized ST, .classLink ST 10 ST, .fieldLink ST 38 ST "COMPACT_STRINGS" "Z", .fieldLink ST 15 ST "coder" "B", .fieldLink ST 9 ST "value" "[B", .methodLink ST 541 LEq.yN, .static LEq.yN, .code LEq.yN LEq.yB 3 (some .boolean), .initialized "java/lang/StringLatin1"]
theorem tabEq_of {a : Array Value} {s : State} (h : ∀ w ∈ wordsEq, w.before a s = true) : SEq.tab.before a s = true := by
  have hl : LEq.tab.before a s = true := unparts (wk h (.code LEq.yN LEq.yB 3 (some .boolean))) (wks h (.initialized LEq.yN.cls :: LEq.site))
  have q := consq hl h
  exact unparts (wk q (.code SEq.yN SEq.yB 3 (some .boolean))) (wks q (.initialized SEq.yN.cls :: SEq.site))
theorem movedEq {Z s : State} {a0 args : Array Value} (hZ : Z.Warmed39 s.vm) (hw : ∀ d ∈ wordsEq, d.before a0 Z = true) : ∀ d ∈ wordsEq, d.before args s = true := fun d hd => by
  have t : ∀ d ∈ wordsEq, (d.onTables && d.keepsFace) = true := by decide +kernel
  exact RoadKit.mv hZ (hw d hd) (t d hd)
/-- the road's facts of a String, as the laws ask it -/
theorem txt_of {Z U : State} {a0 : Array Value} {kI : Nat} (wi : (Jvm.Cond.instantiable ST kI).before a0 Z = true) (al : Z.vm.Alike U.vm) {x t : Addr} {kb : ClassId} {cs : List Int32} {cd N2 : Int32} {vs : List Value} (E : RoadKit.Exa Z U.heap x ST) (V : RoadKit.Fld Z U.heap x ST "value" "[B" (.ref t)) (C : RoadKit.Fld Z U.heap x ST "coder" "B" (.int cd)) (K : RoadKit.Arv Z U.heap t kb .byte N2 vs (.int 0)) (hc : CodA cs cd N2 vs) (hb : ∀ c ∈ cs, ¬ c < 0 ∧ ¬ (65535 : Int32) < c) (l2 : cs.length ≤ 4000) :
    ∃ A, Txt x t A cd cs.length (fun j => cs.getD j 0) U := by
  obtain ⟨A, K1, K2, K3, K4, K5, K6⟩ := K
  have hcod := hc.cod (by omega) K3 K5
  obtain ⟨D, fV, fC, hB, F1, F2, g1, g2, -, -⟩ := strObj wi al E V C
  exact ⟨A, ⟨_, hB.2.2.1, D, hB.1, rfl, by cases q : D.vm <;> first | rfl | exact absurd q (hB.2.1.2 _)⟩, Has.of hB F1 g1, Has.of hB F2 g2, ⟨K1.1, State.isArrayOf_alike al K1.2.1, K1.2.2, by rcases hcod with ⟨-, q, -⟩ | ⟨-, q, -⟩ <;> omega⟩, hcod, fun j hj => by
    have e : cs.getD j 0 = cs[j] := by simp [List.getD_eq_getElem?_getD, hj]
    show ¬ cs.getD j 0 < 0 ∧ ¬ 65535 < cs.getD j 0
    rw [e]; exact hb _ (List.getElem_mem _)⟩
theorem same_list (cs ds : List Int32) : SameT cs.length (fun j => cs.getD j 0) ds.length (fun j => ds.getD j 0) ↔ cs = ds := by
  constructor
  · rintro ⟨e, q⟩
    refine List.ext_getElem e fun j h1 h2 => ?_
    have := q j h1
    simpa [List.getD_eq_getElem?_getD, h1, h2] using this
  · rintro rfl
    exact ⟨rfl, fun _ _ => rfl⟩
/-- **equals(Object) OF TWO SUCH STRINGS**: 1 just where the chars are the same -/
theorem eqW {p : Program} {l : Launch} {e : Env} {R : Room} {s : State} {args : Array Value} {below : List Frame} {len W : Nat} {Z : State} {a0 : Array Value} {h : Heap} (hZ : Z.Warmed39 s.vm) (hw : ∀ d ∈ wordsEq, d.before a0 Z = true) {kI : Nat} (wi : (Jvm.Cond.instantiable ST kI).before a0 Z = true)
    {x t : Addr} {kb : ClassId} {cs : List Int32} {cd N2 : Int32} {vs : List Value} (E : RoadKit.Exa Z h x ST) (V : RoadKit.Fld Z h x ST "value" "[B" (.ref t)) (C : RoadKit.Fld Z h x ST "coder" "B" (.int cd)) (K : RoadKit.Arv Z h t kb .byte N2 vs (.int 0)) (hc : CodA cs cd N2 vs) (hb : ∀ c ∈ cs, ¬ c < 0 ∧ ¬ (65535 : Int32) < c) (l2 : cs.length ≤ 4000)
    {y t' : Addr} {kb' : ClassId} {ds : List Int32} {cd' N2' : Int32} {vs' : List Value} (E' : RoadKit.Exa Z h y ST) (V' : RoadKit.Fld Z h y ST "value" "[B" (.ref t')) (C' : RoadKit.Fld Z h y ST "coder" "B" (.int cd')) (K' : RoadKit.Arv Z h t' kb' .byte N2' vs' (.int 0)) (hc' : CodA ds cd' N2' vs') (hb' : ∀ c ∈ ds, ¬ c < 0 ∧ ¬ (65535 : Int32) < c) (l2' : ds.length ≤ 4000)
    {z : Int32} (S : RoadKit.Sta Z h ST "COMPACT_STRINGS" "Z" (.int z)) (hz : ¬ z = 0) (hfr : 2 ≤ R.frames) (hlo : W + 28 ≤ R.locals) :
    Back l R p e below s args (⟨"java/lang/String", "equals", "(Ljava/lang/Object;)Z"⟩ : MethodName) len W (fun P a => a = #[.ref x, .ref y] ∧ P.U.heap = h ∧ P.cells + 0 ≤ R.cells ∧ P.slots + 0 ≤ R.slots)
      (fun P _ v B => ∃ L, (((v = some (.int 1) ∧ cs = ds) ∨ (v = some (.int 0) ∧ ¬ cs = ds)) ∧ L = [] ∧ B.U.heap = h) ∧ B.locs = P.locs ++ L ∧ B.cells = P.cells + 0 ∧ B.slots = P.slots + 0) := by
  intro m meth c P g ig mk a X hg hsize hdg hW hn hp'
  obtain ⟨rfl, rfl, r1, r2⟩ := hp'
  have al : Z.vm.Alike P.U.vm := hZ.alike.trans X.warmed.alike
  obtain ⟨A, hx⟩ := txt_of wi al E V C K hc hb l2
  obtain ⟨A', hy⟩ := txt_of wi al E' V' C' K' hc' hb' l2'
  obtain ⟨v, B, X', ⟨⟨w, hv, hh, hq⟩, hl, hk, hs⟩, st⟩ := SEq.pays x t A cd cs.length (fun j => cs.getD j 0) y t' A' cd' ds.length (fun j => ds.getD j 0) z (tabEq_of (movedEq hZ hw)) hfr hlo m meth c P g ig mk _ X hg hsize hdg hW hn ⟨r1, r2, rfl, hx, hy, sta_is al S, hz⟩
  refine ⟨v, B, X', ⟨[], ⟨?_, rfl, hh⟩, hl, hk, hs⟩, st⟩
  rcases hq with ⟨rfl, q⟩ | ⟨rfl, q⟩
  · exact Or.inl ⟨hv, (same_list cs ds).mp q⟩
  · exact Or.inr ⟨hv, fun e => q ((same_list cs ds).mpr e)⟩
end StrChars.Road
namespace StrChars.Road
open Jvm Sem ClassFile Op Lib Jvm.Stand Jvm.Free Jvm.Free.XT
open Jvm.Lib.Cold (StaticIs)
/-- what backV says of its String, as the contracts of this text ask it: cs's low bytes, coder 0 -/
theorem codOf {cs : List Int32} {n : Nat} (hn : cs.length = n) (hb : ∀ c ∈ cs, ¬ 255 < c) : CodA cs 0 (Int32.ofNat n) ((cs.map lo8).map Value.int) := Or.inl ⟨rfl, by rw [hn], by simp [List.map_map, Function.comp_def], hb⟩
end StrChars.Road
end Jvm.Pilot.@@N@@
set_option maxRecDepth 65536
namespace Jvm.Pilot.@@N@@
open Jvm Jvm.ClassFile Sem Op Lib Jvm.Free Jvm.Stand Jvm.LawKit Jvm.RoadKit Bundle Jvm.Pilot.@@N@@.Jvm.D
/-- the run goes on from S to a return that Q says, within so many new cells and slots -/
def OFin (p : Program) (e : Env) (below : List Frame) (s : State) (Q : Option Value → Heap → List Loc → Prop) (cells slots : Nat) (S : State) : Prop :=
  ∃ s₂ o, Steps p.tables e below S s₂ ∧ s₂.status = .running ∧ Ended s₂ below o ∧ ∃ v L, o = .returned v ∧ Q v s₂.heap L ∧ FrameEnd s o s₂ L cells slots
section Own
variable {p : Program} {l : Launch} {e : Env} {R : Room} {s : State} {m : MethodId} {args : Array Value} {below : List Frame} {meth : Method} {c : Code} {T S S' : State} {locs : List Loc} {cells slots k n : Nat} {Q : Option Value → Heap → List Loc → Prop} {pc : Nat} {Ls : Array Slot} {rest : List Value}
theorem OFin.go (st : ∀ t, Steps p.tables e below S' t → Steps p.tables e below S t) (F : OFin p e below s Q cells slots S') : OFin p e below s Q cells slots S := by
  obtain ⟨s₂, o, h, r⟩ := F
  exact ⟨s₂, o, st _ h, r⟩
theorem OFin.tr (st : Steps p.tables e below S S') (F : OFin p e below s Q cells slots S') : OFin p e below s Q cells slots S := by
  obtain ⟨s₂, o, h, r⟩ := F
  exact ⟨s₂, o, st.trans h, r⟩
theorem OFin.ends (X : Stand p l e R s m args below meth c T locs k n) {v : Option Value} (hv : meth.sig.returnType = none → v = none) (hlk : meth.locks = false) (hq : Q v T.heap locs) (hk : k ≤ cells) (hn : n ≤ slots)
    (st : ∀ fs, (∀ (f : JFrame) (acts : List Action), f.method = m → f.locked = none → f.entered = [] → (doReturn e (T.setTop f) acts v).1 = T.setFrames fs) → Steps p.tables e below S (T.setFrames fs)) : OFin p e below s Q cells slots S := by
  obtain ⟨fs, hr, hrun, hended, hW, hsame⟩ := X.leave (v := v) hv hlk
  exact ⟨_, _, st fs hr, hrun, hended, _, _, rfl, hq, ⟨_, rfl⟩, hW, hsame.mono hk hn⟩
theorem OFin.retN (X : Stand p l e R s m args below meth c T locs k n) (hx : p.tables.exec = Jvm.exec) {z w : Int32} {t : FieldType} (hret : meth.sig.returnType = some t) (ht : t = .boolean ∨ t = .byte ∨ t = .char ∨ t = .short) (hlk : meth.locks = false)
    (hd : decode c.code pc = .ok (.ireturn, 1)) (hz : nar t z = w) (hq : Q (some (.int w)) T.heap locs) (hk : k ≤ cells) (hn : n ≤ slots) : OFin p e below s Q cells slots (T.setTop (mkF m pc Ls (.int z :: rest))) :=
  OFin.ends X (v := some (.int w)) (fun h => by rw [hret] at h; cases h) hlk hq hk hn fun fs hr => Jvm.RoadKit.retN X hx hret ht hd (by rw [hz]; exact hr)
theorem OFin.retI (X : Stand p l e R s m args below meth c T locs k n) (hx : p.tables.exec = Jvm.exec) {z : Int32} (hret : meth.sig.returnType = some .int) (hlk : meth.locks = false)
    (hd : decode c.code pc = .ok (.ireturn, 1)) (hq : Q (some (.int z)) T.heap locs) (hk : k ≤ cells) (hn : n ≤ slots) : OFin p e below s Q cells slots (T.setTop (mkF m pc Ls (.int z :: rest))) :=
  OFin.ends X (v := some (.int z)) (fun h => by rw [hret] at h; cases h) hlk hq hk hn fun fs hr => retOut X hx hret rfl (Or.inl ⟨rfl, Or.inl rfl, z, rfl⟩) hd hr
theorem OFin.retL (X : Stand p l e R s m args below meth c T locs k n) (hx : p.tables.exec = Jvm.exec) {z : Int64} (hret : meth.sig.returnType = some .long) (hlk : meth.locks = false)
    (hd : decode c.code pc = .ok (.lreturn, 1)) (hq : Q (some (.long z)) T.heap locs) (hk : k ≤ cells) (hn : n ≤ slots) : OFin p e below s Q cells slots (T.setTop (mkF m pc Ls (.long z :: rest))) :=
  OFin.ends X (v := some (.long z)) (fun h => by rw [hret] at h; cases h) hlk hq hk hn fun fs hr => retOut X hx hret rfl (Or.inr (Or.inl ⟨rfl, rfl, z, rfl⟩)) hd hr
theorem OFin.retA (X : Stand p l e R s m args below meth c T locs k n) (hx : p.tables.exec = Jvm.exec) {w : Value} {t : FieldType} (hret : meth.sig.returnType = some t) (ht : t.isReference = true) (hw : w.isRef = true) (hnr : narrow t w = w) (hlk : meth.locks = false)
    (hd : decode c.code pc = .ok (.areturn, 1)) (hq : Q (some w) T.heap locs) (hk : k ≤ cells) (hn : n ≤ slots) : OFin p e below s Q cells slots (T.setTop (mkF m pc Ls (w :: rest))) :=
  OFin.ends X (v := some w) (fun h => by rw [hret] at h; cases h) hlk hq hk hn fun fs hr => retOut X hx hret hnr (Or.inr (Or.inr (Or.inr (Or.inr ⟨rfl, ht, hw⟩)))) hd hr
theorem OFin.retV (X : Stand p l e R s m args below meth c T locs k n) (hx : p.tables.exec = Jvm.exec) (hret : meth.sig.returnType = none) (hlk : meth.locks = false)
    (hd : decode c.code pc = .ok (.return_, 1)) (hq : Q none T.heap locs) (hk : k ≤ cells) (hn : n ≤ slots) : OFin p e below s Q cells slots (T.setTop (mkF m pc Ls [])) :=
  OFin.ends X (v := none) (fun _ => rfl) hlk hq hk hn fun fs hr => X.returnOut hx hret hd hr
end Own
/-- the same, for a walk that may intern, beside the held constants -/
def OFinH (p : Program) (e : Env) (below : List Frame) (s : State) (Z : State) (h0 : Heap) (Q : Option Value → Heap → List Loc → Prop) (cells slots : Nat) (S : State) : Prop :=
  ∃ s₂ o, Steps p.tables e below S s₂ ∧ s₂.status = .running ∧ Ended s₂ below o ∧ ∃ v L, o = .returned v ∧ Q v s₂.heap L ∧ CHr Z consts_1 s.vm h0 s₂.vm s₂.heap ∧ ReturnedEndW s o s₂ L cells slots
section OwnH
variable {p : Program} {l : Launch} {e : Env} {R : Room} {s Z : State} {aZ : Array Value} {h0 h : Heap} {vm0 : Vm} {k0 : Nat} {m : MethodId} {args : Array Value} {below : List Frame} {meth : Method} {c : Code} {T S S' : State} {locs : List Loc} {cells slots k n : Nat} {Q : Option Value → Heap → List Loc → Prop} {pc : Nat} {Ls : Array Slot} {rest : List Value}
theorem OFinH.go (st : ∀ t, Steps p.tables e below S' t → Steps p.tables e below S t) (F : OFinH p e below s Z h0 Q cells slots S') : OFinH p e below s Z h0 Q cells slots S := by
  obtain ⟨s₂, o, h, r⟩ := F
  exact ⟨s₂, o, st _ h, r⟩
theorem OFinH.tr (st : Steps p.tables e below S S') (F : OFinH p e below s Z h0 Q cells slots S') : OFinH p e below s Z h0 Q cells slots S := by
  obtain ⟨s₂, o, h, r⟩ := F
  exact ⟨s₂, o, st.trans h, r⟩
theorem OFinH.ends (X : Stand p l e R (s.setVm vm0) m args below meth c T locs k n) (hS : s.Since vm0 k0) (hk0 : k0 ≤ T.heap.size) (hZ : Z.Warmed39 vm0) (hEL : EW Z aZ consts_1) (eT : T.heap = h) (HC : CHr Z consts_1 s.vm h0 vm0 h) {v : Option Value} (hv : meth.sig.returnType = none → v = none) (hlk : meth.locks = false) (hq : Q v T.heap locs) (hk : k ≤ cells) (hn : n ≤ slots)
    (st : ∀ fs, (∀ (f : JFrame) (acts : List Action), f.method = m → f.locked = none → f.entered = [] → (doReturn e (T.setTop f) acts v).1 = T.setFrames fs) → Steps p.tables e below S (T.setFrames fs)) : OFinH p e below s Z h0 Q cells slots S := by
  obtain ⟨fs, hr, hrun, hended, h1, h2, h3, hsame⟩ := Jvm.Stand.leaveW X hS hk0 (v := v) hv hlk
  subst eT
  have q : CHr Z consts_1 s.vm h0 T.vm T.heap := HC.trans (CHv.at X hZ hEL HC.1)
  exact ⟨_, _, st fs hr, hrun, hended, _, _, rfl, hq, q, h1, h2, h3, hsame.mono hk hn⟩
theorem OFinH.retN (X : Stand p l e R (s.setVm vm0) m args below meth c T locs k n) (hS : s.Since vm0 k0) (hk0 : k0 ≤ T.heap.size) (hZ : Z.Warmed39 vm0) (hEL : EW Z aZ consts_1) (eT : T.heap = h) (HC : CHr Z consts_1 s.vm h0 vm0 h) (hx : p.tables.exec = Jvm.exec) {z w : Int32} {t : FieldType} (hret : meth.sig.returnType = some t) (ht : t = .boolean ∨ t = .byte ∨ t = .char ∨ t = .short) (hlk : meth.locks = false)
    (hd : decode c.code pc = .ok (.ireturn, 1)) (hz : nar t z = w) (hq : Q (some (.int w)) T.heap locs) (hk : k ≤ cells) (hn : n ≤ slots) : OFinH p e below s Z h0 Q cells slots (T.setTop (mkF m pc Ls (.int z :: rest))) :=
  OFinH.ends X hS hk0 hZ hEL eT HC (v := some (.int w)) (fun h => by rw [hret] at h; cases h) hlk hq hk hn fun fs hr => Jvm.RoadKit.retN X hx hret ht hd (by rw [hz]; exact hr)
theorem OFinH.retA (X : Stand p l e R (s.setVm vm0) m args below meth c T locs k n) (hS : s.Since vm0 k0) (hk0 : k0 ≤ T.heap.size) (hZ : Z.Warmed39 vm0) (hEL : EW Z aZ consts_1) (eT : T.heap = h) (HC : CHr Z consts_1 s.vm h0 vm0 h) (hx : p.tables.exec = Jvm.exec) {w : Value} {t : FieldType} (hret : meth.sig.returnType = some t) (ht : t.isReference = true) (hw : w.isRef = true) (hnr : narrow t w = w) (hlk : meth.locks = false)
    (hd : decode c.code pc = .ok (.areturn, 1)) (hq : Q (some w) T.heap locs) (hk : k ≤ cells) (hn : n ≤ slots) : OFinH p e below s Z h0 Q cells slots (T.setTop (mkF m pc Ls (w :: rest))) :=
  OFinH.ends X hS hk0 hZ hEL eT HC (v := some w) (fun h => by rw [hret] at h; cases h) hlk hq hk hn fun fs hr => retOut X hx hret hnr (Or.inr (Or.inr (Or.inr (Or.inr ⟨rfl, ht, hw⟩)))) hd hr
theorem OFinH.retV (X : Stand p l e R (s.setVm vm0) m args below meth c T locs k n) (hS : s.Since vm0 k0) (hk0 : k0 ≤ T.heap.size) (hZ : Z.Warmed39 vm0) (hEL : EW Z aZ consts_1) (eT : T.heap = h) (HC : CHr Z consts_1 s.vm h0 vm0 h) (hx : p.tables.exec = Jvm.exec) (hret : meth.sig.returnType = none) (hlk : meth.locks = false)
    (hd : decode c.code pc = .ok (.return_, 1)) (hq : Q none T.heap locs) (hk : k ≤ cells) (hn : n ≤ slots) : OFinH p e below s Z h0 Q cells slots (T.setTop (mkF m pc Ls [])) :=
  OFinH.ends X hS hk0 hZ hEL eT HC (v := none) (fun _ => rfl) hlk hq hk hn fun fs hr => X.returnOut hx hret hd hr
/-- a callee that keeps the held constants, handed some places that are none of theirs -/
theorem own_back {y : MethodName} {bytes : ByteArray} {maxL : Nat} {ret : Option FieldType} {rm : Room} {len W : Nat} {as' : Array Value} {sf : List Addr}
    (hM : MetFree l y (head1 [Cond.code y bytes maxL ret] rm) (fun a U => a = as' ∧ Z.Warmed39 U.vm ∧ U.heap = h ∧ CHv Z consts_1 U.vm h ∧ ∀ x ∈ sf, Safe Z consts_1 U.vm h x) (fun _ _ _ _ _ => True) (fun _ U o U' => ∃ v L, o = .returned v ∧ Q v U'.heap L ∧ CHr Z consts_1 U.vm U.heap U'.vm U'.heap ∧ ReturnedEndW U o U' L rm.cells rm.slots))
    (hZ : Z.Warmed39 vm0) (wc : (Cond.code y bytes maxL ret).before aZ Z = true) (wz : (Cond.initialized y.cls).before aZ Z = true) (hf : rm.frames + 1 ≤ R.frames) (hl : W + (maxL + 11) + rm.locals ≤ R.locals) (hEL : EW Z aZ consts_1) (H : CHv Z consts_1 vm0 h) (hlt : ∀ x ∈ sf, x < h.size) (hsf : ∀ x ∈ sf, Safe Z consts_1 vm0 h x) :
    BackS l R p e below (s.setVm vm0) args y len W (fun A a => a = as' ∧ A.U.heap = h ∧ A.cells + rm.cells ≤ R.cells ∧ A.slots + rm.slots ≤ R.slots)
      (fun A _ v B => ∃ L, Q v B.U.heap L ∧ B.locs = A.locs ++ L ∧ B.cells = A.cells + rm.cells ∧ B.slots = A.slots + rm.slots ∧ CHr Z consts_1 vm0 h B.U.vm B.U.heap) := by
  refine BackS.of_freeW (bytes := bytes) (maxL := maxL) (ret := ret) (E := fun _ first o t L k n => k = rm.cells ∧ n = rm.slots ∧ (∃ v, o = .returned v ∧ Q v t.heap L) ∧ CHr Z consts_1 first.vm first.heap t.vm t.heap) hM hf hl ?_ ?_ (fun _ _ _ _ _ _ _ _ _ => trivial) (fun _ _ _ _ ⟨v, L, h1, h2, h3, h4⟩ => ⟨L, _, _, h4, rfl, rfl, ⟨v, h1, h2⟩, h3⟩) ?_
  · intro m meth c A a Y hp
    have hU : Z.Warmed39 A.U.vm := wtrans (s := s.setVm vm0) hZ Y.warmed
    exact ⟨by show (Cond.and _ .tt).before a A.U = true; rw [Cond.before_and, mv hU wc]; rfl, mv hU wc, mv hU wz, hp.2.2.1, hp.2.2.2⟩
  · intro m meth c A a g mk Y hp
    have q := CHv.at Y hZ hEL H
    exact ⟨hp.1, wtrans (s := s.setVm vm0) hZ Y.warmed, hp.2.1, q.1, fun x hx => q.safe (hlt x hx) (hsf x hx)⟩
  · intro m meth c A a g mk v t L k n Y hp _ _ he
    obtain ⟨e1, e2, ⟨v', e3, e4⟩, e5⟩ := he
    cases e3; subst e1 e2
    refine ⟨L, e4, rfl, rfl, rfl, (CHv.at Y hZ hEL H).trans ?_⟩
    rw [← hp.2.1]; exact e5
end OwnH

theorem own_EW {Z : State} {aZ : Array Value} (hw : ∀ d ∈ tables_1, d.before aZ Z = true) : EW Z aZ consts_1 :=
  EW.cons (hw _ (List.mem_of_getElem? (i := 31) rfl)) (by decide) (EW.cons (hw _ (List.mem_of_getElem? (i := 43) rfl)) (by decide) (EW.cons (hw _ (List.mem_of_getElem? (i := 19) rfl)) (by decide) EW.nil))
theorem own_nar (x : Int32) : nar .char ((x &&& (255 : Int32)).toUInt32.toUInt16.toUInt32.toInt32) = ((x &&& (255 : Int32)).toUInt32.toUInt16.toUInt32.toInt32) := by
  show (((x &&& (255 : Int32)).toUInt32.toUInt16.toUInt32.toInt32)).toUInt32.toUInt16.toUInt32.toInt32 = _
  rw [i2c_mask, i2c_mask]
theorem own_ch (x : Int32) : ¬ nar .char ((x &&& (255 : Int32)).toUInt32.toUInt16.toUInt32.toInt32) < 0 ∧ ¬ (255 : Int32) < nar .char ((x &&& (255 : Int32)).toUInt32.toUInt16.toUInt32.toInt32) := by
  rw [own_nar, i2c_mask]
  have a := c_and x 255 (by decide)
  simp only [show (255 : Int32).toInt = 255 from rfl] at a
  rw [Int32.lt_iff_toInt_lt, Int32.lt_iff_toInt_lt]
  simp only [show (0 : Int32).toInt = 0 from rfl, show (255 : Int32).toInt = 255 from rfl]
  omega
theorem own_all0 {P : Int32 → Prop} : ∀ c ∈ ([] : List Int32), P c := fun _ q => nomatch q
theorem own_allS {P : Int32 → Prop} {y : Int32} {L : List Int32} (q : P y) (r : ∀ x ∈ L, P x) : ∀ x ∈ y :: L, P x := fun x z => (List.mem_cons.mp z).elim (fun u => u ▸ q) (r x)
theorem own_up (cs : List Int32) (h : ∀ c ∈ cs, ¬ c < 0 ∧ ¬ (255 : Int32) < c) : ∀ c ∈ cs, ¬ c < 0 ∧ ¬ (65535 : Int32) < c := fun c hc => by
  obtain ⟨h1, h2⟩ := h c hc
  refine ⟨h1, ?_⟩
  rw [Int32.lt_iff_toInt_lt] at h2 ⊢
  simp only [show (255 : Int32).toInt = 255 from rfl, show (65535 : Int32).toInt = 65535 from rfl] at *
  omega
theorem own_k7 (x : Int32) : ((x &&& (2147483647 : Int32)) % (7 : Int32)) = 0 ∨ ((x &&& (2147483647 : Int32)) % (7 : Int32)) = 1 ∨ ((x &&& (2147483647 : Int32)) % (7 : Int32)) = 2 ∨ ((x &&& (2147483647 : Int32)) % (7 : Int32)) = 3 ∨ ((x &&& (2147483647 : Int32)) % (7 : Int32)) = 4 ∨ ((x &&& (2147483647 : Int32)) % (7 : Int32)) = 5 ∨ ((x &&& (2147483647 : Int32)) % (7 : Int32)) = 6 := by
  have a := c_and x 2147483647 (by decide)
  have b := (c_irem (x &&& (2147483647 : Int32)) 7 7 rfl).1 a.1
  generalize (x &&& (2147483647 : Int32)) % (7 : Int32) = r at b ⊢
  have e : r.toInt = 0 ∨ r.toInt = 1 ∨ r.toInt = 2 ∨ r.toInt = 3 ∨ r.toInt = 4 ∨ r.toInt = 5 ∨ r.toInt = 6 := by omega
  rcases e with q | q | q | q | q | q | q
  · exact Or.inl (Int32.toInt_inj.mp q)
  · exact Or.inr (Or.inl (Int32.toInt_inj.mp q))
  · exact Or.inr (Or.inr (Or.inl (Int32.toInt_inj.mp q)))
  · exact Or.inr (Or.inr (Or.inr (Or.inl (Int32.toInt_inj.mp q))))
  · exact Or.inr (Or.inr (Or.inr (Or.inr (Or.inl (Int32.toInt_inj.mp q)))))
  · exact Or.inr (Or.inr (Or.inr (Or.inr (Or.inr (Or.inl (Int32.toInt_inj.mp q))))))
  · exact Or.inr (Or.inr (Or.inr (Or.inr (Or.inr (Or.inr (Int32.toInt_inj.mp q))))))
theorem d3_0 : decode jdk_42_method_149_code 0 = .ok (.aload_n 0, 1) := by decide +kernel
theorem d3_1 : decode jdk_42_method_149_code 1 = .ok (.invokespecial 1, 3) := by decide +kernel
theorem d3_4 : decode jdk_42_method_149_code 4 = .ok (.iload_n 3, 1) := by decide +kernel
theorem d3_5 : decode jdk_42_method_149_code 5 = .ok (.ifCond .ne 22, 3) := by decide +kernel
theorem d3_8 : decode jdk_42_method_149_code 8 = .ok (.aload_n 0, 1) := by decide +kernel
theorem d3_9 : decode jdk_42_method_149_code 9 = .ok (.ldc 7, 2) := by decide +kernel
theorem d3_11 : decode jdk_42_method_149_code 11 = .ok (.getfield 9, 3) := by decide +kernel
theorem d3_14 : decode jdk_42_method_149_code 14 = .ok (.putfield 9, 3) := by decide +kernel
theorem d3_17 : decode jdk_42_method_149_code 17 = .ok (.aload_n 0, 1) := by decide +kernel
theorem d3_18 : decode jdk_42_method_149_code 18 = .ok (.ldc 7, 2) := by decide +kernel
theorem d3_20 : decode jdk_42_method_149_code 20 = .ok (.getfield 15, 3) := by decide +kernel
theorem d3_23 : decode jdk_42_method_149_code 23 = .ok (.putfield 15, 3) := by decide +kernel
theorem d3_26 : decode jdk_42_method_149_code 26 = .ok (.return_, 1) := by decide +kernel
theorem d3_27 : decode jdk_42_method_149_code 27 = .ok (.getstatic 38, 3) := by decide +kernel
theorem d3_30 : decode jdk_42_method_149_code 30 = .ok (.ifCond .eq 28, 3) := by decide +kernel
theorem d3_33 : decode jdk_42_method_149_code 33 = .ok (.aload_n 1, 1) := by decide +kernel
theorem d3_34 : decode jdk_42_method_149_code 34 = .ok (.iload_n 2, 1) := by decide +kernel
theorem d3_35 : decode jdk_42_method_149_code 35 = .ok (.iload_n 3, 1) := by decide +kernel
theorem d3_36 : decode jdk_42_method_149_code 36 = .ok (.invokestatic 177, 3) := by decide +kernel
theorem d3_39 : decode jdk_42_method_149_code 39 = .ok (.astore 5, 2) := by decide +kernel
theorem d3_41 : decode jdk_42_method_149_code 41 = .ok (.aload_n 0, 1) := by decide +kernel
theorem d3_42 : decode jdk_42_method_149_code 42 = .ok (.aload 5, 2) := by decide +kernel
theorem d3_44 : decode jdk_42_method_149_code 44 = .ok (.iload_n 3, 1) := by decide +kernel
theorem d3_45 : decode jdk_42_method_149_code 45 = .ok (.invokestatic 47, 3) := by decide +kernel
theorem d3_48 : decode jdk_42_method_149_code 48 = .ok (.putfield 15, 3) := by decide +kernel
theorem d3_51 : decode jdk_42_method_149_code 51 = .ok (.aload_n 0, 1) := by decide +kernel
theorem d3_52 : decode jdk_42_method_149_code 52 = .ok (.aload 5, 2) := by decide +kernel
theorem d3_54 : decode jdk_42_method_149_code 54 = .ok (.putfield 9, 3) := by decide +kernel
theorem d3_57 : decode jdk_42_method_149_code 57 = .ok (.return_, 1) := by decide +kernel
theorem d3_58 : decode jdk_42_method_149_code 58 = .ok (.aload_n 0, 1) := by decide +kernel
theorem d3_59 : decode jdk_42_method_149_code 59 = .ok (.iconst 1, 1) := by decide +kernel
theorem d3_60 : decode jdk_42_method_149_code 60 = .ok (.putfield 15, 3) := by decide +kernel
theorem d3_63 : decode jdk_42_method_149_code 63 = .ok (.aload_n 0, 1) := by decide +kernel
theorem d3_64 : decode jdk_42_method_149_code 64 = .ok (.aload_n 1, 1) := by decide +kernel
theorem d3_65 : decode jdk_42_method_149_code 65 = .ok (.iload_n 2, 1) := by decide +kernel
theorem d3_66 : decode jdk_42_method_149_code 66 = .ok (.iload_n 3, 1) := by decide +kernel
theorem d3_67 : decode jdk_42_method_149_code 67 = .ok (.invokestatic 180, 3) := by decide +kernel
theorem d3_70 : decode jdk_42_method_149_code 70 = .ok (.putfield 9, 3) := by decide +kernel
theorem d3_73 : decode jdk_42_method_149_code 73 = .ok (.return_, 1) := by decide +kernel
theorem pn_0 : plainName "java/lang/String" = true := by first | (simp [plainName, overriddenIn]; done) | decide +kernel
theorem ef_3 (m : MethodId) (x0 : Addr) (x1 : Addr) (x2 : Int32) (x3 : Int32) : entryFrame m #[(.ref x0), (.ref x1), (.int x2), (.int x3), .null] 6 = mkF m 0 #[.val (.ref x0), .val (.ref x1), .val (.int x2), .val (.int x3), .val .null, .unset] [] := by first | (simp [entryFrame, mkF, argsToLocals, Value.category]; done) | rfl
def Q3 (Z : State) (a0 : Addr) (a1 : Addr) (h0 : Heap) (n0 : Nat) (v : Option Value) (h : Heap) (L : List Loc) : Prop := ∃ (t9 : Addr) (k9 : ClassId), v = none ∧ Fr n0 L ∧ Keep h0 h [a0] ∧ Exa Z h a0 "java/lang/String" ∧ Fld Z h a0 "java/lang/String" "value" "[B" (.ref t9) ∧ Fld Z h a0 "java/lang/String" "coder" "B" (.int (0 : Int32)) ∧ Arv Z h t9 k9 .byte (0 : Int32) [] (.int (0 : Int32))
set_option maxHeartbeats 40000000 in
theorem rm3 (l : Launch) (Z : State) (aZ : Array Value) (hw : ∀ d ∈ tables_1, d.before aZ Z = true) (hEL : EW Z aZ consts_1) (ws : List Jvm.Cond) (a0 : Addr) (a1 : Addr) (h0 : Heap) (n0 : Nat) (Z0 : n0 ≤ h0.size) (E1 : Exa Z h0 a0 "java/lang/String") (F1 : Fld Z h0 a0 "java/lang/String" "value" "[B" .null) (F2 : Fld Z h0 a0 "java/lang/String" "coder" "B" (.int (0 : Int32))) (g_a0 : n0 ≤ a0) :
    MetFree l (⟨"java/lang/String", "<init>", "([CIILjava/lang/Void;)V"⟩ : MethodName) (head1 (Jvm.Cond.code (⟨"java/lang/String", "<init>", "([CIILjava/lang/Void;)V"⟩ : MethodName) jdk_42_method_149_code 6 none :: ws) ({ frames := 1, cells := 4, slots := 8, locals := 12 } : Room)) (fun a U => a = #[(.ref a0), (.ref a1), (.int (0 : Int32)), (.int (0 : Int32)), .null] ∧ Z.Warmed39 U.vm ∧ U.heap = h0 ∧ CHv Z consts_1 U.vm h0 ∧ ∀ x ∈ [a0], Safe Z consts_1 U.vm h0 x) (fun _ _ _ _ _ => True) (fun _ U o U' => ∃ v L, o = .returned v ∧ Q3 Z a0 a1 h0 n0 v U'.heap L ∧ CHr Z consts_1 U.vm U.heap U'.vm U'.heap ∧ ReturnedEndW U o U' L ({ frames := 1, cells := 4, slots := 8, locals := 12 } : Room).cells ({ frames := 1, cells := 4, slots := 8, locals := 12 } : Room).slots) := by
  refine MetFree.of_bodySF (plainFor_of_name pn_0) hisR ?_
  intro p e s m args below meth c s₁ Bd hml0 hP hK
  obtain ⟨rfl, hZ, hh, Hc, hsf⟩ := hP
  have hx := Bd.exec
  have hby := Bd.bytes
  have hret := Bd.returns
  have hlk : meth.locks = false := BodyLoose.notSynchronized Bd
  have hml : c.maxLocals = 6 := hml0
  have hown : s.vm.findClass "java/lang/String" = some m.cls := findClass_of_methodNamed Bd.named
  have hnm := (name_of_methodNamed Bd.named Bd.method).1
  have X0 : Stand p l e ({ frames := 1, cells := 4, slots := 8, locals := 12 } : Room) (s.setVm s.vm) m #[(.ref a0), (.ref a1), (.int (0 : Int32)), (.int (0 : Int32)), .null] below meth c s₁ [] 0 0 := Stand.of_body Bd
  have hS : s.Since s.vm h0.size := State.WarmedH.since (State.WarmedH.refl s) _
  have hk : h0.size ≤ h0.size := Nat.le_refl _
  have hstr : ∀ a ∈ Bundle.stringAtoms, a.before aZ Z = true := fun d hd => hw d ((by decide +kernel : ∀ d ∈ Bundle.stringAtoms, d ∈ tables_1) d hd)
  have e0 : s₁.heap = h0 := by rw [← hh, Bd.state]; rfl
  have N0 := Fr.nil n0
  have K0 : Keep h0 h0 [a0] := Keep.refl _ _
  have pre0 : ∀ t, Steps p.tables e below (s₁.setTop (mkF m 0 #[.val (.ref a0), .val (.ref a1), .val (.int (0 : Int32)), .val (.int (0 : Int32)), .val .null, .unset] [])) t → Steps p.tables e below (s₁.setTop (entryFrame m #[(.ref a0), (.ref a1), (.int (0 : Int32)), (.int (0 : Int32)), .null] 6)) t := fun t k => castTop (ef_3 m a0 a1 (0 : Int32) (0 : Int32)) k
  have HC : CHr Z consts_1 s.vm h0 s.vm h0 := CHr.refl Hc
  have SF_a0 := hsf a0 (List.mem_of_getElem? (i := 0) rfl)
  suffices hfin : OFinH p e below s Z h0 (Q3 Z a0 a1 h0 n0) ({ frames := 1, cells := 4, slots := 8, locals := 12 } : Room).cells ({ frames := 1, cells := 4, slots := 8, locals := 12 } : Room).slots (s₁.setTop (entryFrame m #[(.ref a0), (.ref a1), (.int (0 : Int32)), (.int (0 : Int32)), .null] 6)) by
    obtain ⟨s₂, o, a1, a2, a3, v, L, b1, b2, b3, b4⟩ := hfin
    exact ⟨s₂, o, a1, a2, a3, v, L, b1, b2, by rw [hh]; exact b3, b4⟩
  refine OFinH.go pre0 ?_
  have sg101 : ∀ t, Steps p.tables e below (s₁.setTop (mkF m 1 #[.val (.ref a0), .val (.ref a1), .val (.int (0 : Int32)), .val (.int (0 : Int32)), .val .null, .unset] [(.ref a0)])) t → Steps p.tables e below (s₁.setTop (mkF m 0 #[.val (.ref a0), .val (.ref a1), .val (.int (0 : Int32)), .val (.int (0 : Int32)), .val .null, .unset] [])) t := by
    intro t k
    show Steps p.tables e below (s₁.setTop (mkF m 0 #[.val (.ref a0), .val (.ref a1), .val (.int (0 : Int32)), .val (.int (0 : Int32)), .val .null, .unset] [])) t
    refine XS.aloadN X0.here hx rfl (hb hby d3_0) rfl rfl ?_
    exact k
  refine OFinH.go sg101 ?_
  obtain ⟨T102, X102, e102, st102⟩ := initO X0 hx hZ hown (hw _ (List.mem_of_getElem? (i := 16) rfl)) (hw _ (List.mem_of_getElem? (i := 17) rfl)) (hw _ (List.mem_of_getElem? (i := 18) rfl)) e0 (g := (mkF m 1 #[.val (.ref a0), .val (.ref a1), .val (.int (0 : Int32)), .val (.int (0 : Int32)), .val .null, .unset] [(.ref a0)])) rfl (by rw [hml]; rfl) rfl (hb hby d3_1) (by decide) (W := 0) (by show 2 * 0 + _ ≤ _; exact Nat.le_of_eq rfl) (by decide)
  refine OFinH.go st102 ?_
  have sg103 : ∀ t, Steps p.tables e below (T102.setTop (mkF m 9 #[.val (.ref a0), .val (.ref a1), .val (.int (0 : Int32)), .val (.int (0 : Int32)), .val .null, .unset] [(.ref a0)])) t → Steps p.tables e below (T102.setTop (mkF m 4 #[.val (.ref a0), .val (.ref a1), .val (.int (0 : Int32)), .val (.int (0 : Int32)), .val .null, .unset] [])) t := by
    intro t k
    show Steps p.tables e below (T102.setTop (mkF m 4 #[.val (.ref a0), .val (.ref a1), .val (.int (0 : Int32)), .val (.int (0 : Int32)), .val .null, .unset] [])) t
    refine XS.iloadN X102.here hx rfl (hb hby d3_4) rfl ?_
    show Steps p.tables e below (T102.setTop (mkF m 5 #[.val (.ref a0), .val (.ref a1), .val (.int (0 : Int32)), .val (.int (0 : Int32)), .val .null, .unset] [(.int (0 : Int32))])) t
    refine XS.ifNo X102.here hx rfl (hb hby d3_5) rfl ((if0 _ _).trans (teq (by decide : (0 : Int32) = (0 : Int32))).2) ?_
    show Steps p.tables e below (T102.setTop (mkF m 8 #[.val (.ref a0), .val (.ref a1), .val (.int (0 : Int32)), .val (.int (0 : Int32)), .val .null, .unset] [])) t
    refine XS.aloadN X102.here hx rfl (hb hby d3_8) rfl rfl ?_
    exact k
  refine OFinH.go sg103 ?_
  obtain ⟨b104, T104, h104, k104, t104, kb104, X104, e104, E104, hS, hk, hZ, hown, P104_0, P104_1, P104_2, P104_3, -, -, C104, -, D104, st104⟩ := ldcCH X102 hx hZ hown (hw _ (List.mem_of_getElem? (i := 19) rfl)) hstr e102 hS hk hEL (by simp [consts_1]) HC.1 (vs := []) (z := (0 : Int32)) ⟨by decide, by decide⟩ (by decide) (by decide) (g := (mkF m 9 #[.val (.ref a0), .val (.ref a1), .val (.int (0 : Int32)), .val (.int (0 : Int32)), .val .null, .unset] [(.ref a0)])) rfl (hb hby d3_9) (n := 0) (by decide) (by decide) (by decide) (by decide)
  refine OFinH.go st104 ?_
  have SFn_a0 := CHr.safe C104 E1.lt SF_a0
  have HC := HC.trans C104
  have SF_a0 := SFn_a0
  have SF_a0_104 := SF_a0
  have K104 : Keep h0 h104 [a0] := K0.ext E104
  obtain ⟨T105, X105, e105, st105⟩ := getF X104 hx hZ hown (host := "") (Or.inl (hw _ (List.mem_of_getElem? (i := 25) rfl))) Via.refl e104 P104_2 (g := (mkF m 11 #[.val (.ref a0), .val (.ref a1), .val (.int (0 : Int32)), .val (.int (0 : Int32)), .val .null, .unset] [(.ref b104), (.ref a0)])) rfl rfl (hb hby d3_11)
  refine OFinH.go st105 ?_
  obtain ⟨T106, h106, X106, e106, W106, st106⟩ := putF X105 hx hZ hown (host := "") (Or.inl (hw _ (List.mem_of_getElem? (i := 25) rfl))) Via.refl e105 (F1.ext E104) (E1.ext E104) (Or.inr ⟨(hw _ (List.mem_of_getElem? (i := 21) rfl)), rfl, hnm⟩) (hw _ (List.mem_of_getElem? (i := 6) rfl)) (ty := (.array .byte)) (by decide) rfl rfl (g := (mkF m 14 #[.val (.ref a0), .val (.ref a1), .val (.int (0 : Int32)), .val (.int (0 : Int32)), .val .null, .unset] [(.ref t104), (.ref a0)])) rfl rfl (hb hby d3_14)
  refine OFinH.go st106 ?_
  have F106 := (F1.ext E104).same W106
  have SFn_a0 := Safe.wr W106 SF_a0 HC.1 SF_a0
  have HC := HC.trans (CHr.wr W106 SF_a0 HC.1)
  have SF_a0 := SFn_a0
  have K106 : Keep h0 h106 [a0] := K104.wr W106 (Or.inl (List.mem_of_getElem? (i := 0) rfl))
  have N106 := Fr.snoc X106 N0 g_a0
  have sg107 : ∀ t, Steps p.tables e below (T106.setTop (mkF m 18 #[.val (.ref a0), .val (.ref a1), .val (.int (0 : Int32)), .val (.int (0 : Int32)), .val .null, .unset] [(.ref a0)])) t → Steps p.tables e below (T106.setTop (mkF m 17 #[.val (.ref a0), .val (.ref a1), .val (.int (0 : Int32)), .val (.int (0 : Int32)), .val .null, .unset] [])) t := by
    intro t k
    show Steps p.tables e below (T106.setTop (mkF m 17 #[.val (.ref a0), .val (.ref a1), .val (.int (0 : Int32)), .val (.int (0 : Int32)), .val .null, .unset] [])) t
    refine XS.aloadN X106.here hx rfl (hb hby d3_17) rfl rfl ?_
    exact k
  refine OFinH.go sg107 ?_
  obtain ⟨b108, T108, h108, k108, t108, kb108, X108, e108, E108, hS, hk, hZ, hown, P108_0, P108_1, P108_2, P108_3, -, -, C108, -, D108, st108⟩ := ldcCH X106 hx hZ hown (hw _ (List.mem_of_getElem? (i := 19) rfl)) hstr e106 hS (Nat.le_trans hk (Keep.of_wr W106).1) hEL (by simp [consts_1]) HC.1 (vs := []) (z := (0 : Int32)) ⟨by decide, by decide⟩ (by decide) (by decide) (g := (mkF m 18 #[.val (.ref a0), .val (.ref a1), .val (.int (0 : Int32)), .val (.int (0 : Int32)), .val .null, .unset] [(.ref a0)])) rfl (hb hby d3_18) (n := 0) (by decide) (by decide) (by decide) (by decide)
  refine OFinH.go st108 ?_
  have SFn_a0 := CHr.safe C108 ((E1.ext E104).wr W106).lt SF_a0
  have HC := HC.trans C108
  have SF_a0 := SFn_a0
  have SF_a0_108 := SF_a0
  have K108 : Keep h0 h108 [a0] := K106.ext E108
  obtain ⟨T109, X109, e109, st109⟩ := getF X108 hx hZ hown (host := "") (Or.inl (hw _ (List.mem_of_getElem? (i := 26) rfl))) Via.refl e108 P108_1 (g := (mkF m 20 #[.val (.ref a0), .val (.ref a1), .val (.int (0 : Int32)), .val (.int (0 : Int32)), .val .null, .unset] [(.ref b108), (.ref a0)])) rfl rfl (hb hby d3_20)
  refine OFinH.go st109 ?_
  obtain ⟨T110, h110, X110, e110, W110, st110⟩ := putFN X109 hx hZ hown (hw _ (List.mem_of_getElem? (i := 26) rfl)) Via.refl e109 (((F2.ext E104).other W106 (Or.inr (slot_ne (Or.inr (hw _ (List.mem_of_getElem? (i := 22) rfl))) (Or.inr (hw _ (List.mem_of_getElem? (i := 21) rfl))) (by decide) (t := .byte) (t' := (.array .byte)) (by decide) (by decide)))).ext E108) (((E1.ext E104).wr W106).ext E108) (Or.inr ⟨(hw _ (List.mem_of_getElem? (i := 22) rfl)), rfl, hnm⟩) (hw _ (List.mem_of_getElem? (i := 6) rfl)) (ty := .byte) (v' := (.int (0 : Int32))) (by decide) rfl rfl (g := (mkF m 23 #[.val (.ref a0), .val (.ref a1), .val (.int (0 : Int32)), .val (.int (0 : Int32)), .val .null, .unset] [(.int (0 : Int32)), (.ref a0)])) rfl rfl (hb hby d3_23)
  refine OFinH.go st110 ?_
  have F110 := (((F2.ext E104).other W106 (Or.inr (slot_ne (Or.inr (hw _ (List.mem_of_getElem? (i := 22) rfl))) (Or.inr (hw _ (List.mem_of_getElem? (i := 21) rfl))) (by decide) (t := .byte) (t' := (.array .byte)) (by decide) (by decide)))).ext E108).same W110
  have SFn_a0 := Safe.wr W110 SF_a0 HC.1 SF_a0
  have HC := HC.trans (CHr.wr W110 SF_a0 HC.1)
  have SF_a0 := SFn_a0
  have K110 : Keep h0 h110 [a0] := K108.wr W110 (Or.inl (List.mem_of_getElem? (i := 0) rfl))
  have N110 := Fr.snoc X110 N106 g_a0
  exact OFinH.retV X110 hS (by rw [e110]; exact (Nat.le_trans hk (Keep.of_wr W110).1)) hZ hEL e110 HC hx hret hlk (hb hby d3_26) (by rw [e110]; exact ⟨t104, kb104, rfl, N110, K110, ((((E1.ext E104).wr W106).ext E108).wr W110), ((F106.ext E108).other W110 (Or.inr (slot_ne (Or.inr (hw _ (List.mem_of_getElem? (i := 21) rfl))) (Or.inr (hw _ (List.mem_of_getElem? (i := 22) rfl))) (by decide) (t := (.array .byte)) (t' := .byte) (by decide) (by decide)))), F110, (((P104_3.other W106 (Ne.symm (D104 a0 SF_a0_104).2)).ext E108).other W110 (Ne.symm (D104 a0 SF_a0_104).2))⟩) (by decide) (by decide)
theorem d2_0 : decode jdk_42_method_3_code 0 = .ok (.aload_n 0, 1) := by decide +kernel
theorem d2_1 : decode jdk_42_method_3_code 1 = .ok (.aload_n 1, 1) := by decide +kernel
theorem d2_2 : decode jdk_42_method_3_code 2 = .ok (.iconst 0, 1) := by decide +kernel
theorem d2_3 : decode jdk_42_method_3_code 3 = .ok (.aload_n 1, 1) := by decide +kernel
theorem d2_4 : decode jdk_42_method_3_code 4 = .ok (.arraylength, 1) := by decide +kernel
theorem d2_5 : decode jdk_42_method_3_code 5 = .ok (.aconst_null, 1) := by decide +kernel
theorem d2_6 : decode jdk_42_method_3_code 6 = .ok (.invokespecial 27, 3) := by decide +kernel
theorem d2_9 : decode jdk_42_method_3_code 9 = .ok (.return_, 1) := by decide +kernel
theorem pd_0 : parseMethodDescriptor "([CIILjava/lang/Void;)V" = some ⟨[(.array .char), .int, .int, (.object "java/lang/Void")], none⟩ := by decide +kernel
theorem ef_2 (m : MethodId) (x0 : Addr) (x1 : Addr) : entryFrame m #[(.ref x0), (.ref x1)] 2 = mkF m 0 #[.val (.ref x0), .val (.ref x1)] [] := by first | (simp [entryFrame, mkF, argsToLocals, Value.category]; done) | rfl
def Q2 (Z : State) (a0 : Addr) (a1 : Addr) (kc : ClassId) (h0 : Heap) (n0 : Nat) (v : Option Value) (h : Heap) (L : List Loc) : Prop := ∃ (t9 : Addr) (k9 : ClassId), v = none ∧ Fr n0 L ∧ Keep h0 h [a0] ∧ Exa Z h a0 "java/lang/String" ∧ Fld Z h a0 "java/lang/String" "value" "[B" (.ref t9) ∧ Fld Z h a0 "java/lang/String" "coder" "B" (.int (0 : Int32)) ∧ Arv Z h t9 k9 .byte (0 : Int32) [] (.int (0 : Int32))
set_option maxHeartbeats 40000000 in
theorem rm2 (l : Launch) (Z : State) (aZ : Array Value) (hw : ∀ d ∈ tables_1, d.before aZ Z = true) (hEL : EW Z aZ consts_1) (ws : List Jvm.Cond) (a0 : Addr) (a1 : Addr) (kc : ClassId) (h0 : Heap) (n0 : Nat) (Z0 : n0 ≤ h0.size) (E1 : Exa Z h0 a0 "java/lang/String") (F1 : Fld Z h0 a0 "java/lang/String" "value" "[B" .null) (F2 : Fld Z h0 a0 "java/lang/String" "coder" "B" (.int (0 : Int32))) (V2 : Arv Z h0 a1 kc .char (0 : Int32) [] (.int (0 : Int32))) (g_a0 : n0 ≤ a0) :
    MetFree l (⟨"java/lang/String", "<init>", "([C)V"⟩ : MethodName) (head1 (Jvm.Cond.code (⟨"java/lang/String", "<init>", "([C)V"⟩ : MethodName) jdk_42_method_3_code 2 none :: ws) ({ frames := 2, cells := 4, slots := 8, locals := 29 } : Room)) (fun a U => a = #[(.ref a0), (.ref a1)] ∧ Z.Warmed39 U.vm ∧ U.heap = h0 ∧ CHv Z consts_1 U.vm h0 ∧ ∀ x ∈ [a0], Safe Z consts_1 U.vm h0 x) (fun _ _ _ _ _ => True) (fun _ U o U' => ∃ v L, o = .returned v ∧ Q2 Z a0 a1 kc h0 n0 v U'.heap L ∧ CHr Z consts_1 U.vm U.heap U'.vm U'.heap ∧ ReturnedEndW U o U' L ({ frames := 2, cells := 4, slots := 8, locals := 29 } : Room).cells ({ frames := 2, cells := 4, slots := 8, locals := 29 } : Room).slots) := by
  refine MetFree.of_bodySF (plainFor_of_name pn_0) hisR ?_
  intro p e s m args below meth c s₁ Bd hml0 hP hK
  obtain ⟨rfl, hZ, hh, Hc, hsf⟩ := hP
  have hx := Bd.exec
  have hby := Bd.bytes
  have hret := Bd.returns
  have hlk : meth.locks = false := BodyLoose.notSynchronized Bd
  have hml : c.maxLocals = 2 := hml0
  have hown : s.vm.findClass "java/lang/String" = some m.cls := findClass_of_methodNamed Bd.named
  have hnm := (name_of_methodNamed Bd.named Bd.method).1
  have X0 : Stand p l e ({ frames := 2, cells := 4, slots := 8, locals := 29 } : Room) (s.setVm s.vm) m #[(.ref a0), (.ref a1)] below meth c s₁ [] 0 0 := Stand.of_body Bd
  have hS : s.Since s.vm h0.size := State.WarmedH.since (State.WarmedH.refl s) _
  have hk : h0.size ≤ h0.size := Nat.le_refl _
  have hstr : ∀ a ∈ Bundle.stringAtoms, a.before aZ Z = true := fun d hd => hw d ((by decide +kernel : ∀ d ∈ Bundle.stringAtoms, d ∈ tables_1) d hd)
  have e0 : s₁.heap = h0 := by rw [← hh, Bd.state]; rfl
  have N0 := Fr.nil n0
  have K0 : Keep h0 h0 [a0] := Keep.refl _ _
  have pre0 : ∀ t, Steps p.tables e below (s₁.setTop (mkF m 0 #[.val (.ref a0), .val (.ref a1)] [])) t → Steps p.tables e below (s₁.setTop (entryFrame m #[(.ref a0), (.ref a1)] 2)) t := fun t k => castTop (ef_2 m a0 a1) k
  have HC : CHr Z consts_1 s.vm h0 s.vm h0 := CHr.refl Hc
  have SF_a0 := hsf a0 (List.mem_of_getElem? (i := 0) rfl)
  suffices hfin : OFinH p e below s Z h0 (Q2 Z a0 a1 kc h0 n0) ({ frames := 2, cells := 4, slots := 8, locals := 29 } : Room).cells ({ frames := 2, cells := 4, slots := 8, locals := 29 } : Room).slots (s₁.setTop (entryFrame m #[(.ref a0), (.ref a1)] 2)) by
    obtain ⟨s₂, o, a1, a2, a3, v, L, b1, b2, b3, b4⟩ := hfin
    exact ⟨s₂, o, a1, a2, a3, v, L, b1, b2, by rw [hh]; exact b3, b4⟩
  refine OFinH.go pre0 ?_
  have sg101 : ∀ t, Steps p.tables e below (s₁.setTop (mkF m 4 #[.val (.ref a0), .val (.ref a1)] [(.ref a1), (.int (0 : Int32)), (.ref a1), (.ref a0)])) t → Steps p.tables e below (s₁.setTop (mkF m 0 #[.val (.ref a0), .val (.ref a1)] [])) t := by
    intro t k
    show Steps p.tables e below (s₁.setTop (mkF m 0 #[.val (.ref a0), .val (.ref a1)] [])) t
    refine XS.aloadN X0.here hx rfl (hb hby d2_0) rfl rfl ?_
    show Steps p.tables e below (s₁.setTop (mkF m 1 #[.val (.ref a0), .val (.ref a1)] [(.ref a0)])) t
    refine XS.aloadN X0.here hx rfl (hb hby d2_1) rfl rfl ?_
    show Steps p.tables e below (s₁.setTop (mkF m 2 #[.val (.ref a0), .val (.ref a1)] [(.ref a1), (.ref a0)])) t
    refine XS.iconst X0.here hx rfl (hb hby d2_2) ?_
    show Steps p.tables e below (s₁.setTop (mkF m 3 #[.val (.ref a0), .val (.ref a1)] [(.int (0 : Int32)), (.ref a1), (.ref a0)])) t
    refine XS.aloadN X0.here hx rfl (hb hby d2_3) rfl rfl ?_
    exact k
  refine OFinH.go sg101 ?_
  obtain ⟨cl102, Ar102, q102, S102, M102, H102, G102⟩ := id V2
  have sg103 : ∀ t, Steps p.tables e below (s₁.setTop (mkF m 6 #[.val (.ref a0), .val (.ref a1)] [.null, (.int (0 : Int32)), (.int (0 : Int32)), (.ref a1), (.ref a0)])) t → Steps p.tables e below (s₁.setTop (mkF m 4 #[.val (.ref a0), .val (.ref a1)] [(.ref a1), (.int (0 : Int32)), (.ref a1), (.ref a0)])) t := by
    intro t k
    show Steps p.tables e below (s₁.setTop (mkF m 4 #[.val (.ref a0), .val (.ref a1)] [(.ref a1), (.int (0 : Int32)), (.ref a1), (.ref a0)])) t
    refine X0.arraylength hx (by rw [e0]; exact Ar102.1) (State.isArrayOf_alike hZ.alike Ar102.2.1) (g := (mkF m 4 #[.val (.ref a0), .val (.ref a1)] [(.ref a1), (.int (0 : Int32)), (.ref a1), (.ref a0)])) rfl rfl (hb hby d2_4) _ ?_
    rw [len_of S102 M102]
    show Steps p.tables e below (s₁.setTop (mkF m 5 #[.val (.ref a0), .val (.ref a1)] [(.int (0 : Int32)), (.int (0 : Int32)), (.ref a1), (.ref a0)])) t
    refine XS.aconstNull X0.here hx rfl (hb hby d2_5) ?_
    exact k
  refine OFinH.go sg103 ?_
  obtain ⟨_, _, ⟨T104, L104, k104, n104⟩, -, X104, hSn, hgn, ⟨Lc104, hQ104, l104, y104, z104, C104⟩, st104⟩ := X0.specialBackS hx (y := (⟨"java/lang/String", "<init>", "([CIILjava/lang/Void;)V"⟩ : MethodName)) rfl hown (mvT hZ (hw _ (List.mem_of_getElem? (i := 12) rfl))) (mvT hZ (hw _ (List.mem_of_getElem? (i := 13) rfl))) (mvT hZ (hw _ (List.mem_of_getElem? (i := 15) rfl))) (by decide) (own_back (W := 0) (sf := [a0]) (rm3 l Z aZ hw hEL [] a0 a1 h0 n0 (Nat.le_trans Z0 K0.1) E1 F1 F2 g_a0) hZ (hw _ (List.mem_of_getElem? (i := 15) rfl)) (hw _ (List.mem_of_getElem? (i := 7) rfl)) (by decide) (by decide) hEL HC.1 (allS E1.lt all0) (allS SF_a0 all0)) (g := (mkF m 6 #[.val (.ref a0), .val (.ref a1)] [.null, (.int (0 : Int32)), (.int (0 : Int32)), (.ref a1), (.ref a0)])) rfl (by rw [hml]; rfl) (Steps.refl _) (a := a0) (argsL := [(.ref a1), (.int (0 : Int32)), (.int (0 : Int32)), .null]) (rest := []) (lenOf pd_0 rfl) rfl (by show 2 * 0 + _ ≤ _; exact Nat.le_of_eq rfl) (hb hby d2_6) (fun _ _ => ⟨rfl, e0, (by decide : 0 + 4 ≤ _), (by decide : 0 + 8 ≤ _)⟩)
  dsimp only [Pt.U, Pt.locs, Pt.cells, Pt.slots] at X104 l104 y104 z104 st104 hQ104 hSn hgn C104
  have X104 : Stand p l e ({ frames := 2, cells := 4, slots := 8, locals := 29 } : Room) (s.setVm T104.vm) m #[(.ref a0), (.ref a1)] below meth c T104 L104 k104 n104 := X104
  have SFn_a0 := CHr.safe C104 E1.lt SF_a0
  have HC := HC.trans C104
  have SF_a0 := SFn_a0
  have hk104 := hk
  have hS := State.Since.trans hS hSn (Nat.le_trans hk104 (by rw [← e0]; exact hgn))
  have hk := Nat.le_refl T104.heap.size
  have hown : (s.setVm T104.vm).vm.findClass "java/lang/String" = some m.cls := by rw [show (s.setVm T104.vm).vm = T104.vm from rfl, hSn.1.alike.findClass]; exact hown
  have hZ : Z.Warmed39 T104.vm := State.Warmed39.trans hZ hSn.1
  subst l104 y104 z104
  obtain ⟨t9104, k9104, rfl, N104q, Kq104, P104_0, P104_1, P104_2, P104_3⟩ := hQ104
  have N104 := Fr.app N0 N104q
  refine OFinH.tr st104 ?_
  have K104 : Keep h0 T104.heap [a0] := K0.trans Kq104 (allS (Or.inl (List.mem_of_getElem? (i := 0) rfl)) all0)
  exact OFinH.retV X104 hS hk hZ hEL rfl HC hx hret hlk (hb hby d2_9) ⟨t9104, k9104, rfl, N104, K104, P104_0, P104_1, P104_2, P104_3⟩ (by decide) (by decide)
theorem d1_0 : decode method_2_code 0 = .ok (.iload_n 0, 1) := by decide +kernel
theorem d1_1 : decode method_2_code 1 = .ok (.ifCond .ne 14, 3) := by decide +kernel
theorem d1_4 : decode method_2_code 4 = .ok (.new 7, 3) := by decide +kernel
theorem d1_7 : decode method_2_code 7 = .ok (.dup, 1) := by decide +kernel
theorem d1_8 : decode method_2_code 8 = .ok (.iconst 0, 1) := by decide +kernel
theorem d1_9 : decode method_2_code 9 = .ok (.newarray .char, 2) := by decide +kernel
theorem d1_11 : decode method_2_code 11 = .ok (.invokespecial 9, 3) := by decide +kernel
theorem d1_14 : decode method_2_code 14 = .ok (.areturn, 1) := by decide +kernel
theorem d1_15 : decode method_2_code 15 = .ok (.iload_n 0, 1) := by decide +kernel
theorem d1_16 : decode method_2_code 16 = .ok (.iconst 1, 1) := by decide +kernel
theorem d1_17 : decode method_2_code 17 = .ok (.if_icmp .ne 18, 3) := by decide +kernel
theorem d1_20 : decode method_2_code 20 = .ok (.new 7, 3) := by decide +kernel
theorem d1_23 : decode method_2_code 23 = .ok (.dup, 1) := by decide +kernel
theorem d1_24 : decode method_2_code 24 = .ok (.iconst 1, 1) := by decide +kernel
theorem d1_25 : decode method_2_code 25 = .ok (.newarray .char, 2) := by decide +kernel
theorem d1_27 : decode method_2_code 27 = .ok (.dup, 1) := by decide +kernel
theorem d1_28 : decode method_2_code 28 = .ok (.iconst 0, 1) := by decide +kernel
theorem d1_29 : decode method_2_code 29 = .ok (.iload_n 1, 1) := by decide +kernel
theorem d1_30 : decode method_2_code 30 = .ok (.castore, 1) := by decide +kernel
theorem d1_31 : decode method_2_code 31 = .ok (.invokespecial 9, 3) := by decide +kernel
theorem d1_34 : decode method_2_code 34 = .ok (.areturn, 1) := by decide +kernel
theorem d1_35 : decode method_2_code 35 = .ok (.iload_n 0, 1) := by decide +kernel
theorem d1_36 : decode method_2_code 36 = .ok (.iconst 2, 1) := by decide +kernel
theorem d1_37 : decode method_2_code 37 = .ok (.if_icmp .ne 22, 3) := by decide +kernel
theorem d1_40 : decode method_2_code 40 = .ok (.new 7, 3) := by decide +kernel
theorem d1_43 : decode method_2_code 43 = .ok (.dup, 1) := by decide +kernel
theorem d1_44 : decode method_2_code 44 = .ok (.iconst 2, 1) := by decide +kernel
theorem d1_45 : decode method_2_code 45 = .ok (.newarray .char, 2) := by decide +kernel
theorem d1_47 : decode method_2_code 47 = .ok (.dup, 1) := by decide +kernel
theorem d1_48 : decode method_2_code 48 = .ok (.iconst 0, 1) := by decide +kernel
theorem d1_49 : decode method_2_code 49 = .ok (.iload_n 1, 1) := by decide +kernel
theorem d1_50 : decode method_2_code 50 = .ok (.castore, 1) := by decide +kernel
theorem d1_51 : decode method_2_code 51 = .ok (.dup, 1) := by decide +kernel
theorem d1_52 : decode method_2_code 52 = .ok (.iconst 1, 1) := by decide +kernel
theorem d1_53 : decode method_2_code 53 = .ok (.iload_n 2, 1) := by decide +kernel
theorem d1_54 : decode method_2_code 54 = .ok (.castore, 1) := by decide +kernel
theorem d1_55 : decode method_2_code 55 = .ok (.invokespecial 9, 3) := by decide +kernel
theorem d1_58 : decode method_2_code 58 = .ok (.areturn, 1) := by decide +kernel
theorem d1_59 : decode method_2_code 59 = .ok (.iload_n 0, 1) := by decide +kernel
theorem d1_60 : decode method_2_code 60 = .ok (.iconst 3, 1) := by decide +kernel
theorem d1_61 : decode method_2_code 61 = .ok (.if_icmp .ne 26, 3) := by decide +kernel
theorem d1_64 : decode method_2_code 64 = .ok (.new 7, 3) := by decide +kernel
theorem d1_67 : decode method_2_code 67 = .ok (.dup, 1) := by decide +kernel
theorem d1_68 : decode method_2_code 68 = .ok (.iconst 3, 1) := by decide +kernel
theorem d1_69 : decode method_2_code 69 = .ok (.newarray .char, 2) := by decide +kernel
theorem d1_71 : decode method_2_code 71 = .ok (.dup, 1) := by decide +kernel
theorem d1_72 : decode method_2_code 72 = .ok (.iconst 0, 1) := by decide +kernel
theorem d1_73 : decode method_2_code 73 = .ok (.iload_n 1, 1) := by decide +kernel
theorem d1_74 : decode method_2_code 74 = .ok (.castore, 1) := by decide +kernel
theorem d1_75 : decode method_2_code 75 = .ok (.dup, 1) := by decide +kernel
theorem d1_76 : decode method_2_code 76 = .ok (.iconst 1, 1) := by decide +kernel
theorem d1_77 : decode method_2_code 77 = .ok (.iload_n 2, 1) := by decide +kernel
theorem d1_78 : decode method_2_code 78 = .ok (.castore, 1) := by decide +kernel
theorem d1_79 : decode method_2_code 79 = .ok (.dup, 1) := by decide +kernel
theorem d1_80 : decode method_2_code 80 = .ok (.iconst 2, 1) := by decide +kernel
theorem d1_81 : decode method_2_code 81 = .ok (.iload_n 3, 1) := by decide +kernel
theorem d1_82 : decode method_2_code 82 = .ok (.castore, 1) := by decide +kernel
theorem d1_83 : decode method_2_code 83 = .ok (.invokespecial 9, 3) := by decide +kernel
theorem d1_86 : decode method_2_code 86 = .ok (.areturn, 1) := by decide +kernel
theorem d1_87 : decode method_2_code 87 = .ok (.iload_n 0, 1) := by decide +kernel
theorem d1_88 : decode method_2_code 88 = .ok (.iconst 4, 1) := by decide +kernel
theorem d1_89 : decode method_2_code 89 = .ok (.if_icmp .ne 31, 3) := by decide +kernel
theorem d1_92 : decode method_2_code 92 = .ok (.new 7, 3) := by decide +kernel
theorem d1_95 : decode method_2_code 95 = .ok (.dup, 1) := by decide +kernel
theorem d1_96 : decode method_2_code 96 = .ok (.iconst 4, 1) := by decide +kernel
theorem d1_97 : decode method_2_code 97 = .ok (.newarray .char, 2) := by decide +kernel
theorem d1_99 : decode method_2_code 99 = .ok (.dup, 1) := by decide +kernel
theorem d1_100 : decode method_2_code 100 = .ok (.iconst 0, 1) := by decide +kernel
theorem d1_101 : decode method_2_code 101 = .ok (.iload_n 1, 1) := by decide +kernel
theorem d1_102 : decode method_2_code 102 = .ok (.castore, 1) := by decide +kernel
theorem d1_103 : decode method_2_code 103 = .ok (.dup, 1) := by decide +kernel
theorem d1_104 : decode method_2_code 104 = .ok (.iconst 1, 1) := by decide +kernel
theorem d1_105 : decode method_2_code 105 = .ok (.iload_n 2, 1) := by decide +kernel
theorem d1_106 : decode method_2_code 106 = .ok (.castore, 1) := by decide +kernel
theorem d1_107 : decode method_2_code 107 = .ok (.dup, 1) := by decide +kernel
theorem d1_108 : decode method_2_code 108 = .ok (.iconst 2, 1) := by decide +kernel
theorem d1_109 : decode method_2_code 109 = .ok (.iload_n 3, 1) := by decide +kernel
theorem d1_110 : decode method_2_code 110 = .ok (.castore, 1) := by decide +kernel
theorem d1_111 : decode method_2_code 111 = .ok (.dup, 1) := by decide +kernel
theorem d1_112 : decode method_2_code 112 = .ok (.iconst 3, 1) := by decide +kernel
theorem d1_113 : decode method_2_code 113 = .ok (.iload 4, 2) := by decide +kernel
theorem d1_115 : decode method_2_code 115 = .ok (.castore, 1) := by decide +kernel
theorem d1_116 : decode method_2_code 116 = .ok (.invokespecial 9, 3) := by decide +kernel
theorem d1_119 : decode method_2_code 119 = .ok (.areturn, 1) := by decide +kernel
theorem d1_120 : decode method_2_code 120 = .ok (.iload_n 0, 1) := by decide +kernel
theorem d1_121 : decode method_2_code 121 = .ok (.iconst 5, 1) := by decide +kernel
theorem d1_122 : decode method_2_code 122 = .ok (.if_icmp .ne 36, 3) := by decide +kernel
theorem d1_125 : decode method_2_code 125 = .ok (.new 7, 3) := by decide +kernel
theorem d1_128 : decode method_2_code 128 = .ok (.dup, 1) := by decide +kernel
theorem d1_129 : decode method_2_code 129 = .ok (.iconst 5, 1) := by decide +kernel
theorem d1_130 : decode method_2_code 130 = .ok (.newarray .char, 2) := by decide +kernel
theorem d1_132 : decode method_2_code 132 = .ok (.dup, 1) := by decide +kernel
theorem d1_133 : decode method_2_code 133 = .ok (.iconst 0, 1) := by decide +kernel
theorem d1_134 : decode method_2_code 134 = .ok (.iload_n 1, 1) := by decide +kernel
theorem d1_135 : decode method_2_code 135 = .ok (.castore, 1) := by decide +kernel
theorem d1_136 : decode method_2_code 136 = .ok (.dup, 1) := by decide +kernel
theorem d1_137 : decode method_2_code 137 = .ok (.iconst 1, 1) := by decide +kernel
theorem d1_138 : decode method_2_code 138 = .ok (.iload_n 2, 1) := by decide +kernel
theorem d1_139 : decode method_2_code 139 = .ok (.castore, 1) := by decide +kernel
theorem d1_140 : decode method_2_code 140 = .ok (.dup, 1) := by decide +kernel
theorem d1_141 : decode method_2_code 141 = .ok (.iconst 2, 1) := by decide +kernel
theorem d1_142 : decode method_2_code 142 = .ok (.iload_n 3, 1) := by decide +kernel
theorem d1_143 : decode method_2_code 143 = .ok (.castore, 1) := by decide +kernel
theorem d1_144 : decode method_2_code 144 = .ok (.dup, 1) := by decide +kernel
theorem d1_145 : decode method_2_code 145 = .ok (.iconst 3, 1) := by decide +kernel
theorem d1_146 : decode method_2_code 146 = .ok (.iload 4, 2) := by decide +kernel
theorem d1_148 : decode method_2_code 148 = .ok (.castore, 1) := by decide +kernel
theorem d1_149 : decode method_2_code 149 = .ok (.dup, 1) := by decide +kernel
theorem d1_150 : decode method_2_code 150 = .ok (.iconst 4, 1) := by decide +kernel
theorem d1_151 : decode method_2_code 151 = .ok (.iload 5, 2) := by decide +kernel
theorem d1_153 : decode method_2_code 153 = .ok (.castore, 1) := by decide +kernel
theorem d1_154 : decode method_2_code 154 = .ok (.invokespecial 9, 3) := by decide +kernel
theorem d1_157 : decode method_2_code 157 = .ok (.areturn, 1) := by decide +kernel
theorem d1_158 : decode method_2_code 158 = .ok (.aconst_null, 1) := by decide +kernel
theorem d1_159 : decode method_2_code 159 = .ok (.areturn, 1) := by decide +kernel
theorem pn_1 : plainName "com/example/avvik/avvik/io/XsdValuesIsTruePinLaw" = true := by first | (simp [plainName, overriddenIn]; done) | decide +kernel
theorem pd_1 : parseMethodDescriptor "([C)V" = some ⟨[(.array .char)], none⟩ := by decide +kernel
theorem ef_1k0 (m : MethodId) (x0 : Int32) (x1 : Int32) (x2 : Int32) (x3 : Int32) (x4 : Int32) (x5 : Int32) : entryFrame m #[(.int x0), (.int x1), (.int x2), (.int x3), (.int x4), (.int x5)] 6 = mkF m 0 #[.val (.int x0), .val (.int x1), .val (.int x2), .val (.int x3), .val (.int x4), .val (.int x5)] [] := by first | (simp [entryFrame, mkF, argsToLocals, Value.category]; done) | rfl
def Q1k0 (Z : State) (q1 : Int32) (q2 : Int32) (q3 : Int32) (q4 : Int32) (q5 : Int32) (h0 : Heap) (n0 : Nat) (v : Option Value) (h : Heap) (L : List Loc) : Prop := ∃ (b9 : Addr) (t9 : Addr) (k9 : ClassId), v = some (.ref b9) ∧ Fr n0 L ∧ Keep h0 h [] ∧ Exa Z h b9 "java/lang/String" ∧ Fld Z h b9 "java/lang/String" "value" "[B" (.ref t9) ∧ Fld Z h b9 "java/lang/String" "coder" "B" (.int (0 : Int32)) ∧ Arv Z h t9 k9 .byte (0 : Int32) [] (.int (0 : Int32))
set_option maxHeartbeats 40000000 in
theorem rm1k0 (l : Launch) (Z : State) (aZ : Array Value) (hw : ∀ d ∈ tables_1, d.before aZ Z = true) (hEL : EW Z aZ consts_1) (ws : List Jvm.Cond) (q1 : Int32) (q2 : Int32) (q3 : Int32) (q4 : Int32) (q5 : Int32) (h0 : Heap) (n0 : Nat) (Z0 : n0 ≤ h0.size) :
    MetFree l (⟨"com/example/avvik/avvik/io/XsdValuesIsTruePinLaw", "make", "(ICCCCC)Ljava/lang/String;"⟩ : MethodName) (head1 (Jvm.Cond.code (⟨"com/example/avvik/avvik/io/XsdValuesIsTruePinLaw", "make", "(ICCCCC)Ljava/lang/String;"⟩ : MethodName) method_2_code 6 (some (.object "java/lang/String")) :: ws) ({ frames := 3, cells := 6, slots := 12, locals := 43 } : Room)) (fun a U => a = #[(.int (0 : Int32)), (.int q1), (.int q2), (.int q3), (.int q4), (.int q5)] ∧ Z.Warmed39 U.vm ∧ U.heap = h0 ∧ CHv Z consts_1 U.vm h0 ∧ ∀ x ∈ [], Safe Z consts_1 U.vm h0 x) (fun _ _ _ _ _ => True) (fun _ U o U' => ∃ v L, o = .returned v ∧ Q1k0 Z q1 q2 q3 q4 q5 h0 n0 v U'.heap L ∧ CHr Z consts_1 U.vm U.heap U'.vm U'.heap ∧ ReturnedEndW U o U' L ({ frames := 3, cells := 6, slots := 12, locals := 43 } : Room).cells ({ frames := 3, cells := 6, slots := 12, locals := 43 } : Room).slots) := by
  refine MetFree.of_bodySF (plainFor_of_name pn_1) hisR ?_
  intro p e s m args below meth c s₁ Bd hml0 hP hK
  obtain ⟨rfl, hZ, hh, Hc, hsf⟩ := hP
  have hx := Bd.exec
  have hby := Bd.bytes
  have hret := Bd.returns
  have hlk : meth.locks = false := BodyLoose.notSynchronized Bd
  have hml : c.maxLocals = 6 := hml0
  have hown : s.vm.findClass "com/example/avvik/avvik/io/XsdValuesIsTruePinLaw" = some m.cls := findClass_of_methodNamed Bd.named
  have hnm := (name_of_methodNamed Bd.named Bd.method).1
  have X0 : Stand p l e ({ frames := 3, cells := 6, slots := 12, locals := 43 } : Room) (s.setVm s.vm) m #[(.int (0 : Int32)), (.int q1), (.int q2), (.int q3), (.int q4), (.int q5)] below meth c s₁ [] 0 0 := Stand.of_body Bd
  have hS : s.Since s.vm h0.size := State.WarmedH.since (State.WarmedH.refl s) _
  have hk : h0.size ≤ h0.size := Nat.le_refl _
  have hstr : ∀ a ∈ Bundle.stringAtoms, a.before aZ Z = true := fun d hd => hw d ((by decide +kernel : ∀ d ∈ Bundle.stringAtoms, d ∈ tables_1) d hd)
  have e0 : s₁.heap = h0 := by rw [← hh, Bd.state]; rfl
  have N0 := Fr.nil n0
  have K0 : Keep h0 h0 [] := Keep.refl _ _
  have pre0 : ∀ t, Steps p.tables e below (s₁.setTop (mkF m 0 #[.val (.int (0 : Int32)), .val (.int q1), .val (.int q2), .val (.int q3), .val (.int q4), .val (.int q5)] [])) t → Steps p.tables e below (s₁.setTop (entryFrame m #[(.int (0 : Int32)), (.int q1), (.int q2), (.int q3), (.int q4), (.int q5)] 6)) t := fun t k => castTop (ef_1k0 m (0 : Int32) q1 q2 q3 q4 q5) k
  have HC : CHr Z consts_1 s.vm h0 s.vm h0 := CHr.refl Hc
  suffices hfin : OFinH p e below s Z h0 (Q1k0 Z q1 q2 q3 q4 q5 h0 n0) ({ frames := 3, cells := 6, slots := 12, locals := 43 } : Room).cells ({ frames := 3, cells := 6, slots := 12, locals := 43 } : Room).slots (s₁.setTop (entryFrame m #[(.int (0 : Int32)), (.int q1), (.int q2), (.int q3), (.int q4), (.int q5)] 6)) by
    obtain ⟨s₂, o, a1, a2, a3, v, L, b1, b2, b3, b4⟩ := hfin
    exact ⟨s₂, o, a1, a2, a3, v, L, b1, b2, by rw [hh]; exact b3, b4⟩
  refine OFinH.go pre0 ?_
  have sg101 : ∀ t, Steps p.tables e below (s₁.setTop (mkF m 4 #[.val (.int (0 : Int32)), .val (.int q1), .val (.int q2), .val (.int q3), .val (.int q4), .val (.int q5)] [])) t → Steps p.tables e below (s₁.setTop (mkF m 0 #[.val (.int (0 : Int32)), .val (.int q1), .val (.int q2), .val (.int q3), .val (.int q4), .val (.int q5)] [])) t := by
    intro t k
    show Steps p.tables e below (s₁.setTop (mkF m 0 #[.val (.int (0 : Int32)), .val (.int q1), .val (.int q2), .val (.int q3), .val (.int q4), .val (.int q5)] [])) t
    refine XS.iloadN X0.here hx rfl (hb hby d1_0) rfl ?_
    show Steps p.tables e below (s₁.setTop (mkF m 1 #[.val (.int (0 : Int32)), .val (.int q1), .val (.int q2), .val (.int q3), .val (.int q4), .val (.int q5)] [(.int (0 : Int32))])) t
    refine XS.ifNo X0.here hx rfl (hb hby d1_1) rfl ((if0 _ _).trans (teq (by decide : (0 : Int32) = (0 : Int32))).2) ?_
    exact k
  refine OFinH.go sg101 ?_
  obtain ⟨T102, h102, X102, e102, E102, A102, D102, -, st102⟩ := newO X0 hx hZ hown (hw _ (List.mem_of_getElem? (i := 5) rfl)) (hw _ (List.mem_of_getElem? (i := 6) rfl)) (hw _ (List.mem_of_getElem? (i := 7) rfl)) e0 (g := (mkF m 4 #[.val (.int (0 : Int32)), .val (.int q1), .val (.int q2), .val (.int q3), .val (.int q4), .val (.int q5)] [])) rfl (hb hby d1_4) (by decide) (by decide)
  obtain ⟨b102, g102⟩ : ∃ z, z = h0.size := ⟨_, rfl⟩
  rw [← g102] at A102 D102 st102
  refine OFinH.go st102 ?_
  have g_b102 : n0 ≤ b102 := Nat.le_trans (Nat.le_trans Z0 K0.1) (Nat.le_of_eq g102.symm)
  have sz_b102 : h0.size ≤ b102 := Nat.le_trans K0.1 (Nat.le_of_eq g102.symm)
  have SF_b102 := Safe.ext E102 HC.1 (Safe.new (Nat.le_of_eq g102.symm))
  have HC := HC.trans (CHr.ext E102 HC.1)
  have K102 : Keep h0 h102 [] := K0.ext E102
  have F102_value : Fld Z h102 b102 "java/lang/String" "value" "[B" .null := D102 (Or.inr (hw _ (List.mem_of_getElem? (i := 21) rfl))) (ty := (.array .byte)) (by decide)
  have F102_coder : Fld Z h102 b102 "java/lang/String" "coder" "B" (.int (0 : Int32)) := D102 (Or.inr (hw _ (List.mem_of_getElem? (i := 22) rfl))) (ty := .byte) (by decide)
  have sg103 : ∀ t, Steps p.tables e below (T102.setTop (mkF m 9 #[.val (.int (0 : Int32)), .val (.int q1), .val (.int q2), .val (.int q3), .val (.int q4), .val (.int q5)] [(.int (0 : Int32)), (.ref b102), (.ref b102)])) t → Steps p.tables e below (T102.setTop (mkF m 7 #[.val (.int (0 : Int32)), .val (.int q1), .val (.int q2), .val (.int q3), .val (.int q4), .val (.int q5)] [(.ref b102)])) t := by
    intro t k
    show Steps p.tables e below (T102.setTop (mkF m 7 #[.val (.int (0 : Int32)), .val (.int q1), .val (.int q2), .val (.int q3), .val (.int q4), .val (.int q5)] [(.ref b102)])) t
    refine XS.dup X102.here hx rfl (hb hby d1_7) rfl rfl ?_
    show Steps p.tables e below (T102.setTop (mkF m 8 #[.val (.int (0 : Int32)), .val (.int q1), .val (.int q2), .val (.int q3), .val (.int q4), .val (.int q5)] [(.ref b102), (.ref b102)])) t
    refine XS.iconst X102.here hx rfl (hb hby d1_8) ?_
    exact k
  refine OFinH.go sg103 ?_
  obtain ⟨T104, h104, k104, X104, e104, E104, A104, st104⟩ := newP X102 hx hZ (hw _ (List.mem_of_getElem? (i := 8) rfl)) e102 (g := (mkF m 9 #[.val (.int (0 : Int32)), .val (.int q1), .val (.int q2), .val (.int q3), .val (.int q4), .val (.int q5)] [(.int (0 : Int32)), (.ref b102), (.ref b102)])) rfl (hb hby d1_9) rfl (by decide) (cap := 0) (by decide) (by decide) (by decide) (by decide)
  obtain ⟨b104, g104⟩ : ∃ z, z = h102.size := ⟨_, rfl⟩
  rw [← g104] at A104 st104
  refine OFinH.go st104 ?_
  have g_b104 : n0 ≤ b104 := Nat.le_trans (Nat.le_trans Z0 K102.1) (Nat.le_of_eq g104.symm)
  have sz_b104 : h0.size ≤ b104 := Nat.le_trans K102.1 (Nat.le_of_eq g104.symm)
  have SFn_b102 := Safe.ext E104 HC.1 SF_b102
  have HC := HC.trans (CHr.ext E104 HC.1)
  have SF_b102 := SFn_b102
  have K104 : Keep h0 h104 [] := K102.ext E104
  have V104 : Arv Z h104 b104 k104 .char (0 : Int32) [] (.int (0 : Int32)) := (Arv.new A104 (by decide)).pad (pad_rep [] (.int (0 : Int32)) 0)
  obtain ⟨_, _, ⟨T105, L105, k105, n105⟩, -, X105, hSn, hgn, ⟨Lc105, hQ105, l105, y105, z105, C105⟩, st105⟩ := X104.specialBackS hx (y := (⟨"java/lang/String", "<init>", "([C)V"⟩ : MethodName)) rfl hown (mvT hZ (hw _ (List.mem_of_getElem? (i := 9) rfl))) (mvT hZ (hw _ (List.mem_of_getElem? (i := 10) rfl))) (mvT hZ (hw _ (List.mem_of_getElem? (i := 11) rfl))) (by decide) (own_back (W := 1) (sf := [b102]) (rm2 l Z aZ hw hEL [] b102 b104 k104 h104 n0 (Nat.le_trans Z0 K104.1) (A102.ext E104) (F102_value.ext E104) (F102_coder.ext E104) V104 g_b102) hZ (hw _ (List.mem_of_getElem? (i := 11) rfl)) (hw _ (List.mem_of_getElem? (i := 7) rfl)) (by decide) (by decide) hEL HC.1 (allS (A102.ext E104).lt all0) (allS SF_b102 all0)) (g := (mkF m 11 #[.val (.int (0 : Int32)), .val (.int q1), .val (.int q2), .val (.int q3), .val (.int q4), .val (.int q5)] [(.ref b104), (.ref b102), (.ref b102)])) rfl (by rw [hml]; rfl) (Steps.refl _) (a := b102) (argsL := [(.ref b104)]) (rest := [(.ref b102)]) (lenOf pd_1 rfl) rfl (by show 2 * 0 + _ ≤ _; exact Nat.le_of_eq rfl) (hb hby d1_11) (fun _ _ => ⟨rfl, e104, (by decide : 2 + 4 ≤ _), (by decide : 4 + 8 ≤ _)⟩)
  dsimp only [Pt.U, Pt.locs, Pt.cells, Pt.slots] at X105 l105 y105 z105 st105 hQ105 hSn hgn C105
  have X105 : Stand p l e ({ frames := 3, cells := 6, slots := 12, locals := 43 } : Room) (s.setVm T105.vm) m #[(.int (0 : Int32)), (.int q1), (.int q2), (.int q3), (.int q4), (.int q5)] below meth c T105 L105 k105 n105 := X105
  have SFn_b102 := CHr.safe C105 (A102.ext E104).lt SF_b102
  have HC := HC.trans C105
  have SF_b102 := SFn_b102
  have hk105 := (Nat.le_trans (Nat.le_trans hk E102.1) E104.1)
  have hS := State.Since.trans hS hSn (Nat.le_trans hk105 (by rw [← e104]; exact hgn))
  have hk := Nat.le_refl T105.heap.size
  have hown : (s.setVm T105.vm).vm.findClass "com/example/avvik/avvik/io/XsdValuesIsTruePinLaw" = some m.cls := by rw [show (s.setVm T105.vm).vm = T105.vm from rfl, hSn.1.alike.findClass]; exact hown
  have hZ : Z.Warmed39 T105.vm := State.Warmed39.trans hZ hSn.1
  subst l105 y105 z105
  obtain ⟨t9105, k9105, rfl, N105q, Kq105, P105_0, P105_1, P105_2, P105_3⟩ := hQ105
  have N105 := Fr.app N0 N105q
  refine OFinH.tr st105 ?_
  have K105 : Keep h0 T105.heap [] := K104.trans Kq105 (allS (Or.inr sz_b102) all0)
  exact OFinH.retA X105 hS hk hZ hEL rfl HC hx hret rfl rfl rfl hlk (hb hby d1_14) ⟨b102, t9105, k9105, rfl, N105, K105, P105_0, P105_1, P105_2, P105_3⟩ (by decide) (by decide)
theorem ef_1k1 (m : MethodId) (x0 : Int32) (x1 : Int32) (x2 : Int32) (x3 : Int32) (x4 : Int32) (x5 : Int32) : entryFrame m #[(.int x0), (.int x1), (.int x2), (.int x3), (.int x4), (.int x5)] 6 = mkF m 0 #[.val (.int x0), .val (.int x1), .val (.int x2), .val (.int x3), .val (.int x4), .val (.int x5)] [] := by first | (simp [entryFrame, mkF, argsToLocals, Value.category]; done) | rfl
def Q1k1 (Z : State) (q1 : Int32) (q2 : Int32) (q3 : Int32) (q4 : Int32) (q5 : Int32) (w1 : Int32) (h0 : Heap) (n0 : Nat) (v : Option Value) (h : Heap) (L : List Loc) : Prop := ∃ (b9 : Addr) (t9 : Addr) (k9 : ClassId), v = some (.ref b9) ∧ Fr n0 L ∧ Keep h0 h [] ∧ Exa Z h b9 "java/lang/String" ∧ Fld Z h b9 "java/lang/String" "value" "[B" (.ref t9) ∧ Fld Z h b9 "java/lang/String" "coder" "B" (.int (0 : Int32)) ∧ Arv Z h t9 k9 .byte (1 : Int32) ((([(nar .char q1)] : List Int32).map (fun c => c.toInt8.toInt32)).map Value.int) (.int (0 : Int32))
set_option maxHeartbeats 40000000 in
theorem rm1k1 (l : Launch) (Z : State) (aZ : Array Value) (hw : ∀ d ∈ tables_1, d.before aZ Z = true) (hEL : EW Z aZ consts_1) (ws : List Jvm.Cond) (q1 : Int32) (q2 : Int32) (q3 : Int32) (q4 : Int32) (q5 : Int32) (w1 : Int32) (h0 : Heap) (n0 : Nat) (Z0 : n0 ≤ h0.size) (O0 : Old Z n0 h0) (S1 : Sta Z Z.heap "java/lang/String" "COMPACT_STRINGS" "Z" (.int w1)) (hcs : ¬ (w1 = (0 : Int32))) (hq1 : ¬ nar .char q1 < 0 ∧ ¬ (255 : Int32) < nar .char q1) :
    MetFree l (⟨"com/example/avvik/avvik/io/XsdValuesIsTruePinLaw", "make", "(ICCCCC)Ljava/lang/String;"⟩ : MethodName) (head1 (Jvm.Cond.code (⟨"com/example/avvik/avvik/io/XsdValuesIsTruePinLaw", "make", "(ICCCCC)Ljava/lang/String;"⟩ : MethodName) method_2_code 6 (some (.object "java/lang/String")) :: ws) ({ frames := 4, cells := 3, slots := 6, locals := 66 } : Room)) (fun a U => a = #[(.int (1 : Int32)), (.int q1), (.int q2), (.int q3), (.int q4), (.int q5)] ∧ Z.Warmed39 U.vm ∧ U.heap = h0 ∧ CHv Z consts_1 U.vm h0 ∧ ∀ x ∈ [], Safe Z consts_1 U.vm h0 x) (fun _ _ _ _ _ => True) (fun _ U o U' => ∃ v L, o = .returned v ∧ Q1k1 Z q1 q2 q3 q4 q5 w1 h0 n0 v U'.heap L ∧ CHr Z consts_1 U.vm U.heap U'.vm U'.heap ∧ ReturnedEndW U o U' L ({ frames := 4, cells := 3, slots := 6, locals := 66 } : Room).cells ({ frames := 4, cells := 3, slots := 6, locals := 66 } : Room).slots) := by
  refine MetFree.of_bodySF (plainFor_of_name pn_1) hisR ?_
  intro p e s m args below meth c s₁ Bd hml0 hP hK
  obtain ⟨rfl, hZ, hh, Hc, hsf⟩ := hP
  have hx := Bd.exec
  have hby := Bd.bytes
  have hret := Bd.returns
  have hlk : meth.locks = false := BodyLoose.notSynchronized Bd
  have hml : c.maxLocals = 6 := hml0
  have hown : s.vm.findClass "com/example/avvik/avvik/io/XsdValuesIsTruePinLaw" = some m.cls := findClass_of_methodNamed Bd.named
  have hnm := (name_of_methodNamed Bd.named Bd.method).1
  have X0 : Stand p l e ({ frames := 4, cells := 3, slots := 6, locals := 66 } : Room) (s.setVm s.vm) m #[(.int (1 : Int32)), (.int q1), (.int q2), (.int q3), (.int q4), (.int q5)] below meth c s₁ [] 0 0 := Stand.of_body Bd
  have hS : s.Since s.vm h0.size := State.WarmedH.since (State.WarmedH.refl s) _
  have hk : h0.size ≤ h0.size := Nat.le_refl _
  have hstr : ∀ a ∈ Bundle.stringAtoms, a.before aZ Z = true := fun d hd => hw d ((by decide +kernel : ∀ d ∈ Bundle.stringAtoms, d ∈ tables_1) d hd)
  have e0 : s₁.heap = h0 := by rw [← hh, Bd.state]; rfl
  have N0 := Fr.nil n0
  have K0 : Keep h0 h0 [] := Keep.refl _ _
  have pre0 : ∀ t, Steps p.tables e below (s₁.setTop (mkF m 0 #[.val (.int (1 : Int32)), .val (.int q1), .val (.int q2), .val (.int q3), .val (.int q4), .val (.int q5)] [])) t → Steps p.tables e below (s₁.setTop (entryFrame m #[(.int (1 : Int32)), (.int q1), (.int q2), (.int q3), (.int q4), (.int q5)] 6)) t := fun t k => castTop (ef_1k1 m (1 : Int32) q1 q2 q3 q4 q5) k
  have HC : CHr Z consts_1 s.vm h0 s.vm h0 := CHr.refl Hc
  suffices hfin : OFinH p e below s Z h0 (Q1k1 Z q1 q2 q3 q4 q5 w1 h0 n0) ({ frames := 4, cells := 3, slots := 6, locals := 66 } : Room).cells ({ frames := 4, cells := 3, slots := 6, locals := 66 } : Room).slots (s₁.setTop (entryFrame m #[(.int (1 : Int32)), (.int q1), (.int q2), (.int q3), (.int q4), (.int q5)] 6)) by
    obtain ⟨s₂, o, a1, a2, a3, v, L, b1, b2, b3, b4⟩ := hfin
    exact ⟨s₂, o, a1, a2, a3, v, L, b1, b2, by rw [hh]; exact b3, b4⟩
  refine OFinH.go pre0 ?_
  have sg101 : ∀ t, Steps p.tables e below (s₁.setTop (mkF m 20 #[.val (.int (1 : Int32)), .val (.int q1), .val (.int q2), .val (.int q3), .val (.int q4), .val (.int q5)] [])) t → Steps p.tables e below (s₁.setTop (mkF m 0 #[.val (.int (1 : Int32)), .val (.int q1), .val (.int q2), .val (.int q3), .val (.int q4), .val (.int q5)] [])) t := by
    intro t k
    show Steps p.tables e below (s₁.setTop (mkF m 0 #[.val (.int (1 : Int32)), .val (.int q1), .val (.int q2), .val (.int q3), .val (.int q4), .val (.int q5)] [])) t
    refine XS.iloadN X0.here hx rfl (hb hby d1_0) rfl ?_
    show Steps p.tables e below (s₁.setTop (mkF m 1 #[.val (.int (1 : Int32)), .val (.int q1), .val (.int q2), .val (.int q3), .val (.int q4), .val (.int q5)] [(.int (1 : Int32))])) t
    refine XS.ifYes X0.here hx rfl (pc0 := 1) (pc' := 15) rfl (hb hby d1_1) rfl ((if0 _ _).trans (feq (by decide : ¬ ((1 : Int32) = (0 : Int32)))).2) (by decide) (by decide) ?_
    show Steps p.tables e below (s₁.setTop (mkF m 15 #[.val (.int (1 : Int32)), .val (.int q1), .val (.int q2), .val (.int q3), .val (.int q4), .val (.int q5)] [])) t
    refine XS.iloadN X0.here hx rfl (hb hby d1_15) rfl ?_
    show Steps p.tables e below (s₁.setTop (mkF m 16 #[.val (.int (1 : Int32)), .val (.int q1), .val (.int q2), .val (.int q3), .val (.int q4), .val (.int q5)] [(.int (1 : Int32))])) t
    refine XS.iconst X0.here hx rfl (hb hby d1_16) ?_
    show Steps p.tables e below (s₁.setTop (mkF m 17 #[.val (.int (1 : Int32)), .val (.int q1), .val (.int q2), .val (.int q3), .val (.int q4), .val (.int q5)] [(.int (1 : Int32)), (.int (1 : Int32))])) t
    refine XS.icmpNo X0.here hx rfl (hb hby d1_17) rfl (teq (by decide : (1 : Int32) = (1 : Int32))).2 ?_
    exact k
  refine OFinH.go sg101 ?_
  obtain ⟨T102, h102, X102, e102, E102, A102, D102, -, st102⟩ := newO X0 hx hZ hown (hw _ (List.mem_of_getElem? (i := 5) rfl)) (hw _ (List.mem_of_getElem? (i := 6) rfl)) (hw _ (List.mem_of_getElem? (i := 7) rfl)) e0 (g := (mkF m 20 #[.val (.int (1 : Int32)), .val (.int q1), .val (.int q2), .val (.int q3), .val (.int q4), .val (.int q5)] [])) rfl (hb hby d1_20) (by decide) (by decide)
  obtain ⟨b102, g102⟩ : ∃ z, z = h0.size := ⟨_, rfl⟩
  rw [← g102] at A102 D102 st102
  refine OFinH.go st102 ?_
  have g_b102 : n0 ≤ b102 := Nat.le_trans (Nat.le_trans Z0 K0.1) (Nat.le_of_eq g102.symm)
  have sz_b102 : h0.size ≤ b102 := Nat.le_trans K0.1 (Nat.le_of_eq g102.symm)
  have SF_b102 := Safe.ext E102 HC.1 (Safe.new (Nat.le_of_eq g102.symm))
  have HC := HC.trans (CHr.ext E102 HC.1)
  have K102 : Keep h0 h102 [] := K0.ext E102
  have F102_value : Fld Z h102 b102 "java/lang/String" "value" "[B" .null := D102 (Or.inr (hw _ (List.mem_of_getElem? (i := 21) rfl))) (ty := (.array .byte)) (by decide)
  have F102_coder : Fld Z h102 b102 "java/lang/String" "coder" "B" (.int (0 : Int32)) := D102 (Or.inr (hw _ (List.mem_of_getElem? (i := 22) rfl))) (ty := .byte) (by decide)
  have sg103 : ∀ t, Steps p.tables e below (T102.setTop (mkF m 25 #[.val (.int (1 : Int32)), .val (.int q1), .val (.int q2), .val (.int q3), .val (.int q4), .val (.int q5)] [(.int (1 : Int32)), (.ref b102), (.ref b102)])) t → Steps p.tables e below (T102.setTop (mkF m 23 #[.val (.int (1 : Int32)), .val (.int q1), .val (.int q2), .val (.int q3), .val (.int q4), .val (.int q5)] [(.ref b102)])) t := by
    intro t k
    show Steps p.tables e below (T102.setTop (mkF m 23 #[.val (.int (1 : Int32)), .val (.int q1), .val (.int q2), .val (.int q3), .val (.int q4), .val (.int q5)] [(.ref b102)])) t
    refine XS.dup X102.here hx rfl (hb hby d1_23) rfl rfl ?_
    show Steps p.tables e below (T102.setTop (mkF m 24 #[.val (.int (1 : Int32)), .val (.int q1), .val (.int q2), .val (.int q3), .val (.int q4), .val (.int q5)] [(.ref b102), (.ref b102)])) t
    refine XS.iconst X102.here hx rfl (hb hby d1_24) ?_
    exact k
  refine OFinH.go sg103 ?_
  obtain ⟨T104, h104, k104, X104, e104, E104, A104, st104⟩ := newP X102 hx hZ (hw _ (List.mem_of_getElem? (i := 8) rfl)) e102 (g := (mkF m 25 #[.val (.int (1 : Int32)), .val (.int q1), .val (.int q2), .val (.int q3), .val (.int q4), .val (.int q5)] [(.int (1 : Int32)), (.ref b102), (.ref b102)])) rfl (hb hby d1_25) rfl (by decide) (cap := 1) (by decide) (by decide) (by decide) (by decide)
  obtain ⟨b104, g104⟩ : ∃ z, z = h102.size := ⟨_, rfl⟩
  rw [← g104] at A104 st104
  refine OFinH.go st104 ?_
  have g_b104 : n0 ≤ b104 := Nat.le_trans (Nat.le_trans Z0 K102.1) (Nat.le_of_eq g104.symm)
  have sz_b104 : h0.size ≤ b104 := Nat.le_trans K102.1 (Nat.le_of_eq g104.symm)
  have SFn_b102 := Safe.ext E104 HC.1 SF_b102
  have HC := HC.trans (CHr.ext E104 HC.1)
  have SF_b102 := SFn_b102
  have K104 : Keep h0 h104 [] := K102.ext E104
  have V104 : Arv Z h104 b104 k104 .char (1 : Int32) [(.int (0 : Int32))] (.int (0 : Int32)) := (Arv.new A104 (by decide)).pad (pad_rep [] (.int (0 : Int32)) 1)
  have sg105 : ∀ t, Steps p.tables e below (T104.setTop (mkF m 30 #[.val (.int (1 : Int32)), .val (.int q1), .val (.int q2), .val (.int q3), .val (.int q4), .val (.int q5)] [(.int q1), (.int (0 : Int32)), (.ref b104), (.ref b104), (.ref b102), (.ref b102)])) t → Steps p.tables e below (T104.setTop (mkF m 27 #[.val (.int (1 : Int32)), .val (.int q1), .val (.int q2), .val (.int q3), .val (.int q4), .val (.int q5)] [(.ref b104), (.ref b102), (.ref b102)])) t := by
    intro t k
    show Steps p.tables e below (T104.setTop (mkF m 27 #[.val (.int (1 : Int32)), .val (.int q1), .val (.int q2), .val (.int q3), .val (.int q4), .val (.int q5)] [(.ref b104), (.ref b102), (.ref b102)])) t
    refine XS.dup X104.here hx rfl (hb hby d1_27) rfl rfl ?_
    show Steps p.tables e below (T104.setTop (mkF m 28 #[.val (.int (1 : Int32)), .val (.int q1), .val (.int q2), .val (.int q3), .val (.int q4), .val (.int q5)] [(.ref b104), (.ref b104), (.ref b102), (.ref b102)])) t
    refine XS.iconst X104.here hx rfl (hb hby d1_28) ?_
    show Steps p.tables e below (T104.setTop (mkF m 29 #[.val (.int (1 : Int32)), .val (.int q1), .val (.int q2), .val (.int q3), .val (.int q4), .val (.int q5)] [(.int (0 : Int32)), (.ref b104), (.ref b104), (.ref b102), (.ref b102)])) t
    refine XS.iloadN X104.here hx rfl (hb hby d1_29) rfl ?_
    exact k
  refine OFinH.go sg105 ?_
  obtain ⟨cl106, Ar106, q106, S106, M106, H106, G106⟩ := id V104
  have hin106 : ¬ ((0 : Int32) < 0 ∨ cl106.slots.size ≤ ((0 : Int32)).toNatClampNeg) := inb_of S106 ⟨by decide, by decide⟩
  obtain ⟨T106, h106, X106, e106, W106, st106⟩ := stC X104 hx hZ e104 Ar106 (j := (0 : Int32)) hin106 (g := (mkF m 30 #[.val (.int (1 : Int32)), .val (.int q1), .val (.int q2), .val (.int q3), .val (.int q4), .val (.int q5)] [(.int q1), (.int (0 : Int32)), (.ref b104), (.ref b104), (.ref b102), (.ref b102)])) rfl rfl (hb hby d1_30)
  refine OFinH.go st106 ?_
  have V106 : Arv Z h106 b104 k104 .char (1 : Int32) [(.int (nar .char q1))] (.int (0 : Int32)) := Arv.set Ar106 q106 S106 M106 H106 G106 (fits_nar_char _) W106 0 rfl (Nat.le_of_ble_eq_true rfl)
  have SFn_b102 := Safe.wr W106 (Safe.arr hZ.alike Ar106 (by decide)) HC.1 SF_b102
  have HC := HC.trans (CHr.wr W106 (Safe.arr hZ.alike Ar106 (by decide)) HC.1)
  have SF_b102 := SFn_b102
  have K106 : Keep h0 h106 [] := K104.wr W106 (Or.inr sz_b104)
  have N106 := Fr.snoc X106 N0 g_b104
  have hws : ∀ d ∈ StrChars.Road.words, d.before aZ Z = true := fun d hd => hw d ((by decide +kernel : ∀ d ∈ StrChars.Road.words, d ∈ tables_1) d hd)
  obtain ⟨_, _, ⟨T107, L107, k107, n107⟩, -, X107, ⟨Lc107, hQ107, l107, y107, z107⟩, st107⟩ := X106.specialBack hx (y := (⟨"java/lang/String", "<init>", "([C)V"⟩ : MethodName)) rfl hown (mvT hZ (hw _ (List.mem_of_getElem? (i := 9) rfl))) (mvT hZ (hw _ (List.mem_of_getElem? (i := 10) rfl))) (mvT hZ (hw _ (List.mem_of_getElem? (i := 11) rfl))) (by decide) (StrChars.Road.backV (W := 1) hZ hws (kI := 4) (hw _ (List.mem_of_getElem? (i := 6) rfl)) (cs := ([(nar .char q1)] : List Int32)) (bs := ([(nar .char q1)] : List Int32).map (fun c => c.toInt8.toInt32)) (n := 1) g_b102 (Nat.le_trans Z0 K106.1) ((A102.ext E104).wr W106) ((F102_value.ext E104).other W106 (Or.inl (Nat.ne_of_lt (Nat.lt_of_lt_of_le A102.lt (Nat.le_of_eq g104.symm))))) ((F102_coder.ext E104).other W106 (Or.inl (Nat.ne_of_lt (Nat.lt_of_lt_of_le A102.lt (Nat.le_of_eq g104.symm))))) V106 (S1.ext (((O0.ext E102).ext E104).wr W106 g_b104).2) hcs rfl rfl (by decide) (by decide) (own_allS hq1 own_all0) rfl (by decide) (by decide)) (g := (mkF m 31 #[.val (.int (1 : Int32)), .val (.int q1), .val (.int q2), .val (.int q3), .val (.int q4), .val (.int q5)] [(.ref b104), (.ref b102), (.ref b102)])) rfl (by rw [hml]; rfl) (Steps.refl _) (a := b102) (argsL := [(.ref b104)]) (rest := [(.ref b102)]) (lenOf pd_1 rfl) rfl (by show 2 * 0 + _ ≤ _; exact Nat.le_of_eq rfl) (hb hby d1_31) (fun _ _ => ⟨rfl, e106, (by decide : 2 + 1 ≤ _), (by decide : 5 + 1 ≤ _)⟩)
  dsimp only [Pt.U, Pt.locs, Pt.cells, Pt.slots] at X107 l107 y107 z107 st107 hQ107
  subst l107 y107 z107
  obtain ⟨rfl, N107q, Kq107, P107_0, P107_1, t107, kb107, _, R107_0, _, P107_2, P107_3⟩ := hQ107
  have N107 := Fr.app N106 N107q
  refine OFinH.tr st107 ?_
  have K107 : Keep h0 T107.heap [] := K106.trans Kq107 (allS (Or.inr sz_b102) all0)
  have SFn_b102 := Safe.keep Kq107 (allS SF_b102 all0) HC.1 SF_b102
  have HC := HC.trans (CHr.keep Kq107 (allS SF_b102 all0) HC.1)
  have SF_b102 := SFn_b102
  have g_t107 : n0 ≤ t107 := Nat.le_trans (Nat.le_trans Z0 K106.1) R107_0
  have sz_t107 : h0.size ≤ t107 := Nat.le_trans K106.1 R107_0
  exact OFinH.retA X107 hS (Nat.le_trans (Nat.le_trans (Nat.le_trans (Nat.le_trans hk E102.1) E104.1) (Keep.of_wr W106).1) Kq107.1) hZ hEL rfl HC hx hret rfl rfl rfl hlk (hb hby d1_34) ⟨b102, t107, kb107, rfl, N107, K107, P107_0, P107_2, P107_1, P107_3⟩ (by decide) (by decide)
theorem ef_1k2 (m : MethodId) (x0 : Int32) (x1 : Int32) (x2 : Int32) (x3 : Int32) (x4 : Int32) (x5 : Int32) : entryFrame m #[(.int x0), (.int x1), (.int x2), (.int x3), (.int x4), (.int x5)] 6 = mkF m 0 #[.val (.int x0), .val (.int x1), .val (.int x2), .val (.int x3), .val (.int x4), .val (.int x5)] [] := by first | (simp [entryFrame, mkF, argsToLocals, Value.category]; done) | rfl
def Q1k2 (Z : State) (q1 : Int32) (q2 : Int32) (q3 : Int32) (q4 : Int32) (q5 : Int32) (w1 : Int32) (h0 : Heap) (n0 : Nat) (v : Option Value) (h : Heap) (L : List Loc) : Prop := ∃ (b9 : Addr) (t9 : Addr) (k9 : ClassId), v = some (.ref b9) ∧ Fr n0 L ∧ Keep h0 h [] ∧ Exa Z h b9 "java/lang/String" ∧ Fld Z h b9 "java/lang/String" "value" "[B" (.ref t9) ∧ Fld Z h b9 "java/lang/String" "coder" "B" (.int (0 : Int32)) ∧ Arv Z h t9 k9 .byte (2 : Int32) ((([(nar .char q1), (nar .char q2)] : List Int32).map (fun c => c.toInt8.toInt32)).map Value.int) (.int (0 : Int32))
set_option maxHeartbeats 40000000 in
theorem rm1k2 (l : Launch) (Z : State) (aZ : Array Value) (hw : ∀ d ∈ tables_1, d.before aZ Z = true) (hEL : EW Z aZ consts_1) (ws : List Jvm.Cond) (q1 : Int32) (q2 : Int32) (q3 : Int32) (q4 : Int32) (q5 : Int32) (w1 : Int32) (h0 : Heap) (n0 : Nat) (Z0 : n0 ≤ h0.size) (O0 : Old Z n0 h0) (S1 : Sta Z Z.heap "java/lang/String" "COMPACT_STRINGS" "Z" (.int w1)) (hcs : ¬ (w1 = (0 : Int32))) (hq1 : ¬ nar .char q1 < 0 ∧ ¬ (255 : Int32) < nar .char q1) (hq2 : ¬ nar .char q2 < 0 ∧ ¬ (255 : Int32) < nar .char q2) :
    MetFree l (⟨"com/example/avvik/avvik/io/XsdValuesIsTruePinLaw", "make", "(ICCCCC)Ljava/lang/String;"⟩ : MethodName) (head1 (Jvm.Cond.code (⟨"com/example/avvik/avvik/io/XsdValuesIsTruePinLaw", "make", "(ICCCCC)Ljava/lang/String;"⟩ : MethodName) method_2_code 6 (some (.object "java/lang/String")) :: ws) ({ frames := 4, cells := 3, slots := 8, locals := 66 } : Room)) (fun a U => a = #[(.int (2 : Int32)), (.int q1), (.int q2), (.int q3), (.int q4), (.int q5)] ∧ Z.Warmed39 U.vm ∧ U.heap = h0 ∧ CHv Z consts_1 U.vm h0 ∧ ∀ x ∈ [], Safe Z consts_1 U.vm h0 x) (fun _ _ _ _ _ => True) (fun _ U o U' => ∃ v L, o = .returned v ∧ Q1k2 Z q1 q2 q3 q4 q5 w1 h0 n0 v U'.heap L ∧ CHr Z consts_1 U.vm U.heap U'.vm U'.heap ∧ ReturnedEndW U o U' L ({ frames := 4, cells := 3, slots := 8, locals := 66 } : Room).cells ({ frames := 4, cells := 3, slots := 8, locals := 66 } : Room).slots) := by
  refine MetFree.of_bodySF (plainFor_of_name pn_1) hisR ?_
  intro p e s m args below meth c s₁ Bd hml0 hP hK
  obtain ⟨rfl, hZ, hh, Hc, hsf⟩ := hP
  have hx := Bd.exec
  have hby := Bd.bytes
  have hret := Bd.returns
  have hlk : meth.locks = false := BodyLoose.notSynchronized Bd
  have hml : c.maxLocals = 6 := hml0
  have hown : s.vm.findClass "com/example/avvik/avvik/io/XsdValuesIsTruePinLaw" = some m.cls := findClass_of_methodNamed Bd.named
  have hnm := (name_of_methodNamed Bd.named Bd.method).1
  have X0 : Stand p l e ({ frames := 4, cells := 3, slots := 8, locals := 66 } : Room) (s.setVm s.vm) m #[(.int (2 : Int32)), (.int q1), (.int q2), (.int q3), (.int q4), (.int q5)] below meth c s₁ [] 0 0 := Stand.of_body Bd
  have hS : s.Since s.vm h0.size := State.WarmedH.since (State.WarmedH.refl s) _
  have hk : h0.size ≤ h0.size := Nat.le_refl _
  have hstr : ∀ a ∈ Bundle.stringAtoms, a.before aZ Z = true := fun d hd => hw d ((by decide +kernel : ∀ d ∈ Bundle.stringAtoms, d ∈ tables_1) d hd)
  have e0 : s₁.heap = h0 := by rw [← hh, Bd.state]; rfl
  have N0 := Fr.nil n0
  have K0 : Keep h0 h0 [] := Keep.refl _ _
  have pre0 : ∀ t, Steps p.tables e below (s₁.setTop (mkF m 0 #[.val (.int (2 : Int32)), .val (.int q1), .val (.int q2), .val (.int q3), .val (.int q4), .val (.int q5)] [])) t → Steps p.tables e below (s₁.setTop (entryFrame m #[(.int (2 : Int32)), (.int q1), (.int q2), (.int q3), (.int q4), (.int q5)] 6)) t := fun t k => castTop (ef_1k2 m (2 : Int32) q1 q2 q3 q4 q5) k
  have HC : CHr Z consts_1 s.vm h0 s.vm h0 := CHr.refl Hc
  suffices hfin : OFinH p e below s Z h0 (Q1k2 Z q1 q2 q3 q4 q5 w1 h0 n0) ({ frames := 4, cells := 3, slots := 8, locals := 66 } : Room).cells ({ frames := 4, cells := 3, slots := 8, locals := 66 } : Room).slots (s₁.setTop (entryFrame m #[(.int (2 : Int32)), (.int q1), (.int q2), (.int q3), (.int q4), (.int q5)] 6)) by
    obtain ⟨s₂, o, a1, a2, a3, v, L, b1, b2, b3, b4⟩ := hfin
    exact ⟨s₂, o, a1, a2, a3, v, L, b1, b2, by rw [hh]; exact b3, b4⟩
  refine OFinH.go pre0 ?_
  have sg101 : ∀ t, Steps p.tables e below (s₁.setTop (mkF m 40 #[.val (.int (2 : Int32)), .val (.int q1), .val (.int q2), .val (.int q3), .val (.int q4), .val (.int q5)] [])) t → Steps p.tables e below (s₁.setTop (mkF m 0 #[.val (.int (2 : Int32)), .val (.int q1), .val (.int q2), .val (.int q3), .val (.int q4), .val (.int q5)] [])) t := by
    intro t k
    show Steps p.tables e below (s₁.setTop (mkF m 0 #[.val (.int (2 : Int32)), .val (.int q1), .val (.int q2), .val (.int q3), .val (.int q4), .val (.int q5)] [])) t
    refine XS.iloadN X0.here hx rfl (hb hby d1_0) rfl ?_
    show Steps p.tables e below (s₁.setTop (mkF m 1 #[.val (.int (2 : Int32)), .val (.int q1), .val (.int q2), .val (.int q3), .val (.int q4), .val (.int q5)] [(.int (2 : Int32))])) t
    refine XS.ifYes X0.here hx rfl (pc0 := 1) (pc' := 15) rfl (hb hby d1_1) rfl ((if0 _ _).trans (feq (by decide : ¬ ((2 : Int32) = (0 : Int32)))).2) (by decide) (by decide) ?_
    show Steps p.tables e below (s₁.setTop (mkF m 15 #[.val (.int (2 : Int32)), .val (.int q1), .val (.int q2), .val (.int q3), .val (.int q4), .val (.int q5)] [])) t
    refine XS.iloadN X0.here hx rfl (hb hby d1_15) rfl ?_
    show Steps p.tables e below (s₁.setTop (mkF m 16 #[.val (.int (2 : Int32)), .val (.int q1), .val (.int q2), .val (.int q3), .val (.int q4), .val (.int q5)] [(.int (2 : Int32))])) t
    refine XS.iconst X0.here hx rfl (hb hby d1_16) ?_
    show Steps p.tables e below (s₁.setTop (mkF m 17 #[.val (.int (2 : Int32)), .val (.int q1), .val (.int q2), .val (.int q3), .val (.int q4), .val (.int q5)] [(.int (1 : Int32)), (.int (2 : Int32))])) t
    refine XS.icmpYes X0.here hx rfl (pc0 := 17) (pc' := 35) rfl (hb hby d1_17) rfl (feq (by decide : ¬ ((2 : Int32) = (1 : Int32)))).2 (by decide) (by decide) ?_
    show Steps p.tables e below (s₁.setTop (mkF m 35 #[.val (.int (2 : Int32)), .val (.int q1), .val (.int q2), .val (.int q3), .val (.int q4), .val (.int q5)] [])) t
    refine XS.iloadN X0.here hx rfl (hb hby d1_35) rfl ?_
    show Steps p.tables e below (s₁.setTop (mkF m 36 #[.val (.int (2 : Int32)), .val (.int q1), .val (.int q2), .val (.int q3), .val (.int q4), .val (.int q5)] [(.int (2 : Int32))])) t
    refine XS.iconst X0.here hx rfl (hb hby d1_36) ?_
    show Steps p.tables e below (s₁.setTop (mkF m 37 #[.val (.int (2 : Int32)), .val (.int q1), .val (.int q2), .val (.int q3), .val (.int q4), .val (.int q5)] [(.int (2 : Int32)), (.int (2 : Int32))])) t
    refine XS.icmpNo X0.here hx rfl (hb hby d1_37) rfl (teq (by decide : (2 : Int32) = (2 : Int32))).2 ?_
    exact k
  refine OFinH.go sg101 ?_
  obtain ⟨T102, h102, X102, e102, E102, A102, D102, -, st102⟩ := newO X0 hx hZ hown (hw _ (List.mem_of_getElem? (i := 5) rfl)) (hw _ (List.mem_of_getElem? (i := 6) rfl)) (hw _ (List.mem_of_getElem? (i := 7) rfl)) e0 (g := (mkF m 40 #[.val (.int (2 : Int32)), .val (.int q1), .val (.int q2), .val (.int q3), .val (.int q4), .val (.int q5)] [])) rfl (hb hby d1_40) (by decide) (by decide)
  obtain ⟨b102, g102⟩ : ∃ z, z = h0.size := ⟨_, rfl⟩
  rw [← g102] at A102 D102 st102
  refine OFinH.go st102 ?_
  have g_b102 : n0 ≤ b102 := Nat.le_trans (Nat.le_trans Z0 K0.1) (Nat.le_of_eq g102.symm)
  have sz_b102 : h0.size ≤ b102 := Nat.le_trans K0.1 (Nat.le_of_eq g102.symm)
  have SF_b102 := Safe.ext E102 HC.1 (Safe.new (Nat.le_of_eq g102.symm))
  have HC := HC.trans (CHr.ext E102 HC.1)
  have K102 : Keep h0 h102 [] := K0.ext E102
  have F102_value : Fld Z h102 b102 "java/lang/String" "value" "[B" .null := D102 (Or.inr (hw _ (List.mem_of_getElem? (i := 21) rfl))) (ty := (.array .byte)) (by decide)
  have F102_coder : Fld Z h102 b102 "java/lang/String" "coder" "B" (.int (0 : Int32)) := D102 (Or.inr (hw _ (List.mem_of_getElem? (i := 22) rfl))) (ty := .byte) (by decide)
  have sg103 : ∀ t, Steps p.tables e below (T102.setTop (mkF m 45 #[.val (.int (2 : Int32)), .val (.int q1), .val (.int q2), .val (.int q3), .val (.int q4), .val (.int q5)] [(.int (2 : Int32)), (.ref b102), (.ref b102)])) t → Steps p.tables e below (T102.setTop (mkF m 43 #[.val (.int (2 : Int32)), .val (.int q1), .val (.int q2), .val (.int q3), .val (.int q4), .val (.int q5)] [(.ref b102)])) t := by
    intro t k
    show Steps p.tables e below (T102.setTop (mkF m 43 #[.val (.int (2 : Int32)), .val (.int q1), .val (.int q2), .val (.int q3), .val (.int q4), .val (.int q5)] [(.ref b102)])) t
    refine XS.dup X102.here hx rfl (hb hby d1_43) rfl rfl ?_
    show Steps p.tables e below (T102.setTop (mkF m 44 #[.val (.int (2 : Int32)), .val (.int q1), .val (.int q2), .val (.int q3), .val (.int q4), .val (.int q5)] [(.ref b102), (.ref b102)])) t
    refine XS.iconst X102.here hx rfl (hb hby d1_44) ?_
    exact k
  refine OFinH.go sg103 ?_
  obtain ⟨T104, h104, k104, X104, e104, E104, A104, st104⟩ := newP X102 hx hZ (hw _ (List.mem_of_getElem? (i := 8) rfl)) e102 (g := (mkF m 45 #[.val (.int (2 : Int32)), .val (.int q1), .val (.int q2), .val (.int q3), .val (.int q4), .val (.int q5)] [(.int (2 : Int32)), (.ref b102), (.ref b102)])) rfl (hb hby d1_45) rfl (by decide) (cap := 2) (by decide) (by decide) (by decide) (by decide)
  obtain ⟨b104, g104⟩ : ∃ z, z = h102.size := ⟨_, rfl⟩
  rw [← g104] at A104 st104
  refine OFinH.go st104 ?_
  have g_b104 : n0 ≤ b104 := Nat.le_trans (Nat.le_trans Z0 K102.1) (Nat.le_of_eq g104.symm)
  have sz_b104 : h0.size ≤ b104 := Nat.le_trans K102.1 (Nat.le_of_eq g104.symm)
  have SFn_b102 := Safe.ext E104 HC.1 SF_b102
  have HC := HC.trans (CHr.ext E104 HC.1)
  have SF_b102 := SFn_b102
  have K104 : Keep h0 h104 [] := K102.ext E104
  have V104 : Arv Z h104 b104 k104 .char (2 : Int32) [(.int (0 : Int32)), (.int (0 : Int32))] (.int (0 : Int32)) := (Arv.new A104 (by decide)).pad (pad_rep [] (.int (0 : Int32)) 2)
  have sg105 : ∀ t, Steps p.tables e below (T104.setTop (mkF m 50 #[.val (.int (2 : Int32)), .val (.int q1), .val (.int q2), .val (.int q3), .val (.int q4), .val (.int q5)] [(.int q1), (.int (0 : Int32)), (.ref b104), (.ref b104), (.ref b102), (.ref b102)])) t → Steps p.tables e below (T104.setTop (mkF m 47 #[.val (.int (2 : Int32)), .val (.int q1), .val (.int q2), .val (.int q3), .val (.int q4), .val (.int q5)] [(.ref b104), (.ref b102), (.ref b102)])) t := by
    intro t k
    show Steps p.tables e below (T104.setTop (mkF m 47 #[.val (.int (2 : Int32)), .val (.int q1), .val (.int q2), .val (.int q3), .val (.int q4), .val (.int q5)] [(.ref b104), (.ref b102), (.ref b102)])) t
    refine XS.dup X104.here hx rfl (hb hby d1_47) rfl rfl ?_
    show Steps p.tables e below (T104.setTop (mkF m 48 #[.val (.int (2 : Int32)), .val (.int q1), .val (.int q2), .val (.int q3), .val (.int q4), .val (.int q5)] [(.ref b104), (.ref b104), (.ref b102), (.ref b102)])) t
    refine XS.iconst X104.here hx rfl (hb hby d1_48) ?_
    show Steps p.tables e below (T104.setTop (mkF m 49 #[.val (.int (2 : Int32)), .val (.int q1), .val (.int q2), .val (.int q3), .val (.int q4), .val (.int q5)] [(.int (0 : Int32)), (.ref b104), (.ref b104), (.ref b102), (.ref b102)])) t
    refine XS.iloadN X104.here hx rfl (hb hby d1_49) rfl ?_
    exact k
  refine OFinH.go sg105 ?_
  obtain ⟨cl106, Ar106, q106, S106, M106, H106, G106⟩ := id V104
  have hin106 : ¬ ((0 : Int32) < 0 ∨ cl106.slots.size ≤ ((0 : Int32)).toNatClampNeg) := inb_of S106 ⟨by decide, by decide⟩
  obtain ⟨T106, h106, X106, e106, W106, st106⟩ := stC X104 hx hZ e104 Ar106 (j := (0 : Int32)) hin106 (g := (mkF m 50 #[.val (.int (2 : Int32)), .val (.int q1), .val (.int q2), .val (.int q3), .val (.int q4), .val (.int q5)] [(.int q1), (.int (0 : Int32)), (.ref b104), (.ref b104), (.ref b102), (.ref b102)])) rfl rfl (hb hby d1_50)
  refine OFinH.go st106 ?_
  have V106 : Arv Z h106 b104 k104 .char (2 : Int32) [(.int (nar .char q1)), (.int (0 : Int32))] (.int (0 : Int32)) := Arv.set Ar106 q106 S106 M106 H106 G106 (fits_nar_char _) W106 0 rfl (Nat.le_of_ble_eq_true rfl)
  have SFn_b102 := Safe.wr W106 (Safe.arr hZ.alike Ar106 (by decide)) HC.1 SF_b102
  have HC := HC.trans (CHr.wr W106 (Safe.arr hZ.alike Ar106 (by decide)) HC.1)
  have SF_b102 := SFn_b102
  have K106 : Keep h0 h106 [] := K104.wr W106 (Or.inr sz_b104)
  have N106 := Fr.snoc X106 N0 g_b104
  have sg107 : ∀ t, Steps p.tables e below (T106.setTop (mkF m 54 #[.val (.int (2 : Int32)), .val (.int q1), .val (.int q2), .val (.int q3), .val (.int q4), .val (.int q5)] [(.int q2), (.int (1 : Int32)), (.ref b104), (.ref b104), (.ref b102), (.ref b102)])) t → Steps p.tables e below (T106.setTop (mkF m 51 #[.val (.int (2 : Int32)), .val (.int q1), .val (.int q2), .val (.int q3), .val (.int q4), .val (.int q5)] [(.ref b104), (.ref b102), (.ref b102)])) t := by
    intro t k
    show Steps p.tables e below (T106.setTop (mkF m 51 #[.val (.int (2 : Int32)), .val (.int q1), .val (.int q2), .val (.int q3), .val (.int q4), .val (.int q5)] [(.ref b104), (.ref b102), (.ref b102)])) t
    refine XS.dup X106.here hx rfl (hb hby d1_51) rfl rfl ?_
    show Steps p.tables e below (T106.setTop (mkF m 52 #[.val (.int (2 : Int32)), .val (.int q1), .val (.int q2), .val (.int q3), .val (.int q4), .val (.int q5)] [(.ref b104), (.ref b104), (.ref b102), (.ref b102)])) t
    refine XS.iconst X106.here hx rfl (hb hby d1_52) ?_
    show Steps p.tables e below (T106.setTop (mkF m 53 #[.val (.int (2 : Int32)), .val (.int q1), .val (.int q2), .val (.int q3), .val (.int q4), .val (.int q5)] [(.int (1 : Int32)), (.ref b104), (.ref b104), (.ref b102), (.ref b102)])) t
    refine XS.iloadN X106.here hx rfl (hb hby d1_53) rfl ?_
    exact k
  refine OFinH.go sg107 ?_
  obtain ⟨cl108, Ar108, q108, S108, M108, H108, G108⟩ := id V106
  have hin108 : ¬ ((1 : Int32) < 0 ∨ cl108.slots.size ≤ ((1 : Int32)).toNatClampNeg) := inb_of S108 ⟨by decide, by decide⟩
  obtain ⟨T108, h108, X108, e108, W108, st108⟩ := stC X106 hx hZ e106 Ar108 (j := (1 : Int32)) hin108 (g := (mkF m 54 #[.val (.int (2 : Int32)), .val (.int q1), .val (.int q2), .val (.int q3), .val (.int q4), .val (.int q5)] [(.int q2), (.int (1 : Int32)), (.ref b104), (.ref b104), (.ref b102), (.ref b102)])) rfl rfl (hb hby d1_54)
  refine OFinH.go st108 ?_
  have V108 : Arv Z h108 b104 k104 .char (2 : Int32) [(.int (nar .char q1)), (.int (nar .char q2))] (.int (0 : Int32)) := Arv.set Ar108 q108 S108 M108 H108 G108 (fits_nar_char _) W108 1 rfl (Nat.le_of_ble_eq_true rfl)
  have SFn_b102 := Safe.wr W108 (Safe.arr hZ.alike Ar108 (by decide)) HC.1 SF_b102
  have HC := HC.trans (CHr.wr W108 (Safe.arr hZ.alike Ar108 (by decide)) HC.1)
  have SF_b102 := SFn_b102
  have K108 : Keep h0 h108 [] := K106.wr W108 (Or.inr sz_b104)
  have N108 := Fr.snoc X108 N106 g_b104
  have hws : ∀ d ∈ StrChars.Road.words, d.before aZ Z = true := fun d hd => hw d ((by decide +kernel : ∀ d ∈ StrChars.Road.words, d ∈ tables_1) d hd)
  obtain ⟨_, _, ⟨T109, L109, k109, n109⟩, -, X109, ⟨Lc109, hQ109, l109, y109, z109⟩, st109⟩ := X108.specialBack hx (y := (⟨"java/lang/String", "<init>", "([C)V"⟩ : MethodName)) rfl hown (mvT hZ (hw _ (List.mem_of_getElem? (i := 9) rfl))) (mvT hZ (hw _ (List.mem_of_getElem? (i := 10) rfl))) (mvT hZ (hw _ (List.mem_of_getElem? (i := 11) rfl))) (by decide) (StrChars.Road.backV (W := 1) hZ hws (kI := 4) (hw _ (List.mem_of_getElem? (i := 6) rfl)) (cs := ([(nar .char q1), (nar .char q2)] : List Int32)) (bs := ([(nar .char q1), (nar .char q2)] : List Int32).map (fun c => c.toInt8.toInt32)) (n := 2) g_b102 (Nat.le_trans Z0 K108.1) (((A102.ext E104).wr W106).wr W108) (((F102_value.ext E104).other W106 (Or.inl (Nat.ne_of_lt (Nat.lt_of_lt_of_le A102.lt (Nat.le_of_eq g104.symm))))).other W108 (Or.inl (Nat.ne_of_lt (Nat.lt_of_lt_of_le A102.lt (Nat.le_of_eq g104.symm))))) (((F102_coder.ext E104).other W106 (Or.inl (Nat.ne_of_lt (Nat.lt_of_lt_of_le A102.lt (Nat.le_of_eq g104.symm))))).other W108 (Or.inl (Nat.ne_of_lt (Nat.lt_of_lt_of_le A102.lt (Nat.le_of_eq g104.symm))))) V108 (S1.ext ((((O0.ext E102).ext E104).wr W106 g_b104).wr W108 g_b104).2) hcs rfl rfl (by decide) (by decide) (own_allS hq1 (own_allS hq2 own_all0)) rfl (by decide) (by decide)) (g := (mkF m 55 #[.val (.int (2 : Int32)), .val (.int q1), .val (.int q2), .val (.int q3), .val (.int q4), .val (.int q5)] [(.ref b104), (.ref b102), (.ref b102)])) rfl (by rw [hml]; rfl) (Steps.refl _) (a := b102) (argsL := [(.ref b104)]) (rest := [(.ref b102)]) (lenOf pd_1 rfl) rfl (by show 2 * 0 + _ ≤ _; exact Nat.le_of_eq rfl) (hb hby d1_55) (fun _ _ => ⟨rfl, e108, (by decide : 2 + 1 ≤ _), (by decide : 6 + 2 ≤ _)⟩)
  dsimp only [Pt.U, Pt.locs, Pt.cells, Pt.slots] at X109 l109 y109 z109 st109 hQ109
  subst l109 y109 z109
  obtain ⟨rfl, N109q, Kq109, P109_0, P109_1, t109, kb109, _, R109_0, _, P109_2, P109_3⟩ := hQ109
  have N109 := Fr.app N108 N109q
  refine OFinH.tr st109 ?_
  have K109 : Keep h0 T109.heap [] := K108.trans Kq109 (allS (Or.inr sz_b102) all0)
  have SFn_b102 := Safe.keep Kq109 (allS SF_b102 all0) HC.1 SF_b102
  have HC := HC.trans (CHr.keep Kq109 (allS SF_b102 all0) HC.1)
  have SF_b102 := SFn_b102
  have g_t109 : n0 ≤ t109 := Nat.le_trans (Nat.le_trans Z0 K108.1) R109_0
  have sz_t109 : h0.size ≤ t109 := Nat.le_trans K108.1 R109_0
  exact OFinH.retA X109 hS (Nat.le_trans (Nat.le_trans (Nat.le_trans (Nat.le_trans (Nat.le_trans hk E102.1) E104.1) (Keep.of_wr W106).1) (Keep.of_wr W108).1) Kq109.1) hZ hEL rfl HC hx hret rfl rfl rfl hlk (hb hby d1_58) ⟨b102, t109, kb109, rfl, N109, K109, P109_0, P109_2, P109_1, P109_3⟩ (by decide) (by decide)
theorem ef_1k3 (m : MethodId) (x0 : Int32) (x1 : Int32) (x2 : Int32) (x3 : Int32) (x4 : Int32) (x5 : Int32) : entryFrame m #[(.int x0), (.int x1), (.int x2), (.int x3), (.int x4), (.int x5)] 6 = mkF m 0 #[.val (.int x0), .val (.int x1), .val (.int x2), .val (.int x3), .val (.int x4), .val (.int x5)] [] := by first | (simp [entryFrame, mkF, argsToLocals, Value.category]; done) | rfl
def Q1k3 (Z : State) (q1 : Int32) (q2 : Int32) (q3 : Int32) (q4 : Int32) (q5 : Int32) (w1 : Int32) (h0 : Heap) (n0 : Nat) (v : Option Value) (h : Heap) (L : List Loc) : Prop := ∃ (b9 : Addr) (t9 : Addr) (k9 : ClassId), v = some (.ref b9) ∧ Fr n0 L ∧ Keep h0 h [] ∧ Exa Z h b9 "java/lang/String" ∧ Fld Z h b9 "java/lang/String" "value" "[B" (.ref t9) ∧ Fld Z h b9 "java/lang/String" "coder" "B" (.int (0 : Int32)) ∧ Arv Z h t9 k9 .byte (3 : Int32) ((([(nar .char q1), (nar .char q2), (nar .char q3)] : List Int32).map (fun c => c.toInt8.toInt32)).map Value.int) (.int (0 : Int32))
set_option maxHeartbeats 40000000 in
theorem rm1k3 (l : Launch) (Z : State) (aZ : Array Value) (hw : ∀ d ∈ tables_1, d.before aZ Z = true) (hEL : EW Z aZ consts_1) (ws : List Jvm.Cond) (q1 : Int32) (q2 : Int32) (q3 : Int32) (q4 : Int32) (q5 : Int32) (w1 : Int32) (h0 : Heap) (n0 : Nat) (Z0 : n0 ≤ h0.size) (O0 : Old Z n0 h0) (S1 : Sta Z Z.heap "java/lang/String" "COMPACT_STRINGS" "Z" (.int w1)) (hcs : ¬ (w1 = (0 : Int32))) (hq1 : ¬ nar .char q1 < 0 ∧ ¬ (255 : Int32) < nar .char q1) (hq2 : ¬ nar .char q2 < 0 ∧ ¬ (255 : Int32) < nar .char q2) (hq3 : ¬ nar .char q3 < 0 ∧ ¬ (255 : Int32) < nar .char q3) :
    MetFree l (⟨"com/example/avvik/avvik/io/XsdValuesIsTruePinLaw", "make", "(ICCCCC)Ljava/lang/String;"⟩ : MethodName) (head1 (Jvm.Cond.code (⟨"com/example/avvik/avvik/io/XsdValuesIsTruePinLaw", "make", "(ICCCCC)Ljava/lang/String;"⟩ : MethodName) method_2_code 6 (some (.object "java/lang/String")) :: ws) ({ frames := 4, cells := 3, slots := 10, locals := 66 } : Room)) (fun a U => a = #[(.int (3 : Int32)), (.int q1), (.int q2), (.int q3), (.int q4), (.int q5)] ∧ Z.Warmed39 U.vm ∧ U.heap = h0 ∧ CHv Z consts_1 U.vm h0 ∧ ∀ x ∈ [], Safe Z consts_1 U.vm h0 x) (fun _ _ _ _ _ => True) (fun _ U o U' => ∃ v L, o = .returned v ∧ Q1k3 Z q1 q2 q3 q4 q5 w1 h0 n0 v U'.heap L ∧ CHr Z consts_1 U.vm U.heap U'.vm U'.heap ∧ ReturnedEndW U o U' L ({ frames := 4, cells := 3, slots := 10, locals := 66 } : Room).cells ({ frames := 4, cells := 3, slots := 10, locals := 66 } : Room).slots) := by
  refine MetFree.of_bodySF (plainFor_of_name pn_1) hisR ?_
  intro p e s m args below meth c s₁ Bd hml0 hP hK
  obtain ⟨rfl, hZ, hh, Hc, hsf⟩ := hP
  have hx := Bd.exec
  have hby := Bd.bytes
  have hret := Bd.returns
  have hlk : meth.locks = false := BodyLoose.notSynchronized Bd
  have hml : c.maxLocals = 6 := hml0
  have hown : s.vm.findClass "com/example/avvik/avvik/io/XsdValuesIsTruePinLaw" = some m.cls := findClass_of_methodNamed Bd.named
  have hnm := (name_of_methodNamed Bd.named Bd.method).1
  have X0 : Stand p l e ({ frames := 4, cells := 3, slots := 10, locals := 66 } : Room) (s.setVm s.vm) m #[(.int (3 : Int32)), (.int q1), (.int q2), (.int q3), (.int q4), (.int q5)] below meth c s₁ [] 0 0 := Stand.of_body Bd
  have hS : s.Since s.vm h0.size := State.WarmedH.since (State.WarmedH.refl s) _
  have hk : h0.size ≤ h0.size := Nat.le_refl _
  have hstr : ∀ a ∈ Bundle.stringAtoms, a.before aZ Z = true := fun d hd => hw d ((by decide +kernel : ∀ d ∈ Bundle.stringAtoms, d ∈ tables_1) d hd)
  have e0 : s₁.heap = h0 := by rw [← hh, Bd.state]; rfl
  have N0 := Fr.nil n0
  have K0 : Keep h0 h0 [] := Keep.refl _ _
  have pre0 : ∀ t, Steps p.tables e below (s₁.setTop (mkF m 0 #[.val (.int (3 : Int32)), .val (.int q1), .val (.int q2), .val (.int q3), .val (.int q4), .val (.int q5)] [])) t → Steps p.tables e below (s₁.setTop (entryFrame m #[(.int (3 : Int32)), (.int q1), (.int q2), (.int q3), (.int q4), (.int q5)] 6)) t := fun t k => castTop (ef_1k3 m (3 : Int32) q1 q2 q3 q4 q5) k
  have HC : CHr Z consts_1 s.vm h0 s.vm h0 := CHr.refl Hc
  suffices hfin : OFinH p e below s Z h0 (Q1k3 Z q1 q2 q3 q4 q5 w1 h0 n0) ({ frames := 4, cells := 3, slots := 10, locals := 66 } : Room).cells ({ frames := 4, cells := 3, slots := 10, locals := 66 } : Room).slots (s₁.setTop (entryFrame m #[(.int (3 : Int32)), (.int q1), (.int q2), (.int q3), (.int q4), (.int q5)] 6)) by
    obtain ⟨s₂, o, a1, a2, a3, v, L, b1, b2, b3, b4⟩ := hfin
    exact ⟨s₂, o, a1, a2, a3, v, L, b1, b2, by rw [hh]; exact b3, b4⟩
  refine OFinH.go pre0 ?_
  have sg101 : ∀ t, Steps p.tables e below (s₁.setTop (mkF m 64 #[.val (.int (3 : Int32)), .val (.int q1), .val (.int q2), .val (.int q3), .val (.int q4), .val (.int q5)] [])) t → Steps p.tables e below (s₁.setTop (mkF m 0 #[.val (.int (3 : Int32)), .val (.int q1), .val (.int q2), .val (.int q3), .val (.int q4), .val (.int q5)] [])) t := by
    intro t k
    show Steps p.tables e below (s₁.setTop (mkF m 0 #[.val (.int (3 : Int32)), .val (.int q1), .val (.int q2), .val (.int q3), .val (.int q4), .val (.int q5)] [])) t
    refine XS.iloadN X0.here hx rfl (hb hby d1_0) rfl ?_
    show Steps p.tables e below (s₁.setTop (mkF m 1 #[.val (.int (3 : Int32)), .val (.int q1), .val (.int q2), .val (.int q3), .val (.int q4), .val (.int q5)] [(.int (3 : Int32))])) t
    refine XS.ifYes X0.here hx rfl (pc0 := 1) (pc' := 15) rfl (hb hby d1_1) rfl ((if0 _ _).trans (feq (by decide : ¬ ((3 : Int32) = (0 : Int32)))).2) (by decide) (by decide) ?_
    show Steps p.tables e below (s₁.setTop (mkF m 15 #[.val (.int (3 : Int32)), .val (.int q1), .val (.int q2), .val (.int q3), .val (.int q4), .val (.int q5)] [])) t
    refine XS.iloadN X0.here hx rfl (hb hby d1_15) rfl ?_
    show Steps p.tables e below (s₁.setTop (mkF m 16 #[.val (.int (3 : Int32)), .val (.int q1), .val (.int q2), .val (.int q3), .val (.int q4), .val (.int q5)] [(.int (3 : Int32))])) t
    refine XS.iconst X0.here hx rfl (hb hby d1_16) ?_
    show Steps p.tables e below (s₁.setTop (mkF m 17 #[.val (.int (3 : Int32)), .val (.int q1), .val (.int q2), .val (.int q3), .val (.int q4), .val (.int q5)] [(.int (1 : Int32)), (.int (3 : Int32))])) t
    refine XS.icmpYes X0.here hx rfl (pc0 := 17) (pc' := 35) rfl (hb hby d1_17) rfl (feq (by decide : ¬ ((3 : Int32) = (1 : Int32)))).2 (by decide) (by decide) ?_
    show Steps p.tables e below (s₁.setTop (mkF m 35 #[.val (.int (3 : Int32)), .val (.int q1), .val (.int q2), .val (.int q3), .val (.int q4), .val (.int q5)] [])) t
    refine XS.iloadN X0.here hx rfl (hb hby d1_35) rfl ?_
    show Steps p.tables e below (s₁.setTop (mkF m 36 #[.val (.int (3 : Int32)), .val (.int q1), .val (.int q2), .val (.int q3), .val (.int q4), .val (.int q5)] [(.int (3 : Int32))])) t
    refine XS.iconst X0.here hx rfl (hb hby d1_36) ?_
    show Steps p.tables e below (s₁.setTop (mkF m 37 #[.val (.int (3 : Int32)), .val (.int q1), .val (.int q2), .val (.int q3), .val (.int q4), .val (.int q5)] [(.int (2 : Int32)), (.int (3 : Int32))])) t
    refine XS.icmpYes X0.here hx rfl (pc0 := 37) (pc' := 59) rfl (hb hby d1_37) rfl (feq (by decide : ¬ ((3 : Int32) = (2 : Int32)))).2 (by decide) (by decide) ?_
    show Steps p.tables e below (s₁.setTop (mkF m 59 #[.val (.int (3 : Int32)), .val (.int q1), .val (.int q2), .val (.int q3), .val (.int q4), .val (.int q5)] [])) t
    refine XS.iloadN X0.here hx rfl (hb hby d1_59) rfl ?_
    show Steps p.tables e below (s₁.setTop (mkF m 60 #[.val (.int (3 : Int32)), .val (.int q1), .val (.int q2), .val (.int q3), .val (.int q4), .val (.int q5)] [(.int (3 : Int32))])) t
    refine XS.iconst X0.here hx rfl (hb hby d1_60) ?_
    show Steps p.tables e below (s₁.setTop (mkF m 61 #[.val (.int (3 : Int32)), .val (.int q1), .val (.int q2), .val (.int q3), .val (.int q4), .val (.int q5)] [(.int (3 : Int32)), (.int (3 : Int32))])) t
    refine XS.icmpNo X0.here hx rfl (hb hby d1_61) rfl (teq (by decide : (3 : Int32) = (3 : Int32))).2 ?_
    exact k
  refine OFinH.go sg101 ?_
  obtain ⟨T102, h102, X102, e102, E102, A102, D102, -, st102⟩ := newO X0 hx hZ hown (hw _ (List.mem_of_getElem? (i := 5) rfl)) (hw _ (List.mem_of_getElem? (i := 6) rfl)) (hw _ (List.mem_of_getElem? (i := 7) rfl)) e0 (g := (mkF m 64 #[.val (.int (3 : Int32)), .val (.int q1), .val (.int q2), .val (.int q3), .val (.int q4), .val (.int q5)] [])) rfl (hb hby d1_64) (by decide) (by decide)
  obtain ⟨b102, g102⟩ : ∃ z, z = h0.size := ⟨_, rfl⟩
  rw [← g102] at A102 D102 st102
  refine OFinH.go st102 ?_
  have g_b102 : n0 ≤ b102 := Nat.le_trans (Nat.le_trans Z0 K0.1) (Nat.le_of_eq g102.symm)
  have sz_b102 : h0.size ≤ b102 := Nat.le_trans K0.1 (Nat.le_of_eq g102.symm)
  have SF_b102 := Safe.ext E102 HC.1 (Safe.new (Nat.le_of_eq g102.symm))
  have HC := HC.trans (CHr.ext E102 HC.1)
  have K102 : Keep h0 h102 [] := K0.ext E102
  have F102_value : Fld Z h102 b102 "java/lang/String" "value" "[B" .null := D102 (Or.inr (hw _ (List.mem_of_getElem? (i := 21) rfl))) (ty := (.array .byte)) (by decide)
  have F102_coder : Fld Z h102 b102 "java/lang/String" "coder" "B" (.int (0 : Int32)) := D102 (Or.inr (hw _ (List.mem_of_getElem? (i := 22) rfl))) (ty := .byte) (by decide)
  have sg103 : ∀ t, Steps p.tables e below (T102.setTop (mkF m 69 #[.val (.int (3 : Int32)), .val (.int q1), .val (.int q2), .val (.int q3), .val (.int q4), .val (.int q5)] [(.int (3 : Int32)), (.ref b102), (.ref b102)])) t → Steps p.tables e below (T102.setTop (mkF m 67 #[.val (.int (3 : Int32)), .val (.int q1), .val (.int q2), .val (.int q3), .val (.int q4), .val (.int q5)] [(.ref b102)])) t := by
    intro t k
    show Steps p.tables e below (T102.setTop (mkF m 67 #[.val (.int (3 : Int32)), .val (.int q1), .val (.int q2), .val (.int q3), .val (.int q4), .val (.int q5)] [(.ref b102)])) t
    refine XS.dup X102.here hx rfl (hb hby d1_67) rfl rfl ?_
    show Steps p.tables e below (T102.setTop (mkF m 68 #[.val (.int (3 : Int32)), .val (.int q1), .val (.int q2), .val (.int q3), .val (.int q4), .val (.int q5)] [(.ref b102), (.ref b102)])) t
    refine XS.iconst X102.here hx rfl (hb hby d1_68) ?_
    exact k
  refine OFinH.go sg103 ?_
  obtain ⟨T104, h104, k104, X104, e104, E104, A104, st104⟩ := newP X102 hx hZ (hw _ (List.mem_of_getElem? (i := 8) rfl)) e102 (g := (mkF m 69 #[.val (.int (3 : Int32)), .val (.int q1), .val (.int q2), .val (.int q3), .val (.int q4), .val (.int q5)] [(.int (3 : Int32)), (.ref b102), (.ref b102)])) rfl (hb hby d1_69) rfl (by decide) (cap := 3) (by decide) (by decide) (by decide) (by decide)
  obtain ⟨b104, g104⟩ : ∃ z, z = h102.size := ⟨_, rfl⟩
  rw [← g104] at A104 st104
  refine OFinH.go st104 ?_
  have g_b104 : n0 ≤ b104 := Nat.le_trans (Nat.le_trans Z0 K102.1) (Nat.le_of_eq g104.symm)
  have sz_b104 : h0.size ≤ b104 := Nat.le_trans K102.1 (Nat.le_of_eq g104.symm)
  have SFn_b102 := Safe.ext E104 HC.1 SF_b102
  have HC := HC.trans (CHr.ext E104 HC.1)
  have SF_b102 := SFn_b102
  have K104 : Keep h0 h104 [] := K102.ext E104
  have V104 : Arv Z h104 b104 k104 .char (3 : Int32) [(.int (0 : Int32)), (.int (0 : Int32)), (.int (0 : Int32))] (.int (0 : Int32)) := (Arv.new A104 (by decide)).pad (pad_rep [] (.int (0 : Int32)) 3)
  have sg105 : ∀ t, Steps p.tables e below (T104.setTop (mkF m 74 #[.val (.int (3 : Int32)), .val (.int q1), .val (.int q2), .val (.int q3), .val (.int q4), .val (.int q5)] [(.int q1), (.int (0 : Int32)), (.ref b104), (.ref b104), (.ref b102), (.ref b102)])) t → Steps p.tables e below (T104.setTop (mkF m 71 #[.val (.int (3 : Int32)), .val (.int q1), .val (.int q2), .val (.int q3), .val (.int q4), .val (.int q5)] [(.ref b104), (.ref b102), (.ref b102)])) t := by
    intro t k
    show Steps p.tables e below (T104.setTop (mkF m 71 #[.val (.int (3 : Int32)), .val (.int q1), .val (.int q2), .val (.int q3), .val (.int q4), .val (.int q5)] [(.ref b104), (.ref b102), (.ref b102)])) t
    refine XS.dup X104.here hx rfl (hb hby d1_71) rfl rfl ?_
    show Steps p.tables e below (T104.setTop (mkF m 72 #[.val (.int (3 : Int32)), .val (.int q1), .val (.int q2), .val (.int q3), .val (.int q4), .val (.int q5)] [(.ref b104), (.ref b104), (.ref b102), (.ref b102)])) t
    refine XS.iconst X104.here hx rfl (hb hby d1_72) ?_
    show Steps p.tables e below (T104.setTop (mkF m 73 #[.val (.int (3 : Int32)), .val (.int q1), .val (.int q2), .val (.int q3), .val (.int q4), .val (.int q5)] [(.int (0 : Int32)), (.ref b104), (.ref b104), (.ref b102), (.ref b102)])) t
    refine XS.iloadN X104.here hx rfl (hb hby d1_73) rfl ?_
    exact k
  refine OFinH.go sg105 ?_
  obtain ⟨cl106, Ar106, q106, S106, M106, H106, G106⟩ := id V104
  have hin106 : ¬ ((0 : Int32) < 0 ∨ cl106.slots.size ≤ ((0 : Int32)).toNatClampNeg) := inb_of S106 ⟨by decide, by decide⟩
  obtain ⟨T106, h106, X106, e106, W106, st106⟩ := stC X104 hx hZ e104 Ar106 (j := (0 : Int32)) hin106 (g := (mkF m 74 #[.val (.int (3 : Int32)), .val (.int q1), .val (.int q2), .val (.int q3), .val (.int q4), .val (.int q5)] [(.int q1), (.int (0 : Int32)), (.ref b104), (.ref b104), (.ref b102), (.ref b102)])) rfl rfl (hb hby d1_74)
  refine OFinH.go st106 ?_
  have V106 : Arv Z h106 b104 k104 .char (3 : Int32) [(.int (nar .char q1)), (.int (0 : Int32)), (.int (0 : Int32))] (.int (0 : Int32)) := Arv.set Ar106 q106 S106 M106 H106 G106 (fits_nar_char _) W106 0 rfl (Nat.le_of_ble_eq_true rfl)
  have SFn_b102 := Safe.wr W106 (Safe.arr hZ.alike Ar106 (by decide)) HC.1 SF_b102
  have HC := HC.trans (CHr.wr W106 (Safe.arr hZ.alike Ar106 (by decide)) HC.1)
  have SF_b102 := SFn_b102
  have K106 : Keep h0 h106 [] := K104.wr W106 (Or.inr sz_b104)
  have N106 := Fr.snoc X106 N0 g_b104
  have sg107 : ∀ t, Steps p.tables e below (T106.setTop (mkF m 78 #[.val (.int (3 : Int32)), .val (.int q1), .val (.int q2), .val (.int q3), .val (.int q4), .val (.int q5)] [(.int q2), (.int (1 : Int32)), (.ref b104), (.ref b104), (.ref b102), (.ref b102)])) t → Steps p.tables e below (T106.setTop (mkF m 75 #[.val (.int (3 : Int32)), .val (.int q1), .val (.int q2), .val (.int q3), .val (.int q4), .val (.int q5)] [(.ref b104), (.ref b102), (.ref b102)])) t := by
    intro t k
    show Steps p.tables e below (T106.setTop (mkF m 75 #[.val (.int (3 : Int32)), .val (.int q1), .val (.int q2), .val (.int q3), .val (.int q4), .val (.int q5)] [(.ref b104), (.ref b102), (.ref b102)])) t
    refine XS.dup X106.here hx rfl (hb hby d1_75) rfl rfl ?_
    show Steps p.tables e below (T106.setTop (mkF m 76 #[.val (.int (3 : Int32)), .val (.int q1), .val (.int q2), .val (.int q3), .val (.int q4), .val (.int q5)] [(.ref b104), (.ref b104), (.ref b102), (.ref b102)])) t
    refine XS.iconst X106.here hx rfl (hb hby d1_76) ?_
    show Steps p.tables e below (T106.setTop (mkF m 77 #[.val (.int (3 : Int32)), .val (.int q1), .val (.int q2), .val (.int q3), .val (.int q4), .val (.int q5)] [(.int (1 : Int32)), (.ref b104), (.ref b104), (.ref b102), (.ref b102)])) t
    refine XS.iloadN X106.here hx rfl (hb hby d1_77) rfl ?_
    exact k
  refine OFinH.go sg107 ?_
  obtain ⟨cl108, Ar108, q108, S108, M108, H108, G108⟩ := id V106
  have hin108 : ¬ ((1 : Int32) < 0 ∨ cl108.slots.size ≤ ((1 : Int32)).toNatClampNeg) := inb_of S108 ⟨by decide, by decide⟩
  obtain ⟨T108, h108, X108, e108, W108, st108⟩ := stC X106 hx hZ e106 Ar108 (j := (1 : Int32)) hin108 (g := (mkF m 78 #[.val (.int (3 : Int32)), .val (.int q1), .val (.int q2), .val (.int q3), .val (.int q4), .val (.int q5)] [(.int q2), (.int (1 : Int32)), (.ref b104), (.ref b104), (.ref b102), (.ref b102)])) rfl rfl (hb hby d1_78)
  refine OFinH.go st108 ?_
  have V108 : Arv Z h108 b104 k104 .char (3 : Int32) [(.int (nar .char q1)), (.int (nar .char q2)), (.int (0 : Int32))] (.int (0 : Int32)) := Arv.set Ar108 q108 S108 M108 H108 G108 (fits_nar_char _) W108 1 rfl (Nat.le_of_ble_eq_true rfl)
  have SFn_b102 := Safe.wr W108 (Safe.arr hZ.alike Ar108 (by decide)) HC.1 SF_b102
  have HC := HC.trans (CHr.wr W108 (Safe.arr hZ.alike Ar108 (by decide)) HC.1)
  have SF_b102 := SFn_b102
  have K108 : Keep h0 h108 [] := K106.wr W108 (Or.inr sz_b104)
  have N108 := Fr.snoc X108 N106 g_b104
  have sg109 : ∀ t, Steps p.tables e below (T108.setTop (mkF m 82 #[.val (.int (3 : Int32)), .val (.int q1), .val (.int q2), .val (.int q3), .val (.int q4), .val (.int q5)] [(.int q3), (.int (2 : Int32)), (.ref b104), (.ref b104), (.ref b102), (.ref b102)])) t → Steps p.tables e below (T108.setTop (mkF m 79 #[.val (.int (3 : Int32)), .val (.int q1), .val (.int q2), .val (.int q3), .val (.int q4), .val (.int q5)] [(.ref b104), (.ref b102), (.ref b102)])) t := by
    intro t k
    show Steps p.tables e below (T108.setTop (mkF m 79 #[.val (.int (3 : Int32)), .val (.int q1), .val (.int q2), .val (.int q3), .val (.int q4), .val (.int q5)] [(.ref b104), (.ref b102), (.ref b102)])) t
    refine XS.dup X108.here hx rfl (hb hby d1_79) rfl rfl ?_
    show Steps p.tables e below (T108.setTop (mkF m 80 #[.val (.int (3 : Int32)), .val (.int q1), .val (.int q2), .val (.int q3), .val (.int q4), .val (.int q5)] [(.ref b104), (.ref b104), (.ref b102), (.ref b102)])) t
    refine XS.iconst X108.here hx rfl (hb hby d1_80) ?_
    show Steps p.tables e below (T108.setTop (mkF m 81 #[.val (.int (3 : Int32)), .val (.int q1), .val (.int q2), .val (.int q3), .val (.int q4), .val (.int q5)] [(.int (2 : Int32)), (.ref b104), (.ref b104), (.ref b102), (.ref b102)])) t
    refine XS.iloadN X108.here hx rfl (hb hby d1_81) rfl ?_
    exact k
  refine OFinH.go sg109 ?_
  obtain ⟨cl110, Ar110, q110, S110, M110, H110, G110⟩ := id V108
  have hin110 : ¬ ((2 : Int32) < 0 ∨ cl110.slots.size ≤ ((2 : Int32)).toNatClampNeg) := inb_of S110 ⟨by decide, by decide⟩
  obtain ⟨T110, h110, X110, e110, W110, st110⟩ := stC X108 hx hZ e108 Ar110 (j := (2 : Int32)) hin110 (g := (mkF m 82 #[.val (.int (3 : Int32)), .val (.int q1), .val (.int q2), .val (.int q3), .val (.int q4), .val (.int q5)] [(.int q3), (.int (2 : Int32)), (.ref b104), (.ref b104), (.ref b102), (.ref b102)])) rfl rfl (hb hby d1_82)
  refine OFinH.go st110 ?_
  have V110 : Arv Z h110 b104 k104 .char (3 : Int32) [(.int (nar .char q1)), (.int (nar .char q2)), (.int (nar .char q3))] (.int (0 : Int32)) := Arv.set Ar110 q110 S110 M110 H110 G110 (fits_nar_char _) W110 2 rfl (Nat.le_of_ble_eq_true rfl)
  have SFn_b102 := Safe.wr W110 (Safe.arr hZ.alike Ar110 (by decide)) HC.1 SF_b102
  have HC := HC.trans (CHr.wr W110 (Safe.arr hZ.alike Ar110 (by decide)) HC.1)
  have SF_b102 := SFn_b102
  have K110 : Keep h0 h110 [] := K108.wr W110 (Or.inr sz_b104)
  have N110 := Fr.snoc X110 N108 g_b104
  have hws : ∀ d ∈ StrChars.Road.words, d.before aZ Z = true := fun d hd => hw d ((by decide +kernel : ∀ d ∈ StrChars.Road.words, d ∈ tables_1) d hd)
  obtain ⟨_, _, ⟨T111, L111, k111, n111⟩, -, X111, ⟨Lc111, hQ111, l111, y111, z111⟩, st111⟩ := X110.specialBack hx (y := (⟨"java/lang/String", "<init>", "([C)V"⟩ : MethodName)) rfl hown (mvT hZ (hw _ (List.mem_of_getElem? (i := 9) rfl))) (mvT hZ (hw _ (List.mem_of_getElem? (i := 10) rfl))) (mvT hZ (hw _ (List.mem_of_getElem? (i := 11) rfl))) (by decide) (StrChars.Road.backV (W := 1) hZ hws (kI := 4) (hw _ (List.mem_of_getElem? (i := 6) rfl)) (cs := ([(nar .char q1), (nar .char q2), (nar .char q3)] : List Int32)) (bs := ([(nar .char q1), (nar .char q2), (nar .char q3)] : List Int32).map (fun c => c.toInt8.toInt32)) (n := 3) g_b102 (Nat.le_trans Z0 K110.1) ((((A102.ext E104).wr W106).wr W108).wr W110) ((((F102_value.ext E104).other W106 (Or.inl (Nat.ne_of_lt (Nat.lt_of_lt_of_le A102.lt (Nat.le_of_eq g104.symm))))).other W108 (Or.inl (Nat.ne_of_lt (Nat.lt_of_lt_of_le A102.lt (Nat.le_of_eq g104.symm))))).other W110 (Or.inl (Nat.ne_of_lt (Nat.lt_of_lt_of_le A102.lt (Nat.le_of_eq g104.symm))))) ((((F102_coder.ext E104).other W106 (Or.inl (Nat.ne_of_lt (Nat.lt_of_lt_of_le A102.lt (Nat.le_of_eq g104.symm))))).other W108 (Or.inl (Nat.ne_of_lt (Nat.lt_of_lt_of_le A102.lt (Nat.le_of_eq g104.symm))))).other W110 (Or.inl (Nat.ne_of_lt (Nat.lt_of_lt_of_le A102.lt (Nat.le_of_eq g104.symm))))) V110 (S1.ext (((((O0.ext E102).ext E104).wr W106 g_b104).wr W108 g_b104).wr W110 g_b104).2) hcs rfl rfl (by decide) (by decide) (own_allS hq1 (own_allS hq2 (own_allS hq3 own_all0))) rfl (by decide) (by decide)) (g := (mkF m 83 #[.val (.int (3 : Int32)), .val (.int q1), .val (.int q2), .val (.int q3), .val (.int q4), .val (.int q5)] [(.ref b104), (.ref b102), (.ref b102)])) rfl (by rw [hml]; rfl) (Steps.refl _) (a := b102) (argsL := [(.ref b104)]) (rest := [(.ref b102)]) (lenOf pd_1 rfl) rfl (by show 2 * 0 + _ ≤ _; exact Nat.le_of_eq rfl) (hb hby d1_83) (fun _ _ => ⟨rfl, e110, (by decide : 2 + 1 ≤ _), (by decide : 7 + 3 ≤ _)⟩)
  dsimp only [Pt.U, Pt.locs, Pt.cells, Pt.slots] at X111 l111 y111 z111 st111 hQ111
  subst l111 y111 z111
  obtain ⟨rfl, N111q, Kq111, P111_0, P111_1, t111, kb111, _, R111_0, _, P111_2, P111_3⟩ := hQ111
  have N111 := Fr.app N110 N111q
  refine OFinH.tr st111 ?_
  have K111 : Keep h0 T111.heap [] := K110.trans Kq111 (allS (Or.inr sz_b102) all0)
  have SFn_b102 := Safe.keep Kq111 (allS SF_b102 all0) HC.1 SF_b102
  have HC := HC.trans (CHr.keep Kq111 (allS SF_b102 all0) HC.1)
  have SF_b102 := SFn_b102
  have g_t111 : n0 ≤ t111 := Nat.le_trans (Nat.le_trans Z0 K110.1) R111_0
  have sz_t111 : h0.size ≤ t111 := Nat.le_trans K110.1 R111_0
  exact OFinH.retA X111 hS (Nat.le_trans (Nat.le_trans (Nat.le_trans (Nat.le_trans (Nat.le_trans (Nat.le_trans hk E102.1) E104.1) (Keep.of_wr W106).1) (Keep.of_wr W108).1) (Keep.of_wr W110).1) Kq111.1) hZ hEL rfl HC hx hret rfl rfl rfl hlk (hb hby d1_86) ⟨b102, t111, kb111, rfl, N111, K111, P111_0, P111_2, P111_1, P111_3⟩ (by decide) (by decide)
theorem ef_1k4 (m : MethodId) (x0 : Int32) (x1 : Int32) (x2 : Int32) (x3 : Int32) (x4 : Int32) (x5 : Int32) : entryFrame m #[(.int x0), (.int x1), (.int x2), (.int x3), (.int x4), (.int x5)] 6 = mkF m 0 #[.val (.int x0), .val (.int x1), .val (.int x2), .val (.int x3), .val (.int x4), .val (.int x5)] [] := by first | (simp [entryFrame, mkF, argsToLocals, Value.category]; done) | rfl
def Q1k4 (Z : State) (q1 : Int32) (q2 : Int32) (q3 : Int32) (q4 : Int32) (q5 : Int32) (w1 : Int32) (h0 : Heap) (n0 : Nat) (v : Option Value) (h : Heap) (L : List Loc) : Prop := ∃ (b9 : Addr) (t9 : Addr) (k9 : ClassId), v = some (.ref b9) ∧ Fr n0 L ∧ Keep h0 h [] ∧ Exa Z h b9 "java/lang/String" ∧ Fld Z h b9 "java/lang/String" "value" "[B" (.ref t9) ∧ Fld Z h b9 "java/lang/String" "coder" "B" (.int (0 : Int32)) ∧ Arv Z h t9 k9 .byte (4 : Int32) ((([(nar .char q1), (nar .char q2), (nar .char q3), (nar .char q4)] : List Int32).map (fun c => c.toInt8.toInt32)).map Value.int) (.int (0 : Int32))
set_option maxHeartbeats 40000000 in
theorem rm1k4 (l : Launch) (Z : State) (aZ : Array Value) (hw : ∀ d ∈ tables_1, d.before aZ Z = true) (hEL : EW Z aZ consts_1) (ws : List Jvm.Cond) (q1 : Int32) (q2 : Int32) (q3 : Int32) (q4 : Int32) (q5 : Int32) (w1 : Int32) (h0 : Heap) (n0 : Nat) (Z0 : n0 ≤ h0.size) (O0 : Old Z n0 h0) (S1 : Sta Z Z.heap "java/lang/String" "COMPACT_STRINGS" "Z" (.int w1)) (hcs : ¬ (w1 = (0 : Int32))) (hq1 : ¬ nar .char q1 < 0 ∧ ¬ (255 : Int32) < nar .char q1) (hq2 : ¬ nar .char q2 < 0 ∧ ¬ (255 : Int32) < nar .char q2) (hq3 : ¬ nar .char q3 < 0 ∧ ¬ (255 : Int32) < nar .char q3) (hq4 : ¬ nar .char q4 < 0 ∧ ¬ (255 : Int32) < nar .char q4) :
    MetFree l (⟨"com/example/avvik/avvik/io/XsdValuesIsTruePinLaw", "make", "(ICCCCC)Ljava/lang/String;"⟩ : MethodName) (head1 (Jvm.Cond.code (⟨"com/example/avvik/avvik/io/XsdValuesIsTruePinLaw", "make", "(ICCCCC)Ljava/lang/String;"⟩ : MethodName) method_2_code 6 (some (.object "java/lang/String")) :: ws) ({ frames := 4, cells := 3, slots := 12, locals := 66 } : Room)) (fun a U => a = #[(.int (4 : Int32)), (.int q1), (.int q2), (.int q3), (.int q4), (.int q5)] ∧ Z.Warmed39 U.vm ∧ U.heap = h0 ∧ CHv Z consts_1 U.vm h0 ∧ ∀ x ∈ [], Safe Z consts_1 U.vm h0 x) (fun _ _ _ _ _ => True) (fun _ U o U' => ∃ v L, o = .returned v ∧ Q1k4 Z q1 q2 q3 q4 q5 w1 h0 n0 v U'.heap L ∧ CHr Z consts_1 U.vm U.heap U'.vm U'.heap ∧ ReturnedEndW U o U' L ({ frames := 4, cells := 3, slots := 12, locals := 66 } : Room).cells ({ frames := 4, cells := 3, slots := 12, locals := 66 } : Room).slots) := by
  refine MetFree.of_bodySF (plainFor_of_name pn_1) hisR ?_
  intro p e s m args below meth c s₁ Bd hml0 hP hK
  obtain ⟨rfl, hZ, hh, Hc, hsf⟩ := hP
  have hx := Bd.exec
  have hby := Bd.bytes
  have hret := Bd.returns
  have hlk : meth.locks = false := BodyLoose.notSynchronized Bd
  have hml : c.maxLocals = 6 := hml0
  have hown : s.vm.findClass "com/example/avvik/avvik/io/XsdValuesIsTruePinLaw" = some m.cls := findClass_of_methodNamed Bd.named
  have hnm := (name_of_methodNamed Bd.named Bd.method).1
  have X0 : Stand p l e ({ frames := 4, cells := 3, slots := 12, locals := 66 } : Room) (s.setVm s.vm) m #[(.int (4 : Int32)), (.int q1), (.int q2), (.int q3), (.int q4), (.int q5)] below meth c s₁ [] 0 0 := Stand.of_body Bd
  have hS : s.Since s.vm h0.size := State.WarmedH.since (State.WarmedH.refl s) _
  have hk : h0.size ≤ h0.size := Nat.le_refl _
  have hstr : ∀ a ∈ Bundle.stringAtoms, a.before aZ Z = true := fun d hd => hw d ((by decide +kernel : ∀ d ∈ Bundle.stringAtoms, d ∈ tables_1) d hd)
  have e0 : s₁.heap = h0 := by rw [← hh, Bd.state]; rfl
  have N0 := Fr.nil n0
  have K0 : Keep h0 h0 [] := Keep.refl _ _
  have pre0 : ∀ t, Steps p.tables e below (s₁.setTop (mkF m 0 #[.val (.int (4 : Int32)), .val (.int q1), .val (.int q2), .val (.int q3), .val (.int q4), .val (.int q5)] [])) t → Steps p.tables e below (s₁.setTop (entryFrame m #[(.int (4 : Int32)), (.int q1), (.int q2), (.int q3), (.int q4), (.int q5)] 6)) t := fun t k => castTop (ef_1k4 m (4 : Int32) q1 q2 q3 q4 q5) k
  have HC : CHr Z consts_1 s.vm h0 s.vm h0 := CHr.refl Hc
  suffices hfin : OFinH p e below s Z h0 (Q1k4 Z q1 q2 q3 q4 q5 w1 h0 n0) ({ frames := 4, cells := 3, slots := 12, locals := 66 } : Room).cells ({ frames := 4, cells := 3, slots := 12, locals := 66 } : Room).slots (s₁.setTop (entryFrame m #[(.int (4 : Int32)), (.int q1), (.int q2), (.int q3), (.int q4), (.int q5)] 6)) by
    obtain ⟨s₂, o, a1, a2, a3, v, L, b1, b2, b3, b4⟩ := hfin
    exact ⟨s₂, o, a1, a2, a3, v, L, b1, b2, by rw [hh]; exact b3, b4⟩
  refine OFinH.go pre0 ?_
  have sg101 : ∀ t, Steps p.tables e below (s₁.setTop (mkF m 92 #[.val (.int (4 : Int32)), .val (.int q1), .val (.int q2), .val (.int q3), .val (.int q4), .val (.int q5)] [])) t → Steps p.tables e below (s₁.setTop (mkF m 0 #[.val (.int (4 : Int32)), .val (.int q1), .val (.int q2), .val (.int q3), .val (.int q4), .val (.int q5)] [])) t := by
    intro t k
    show Steps p.tables e below (s₁.setTop (mkF m 0 #[.val (.int (4 : Int32)), .val (.int q1), .val (.int q2), .val (.int q3), .val (.int q4), .val (.int q5)] [])) t
    refine XS.iloadN X0.here hx rfl (hb hby d1_0) rfl ?_
    show Steps p.tables e below (s₁.setTop (mkF m 1 #[.val (.int (4 : Int32)), .val (.int q1), .val (.int q2), .val (.int q3), .val (.int q4), .val (.int q5)] [(.int (4 : Int32))])) t
    refine XS.ifYes X0.here hx rfl (pc0 := 1) (pc' := 15) rfl (hb hby d1_1) rfl ((if0 _ _).trans (feq (by decide : ¬ ((4 : Int32) = (0 : Int32)))).2) (by decide) (by decide) ?_
    show Steps p.tables e below (s₁.setTop (mkF m 15 #[.val (.int (4 : Int32)), .val (.int q1), .val (.int q2), .val (.int q3), .val (.int q4), .val (.int q5)] [])) t
    refine XS.iloadN X0.here hx rfl (hb hby d1_15) rfl ?_
    show Steps p.tables e below (s₁.setTop (mkF m 16 #[.val (.int (4 : Int32)), .val (.int q1), .val (.int q2), .val (.int q3), .val (.int q4), .val (.int q5)] [(.int (4 : Int32))])) t
    refine XS.iconst X0.here hx rfl (hb hby d1_16) ?_
    show Steps p.tables e below (s₁.setTop (mkF m 17 #[.val (.int (4 : Int32)), .val (.int q1), .val (.int q2), .val (.int q3), .val (.int q4), .val (.int q5)] [(.int (1 : Int32)), (.int (4 : Int32))])) t
    refine XS.icmpYes X0.here hx rfl (pc0 := 17) (pc' := 35) rfl (hb hby d1_17) rfl (feq (by decide : ¬ ((4 : Int32) = (1 : Int32)))).2 (by decide) (by decide) ?_
    show Steps p.tables e below (s₁.setTop (mkF m 35 #[.val (.int (4 : Int32)), .val (.int q1), .val (.int q2), .val (.int q3), .val (.int q4), .val (.int q5)] [])) t
    refine XS.iloadN X0.here hx rfl (hb hby d1_35) rfl ?_
    show Steps p.tables e below (s₁.setTop (mkF m 36 #[.val (.int (4 : Int32)), .val (.int q1), .val (.int q2), .val (.int q3), .val (.int q4), .val (.int q5)] [(.int (4 : Int32))])) t
    refine XS.iconst X0.here hx rfl (hb hby d1_36) ?_
    show Steps p.tables e below (s₁.setTop (mkF m 37 #[.val (.int (4 : Int32)), .val (.int q1), .val (.int q2), .val (.int q3), .val (.int q4), .val (.int q5)] [(.int (2 : Int32)), (.int (4 : Int32))])) t
    refine XS.icmpYes X0.here hx rfl (pc0 := 37) (pc' := 59) rfl (hb hby d1_37) rfl (feq (by decide : ¬ ((4 : Int32) = (2 : Int32)))).2 (by decide) (by decide) ?_
    show Steps p.tables e below (s₁.setTop (mkF m 59 #[.val (.int (4 : Int32)), .val (.int q1), .val (.int q2), .val (.int q3), .val (.int q4), .val (.int q5)] [])) t
    refine XS.iloadN X0.here hx rfl (hb hby d1_59) rfl ?_
    show Steps p.tables e below (s₁.setTop (mkF m 60 #[.val (.int (4 : Int32)), .val (.int q1), .val (.int q2), .val (.int q3), .val (.int q4), .val (.int q5)] [(.int (4 : Int32))])) t
    refine XS.iconst X0.here hx rfl (hb hby d1_60) ?_
    show Steps p.tables e below (s₁.setTop (mkF m 61 #[.val (.int (4 : Int32)), .val (.int q1), .val (.int q2), .val (.int q3), .val (.int q4), .val (.int q5)] [(.int (3 : Int32)), (.int (4 : Int32))])) t
    refine XS.icmpYes X0.here hx rfl (pc0 := 61) (pc' := 87) rfl (hb hby d1_61) rfl (feq (by decide : ¬ ((4 : Int32) = (3 : Int32)))).2 (by decide) (by decide) ?_
    show Steps p.tables e below (s₁.setTop (mkF m 87 #[.val (.int (4 : Int32)), .val (.int q1), .val (.int q2), .val (.int q3), .val (.int q4), .val (.int q5)] [])) t
    refine XS.iloadN X0.here hx rfl (hb hby d1_87) rfl ?_
    show Steps p.tables e below (s₁.setTop (mkF m 88 #[.val (.int (4 : Int32)), .val (.int q1), .val (.int q2), .val (.int q3), .val (.int q4), .val (.int q5)] [(.int (4 : Int32))])) t
    refine XS.iconst X0.here hx rfl (hb hby d1_88) ?_
    show Steps p.tables e below (s₁.setTop (mkF m 89 #[.val (.int (4 : Int32)), .val (.int q1), .val (.int q2), .val (.int q3), .val (.int q4), .val (.int q5)] [(.int (4 : Int32)), (.int (4 : Int32))])) t
    refine XS.icmpNo X0.here hx rfl (hb hby d1_89) rfl (teq (by decide : (4 : Int32) = (4 : Int32))).2 ?_
    exact k
  refine OFinH.go sg101 ?_
  obtain ⟨T102, h102, X102, e102, E102, A102, D102, -, st102⟩ := newO X0 hx hZ hown (hw _ (List.mem_of_getElem? (i := 5) rfl)) (hw _ (List.mem_of_getElem? (i := 6) rfl)) (hw _ (List.mem_of_getElem? (i := 7) rfl)) e0 (g := (mkF m 92 #[.val (.int (4 : Int32)), .val (.int q1), .val (.int q2), .val (.int q3), .val (.int q4), .val (.int q5)] [])) rfl (hb hby d1_92) (by decide) (by decide)
  obtain ⟨b102, g102⟩ : ∃ z, z = h0.size := ⟨_, rfl⟩
  rw [← g102] at A102 D102 st102
  refine OFinH.go st102 ?_
  have g_b102 : n0 ≤ b102 := Nat.le_trans (Nat.le_trans Z0 K0.1) (Nat.le_of_eq g102.symm)
  have sz_b102 : h0.size ≤ b102 := Nat.le_trans K0.1 (Nat.le_of_eq g102.symm)
  have SF_b102 := Safe.ext E102 HC.1 (Safe.new (Nat.le_of_eq g102.symm))
  have HC := HC.trans (CHr.ext E102 HC.1)
  have K102 : Keep h0 h102 [] := K0.ext E102
  have F102_value : Fld Z h102 b102 "java/lang/String" "value" "[B" .null := D102 (Or.inr (hw _ (List.mem_of_getElem? (i := 21) rfl))) (ty := (.array .byte)) (by decide)
  have F102_coder : Fld Z h102 b102 "java/lang/String" "coder" "B" (.int (0 : Int32)) := D102 (Or.inr (hw _ (List.mem_of_getElem? (i := 22) rfl))) (ty := .byte) (by decide)
  have sg103 : ∀ t, Steps p.tables e below (T102.setTop (mkF m 97 #[.val (.int (4 : Int32)), .val (.int q1), .val (.int q2), .val (.int q3), .val (.int q4), .val (.int q5)] [(.int (4 : Int32)), (.ref b102), (.ref b102)])) t → Steps p.tables e below (T102.setTop (mkF m 95 #[.val (.int (4 : Int32)), .val (.int q1), .val (.int q2), .val (.int q3), .val (.int q4), .val (.int q5)] [(.ref b102)])) t := by
    intro t k
    show Steps p.tables e below (T102.setTop (mkF m 95 #[.val (.int (4 : Int32)), .val (.int q1), .val (.int q2), .val (.int q3), .val (.int q4), .val (.int q5)] [(.ref b102)])) t
    refine XS.dup X102.here hx rfl (hb hby d1_95) rfl rfl ?_
    show Steps p.tables e below (T102.setTop (mkF m 96 #[.val (.int (4 : Int32)), .val (.int q1), .val (.int q2), .val (.int q3), .val (.int q4), .val (.int q5)] [(.ref b102), (.ref b102)])) t
    refine XS.iconst X102.here hx rfl (hb hby d1_96) ?_
    exact k
  refine OFinH.go sg103 ?_
  obtain ⟨T104, h104, k104, X104, e104, E104, A104, st104⟩ := newP X102 hx hZ (hw _ (List.mem_of_getElem? (i := 8) rfl)) e102 (g := (mkF m 97 #[.val (.int (4 : Int32)), .val (.int q1), .val (.int q2), .val (.int q3), .val (.int q4), .val (.int q5)] [(.int (4 : Int32)), (.ref b102), (.ref b102)])) rfl (hb hby d1_97) rfl (by decide) (cap := 4) (by decide) (by decide) (by decide) (by decide)
  obtain ⟨b104, g104⟩ : ∃ z, z = h102.size := ⟨_, rfl⟩
  rw [← g104] at A104 st104
  refine OFinH.go st104 ?_
  have g_b104 : n0 ≤ b104 := Nat.le_trans (Nat.le_trans Z0 K102.1) (Nat.le_of_eq g104.symm)
  have sz_b104 : h0.size ≤ b104 := Nat.le_trans K102.1 (Nat.le_of_eq g104.symm)
  have SFn_b102 := Safe.ext E104 HC.1 SF_b102
  have HC := HC.trans (CHr.ext E104 HC.1)
  have SF_b102 := SFn_b102
  have K104 : Keep h0 h104 [] := K102.ext E104
  have V104 : Arv Z h104 b104 k104 .char (4 : Int32) [(.int (0 : Int32)), (.int (0 : Int32)), (.int (0 : Int32)), (.int (0 : Int32))] (.int (0 : Int32)) := (Arv.new A104 (by decide)).pad (pad_rep [] (.int (0 : Int32)) 4)
  have sg105 : ∀ t, Steps p.tables e below (T104.setTop (mkF m 102 #[.val (.int (4 : Int32)), .val (.int q1), .val (.int q2), .val (.int q3), .val (.int q4), .val (.int q5)] [(.int q1), (.int (0 : Int32)), (.ref b104), (.ref b104), (.ref b102), (.ref b102)])) t → Steps p.tables e below (T104.setTop (mkF m 99 #[.val (.int (4 : Int32)), .val (.int q1), .val (.int q2), .val (.int q3), .val (.int q4), .val (.int q5)] [(.ref b104), (.ref b102), (.ref b102)])) t := by
    intro t k
    show Steps p.tables e below (T104.setTop (mkF m 99 #[.val (.int (4 : Int32)), .val (.int q1), .val (.int q2), .val (.int q3), .val (.int q4), .val (.int q5)] [(.ref b104), (.ref b102), (.ref b102)])) t
    refine XS.dup X104.here hx rfl (hb hby d1_99) rfl rfl ?_
    show Steps p.tables e below (T104.setTop (mkF m 100 #[.val (.int (4 : Int32)), .val (.int q1), .val (.int q2), .val (.int q3), .val (.int q4), .val (.int q5)] [(.ref b104), (.ref b104), (.ref b102), (.ref b102)])) t
    refine XS.iconst X104.here hx rfl (hb hby d1_100) ?_
    show Steps p.tables e below (T104.setTop (mkF m 101 #[.val (.int (4 : Int32)), .val (.int q1), .val (.int q2), .val (.int q3), .val (.int q4), .val (.int q5)] [(.int (0 : Int32)), (.ref b104), (.ref b104), (.ref b102), (.ref b102)])) t
    refine XS.iloadN X104.here hx rfl (hb hby d1_101) rfl ?_
    exact k
  refine OFinH.go sg105 ?_
  obtain ⟨cl106, Ar106, q106, S106, M106, H106, G106⟩ := id V104
  have hin106 : ¬ ((0 : Int32) < 0 ∨ cl106.slots.size ≤ ((0 : Int32)).toNatClampNeg) := inb_of S106 ⟨by decide, by decide⟩
  obtain ⟨T106, h106, X106, e106, W106, st106⟩ := stC X104 hx hZ e104 Ar106 (j := (0 : Int32)) hin106 (g := (mkF m 102 #[.val (.int (4 : Int32)), .val (.int q1), .val (.int q2), .val (.int q3), .val (.int q4), .val (.int q5)] [(.int q1), (.int (0 : Int32)), (.ref b104), (.ref b104), (.ref b102), (.ref b102)])) rfl rfl (hb hby d1_102)
  refine OFinH.go st106 ?_
  have V106 : Arv Z h106 b104 k104 .char (4 : Int32) [(.int (nar .char q1)), (.int (0 : Int32)), (.int (0 : Int32)), (.int (0 : Int32))] (.int (0 : Int32)) := Arv.set Ar106 q106 S106 M106 H106 G106 (fits_nar_char _) W106 0 rfl (Nat.le_of_ble_eq_true rfl)
  have SFn_b102 := Safe.wr W106 (Safe.arr hZ.alike Ar106 (by decide)) HC.1 SF_b102
  have HC := HC.trans (CHr.wr W106 (Safe.arr hZ.alike Ar106 (by decide)) HC.1)
  have SF_b102 := SFn_b102
  have K106 : Keep h0 h106 [] := K104.wr W106 (Or.inr sz_b104)
  have N106 := Fr.snoc X106 N0 g_b104
  have sg107 : ∀ t, Steps p.tables e below (T106.setTop (mkF m 106 #[.val (.int (4 : Int32)), .val (.int q1), .val (.int q2), .val (.int q3), .val (.int q4), .val (.int q5)] [(.int q2), (.int (1 : Int32)), (.ref b104), (.ref b104), (.ref b102), (.ref b102)])) t → Steps p.tables e below (T106.setTop (mkF m 103 #[.val (.int (4 : Int32)), .val (.int q1), .val (.int q2), .val (.int q3), .val (.int q4), .val (.int q5)] [(.ref b104), (.ref b102), (.ref b102)])) t := by
    intro t k
    show Steps p.tables e below (T106.setTop (mkF m 103 #[.val (.int (4 : Int32)), .val (.int q1), .val (.int q2), .val (.int q3), .val (.int q4), .val (.int q5)] [(.ref b104), (.ref b102), (.ref b102)])) t
    refine XS.dup X106.here hx rfl (hb hby d1_103) rfl rfl ?_
    show Steps p.tables e below (T106.setTop (mkF m 104 #[.val (.int (4 : Int32)), .val (.int q1), .val (.int q2), .val (.int q3), .val (.int q4), .val (.int q5)] [(.ref b104), (.ref b104), (.ref b102), (.ref b102)])) t
    refine XS.iconst X106.here hx rfl (hb hby d1_104) ?_
    show Steps p.tables e below (T106.setTop (mkF m 105 #[.val (.int (4 : Int32)), .val (.int q1), .val (.int q2), .val (.int q3), .val (.int q4), .val (.int q5)] [(.int (1 : Int32)), (.ref b104), (.ref b104), (.ref b102), (.ref b102)])) t
    refine XS.iloadN X106.here hx rfl (hb hby d1_105) rfl ?_
    exact k
  refine OFinH.go sg107 ?_
  obtain ⟨cl108, Ar108, q108, S108, M108, H108, G108⟩ := id V106
  have hin108 : ¬ ((1 : Int32) < 0 ∨ cl108.slots.size ≤ ((1 : Int32)).toNatClampNeg) := inb_of S108 ⟨by decide, by decide⟩
  obtain ⟨T108, h108, X108, e108, W108, st108⟩ := stC X106 hx hZ e106 Ar108 (j := (1 : Int32)) hin108 (g := (mkF m 106 #[.val (.int (4 : Int32)), .val (.int q1), .val (.int q2), .val (.int q3), .val (.int q4), .val (.int q5)] [(.int q2), (.int (1 : Int32)), (.ref b104), (.ref b104), (.ref b102), (.ref b102)])) rfl rfl (hb hby d1_106)
  refine OFinH.go st108 ?_
  have V108 : Arv Z h108 b104 k104 .char (4 : Int32) [(.int (nar .char q1)), (.int (nar .char q2)), (.int (0 : Int32)), (.int (0 : Int32))] (.int (0 : Int32)) := Arv.set Ar108 q108 S108 M108 H108 G108 (fits_nar_char _) W108 1 rfl (Nat.le_of_ble_eq_true rfl)
  have SFn_b102 := Safe.wr W108 (Safe.arr hZ.alike Ar108 (by decide)) HC.1 SF_b102
  have HC := HC.trans (CHr.wr W108 (Safe.arr hZ.alike Ar108 (by decide)) HC.1)
  have SF_b102 := SFn_b102
  have K108 : Keep h0 h108 [] := K106.wr W108 (Or.inr sz_b104)
  have N108 := Fr.snoc X108 N106 g_b104
  have sg109 : ∀ t, Steps p.tables e below (T108.setTop (mkF m 110 #[.val (.int (4 : Int32)), .val (.int q1), .val (.int q2), .val (.int q3), .val (.int q4), .val (.int q5)] [(.int q3), (.int (2 : Int32)), (.ref b104), (.ref b104), (.ref b102), (.ref b102)])) t → Steps p.tables e below (T108.setTop (mkF m 107 #[.val (.int (4 : Int32)), .val (.int q1), .val (.int q2), .val (.int q3), .val (.int q4), .val (.int q5)] [(.ref b104), (.ref b102), (.ref b102)])) t := by
    intro t k
    show Steps p.tables e below (T108.setTop (mkF m 107 #[.val (.int (4 : Int32)), .val (.int q1), .val (.int q2), .val (.int q3), .val (.int q4), .val (.int q5)] [(.ref b104), (.ref b102), (.ref b102)])) t
    refine XS.dup X108.here hx rfl (hb hby d1_107) rfl rfl ?_
    show Steps p.tables e below (T108.setTop (mkF m 108 #[.val (.int (4 : Int32)), .val (.int q1), .val (.int q2), .val (.int q3), .val (.int q4), .val (.int q5)] [(.ref b104), (.ref b104), (.ref b102), (.ref b102)])) t
    refine XS.iconst X108.here hx rfl (hb hby d1_108) ?_
    show Steps p.tables e below (T108.setTop (mkF m 109 #[.val (.int (4 : Int32)), .val (.int q1), .val (.int q2), .val (.int q3), .val (.int q4), .val (.int q5)] [(.int (2 : Int32)), (.ref b104), (.ref b104), (.ref b102), (.ref b102)])) t
    refine XS.iloadN X108.here hx rfl (hb hby d1_109) rfl ?_
    exact k
  refine OFinH.go sg109 ?_
  obtain ⟨cl110, Ar110, q110, S110, M110, H110, G110⟩ := id V108
  have hin110 : ¬ ((2 : Int32) < 0 ∨ cl110.slots.size ≤ ((2 : Int32)).toNatClampNeg) := inb_of S110 ⟨by decide, by decide⟩
  obtain ⟨T110, h110, X110, e110, W110, st110⟩ := stC X108 hx hZ e108 Ar110 (j := (2 : Int32)) hin110 (g := (mkF m 110 #[.val (.int (4 : Int32)), .val (.int q1), .val (.int q2), .val (.int q3), .val (.int q4), .val (.int q5)] [(.int q3), (.int (2 : Int32)), (.ref b104), (.ref b104), (.ref b102), (.ref b102)])) rfl rfl (hb hby d1_110)
  refine OFinH.go st110 ?_
  have V110 : Arv Z h110 b104 k104 .char (4 : Int32) [(.int (nar .char q1)), (.int (nar .char q2)), (.int (nar .char q3)), (.int (0 : Int32))] (.int (0 : Int32)) := Arv.set Ar110 q110 S110 M110 H110 G110 (fits_nar_char _) W110 2 rfl (Nat.le_of_ble_eq_true rfl)
  have SFn_b102 := Safe.wr W110 (Safe.arr hZ.alike Ar110 (by decide)) HC.1 SF_b102
  have HC := HC.trans (CHr.wr W110 (Safe.arr hZ.alike Ar110 (by decide)) HC.1)
  have SF_b102 := SFn_b102
  have K110 : Keep h0 h110 [] := K108.wr W110 (Or.inr sz_b104)
  have N110 := Fr.snoc X110 N108 g_b104
  have sg111 : ∀ t, Steps p.tables e below (T110.setTop (mkF m 115 #[.val (.int (4 : Int32)), .val (.int q1), .val (.int q2), .val (.int q3), .val (.int q4), .val (.int q5)] [(.int q4), (.int (3 : Int32)), (.ref b104), (.ref b104), (.ref b102), (.ref b102)])) t → Steps p.tables e below (T110.setTop (mkF m 111 #[.val (.int (4 : Int32)), .val (.int q1), .val (.int q2), .val (.int q3), .val (.int q4), .val (.int q5)] [(.ref b104), (.ref b102), (.ref b102)])) t := by
    intro t k
    show Steps p.tables e below (T110.setTop (mkF m 111 #[.val (.int (4 : Int32)), .val (.int q1), .val (.int q2), .val (.int q3), .val (.int q4), .val (.int q5)] [(.ref b104), (.ref b102), (.ref b102)])) t
    refine XS.dup X110.here hx rfl (hb hby d1_111) rfl rfl ?_
    show Steps p.tables e below (T110.setTop (mkF m 112 #[.val (.int (4 : Int32)), .val (.int q1), .val (.int q2), .val (.int q3), .val (.int q4), .val (.int q5)] [(.ref b104), (.ref b104), (.ref b102), (.ref b102)])) t
    refine XS.iconst X110.here hx rfl (hb hby d1_112) ?_
    show Steps p.tables e below (T110.setTop (mkF m 113 #[.val (.int (4 : Int32)), .val (.int q1), .val (.int q2), .val (.int q3), .val (.int q4), .val (.int q5)] [(.int (3 : Int32)), (.ref b104), (.ref b104), (.ref b102), (.ref b102)])) t
    refine XS.iload X110.here hx rfl (hb hby d1_113) rfl ?_
    exact k
  refine OFinH.go sg111 ?_
  obtain ⟨cl112, Ar112, q112, S112, M112, H112, G112⟩ := id V110
  have hin112 : ¬ ((3 : Int32) < 0 ∨ cl112.slots.size ≤ ((3 : Int32)).toNatClampNeg) := inb_of S112 ⟨by decide, by decide⟩
  obtain ⟨T112, h112, X112, e112, W112, st112⟩ := stC X110 hx hZ e110 Ar112 (j := (3 : Int32)) hin112 (g := (mkF m 115 #[.val (.int (4 : Int32)), .val (.int q1), .val (.int q2), .val (.int q3), .val (.int q4), .val (.int q5)] [(.int q4), (.int (3 : Int32)), (.ref b104), (.ref b104), (.ref b102), (.ref b102)])) rfl rfl (hb hby d1_115)
  refine OFinH.go st112 ?_
  have V112 : Arv Z h112 b104 k104 .char (4 : Int32) [(.int (nar .char q1)), (.int (nar .char q2)), (.int (nar .char q3)), (.int (nar .char q4))] (.int (0 : Int32)) := Arv.set Ar112 q112 S112 M112 H112 G112 (fits_nar_char _) W112 3 rfl (Nat.le_of_ble_eq_true rfl)
  have SFn_b102 := Safe.wr W112 (Safe.arr hZ.alike Ar112 (by decide)) HC.1 SF_b102
  have HC := HC.trans (CHr.wr W112 (Safe.arr hZ.alike Ar112 (by decide)) HC.1)
  have SF_b102 := SFn_b102
  have K112 : Keep h0 h112 [] := K110.wr W112 (Or.inr sz_b104)
  have N112 := Fr.snoc X112 N110 g_b104
  have hws : ∀ d ∈ StrChars.Road.words, d.before aZ Z = true := fun d hd => hw d ((by decide +kernel : ∀ d ∈ StrChars.Road.words, d ∈ tables_1) d hd)
  obtain ⟨_, _, ⟨T113, L113, k113, n113⟩, -, X113, ⟨Lc113, hQ113, l113, y113, z113⟩, st113⟩ := X112.specialBack hx (y := (⟨"java/lang/String", "<init>", "([C)V"⟩ : MethodName)) rfl hown (mvT hZ (hw _ (List.mem_of_getElem? (i := 9) rfl))) (mvT hZ (hw _ (List.mem_of_getElem? (i := 10) rfl))) (mvT hZ (hw _ (List.mem_of_getElem? (i := 11) rfl))) (by decide) (StrChars.Road.backV (W := 1) hZ hws (kI := 4) (hw _ (List.mem_of_getElem? (i := 6) rfl)) (cs := ([(nar .char q1), (nar .char q2), (nar .char q3), (nar .char q4)] : List Int32)) (bs := ([(nar .char q1), (nar .char q2), (nar .char q3), (nar .char q4)] : List Int32).map (fun c => c.toInt8.toInt32)) (n := 4) g_b102 (Nat.le_trans Z0 K112.1) (((((A102.ext E104).wr W106).wr W108).wr W110).wr W112) (((((F102_value.ext E104).other W106 (Or.inl (Nat.ne_of_lt (Nat.lt_of_lt_of_le A102.lt (Nat.le_of_eq g104.symm))))).other W108 (Or.inl (Nat.ne_of_lt (Nat.lt_of_lt_of_le A102.lt (Nat.le_of_eq g104.symm))))).other W110 (Or.inl (Nat.ne_of_lt (Nat.lt_of_lt_of_le A102.lt (Nat.le_of_eq g104.symm))))).other W112 (Or.inl (Nat.ne_of_lt (Nat.lt_of_lt_of_le A102.lt (Nat.le_of_eq g104.symm))))) (((((F102_coder.ext E104).other W106 (Or.inl (Nat.ne_of_lt (Nat.lt_of_lt_of_le A102.lt (Nat.le_of_eq g104.symm))))).other W108 (Or.inl (Nat.ne_of_lt (Nat.lt_of_lt_of_le A102.lt (Nat.le_of_eq g104.symm))))).other W110 (Or.inl (Nat.ne_of_lt (Nat.lt_of_lt_of_le A102.lt (Nat.le_of_eq g104.symm))))).other W112 (Or.inl (Nat.ne_of_lt (Nat.lt_of_lt_of_le A102.lt (Nat.le_of_eq g104.symm))))) V112 (S1.ext ((((((O0.ext E102).ext E104).wr W106 g_b104).wr W108 g_b104).wr W110 g_b104).wr W112 g_b104).2) hcs rfl rfl (by decide) (by decide) (own_allS hq1 (own_allS hq2 (own_allS hq3 (own_allS hq4 own_all0)))) rfl (by decide) (by decide)) (g := (mkF m 116 #[.val (.int (4 : Int32)), .val (.int q1), .val (.int q2), .val (.int q3), .val (.int q4), .val (.int q5)] [(.ref b104), (.ref b102), (.ref b102)])) rfl (by rw [hml]; rfl) (Steps.refl _) (a := b102) (argsL := [(.ref b104)]) (rest := [(.ref b102)]) (lenOf pd_1 rfl) rfl (by show 2 * 0 + _ ≤ _; exact Nat.le_of_eq rfl) (hb hby d1_116) (fun _ _ => ⟨rfl, e112, (by decide : 2 + 1 ≤ _), (by decide : 8 + 4 ≤ _)⟩)
  dsimp only [Pt.U, Pt.locs, Pt.cells, Pt.slots] at X113 l113 y113 z113 st113 hQ113
  subst l113 y113 z113
  obtain ⟨rfl, N113q, Kq113, P113_0, P113_1, t113, kb113, _, R113_0, _, P113_2, P113_3⟩ := hQ113
  have N113 := Fr.app N112 N113q
  refine OFinH.tr st113 ?_
  have K113 : Keep h0 T113.heap [] := K112.trans Kq113 (allS (Or.inr sz_b102) all0)
  have SFn_b102 := Safe.keep Kq113 (allS SF_b102 all0) HC.1 SF_b102
  have HC := HC.trans (CHr.keep Kq113 (allS SF_b102 all0) HC.1)
  have SF_b102 := SFn_b102
  have g_t113 : n0 ≤ t113 := Nat.le_trans (Nat.le_trans Z0 K112.1) R113_0
  have sz_t113 : h0.size ≤ t113 := Nat.le_trans K112.1 R113_0
  exact OFinH.retA X113 hS (Nat.le_trans (Nat.le_trans (Nat.le_trans (Nat.le_trans (Nat.le_trans (Nat.le_trans (Nat.le_trans hk E102.1) E104.1) (Keep.of_wr W106).1) (Keep.of_wr W108).1) (Keep.of_wr W110).1) (Keep.of_wr W112).1) Kq113.1) hZ hEL rfl HC hx hret rfl rfl rfl hlk (hb hby d1_119) ⟨b102, t113, kb113, rfl, N113, K113, P113_0, P113_2, P113_1, P113_3⟩ (by decide) (by decide)
theorem ef_1k5 (m : MethodId) (x0 : Int32) (x1 : Int32) (x2 : Int32) (x3 : Int32) (x4 : Int32) (x5 : Int32) : entryFrame m #[(.int x0), (.int x1), (.int x2), (.int x3), (.int x4), (.int x5)] 6 = mkF m 0 #[.val (.int x0), .val (.int x1), .val (.int x2), .val (.int x3), .val (.int x4), .val (.int x5)] [] := by first | (simp [entryFrame, mkF, argsToLocals, Value.category]; done) | rfl
def Q1k5 (Z : State) (q1 : Int32) (q2 : Int32) (q3 : Int32) (q4 : Int32) (q5 : Int32) (w1 : Int32) (h0 : Heap) (n0 : Nat) (v : Option Value) (h : Heap) (L : List Loc) : Prop := ∃ (b9 : Addr) (t9 : Addr) (k9 : ClassId), v = some (.ref b9) ∧ Fr n0 L ∧ Keep h0 h [] ∧ Exa Z h b9 "java/lang/String" ∧ Fld Z h b9 "java/lang/String" "value" "[B" (.ref t9) ∧ Fld Z h b9 "java/lang/String" "coder" "B" (.int (0 : Int32)) ∧ Arv Z h t9 k9 .byte (5 : Int32) ((([(nar .char q1), (nar .char q2), (nar .char q3), (nar .char q4), (nar .char q5)] : List Int32).map (fun c => c.toInt8.toInt32)).map Value.int) (.int (0 : Int32))
set_option maxHeartbeats 40000000 in
theorem rm1k5 (l : Launch) (Z : State) (aZ : Array Value) (hw : ∀ d ∈ tables_1, d.before aZ Z = true) (hEL : EW Z aZ consts_1) (ws : List Jvm.Cond) (q1 : Int32) (q2 : Int32) (q3 : Int32) (q4 : Int32) (q5 : Int32) (w1 : Int32) (h0 : Heap) (n0 : Nat) (Z0 : n0 ≤ h0.size) (O0 : Old Z n0 h0) (S1 : Sta Z Z.heap "java/lang/String" "COMPACT_STRINGS" "Z" (.int w1)) (hcs : ¬ (w1 = (0 : Int32))) (hq1 : ¬ nar .char q1 < 0 ∧ ¬ (255 : Int32) < nar .char q1) (hq2 : ¬ nar .char q2 < 0 ∧ ¬ (255 : Int32) < nar .char q2) (hq3 : ¬ nar .char q3 < 0 ∧ ¬ (255 : Int32) < nar .char q3) (hq4 : ¬ nar .char q4 < 0 ∧ ¬ (255 : Int32) < nar .char q4) (hq5 : ¬ nar .char q5 < 0 ∧ ¬ (255 : Int32) < nar .char q5) :
    MetFree l (⟨"com/example/avvik/avvik/io/XsdValuesIsTruePinLaw", "make", "(ICCCCC)Ljava/lang/String;"⟩ : MethodName) (head1 (Jvm.Cond.code (⟨"com/example/avvik/avvik/io/XsdValuesIsTruePinLaw", "make", "(ICCCCC)Ljava/lang/String;"⟩ : MethodName) method_2_code 6 (some (.object "java/lang/String")) :: ws) ({ frames := 4, cells := 3, slots := 14, locals := 66 } : Room)) (fun a U => a = #[(.int (5 : Int32)), (.int q1), (.int q2), (.int q3), (.int q4), (.int q5)] ∧ Z.Warmed39 U.vm ∧ U.heap = h0 ∧ CHv Z consts_1 U.vm h0 ∧ ∀ x ∈ [], Safe Z consts_1 U.vm h0 x) (fun _ _ _ _ _ => True) (fun _ U o U' => ∃ v L, o = .returned v ∧ Q1k5 Z q1 q2 q3 q4 q5 w1 h0 n0 v U'.heap L ∧ CHr Z consts_1 U.vm U.heap U'.vm U'.heap ∧ ReturnedEndW U o U' L ({ frames := 4, cells := 3, slots := 14, locals := 66 } : Room).cells ({ frames := 4, cells := 3, slots := 14, locals := 66 } : Room).slots) := by
  refine MetFree.of_bodySF (plainFor_of_name pn_1) hisR ?_
  intro p e s m args below meth c s₁ Bd hml0 hP hK
  obtain ⟨rfl, hZ, hh, Hc, hsf⟩ := hP
  have hx := Bd.exec
  have hby := Bd.bytes
  have hret := Bd.returns
  have hlk : meth.locks = false := BodyLoose.notSynchronized Bd
  have hml : c.maxLocals = 6 := hml0
  have hown : s.vm.findClass "com/example/avvik/avvik/io/XsdValuesIsTruePinLaw" = some m.cls := findClass_of_methodNamed Bd.named
  have hnm := (name_of_methodNamed Bd.named Bd.method).1
  have X0 : Stand p l e ({ frames := 4, cells := 3, slots := 14, locals := 66 } : Room) (s.setVm s.vm) m #[(.int (5 : Int32)), (.int q1), (.int q2), (.int q3), (.int q4), (.int q5)] below meth c s₁ [] 0 0 := Stand.of_body Bd
  have hS : s.Since s.vm h0.size := State.WarmedH.since (State.WarmedH.refl s) _
  have hk : h0.size ≤ h0.size := Nat.le_refl _
  have hstr : ∀ a ∈ Bundle.stringAtoms, a.before aZ Z = true := fun d hd => hw d ((by decide +kernel : ∀ d ∈ Bundle.stringAtoms, d ∈ tables_1) d hd)
  have e0 : s₁.heap = h0 := by rw [← hh, Bd.state]; rfl
  have N0 := Fr.nil n0
  have K0 : Keep h0 h0 [] := Keep.refl _ _
  have pre0 : ∀ t, Steps p.tables e below (s₁.setTop (mkF m 0 #[.val (.int (5 : Int32)), .val (.int q1), .val (.int q2), .val (.int q3), .val (.int q4), .val (.int q5)] [])) t → Steps p.tables e below (s₁.setTop (entryFrame m #[(.int (5 : Int32)), (.int q1), (.int q2), (.int q3), (.int q4), (.int q5)] 6)) t := fun t k => castTop (ef_1k5 m (5 : Int32) q1 q2 q3 q4 q5) k
  have HC : CHr Z consts_1 s.vm h0 s.vm h0 := CHr.refl Hc
  suffices hfin : OFinH p e below s Z h0 (Q1k5 Z q1 q2 q3 q4 q5 w1 h0 n0) ({ frames := 4, cells := 3, slots := 14, locals := 66 } : Room).cells ({ frames := 4, cells := 3, slots := 14, locals := 66 } : Room).slots (s₁.setTop (entryFrame m #[(.int (5 : Int32)), (.int q1), (.int q2), (.int q3), (.int q4), (.int q5)] 6)) by
    obtain ⟨s₂, o, a1, a2, a3, v, L, b1, b2, b3, b4⟩ := hfin
    exact ⟨s₂, o, a1, a2, a3, v, L, b1, b2, by rw [hh]; exact b3, b4⟩
  refine OFinH.go pre0 ?_
  have sg101 : ∀ t, Steps p.tables e below (s₁.setTop (mkF m 125 #[.val (.int (5 : Int32)), .val (.int q1), .val (.int q2), .val (.int q3), .val (.int q4), .val (.int q5)] [])) t → Steps p.tables e below (s₁.setTop (mkF m 0 #[.val (.int (5 : Int32)), .val (.int q1), .val (.int q2), .val (.int q3), .val (.int q4), .val (.int q5)] [])) t := by
    intro t k
    show Steps p.tables e below (s₁.setTop (mkF m 0 #[.val (.int (5 : Int32)), .val (.int q1), .val (.int q2), .val (.int q3), .val (.int q4), .val (.int q5)] [])) t
    refine XS.iloadN X0.here hx rfl (hb hby d1_0) rfl ?_
    show Steps p.tables e below (s₁.setTop (mkF m 1 #[.val (.int (5 : Int32)), .val (.int q1), .val (.int q2), .val (.int q3), .val (.int q4), .val (.int q5)] [(.int (5 : Int32))])) t
    refine XS.ifYes X0.here hx rfl (pc0 := 1) (pc' := 15) rfl (hb hby d1_1) rfl ((if0 _ _).trans (feq (by decide : ¬ ((5 : Int32) = (0 : Int32)))).2) (by decide) (by decide) ?_
    show Steps p.tables e below (s₁.setTop (mkF m 15 #[.val (.int (5 : Int32)), .val (.int q1), .val (.int q2), .val (.int q3), .val (.int q4), .val (.int q5)] [])) t
    refine XS.iloadN X0.here hx rfl (hb hby d1_15) rfl ?_
    show Steps p.tables e below (s₁.setTop (mkF m 16 #[.val (.int (5 : Int32)), .val (.int q1), .val (.int q2), .val (.int q3), .val (.int q4), .val (.int q5)] [(.int (5 : Int32))])) t
    refine XS.iconst X0.here hx rfl (hb hby d1_16) ?_
    show Steps p.tables e below (s₁.setTop (mkF m 17 #[.val (.int (5 : Int32)), .val (.int q1), .val (.int q2), .val (.int q3), .val (.int q4), .val (.int q5)] [(.int (1 : Int32)), (.int (5 : Int32))])) t
    refine XS.icmpYes X0.here hx rfl (pc0 := 17) (pc' := 35) rfl (hb hby d1_17) rfl (feq (by decide : ¬ ((5 : Int32) = (1 : Int32)))).2 (by decide) (by decide) ?_
    show Steps p.tables e below (s₁.setTop (mkF m 35 #[.val (.int (5 : Int32)), .val (.int q1), .val (.int q2), .val (.int q3), .val (.int q4), .val (.int q5)] [])) t
    refine XS.iloadN X0.here hx rfl (hb hby d1_35) rfl ?_
    show Steps p.tables e below (s₁.setTop (mkF m 36 #[.val (.int (5 : Int32)), .val (.int q1), .val (.int q2), .val (.int q3), .val (.int q4), .val (.int q5)] [(.int (5 : Int32))])) t
    refine XS.iconst X0.here hx rfl (hb hby d1_36) ?_
    show Steps p.tables e below (s₁.setTop (mkF m 37 #[.val (.int (5 : Int32)), .val (.int q1), .val (.int q2), .val (.int q3), .val (.int q4), .val (.int q5)] [(.int (2 : Int32)), (.int (5 : Int32))])) t
    refine XS.icmpYes X0.here hx rfl (pc0 := 37) (pc' := 59) rfl (hb hby d1_37) rfl (feq (by decide : ¬ ((5 : Int32) = (2 : Int32)))).2 (by decide) (by decide) ?_
    show Steps p.tables e below (s₁.setTop (mkF m 59 #[.val (.int (5 : Int32)), .val (.int q1), .val (.int q2), .val (.int q3), .val (.int q4), .val (.int q5)] [])) t
    refine XS.iloadN X0.here hx rfl (hb hby d1_59) rfl ?_
    show Steps p.tables e below (s₁.setTop (mkF m 60 #[.val (.int (5 : Int32)), .val (.int q1), .val (.int q2), .val (.int q3), .val (.int q4), .val (.int q5)] [(.int (5 : Int32))])) t
    refine XS.iconst X0.here hx rfl (hb hby d1_60) ?_
    show Steps p.tables e below (s₁.setTop (mkF m 61 #[.val (.int (5 : Int32)), .val (.int q1), .val (.int q2), .val (.int q3), .val (.int q4), .val (.int q5)] [(.int (3 : Int32)), (.int (5 : Int32))])) t
    refine XS.icmpYes X0.here hx rfl (pc0 := 61) (pc' := 87) rfl (hb hby d1_61) rfl (feq (by decide : ¬ ((5 : Int32) = (3 : Int32)))).2 (by decide) (by decide) ?_
    show Steps p.tables e below (s₁.setTop (mkF m 87 #[.val (.int (5 : Int32)), .val (.int q1), .val (.int q2), .val (.int q3), .val (.int q4), .val (.int q5)] [])) t
    refine XS.iloadN X0.here hx rfl (hb hby d1_87) rfl ?_
    show Steps p.tables e below (s₁.setTop (mkF m 88 #[.val (.int (5 : Int32)), .val (.int q1), .val (.int q2), .val (.int q3), .val (.int q4), .val (.int q5)] [(.int (5 : Int32))])) t
    refine XS.iconst X0.here hx rfl (hb hby d1_88) ?_
    show Steps p.tables e below (s₁.setTop (mkF m 89 #[.val (.int (5 : Int32)), .val (.int q1), .val (.int q2), .val (.int q3), .val (.int q4), .val (.int q5)] [(.int (4 : Int32)), (.int (5 : Int32))])) t
    refine XS.icmpYes X0.here hx rfl (pc0 := 89) (pc' := 120) rfl (hb hby d1_89) rfl (feq (by decide : ¬ ((5 : Int32) = (4 : Int32)))).2 (by decide) (by decide) ?_
    show Steps p.tables e below (s₁.setTop (mkF m 120 #[.val (.int (5 : Int32)), .val (.int q1), .val (.int q2), .val (.int q3), .val (.int q4), .val (.int q5)] [])) t
    refine XS.iloadN X0.here hx rfl (hb hby d1_120) rfl ?_
    show Steps p.tables e below (s₁.setTop (mkF m 121 #[.val (.int (5 : Int32)), .val (.int q1), .val (.int q2), .val (.int q3), .val (.int q4), .val (.int q5)] [(.int (5 : Int32))])) t
    refine XS.iconst X0.here hx rfl (hb hby d1_121) ?_
    show Steps p.tables e below (s₁.setTop (mkF m 122 #[.val (.int (5 : Int32)), .val (.int q1), .val (.int q2), .val (.int q3), .val (.int q4), .val (.int q5)] [(.int (5 : Int32)), (.int (5 : Int32))])) t
    refine XS.icmpNo X0.here hx rfl (hb hby d1_122) rfl (teq (by decide : (5 : Int32) = (5 : Int32))).2 ?_
    exact k
  refine OFinH.go sg101 ?_
  obtain ⟨T102, h102, X102, e102, E102, A102, D102, -, st102⟩ := newO X0 hx hZ hown (hw _ (List.mem_of_getElem? (i := 5) rfl)) (hw _ (List.mem_of_getElem? (i := 6) rfl)) (hw _ (List.mem_of_getElem? (i := 7) rfl)) e0 (g := (mkF m 125 #[.val (.int (5 : Int32)), .val (.int q1), .val (.int q2), .val (.int q3), .val (.int q4), .val (.int q5)] [])) rfl (hb hby d1_125) (by decide) (by decide)
  obtain ⟨b102, g102⟩ : ∃ z, z = h0.size := ⟨_, rfl⟩
  rw [← g102] at A102 D102 st102
  refine OFinH.go st102 ?_
  have g_b102 : n0 ≤ b102 := Nat.le_trans (Nat.le_trans Z0 K0.1) (Nat.le_of_eq g102.symm)
  have sz_b102 : h0.size ≤ b102 := Nat.le_trans K0.1 (Nat.le_of_eq g102.symm)
  have SF_b102 := Safe.ext E102 HC.1 (Safe.new (Nat.le_of_eq g102.symm))
  have HC := HC.trans (CHr.ext E102 HC.1)
  have K102 : Keep h0 h102 [] := K0.ext E102
  have F102_value : Fld Z h102 b102 "java/lang/String" "value" "[B" .null := D102 (Or.inr (hw _ (List.mem_of_getElem? (i := 21) rfl))) (ty := (.array .byte)) (by decide)
  have F102_coder : Fld Z h102 b102 "java/lang/String" "coder" "B" (.int (0 : Int32)) := D102 (Or.inr (hw _ (List.mem_of_getElem? (i := 22) rfl))) (ty := .byte) (by decide)
  have sg103 : ∀ t, Steps p.tables e below (T102.setTop (mkF m 130 #[.val (.int (5 : Int32)), .val (.int q1), .val (.int q2), .val (.int q3), .val (.int q4), .val (.int q5)] [(.int (5 : Int32)), (.ref b102), (.ref b102)])) t → Steps p.tables e below (T102.setTop (mkF m 128 #[.val (.int (5 : Int32)), .val (.int q1), .val (.int q2), .val (.int q3), .val (.int q4), .val (.int q5)] [(.ref b102)])) t := by
    intro t k
    show Steps p.tables e below (T102.setTop (mkF m 128 #[.val (.int (5 : Int32)), .val (.int q1), .val (.int q2), .val (.int q3), .val (.int q4), .val (.int q5)] [(.ref b102)])) t
    refine XS.dup X102.here hx rfl (hb hby d1_128) rfl rfl ?_
    show Steps p.tables e below (T102.setTop (mkF m 129 #[.val (.int (5 : Int32)), .val (.int q1), .val (.int q2), .val (.int q3), .val (.int q4), .val (.int q5)] [(.ref b102), (.ref b102)])) t
    refine XS.iconst X102.here hx rfl (hb hby d1_129) ?_
    exact k
  refine OFinH.go sg103 ?_
  obtain ⟨T104, h104, k104, X104, e104, E104, A104, st104⟩ := newP X102 hx hZ (hw _ (List.mem_of_getElem? (i := 8) rfl)) e102 (g := (mkF m 130 #[.val (.int (5 : Int32)), .val (.int q1), .val (.int q2), .val (.int q3), .val (.int q4), .val (.int q5)] [(.int (5 : Int32)), (.ref b102), (.ref b102)])) rfl (hb hby d1_130) rfl (by decide) (cap := 5) (by decide) (by decide) (by decide) (by decide)
  obtain ⟨b104, g104⟩ : ∃ z, z = h102.size := ⟨_, rfl⟩
  rw [← g104] at A104 st104
  refine OFinH.go st104 ?_
  have g_b104 : n0 ≤ b104 := Nat.le_trans (Nat.le_trans Z0 K102.1) (Nat.le_of_eq g104.symm)
  have sz_b104 : h0.size ≤ b104 := Nat.le_trans K102.1 (Nat.le_of_eq g104.symm)
  have SFn_b102 := Safe.ext E104 HC.1 SF_b102
  have HC := HC.trans (CHr.ext E104 HC.1)
  have SF_b102 := SFn_b102
  have K104 : Keep h0 h104 [] := K102.ext E104
  have V104 : Arv Z h104 b104 k104 .char (5 : Int32) [(.int (0 : Int32)), (.int (0 : Int32)), (.int (0 : Int32)), (.int (0 : Int32)), (.int (0 : Int32))] (.int (0 : Int32)) := (Arv.new A104 (by decide)).pad (pad_rep [] (.int (0 : Int32)) 5)
  have sg105 : ∀ t, Steps p.tables e below (T104.setTop (mkF m 135 #[.val (.int (5 : Int32)), .val (.int q1), .val (.int q2), .val (.int q3), .val (.int q4), .val (.int q5)] [(.int q1), (.int (0 : Int32)), (.ref b104), (.ref b104), (.ref b102), (.ref b102)])) t → Steps p.tables e below (T104.setTop (mkF m 132 #[.val (.int (5 : Int32)), .val (.int q1), .val (.int q2), .val (.int q3), .val (.int q4), .val (.int q5)] [(.ref b104), (.ref b102), (.ref b102)])) t := by
    intro t k
    show Steps p.tables e below (T104.setTop (mkF m 132 #[.val (.int (5 : Int32)), .val (.int q1), .val (.int q2), .val (.int q3), .val (.int q4), .val (.int q5)] [(.ref b104), (.ref b102), (.ref b102)])) t
    refine XS.dup X104.here hx rfl (hb hby d1_132) rfl rfl ?_
    show Steps p.tables e below (T104.setTop (mkF m 133 #[.val (.int (5 : Int32)), .val (.int q1), .val (.int q2), .val (.int q3), .val (.int q4), .val (.int q5)] [(.ref b104), (.ref b104), (.ref b102), (.ref b102)])) t
    refine XS.iconst X104.here hx rfl (hb hby d1_133) ?_
    show Steps p.tables e below (T104.setTop (mkF m 134 #[.val (.int (5 : Int32)), .val (.int q1), .val (.int q2), .val (.int q3), .val (.int q4), .val (.int q5)] [(.int (0 : Int32)), (.ref b104), (.ref b104), (.ref b102), (.ref b102)])) t
    refine XS.iloadN X104.here hx rfl (hb hby d1_134) rfl ?_
    exact k
  refine OFinH.go sg105 ?_
  obtain ⟨cl106, Ar106, q106, S106, M106, H106, G106⟩ := id V104
  have hin106 : ¬ ((0 : Int32) < 0 ∨ cl106.slots.size ≤ ((0 : Int32)).toNatClampNeg) := inb_of S106 ⟨by decide, by decide⟩
  obtain ⟨T106, h106, X106, e106, W106, st106⟩ := stC X104 hx hZ e104 Ar106 (j := (0 : Int32)) hin106 (g := (mkF m 135 #[.val (.int (5 : Int32)), .val (.int q1), .val (.int q2), .val (.int q3), .val (.int q4), .val (.int q5)] [(.int q1), (.int (0 : Int32)), (.ref b104), (.ref b104), (.ref b102), (.ref b102)])) rfl rfl (hb hby d1_135)
  refine OFinH.go st106 ?_
  have V106 : Arv Z h106 b104 k104 .char (5 : Int32) [(.int (nar .char q1)), (.int (0 : Int32)), (.int (0 : Int32)), (.int (0 : Int32)), (.int (0 : Int32))] (.int (0 : Int32)) := Arv.set Ar106 q106 S106 M106 H106 G106 (fits_nar_char _) W106 0 rfl (Nat.le_of_ble_eq_true rfl)
  have SFn_b102 := Safe.wr W106 (Safe.arr hZ.alike Ar106 (by decide)) HC.1 SF_b102
  have HC := HC.trans (CHr.wr W106 (Safe.arr hZ.alike Ar106 (by decide)) HC.1)
  have SF_b102 := SFn_b102
  have K106 : Keep h0 h106 [] := K104.wr W106 (Or.inr sz_b104)
  have N106 := Fr.snoc X106 N0 g_b104
  have sg107 : ∀ t, Steps p.tables e below (T106.setTop (mkF m 139 #[.val (.int (5 : Int32)), .val (.int q1), .val (.int q2), .val (.int q3), .val (.int q4), .val (.int q5)] [(.int q2), (.int (1 : Int32)), (.ref b104), (.ref b104), (.ref b102), (.ref b102)])) t → Steps p.tables e below (T106.setTop (mkF m 136 #[.val (.int (5 : Int32)), .val (.int q1), .val (.int q2), .val (.int q3), .val (.int q4), .val (.int q5)] [(.ref b104), (.ref b102), (.ref b102)])) t := by
    intro t k
    show Steps p.tables e below (T106.setTop (mkF m 136 #[.val (.int (5 : Int32)), .val (.int q1), .val (.int q2), .val (.int q3), .val (.int q4), .val (.int q5)] [(.ref b104), (.ref b102), (.ref b102)])) t
    refine XS.dup X106.here hx rfl (hb hby d1_136) rfl rfl ?_
    show Steps p.tables e below (T106.setTop (mkF m 137 #[.val (.int (5 : Int32)), .val (.int q1), .val (.int q2), .val (.int q3), .val (.int q4), .val (.int q5)] [(.ref b104), (.ref b104), (.ref b102), (.ref b102)])) t
    refine XS.iconst X106.here hx rfl (hb hby d1_137) ?_
    show Steps p.tables e below (T106.setTop (mkF m 138 #[.val (.int (5 : Int32)), .val (.int q1), .val (.int q2), .val (.int q3), .val (.int q4), .val (.int q5)] [(.int (1 : Int32)), (.ref b104), (.ref b104), (.ref b102), (.ref b102)])) t
    refine XS.iloadN X106.here hx rfl (hb hby d1_138) rfl ?_
    exact k
  refine OFinH.go sg107 ?_
  obtain ⟨cl108, Ar108, q108, S108, M108, H108, G108⟩ := id V106
  have hin108 : ¬ ((1 : Int32) < 0 ∨ cl108.slots.size ≤ ((1 : Int32)).toNatClampNeg) := inb_of S108 ⟨by decide, by decide⟩
  obtain ⟨T108, h108, X108, e108, W108, st108⟩ := stC X106 hx hZ e106 Ar108 (j := (1 : Int32)) hin108 (g := (mkF m 139 #[.val (.int (5 : Int32)), .val (.int q1), .val (.int q2), .val (.int q3), .val (.int q4), .val (.int q5)] [(.int q2), (.int (1 : Int32)), (.ref b104), (.ref b104), (.ref b102), (.ref b102)])) rfl rfl (hb hby d1_139)
  refine OFinH.go st108 ?_
  have V108 : Arv Z h108 b104 k104 .char (5 : Int32) [(.int (nar .char q1)), (.int (nar .char q2)), (.int (0 : Int32)), (.int (0 : Int32)), (.int (0 : Int32))] (.int (0 : Int32)) := Arv.set Ar108 q108 S108 M108 H108 G108 (fits_nar_char _) W108 1 rfl (Nat.le_of_ble_eq_true rfl)
  have SFn_b102 := Safe.wr W108 (Safe.arr hZ.alike Ar108 (by decide)) HC.1 SF_b102
  have HC := HC.trans (CHr.wr W108 (Safe.arr hZ.alike Ar108 (by decide)) HC.1)
  have SF_b102 := SFn_b102
  have K108 : Keep h0 h108 [] := K106.wr W108 (Or.inr sz_b104)
  have N108 := Fr.snoc X108 N106 g_b104
  have sg109 : ∀ t, Steps p.tables e below (T108.setTop (mkF m 143 #[.val (.int (5 : Int32)), .val (.int q1), .val (.int q2), .val (.int q3), .val (.int q4), .val (.int q5)] [(.int q3), (.int (2 : Int32)), (.ref b104), (.ref b104), (.ref b102), (.ref b102)])) t → Steps p.tables e below (T108.setTop (mkF m 140 #[.val (.int (5 : Int32)), .val (.int q1), .val (.int q2), .val (.int q3), .val (.int q4), .val (.int q5)] [(.ref b104), (.ref b102), (.ref b102)])) t := by
    intro t k
    show Steps p.tables e below (T108.setTop (mkF m 140 #[.val (.int (5 : Int32)), .val (.int q1), .val (.int q2), .val (.int q3), .val (.int q4), .val (.int q5)] [(.ref b104), (.ref b102), (.ref b102)])) t
    refine XS.dup X108.here hx rfl (hb hby d1_140) rfl rfl ?_
    show Steps p.tables e below (T108.setTop (mkF m 141 #[.val (.int (5 : Int32)), .val (.int q1), .val (.int q2), .val (.int q3), .val (.int q4), .val (.int q5)] [(.ref b104), (.ref b104), (.ref b102), (.ref b102)])) t
    refine XS.iconst X108.here hx rfl (hb hby d1_141) ?_
    show Steps p.tables e below (T108.setTop (mkF m 142 #[.val (.int (5 : Int32)), .val (.int q1), .val (.int q2), .val (.int q3), .val (.int q4), .val (.int q5)] [(.int (2 : Int32)), (.ref b104), (.ref b104), (.ref b102), (.ref b102)])) t
    refine XS.iloadN X108.here hx rfl (hb hby d1_142) rfl ?_
    exact k
  refine OFinH.go sg109 ?_
  obtain ⟨cl110, Ar110, q110, S110, M110, H110, G110⟩ := id V108
  have hin110 : ¬ ((2 : Int32) < 0 ∨ cl110.slots.size ≤ ((2 : Int32)).toNatClampNeg) := inb_of S110 ⟨by decide, by decide⟩
  obtain ⟨T110, h110, X110, e110, W110, st110⟩ := stC X108 hx hZ e108 Ar110 (j := (2 : Int32)) hin110 (g := (mkF m 143 #[.val (.int (5 : Int32)), .val (.int q1), .val (.int q2), .val (.int q3), .val (.int q4), .val (.int q5)] [(.int q3), (.int (2 : Int32)), (.ref b104), (.ref b104), (.ref b102), (.ref b102)])) rfl rfl (hb hby d1_143)
  refine OFinH.go st110 ?_
  have V110 : Arv Z h110 b104 k104 .char (5 : Int32) [(.int (nar .char q1)), (.int (nar .char q2)), (.int (nar .char q3)), (.int (0 : Int32)), (.int (0 : Int32))] (.int (0 : Int32)) := Arv.set Ar110 q110 S110 M110 H110 G110 (fits_nar_char _) W110 2 rfl (Nat.le_of_ble_eq_true rfl)
  have SFn_b102 := Safe.wr W110 (Safe.arr hZ.alike Ar110 (by decide)) HC.1 SF_b102
  have HC := HC.trans (CHr.wr W110 (Safe.arr hZ.alike Ar110 (by decide)) HC.1)
  have SF_b102 := SFn_b102
  have K110 : Keep h0 h110 [] := K108.wr W110 (Or.inr sz_b104)
  have N110 := Fr.snoc X110 N108 g_b104
  have sg111 : ∀ t, Steps p.tables e below (T110.setTop (mkF m 148 #[.val (.int (5 : Int32)), .val (.int q1), .val (.int q2), .val (.int q3), .val (.int q4), .val (.int q5)] [(.int q4), (.int (3 : Int32)), (.ref b104), (.ref b104), (.ref b102), (.ref b102)])) t → Steps p.tables e below (T110.setTop (mkF m 144 #[.val (.int (5 : Int32)), .val (.int q1), .val (.int q2), .val (.int q3), .val (.int q4), .val (.int q5)] [(.ref b104), (.ref b102), (.ref b102)])) t := by
    intro t k
    show Steps p.tables e below (T110.setTop (mkF m 144 #[.val (.int (5 : Int32)), .val (.int q1), .val (.int q2), .val (.int q3), .val (.int q4), .val (.int q5)] [(.ref b104), (.ref b102), (.ref b102)])) t
    refine XS.dup X110.here hx rfl (hb hby d1_144) rfl rfl ?_
    show Steps p.tables e below (T110.setTop (mkF m 145 #[.val (.int (5 : Int32)), .val (.int q1), .val (.int q2), .val (.int q3), .val (.int q4), .val (.int q5)] [(.ref b104), (.ref b104), (.ref b102), (.ref b102)])) t
    refine XS.iconst X110.here hx rfl (hb hby d1_145) ?_
    show Steps p.tables e below (T110.setTop (mkF m 146 #[.val (.int (5 : Int32)), .val (.int q1), .val (.int q2), .val (.int q3), .val (.int q4), .val (.int q5)] [(.int (3 : Int32)), (.ref b104), (.ref b104), (.ref b102), (.ref b102)])) t
    refine XS.iload X110.here hx rfl (hb hby d1_146) rfl ?_
    exact k
  refine OFinH.go sg111 ?_
  obtain ⟨cl112, Ar112, q112, S112, M112, H112, G112⟩ := id V110
  have hin112 : ¬ ((3 : Int32) < 0 ∨ cl112.slots.size ≤ ((3 : Int32)).toNatClampNeg) := inb_of S112 ⟨by decide, by decide⟩
  obtain ⟨T112, h112, X112, e112, W112, st112⟩ := stC X110 hx hZ e110 Ar112 (j := (3 : Int32)) hin112 (g := (mkF m 148 #[.val (.int (5 : Int32)), .val (.int q1), .val (.int q2), .val (.int q3), .val (.int q4), .val (.int q5)] [(.int q4), (.int (3 : Int32)), (.ref b104), (.ref b104), (.ref b102), (.ref b102)])) rfl rfl (hb hby d1_148)
  refine OFinH.go st112 ?_
  have V112 : Arv Z h112 b104 k104 .char (5 : Int32) [(.int (nar .char q1)), (.int (nar .char q2)), (.int (nar .char q3)), (.int (nar .char q4)), (.int (0 : Int32))] (.int (0 : Int32)) := Arv.set Ar112 q112 S112 M112 H112 G112 (fits_nar_char _) W112 3 rfl (Nat.le_of_ble_eq_true rfl)
  have SFn_b102 := Safe.wr W112 (Safe.arr hZ.alike Ar112 (by decide)) HC.1 SF_b102
  have HC := HC.trans (CHr.wr W112 (Safe.arr hZ.alike Ar112 (by decide)) HC.1)
  have SF_b102 := SFn_b102
  have K112 : Keep h0 h112 [] := K110.wr W112 (Or.inr sz_b104)
  have N112 := Fr.snoc X112 N110 g_b104
  have sg113 : ∀ t, Steps p.tables e below (T112.setTop (mkF m 153 #[.val (.int (5 : Int32)), .val (.int q1), .val (.int q2), .val (.int q3), .val (.int q4), .val (.int q5)] [(.int q5), (.int (4 : Int32)), (.ref b104), (.ref b104), (.ref b102), (.ref b102)])) t → Steps p.tables e below (T112.setTop (mkF m 149 #[.val (.int (5 : Int32)), .val (.int q1), .val (.int q2), .val (.int q3), .val (.int q4), .val (.int q5)] [(.ref b104), (.ref b102), (.ref b102)])) t := by
    intro t k
    show Steps p.tables e below (T112.setTop (mkF m 149 #[.val (.int (5 : Int32)), .val (.int q1), .val (.int q2), .val (.int q3), .val (.int q4), .val (.int q5)] [(.ref b104), (.ref b102), (.ref b102)])) t
    refine XS.dup X112.here hx rfl (hb hby d1_149) rfl rfl ?_
    show Steps p.tables e below (T112.setTop (mkF m 150 #[.val (.int (5 : Int32)), .val (.int q1), .val (.int q2), .val (.int q3), .val (.int q4), .val (.int q5)] [(.ref b104), (.ref b104), (.ref b102), (.ref b102)])) t
    refine XS.iconst X112.here hx rfl (hb hby d1_150) ?_
    show Steps p.tables e below (T112.setTop (mkF m 151 #[.val (.int (5 : Int32)), .val (.int q1), .val (.int q2), .val (.int q3), .val (.int q4), .val (.int q5)] [(.int (4 : Int32)), (.ref b104), (.ref b104), (.ref b102), (.ref b102)])) t
    refine XS.iload X112.here hx rfl (hb hby d1_151) rfl ?_
    exact k
  refine OFinH.go sg113 ?_
  obtain ⟨cl114, Ar114, q114, S114, M114, H114, G114⟩ := id V112
  have hin114 : ¬ ((4 : Int32) < 0 ∨ cl114.slots.size ≤ ((4 : Int32)).toNatClampNeg) := inb_of S114 ⟨by decide, by decide⟩
  obtain ⟨T114, h114, X114, e114, W114, st114⟩ := stC X112 hx hZ e112 Ar114 (j := (4 : Int32)) hin114 (g := (mkF m 153 #[.val (.int (5 : Int32)), .val (.int q1), .val (.int q2), .val (.int q3), .val (.int q4), .val (.int q5)] [(.int q5), (.int (4 : Int32)), (.ref b104), (.ref b104), (.ref b102), (.ref b102)])) rfl rfl (hb hby d1_153)
  refine OFinH.go st114 ?_
  have V114 : Arv Z h114 b104 k104 .char (5 : Int32) [(.int (nar .char q1)), (.int (nar .char q2)), (.int (nar .char q3)), (.int (nar .char q4)), (.int (nar .char q5))] (.int (0 : Int32)) := Arv.set Ar114 q114 S114 M114 H114 G114 (fits_nar_char _) W114 4 rfl (Nat.le_of_ble_eq_true rfl)
  have SFn_b102 := Safe.wr W114 (Safe.arr hZ.alike Ar114 (by decide)) HC.1 SF_b102
  have HC := HC.trans (CHr.wr W114 (Safe.arr hZ.alike Ar114 (by decide)) HC.1)
  have SF_b102 := SFn_b102
  have K114 : Keep h0 h114 [] := K112.wr W114 (Or.inr sz_b104)
  have N114 := Fr.snoc X114 N112 g_b104
  have hws : ∀ d ∈ StrChars.Road.words, d.before aZ Z = true := fun d hd => hw d ((by decide +kernel : ∀ d ∈ StrChars.Road.words, d ∈ tables_1) d hd)
  obtain ⟨_, _, ⟨T115, L115, k115, n115⟩, -, X115, ⟨Lc115, hQ115, l115, y115, z115⟩, st115⟩ := X114.specialBack hx (y := (⟨"java/lang/String", "<init>", "([C)V"⟩ : MethodName)) rfl hown (mvT hZ (hw _ (List.mem_of_getElem? (i := 9) rfl))) (mvT hZ (hw _ (List.mem_of_getElem? (i := 10) rfl))) (mvT hZ (hw _ (List.mem_of_getElem? (i := 11) rfl))) (by decide) (StrChars.Road.backV (W := 1) hZ hws (kI := 4) (hw _ (List.mem_of_getElem? (i := 6) rfl)) (cs := ([(nar .char q1), (nar .char q2), (nar .char q3), (nar .char q4), (nar .char q5)] : List Int32)) (bs := ([(nar .char q1), (nar .char q2), (nar .char q3), (nar .char q4), (nar .char q5)] : List Int32).map (fun c => c.toInt8.toInt32)) (n := 5) g_b102 (Nat.le_trans Z0 K114.1) ((((((A102.ext E104).wr W106).wr W108).wr W110).wr W112).wr W114) ((((((F102_value.ext E104).other W106 (Or.inl (Nat.ne_of_lt (Nat.lt_of_lt_of_le A102.lt (Nat.le_of_eq g104.symm))))).other W108 (Or.inl (Nat.ne_of_lt (Nat.lt_of_lt_of_le A102.lt (Nat.le_of_eq g104.symm))))).other W110 (Or.inl (Nat.ne_of_lt (Nat.lt_of_lt_of_le A102.lt (Nat.le_of_eq g104.symm))))).other W112 (Or.inl (Nat.ne_of_lt (Nat.lt_of_lt_of_le A102.lt (Nat.le_of_eq g104.symm))))).other W114 (Or.inl (Nat.ne_of_lt (Nat.lt_of_lt_of_le A102.lt (Nat.le_of_eq g104.symm))))) ((((((F102_coder.ext E104).other W106 (Or.inl (Nat.ne_of_lt (Nat.lt_of_lt_of_le A102.lt (Nat.le_of_eq g104.symm))))).other W108 (Or.inl (Nat.ne_of_lt (Nat.lt_of_lt_of_le A102.lt (Nat.le_of_eq g104.symm))))).other W110 (Or.inl (Nat.ne_of_lt (Nat.lt_of_lt_of_le A102.lt (Nat.le_of_eq g104.symm))))).other W112 (Or.inl (Nat.ne_of_lt (Nat.lt_of_lt_of_le A102.lt (Nat.le_of_eq g104.symm))))).other W114 (Or.inl (Nat.ne_of_lt (Nat.lt_of_lt_of_le A102.lt (Nat.le_of_eq g104.symm))))) V114 (S1.ext (((((((O0.ext E102).ext E104).wr W106 g_b104).wr W108 g_b104).wr W110 g_b104).wr W112 g_b104).wr W114 g_b104).2) hcs rfl rfl (by decide) (by decide) (own_allS hq1 (own_allS hq2 (own_allS hq3 (own_allS hq4 (own_allS hq5 own_all0))))) rfl (by decide) (by decide)) (g := (mkF m 154 #[.val (.int (5 : Int32)), .val (.int q1), .val (.int q2), .val (.int q3), .val (.int q4), .val (.int q5)] [(.ref b104), (.ref b102), (.ref b102)])) rfl (by rw [hml]; rfl) (Steps.refl _) (a := b102) (argsL := [(.ref b104)]) (rest := [(.ref b102)]) (lenOf pd_1 rfl) rfl (by show 2 * 0 + _ ≤ _; exact Nat.le_of_eq rfl) (hb hby d1_154) (fun _ _ => ⟨rfl, e114, (by decide : 2 + 1 ≤ _), (by decide : 9 + 5 ≤ _)⟩)
  dsimp only [Pt.U, Pt.locs, Pt.cells, Pt.slots] at X115 l115 y115 z115 st115 hQ115
  subst l115 y115 z115
  obtain ⟨rfl, N115q, Kq115, P115_0, P115_1, t115, kb115, _, R115_0, _, P115_2, P115_3⟩ := hQ115
  have N115 := Fr.app N114 N115q
  refine OFinH.tr st115 ?_
  have K115 : Keep h0 T115.heap [] := K114.trans Kq115 (allS (Or.inr sz_b102) all0)
  have SFn_b102 := Safe.keep Kq115 (allS SF_b102 all0) HC.1 SF_b102
  have HC := HC.trans (CHr.keep Kq115 (allS SF_b102 all0) HC.1)
  have SF_b102 := SFn_b102
  have g_t115 : n0 ≤ t115 := Nat.le_trans (Nat.le_trans Z0 K114.1) R115_0
  have sz_t115 : h0.size ≤ t115 := Nat.le_trans K114.1 R115_0
  exact OFinH.retA X115 hS (Nat.le_trans (Nat.le_trans (Nat.le_trans (Nat.le_trans (Nat.le_trans (Nat.le_trans (Nat.le_trans (Nat.le_trans hk E102.1) E104.1) (Keep.of_wr W106).1) (Keep.of_wr W108).1) (Keep.of_wr W110).1) (Keep.of_wr W112).1) (Keep.of_wr W114).1) Kq115.1) hZ hEL rfl HC hx hret rfl rfl rfl hlk (hb hby d1_157) ⟨b102, t115, kb115, rfl, N115, K115, P115_0, P115_2, P115_1, P115_3⟩ (by decide) (by decide)
theorem ef_1k6 (m : MethodId) (x0 : Int32) (x1 : Int32) (x2 : Int32) (x3 : Int32) (x4 : Int32) (x5 : Int32) : entryFrame m #[(.int x0), (.int x1), (.int x2), (.int x3), (.int x4), (.int x5)] 6 = mkF m 0 #[.val (.int x0), .val (.int x1), .val (.int x2), .val (.int x3), .val (.int x4), .val (.int x5)] [] := by first | (simp [entryFrame, mkF, argsToLocals, Value.category]; done) | rfl
def Q1k6 (Z : State) (q1 : Int32) (q2 : Int32) (q3 : Int32) (q4 : Int32) (q5 : Int32) (h0 : Heap) (n0 : Nat) (v : Option Value) (h : Heap) (L : List Loc) : Prop := v = some .null ∧ Fr n0 L ∧ Keep h0 h []
set_option maxHeartbeats 40000000 in
theorem rm1k6 (l : Launch) (Z : State) (aZ : Array Value) (hw : ∀ d ∈ tables_1, d.before aZ Z = true) (hEL : EW Z aZ consts_1) (ws : List Jvm.Cond) (q1 : Int32) (q2 : Int32) (q3 : Int32) (q4 : Int32) (q5 : Int32) (h0 : Heap) (n0 : Nat) (Z0 : n0 ≤ h0.size) :
    MetFree l (⟨"com/example/avvik/avvik/io/XsdValuesIsTruePinLaw", "make", "(ICCCCC)Ljava/lang/String;"⟩ : MethodName) (head1 (Jvm.Cond.code (⟨"com/example/avvik/avvik/io/XsdValuesIsTruePinLaw", "make", "(ICCCCC)Ljava/lang/String;"⟩ : MethodName) method_2_code 6 (some (.object "java/lang/String")) :: ws) ({ frames := 0, cells := 0, slots := 0, locals := 0 } : Room)) (fun a U => a = #[(.int (6 : Int32)), (.int q1), (.int q2), (.int q3), (.int q4), (.int q5)] ∧ Z.Warmed39 U.vm ∧ U.heap = h0 ∧ CHv Z consts_1 U.vm h0 ∧ ∀ x ∈ [], Safe Z consts_1 U.vm h0 x) (fun _ _ _ _ _ => True) (fun _ U o U' => ∃ v L, o = .returned v ∧ Q1k6 Z q1 q2 q3 q4 q5 h0 n0 v U'.heap L ∧ CHr Z consts_1 U.vm U.heap U'.vm U'.heap ∧ ReturnedEndW U o U' L ({ frames := 0, cells := 0, slots := 0, locals := 0 } : Room).cells ({ frames := 0, cells := 0, slots := 0, locals := 0 } : Room).slots) := by
  refine MetFree.of_bodySF (plainFor_of_name pn_1) hisR ?_
  intro p e s m args below meth c s₁ Bd hml0 hP hK
  obtain ⟨rfl, hZ, hh, Hc, hsf⟩ := hP
  have hx := Bd.exec
  have hby := Bd.bytes
  have hret := Bd.returns
  have hlk : meth.locks = false := BodyLoose.notSynchronized Bd
  have hml : c.maxLocals = 6 := hml0
  have hown : s.vm.findClass "com/example/avvik/avvik/io/XsdValuesIsTruePinLaw" = some m.cls := findClass_of_methodNamed Bd.named
  have hnm := (name_of_methodNamed Bd.named Bd.method).1
  have X0 : Stand p l e ({ frames := 0, cells := 0, slots := 0, locals := 0 } : Room) (s.setVm s.vm) m #[(.int (6 : Int32)), (.int q1), (.int q2), (.int q3), (.int q4), (.int q5)] below meth c s₁ [] 0 0 := Stand.of_body Bd
  have hS : s.Since s.vm h0.size := State.WarmedH.since (State.WarmedH.refl s) _
  have hk : h0.size ≤ h0.size := Nat.le_refl _
  have hstr : ∀ a ∈ Bundle.stringAtoms, a.before aZ Z = true := fun d hd => hw d ((by decide +kernel : ∀ d ∈ Bundle.stringAtoms, d ∈ tables_1) d hd)
  have e0 : s₁.heap = h0 := by rw [← hh, Bd.state]; rfl
  have N0 := Fr.nil n0
  have K0 : Keep h0 h0 [] := Keep.refl _ _
  have pre0 : ∀ t, Steps p.tables e below (s₁.setTop (mkF m 0 #[.val (.int (6 : Int32)), .val (.int q1), .val (.int q2), .val (.int q3), .val (.int q4), .val (.int q5)] [])) t → Steps p.tables e below (s₁.setTop (entryFrame m #[(.int (6 : Int32)), (.int q1), (.int q2), (.int q3), (.int q4), (.int q5)] 6)) t := fun t k => castTop (ef_1k6 m (6 : Int32) q1 q2 q3 q4 q5) k
  have HC : CHr Z consts_1 s.vm h0 s.vm h0 := CHr.refl Hc
  suffices hfin : OFinH p e below s Z h0 (Q1k6 Z q1 q2 q3 q4 q5 h0 n0) ({ frames := 0, cells := 0, slots := 0, locals := 0 } : Room).cells ({ frames := 0, cells := 0, slots := 0, locals := 0 } : Room).slots (s₁.setTop (entryFrame m #[(.int (6 : Int32)), (.int q1), (.int q2), (.int q3), (.int q4), (.int q5)] 6)) by
    obtain ⟨s₂, o, a1, a2, a3, v, L, b1, b2, b3, b4⟩ := hfin
    exact ⟨s₂, o, a1, a2, a3, v, L, b1, b2, by rw [hh]; exact b3, b4⟩
  refine OFinH.go pre0 ?_
  have sg101 : ∀ t, Steps p.tables e below (s₁.setTop (mkF m 159 #[.val (.int (6 : Int32)), .val (.int q1), .val (.int q2), .val (.int q3), .val (.int q4), .val (.int q5)] [.null])) t → Steps p.tables e below (s₁.setTop (mkF m 0 #[.val (.int (6 : Int32)), .val (.int q1), .val (.int q2), .val (.int q3), .val (.int q4), .val (.int q5)] [])) t := by
    intro t k
    show Steps p.tables e below (s₁.setTop (mkF m 0 #[.val (.int (6 : Int32)), .val (.int q1), .val (.int q2), .val (.int q3), .val (.int q4), .val (.int q5)] [])) t
    refine XS.iloadN X0.here hx rfl (hb hby d1_0) rfl ?_
    show Steps p.tables e below (s₁.setTop (mkF m 1 #[.val (.int (6 : Int32)), .val (.int q1), .val (.int q2), .val (.int q3), .val (.int q4), .val (.int q5)] [(.int (6 : Int32))])) t
    refine XS.ifYes X0.here hx rfl (pc0 := 1) (pc' := 15) rfl (hb hby d1_1) rfl ((if0 _ _).trans (feq (by decide : ¬ ((6 : Int32) = (0 : Int32)))).2) (by decide) (by decide) ?_
    show Steps p.tables e below (s₁.setTop (mkF m 15 #[.val (.int (6 : Int32)), .val (.int q1), .val (.int q2), .val (.int q3), .val (.int q4), .val (.int q5)] [])) t
    refine XS.iloadN X0.here hx rfl (hb hby d1_15) rfl ?_
    show Steps p.tables e below (s₁.setTop (mkF m 16 #[.val (.int (6 : Int32)), .val (.int q1), .val (.int q2), .val (.int q3), .val (.int q4), .val (.int q5)] [(.int (6 : Int32))])) t
    refine XS.iconst X0.here hx rfl (hb hby d1_16) ?_
    show Steps p.tables e below (s₁.setTop (mkF m 17 #[.val (.int (6 : Int32)), .val (.int q1), .val (.int q2), .val (.int q3), .val (.int q4), .val (.int q5)] [(.int (1 : Int32)), (.int (6 : Int32))])) t
    refine XS.icmpYes X0.here hx rfl (pc0 := 17) (pc' := 35) rfl (hb hby d1_17) rfl (feq (by decide : ¬ ((6 : Int32) = (1 : Int32)))).2 (by decide) (by decide) ?_
    show Steps p.tables e below (s₁.setTop (mkF m 35 #[.val (.int (6 : Int32)), .val (.int q1), .val (.int q2), .val (.int q3), .val (.int q4), .val (.int q5)] [])) t
    refine XS.iloadN X0.here hx rfl (hb hby d1_35) rfl ?_
    show Steps p.tables e below (s₁.setTop (mkF m 36 #[.val (.int (6 : Int32)), .val (.int q1), .val (.int q2), .val (.int q3), .val (.int q4), .val (.int q5)] [(.int (6 : Int32))])) t
    refine XS.iconst X0.here hx rfl (hb hby d1_36) ?_
    show Steps p.tables e below (s₁.setTop (mkF m 37 #[.val (.int (6 : Int32)), .val (.int q1), .val (.int q2), .val (.int q3), .val (.int q4), .val (.int q5)] [(.int (2 : Int32)), (.int (6 : Int32))])) t
    refine XS.icmpYes X0.here hx rfl (pc0 := 37) (pc' := 59) rfl (hb hby d1_37) rfl (feq (by decide : ¬ ((6 : Int32) = (2 : Int32)))).2 (by decide) (by decide) ?_
    show Steps p.tables e below (s₁.setTop (mkF m 59 #[.val (.int (6 : Int32)), .val (.int q1), .val (.int q2), .val (.int q3), .val (.int q4), .val (.int q5)] [])) t
    refine XS.iloadN X0.here hx rfl (hb hby d1_59) rfl ?_
    show Steps p.tables e below (s₁.setTop (mkF m 60 #[.val (.int (6 : Int32)), .val (.int q1), .val (.int q2), .val (.int q3), .val (.int q4), .val (.int q5)] [(.int (6 : Int32))])) t
    refine XS.iconst X0.here hx rfl (hb hby d1_60) ?_
    show Steps p.tables e below (s₁.setTop (mkF m 61 #[.val (.int (6 : Int32)), .val (.int q1), .val (.int q2), .val (.int q3), .val (.int q4), .val (.int q5)] [(.int (3 : Int32)), (.int (6 : Int32))])) t
    refine XS.icmpYes X0.here hx rfl (pc0 := 61) (pc' := 87) rfl (hb hby d1_61) rfl (feq (by decide : ¬ ((6 : Int32) = (3 : Int32)))).2 (by decide) (by decide) ?_
    show Steps p.tables e below (s₁.setTop (mkF m 87 #[.val (.int (6 : Int32)), .val (.int q1), .val (.int q2), .val (.int q3), .val (.int q4), .val (.int q5)] [])) t
    refine XS.iloadN X0.here hx rfl (hb hby d1_87) rfl ?_
    show Steps p.tables e below (s₁.setTop (mkF m 88 #[.val (.int (6 : Int32)), .val (.int q1), .val (.int q2), .val (.int q3), .val (.int q4), .val (.int q5)] [(.int (6 : Int32))])) t
    refine XS.iconst X0.here hx rfl (hb hby d1_88) ?_
    show Steps p.tables e below (s₁.setTop (mkF m 89 #[.val (.int (6 : Int32)), .val (.int q1), .val (.int q2), .val (.int q3), .val (.int q4), .val (.int q5)] [(.int (4 : Int32)), (.int (6 : Int32))])) t
    refine XS.icmpYes X0.here hx rfl (pc0 := 89) (pc' := 120) rfl (hb hby d1_89) rfl (feq (by decide : ¬ ((6 : Int32) = (4 : Int32)))).2 (by decide) (by decide) ?_
    show Steps p.tables e below (s₁.setTop (mkF m 120 #[.val (.int (6 : Int32)), .val (.int q1), .val (.int q2), .val (.int q3), .val (.int q4), .val (.int q5)] [])) t
    refine XS.iloadN X0.here hx rfl (hb hby d1_120) rfl ?_
    show Steps p.tables e below (s₁.setTop (mkF m 121 #[.val (.int (6 : Int32)), .val (.int q1), .val (.int q2), .val (.int q3), .val (.int q4), .val (.int q5)] [(.int (6 : Int32))])) t
    refine XS.iconst X0.here hx rfl (hb hby d1_121) ?_
    show Steps p.tables e below (s₁.setTop (mkF m 122 #[.val (.int (6 : Int32)), .val (.int q1), .val (.int q2), .val (.int q3), .val (.int q4), .val (.int q5)] [(.int (5 : Int32)), (.int (6 : Int32))])) t
    refine XS.icmpYes X0.here hx rfl (pc0 := 122) (pc' := 158) rfl (hb hby d1_122) rfl (feq (by decide : ¬ ((6 : Int32) = (5 : Int32)))).2 (by decide) (by decide) ?_
    show Steps p.tables e below (s₁.setTop (mkF m 158 #[.val (.int (6 : Int32)), .val (.int q1), .val (.int q2), .val (.int q3), .val (.int q4), .val (.int q5)] [])) t
    refine XS.aconstNull X0.here hx rfl (hb hby d1_158) ?_
    exact k
  refine OFinH.go sg101 ?_
  exact OFinH.retA X0 hS (by rw [e0]; exact hk) hZ hEL e0 HC hx hret rfl rfl rfl hlk (hb hby d1_159) (by rw [e0]; exact ⟨rfl, N0, K0⟩) (by decide) (by decide)
theorem d6_0 : decode jdk_42_method_66_code 0 = .ok (.aload_n 0, 1) := by decide +kernel
theorem d6_1 : decode jdk_42_method_66_code 1 = .ok (.aload_n 1, 1) := by decide +kernel
theorem d6_2 : decode jdk_42_method_66_code 2 = .ok (.if_acmp .ne 5, 3) := by decide +kernel
theorem d6_5 : decode jdk_42_method_66_code 5 = .ok (.iconst 1, 1) := by decide +kernel
theorem d6_6 : decode jdk_42_method_66_code 6 = .ok (.ireturn, 1) := by decide +kernel
theorem d6_7 : decode jdk_42_method_66_code 7 = .ok (.aload_n 1, 1) := by decide +kernel
theorem d6_8 : decode jdk_42_method_66_code 8 = .ok (.instanceof 10, 3) := by decide +kernel
theorem d6_11 : decode jdk_42_method_66_code 11 = .ok (.ifCond .eq 43, 3) := by decide +kernel
theorem d6_14 : decode jdk_42_method_66_code 14 = .ok (.aload_n 1, 1) := by decide +kernel
theorem d6_15 : decode jdk_42_method_66_code 15 = .ok (.checkcast 10, 3) := by decide +kernel
theorem d6_18 : decode jdk_42_method_66_code 18 = .ok (.astore_n 2, 1) := by decide +kernel
theorem d6_19 : decode jdk_42_method_66_code 19 = .ok (.getstatic 38, 3) := by decide +kernel
theorem d6_22 : decode jdk_42_method_66_code 22 = .ok (.ifCond .eq 14, 3) := by decide +kernel
theorem d6_25 : decode jdk_42_method_66_code 25 = .ok (.aload_n 0, 1) := by decide +kernel
theorem d6_26 : decode jdk_42_method_66_code 26 = .ok (.getfield 15, 3) := by decide +kernel
theorem d6_29 : decode jdk_42_method_66_code 29 = .ok (.aload_n 2, 1) := by decide +kernel
theorem d6_30 : decode jdk_42_method_66_code 30 = .ok (.getfield 15, 3) := by decide +kernel
theorem d6_33 : decode jdk_42_method_66_code 33 = .ok (.if_icmp .ne 21, 3) := by decide +kernel
theorem d6_36 : decode jdk_42_method_66_code 36 = .ok (.aload_n 0, 1) := by decide +kernel
theorem d6_37 : decode jdk_42_method_66_code 37 = .ok (.getfield 9, 3) := by decide +kernel
theorem d6_40 : decode jdk_42_method_66_code 40 = .ok (.aload_n 2, 1) := by decide +kernel
theorem d6_41 : decode jdk_42_method_66_code 41 = .ok (.getfield 9, 3) := by decide +kernel
theorem d6_44 : decode jdk_42_method_66_code 44 = .ok (.invokestatic 541, 3) := by decide +kernel
theorem d6_47 : decode jdk_42_method_66_code 47 = .ok (.ifCond .eq 7, 3) := by decide +kernel
theorem d6_50 : decode jdk_42_method_66_code 50 = .ok (.iconst 1, 1) := by decide +kernel
theorem d6_51 : decode jdk_42_method_66_code 51 = .ok (.goto 4, 3) := by decide +kernel
theorem d6_54 : decode jdk_42_method_66_code 54 = .ok (.iconst 0, 1) := by decide +kernel
theorem d6_55 : decode jdk_42_method_66_code 55 = .ok (.ireturn, 1) := by decide +kernel
theorem ef_6n (m : MethodId) (x0 : Addr) : entryFrame m #[(.ref x0), .null] 3 = mkF m 0 #[.val (.ref x0), .val .null, .unset] [] := by first | (simp [entryFrame, mkF, argsToLocals, Value.category]; done) | rfl
def Q6n (Z : State) (a0 : Addr) (h0 : Heap) (n0 : Nat) (v : Option Value) (h : Heap) (L : List Loc) : Prop := v = some (.int (0 : Int32)) ∧ Fr n0 L ∧ h = h0
set_option maxHeartbeats 40000000 in
theorem rm6n (l : Launch) (Z : State) (aZ : Array Value) (hw : ∀ d ∈ tables_1, d.before aZ Z = true) (ws : List Jvm.Cond) (a0 : Addr) (h0 : Heap) (n0 : Nat) (Z0 : n0 ≤ h0.size) :
    MetFree l (⟨"java/lang/String", "equals", "(Ljava/lang/Object;)Z"⟩ : MethodName) (head1 (Jvm.Cond.code (⟨"java/lang/String", "equals", "(Ljava/lang/Object;)Z"⟩ : MethodName) jdk_42_method_66_code 3 (some .boolean) :: ws) ({ frames := 0, cells := 0, slots := 0, locals := 0 } : Room)) (fun a U => a = #[(.ref a0), .null] ∧ Z.Warmed39 U.vm ∧ U.heap = h0) (fun _ _ _ _ _ => True) (fun _ U o U' => ∃ v L, o = .returned v ∧ Q6n Z a0 h0 n0 v U'.heap L ∧ FrameEnd U o U' L ({ frames := 0, cells := 0, slots := 0, locals := 0 } : Room).cells ({ frames := 0, cells := 0, slots := 0, locals := 0 } : Room).slots) := by
  refine MetFree.of_bodySF (plainFor_of_name pn_0) hisR ?_
  intro p e s m args below meth c s₁ Bd hml0 hP hK
  obtain ⟨rfl, hZ, hh⟩ := hP
  have hx := Bd.exec
  have hby := Bd.bytes
  have hret := Bd.returns
  have hlk : meth.locks = false := BodyLoose.notSynchronized Bd
  have hml : c.maxLocals = 3 := hml0
  have hown : s.vm.findClass "java/lang/String" = some m.cls := findClass_of_methodNamed Bd.named
  have hnm := (name_of_methodNamed Bd.named Bd.method).1
  have X0 : Stand p l e ({ frames := 0, cells := 0, slots := 0, locals := 0 } : Room) s m #[(.ref a0), .null] below meth c s₁ [] 0 0 := Stand.of_body Bd
  have e0 : s₁.heap = h0 := by rw [← hh, Bd.state]; rfl
  have N0 := Fr.nil n0
  have K0 : Keep h0 h0 [] := Keep.refl _ _
  have pre0 : ∀ t, Steps p.tables e below (s₁.setTop (mkF m 0 #[.val (.ref a0), .val .null, .unset] [])) t → Steps p.tables e below (s₁.setTop (entryFrame m #[(.ref a0), .null] 3)) t := fun t k => castTop (ef_6n m a0) k
  show OFin p e below s (Q6n Z a0 h0 n0) ({ frames := 0, cells := 0, slots := 0, locals := 0 } : Room).cells ({ frames := 0, cells := 0, slots := 0, locals := 0 } : Room).slots _
  refine OFin.go pre0 ?_
  have sg101 : ∀ t, Steps p.tables e below (s₁.setTop (mkF m 2 #[.val (.ref a0), .val .null, .unset] [.null, (.ref a0)])) t → Steps p.tables e below (s₁.setTop (mkF m 0 #[.val (.ref a0), .val .null, .unset] [])) t := by
    intro t k
    show Steps p.tables e below (s₁.setTop (mkF m 0 #[.val (.ref a0), .val .null, .unset] [])) t
    refine XS.aloadN X0.here hx rfl (hb hby d6_0) rfl rfl ?_
    show Steps p.tables e below (s₁.setTop (mkF m 1 #[.val (.ref a0), .val .null, .unset] [(.ref a0)])) t
    refine XS.aloadN X0.here hx rfl (hb hby d6_1) rfl rfl ?_
    exact k
  refine OFin.go sg101 ?_
  have sg102 : ∀ t, Steps p.tables e below (s₁.setTop (mkF m 8 #[.val (.ref a0), .val .null, .unset] [.null])) t → Steps p.tables e below (s₁.setTop (mkF m 2 #[.val (.ref a0), .val .null, .unset] [.null, (.ref a0)])) t := by
    intro t k
    show Steps p.tables e below (s₁.setTop (mkF m 2 #[.val (.ref a0), .val .null, .unset] [.null, (.ref a0)])) t
    refine Jvm.RoadKit.acmp (g := (mkF m 2 #[.val (.ref a0), .val .null, .unset] [.null, (.ref a0)])) X0 hx rfl rfl rfl (pc0 := 2) (pc' := 7) (same := false) rfl (hb hby d6_2) rfl (decide_eq_false nofun) (by decide) (by decide) ?_
    show Steps p.tables e below (s₁.setTop (mkF m 7 #[.val (.ref a0), .val .null, .unset] [])) t
    refine XS.aloadN X0.here hx rfl (hb hby d6_7) rfl rfl ?_
    exact k
  refine OFin.go sg102 ?_
  have sg103 : ∀ t, Steps p.tables e below (s₁.setTop (mkF m 55 #[.val (.ref a0), .val .null, .unset] [(.int (0 : Int32))])) t → Steps p.tables e below (s₁.setTop (mkF m 8 #[.val (.ref a0), .val .null, .unset] [.null])) t := by
    intro t k
    show Steps p.tables e below (s₁.setTop (mkF m 8 #[.val (.ref a0), .val .null, .unset] [.null])) t
    refine X0.instanceofNull hx (g := (mkF m 8 #[.val (.ref a0), .val .null, .unset] [.null])) rfl rfl (hb hby d6_8) _ ?_
    show Steps p.tables e below (s₁.setTop (mkF m 11 #[.val (.ref a0), .val .null, .unset] [(.int (0 : Int32))])) t
    refine XS.ifYes X0.here hx rfl (pc0 := 11) (pc' := 54) rfl (hb hby d6_11) rfl ((if0 _ _).trans (teq (by decide : (0 : Int32) = (0 : Int32))).1) (by decide) (by decide) ?_
    show Steps p.tables e below (s₁.setTop (mkF m 54 #[.val (.ref a0), .val .null, .unset] [])) t
    refine XS.iconst X0.here hx rfl (hb hby d6_54) ?_
    exact k
  refine OFin.go sg103 ?_
  exact OFin.retN X0 hx hret (by simp) hlk (hb hby d6_55) rfl (by rw [e0]; exact ⟨rfl, N0, rfl⟩) (by decide) (by decide)
theorem d5_0 : decode prog_24_method_2_code 0 = .ok (.ldc 7, 2) := by decide +kernel
theorem d5_2 : decode prog_24_method_2_code 2 = .ok (.aload_n 0, 1) := by decide +kernel
theorem d5_3 : decode prog_24_method_2_code 3 = .ok (.invokevirtual 9, 3) := by decide +kernel
theorem d5_6 : decode prog_24_method_2_code 6 = .ok (.ifCond .ne 12, 3) := by decide +kernel
theorem d5_9 : decode prog_24_method_2_code 9 = .ok (.ldc 15, 2) := by decide +kernel
theorem d5_11 : decode prog_24_method_2_code 11 = .ok (.aload_n 0, 1) := by decide +kernel
theorem d5_12 : decode prog_24_method_2_code 12 = .ok (.invokevirtual 9, 3) := by decide +kernel
theorem d5_15 : decode prog_24_method_2_code 15 = .ok (.ifCond .eq 7, 3) := by decide +kernel
theorem d5_18 : decode prog_24_method_2_code 18 = .ok (.iconst 1, 1) := by decide +kernel
theorem d5_19 : decode prog_24_method_2_code 19 = .ok (.goto 4, 3) := by decide +kernel
theorem d5_22 : decode prog_24_method_2_code 22 = .ok (.iconst 0, 1) := by decide +kernel
theorem d5_23 : decode prog_24_method_2_code 23 = .ok (.ireturn, 1) := by decide +kernel
theorem pn_2 : plainName "com/example/avvik/avvik/io/XsdValues" = true := by first | (simp [plainName, overriddenIn]; done) | decide +kernel
theorem pd_2 : parseMethodDescriptor "(Ljava/lang/Object;)Z" = some ⟨[(.object "java/lang/Object")], some .boolean⟩ := by decide +kernel
theorem ef_5 (m : MethodId) (x0 : Addr) : entryFrame m #[(.ref x0)] 1 = mkF m 0 #[.val (.ref x0)] [] := by first | (simp [entryFrame, mkF, argsToLocals, Value.category]; done) | rfl
def Q5 (Z : State) (a0 : Addr) (cs9 : List Int32) (t9 : Addr) (k9 : ClassId) (N9 : Int32) (vs9 : List Value) (w1 : Int32) (h0 : Heap) (n0 : Nat) (v : Option Value) (h : Heap) (L : List Loc) : Prop := v = some (.int (if cs9 = ([116, 114, 117, 101] : List Int32) ∨ cs9 = ([49] : List Int32) then (1 : Int32) else (0 : Int32))) ∧ Fr n0 L ∧ Keep h0 h []
set_option maxHeartbeats 40000000 in
theorem rm5 (l : Launch) (Z : State) (aZ : Array Value) (hw : ∀ d ∈ tables_1, d.before aZ Z = true) (hEL : EW Z aZ consts_1) (ws : List Jvm.Cond) (a0 : Addr) (cs9 : List Int32) (t9 : Addr) (k9 : ClassId) (N9 : Int32) (vs9 : List Value) (w1 : Int32) (h0 : Heap) (n0 : Nat) (Z0 : n0 ≤ h0.size) (O0 : Old Z n0 h0) (E1 : Exa Z h0 a0 "java/lang/String") (F1 : Fld Z h0 a0 "java/lang/String" "value" "[B" (.ref t9)) (F2 : Fld Z h0 a0 "java/lang/String" "coder" "B" (.int (0 : Int32))) (V1 : Arv Z h0 t9 k9 .byte N9 vs9 (.int (0 : Int32))) (S1 : Sta Z Z.heap "java/lang/String" "COMPACT_STRINGS" "Z" (.int w1)) (hcd : StrChars.Road.CodA cs9 0 N9 vs9) (hbd : ∀ c ∈ cs9, ¬ c < 0 ∧ ¬ (65535 : Int32) < c) (hln : cs9.length ≤ 4000) (hcs : ¬ (w1 = (0 : Int32))) :
    MetFree l (⟨"com/example/avvik/avvik/io/XsdValues", "isTrue", "(Ljava/lang/String;)Z"⟩ : MethodName) (head1 (Jvm.Cond.code (⟨"com/example/avvik/avvik/io/XsdValues", "isTrue", "(Ljava/lang/String;)Z"⟩ : MethodName) prog_24_method_2_code 1 (some .boolean) :: ws) ({ frames := 2, cells := 4, slots := 28, locals := 28 } : Room)) (fun a U => a = #[(.ref a0)] ∧ Z.Warmed39 U.vm ∧ U.heap = h0 ∧ CHv Z consts_1 U.vm h0 ∧ ∀ x ∈ [], Safe Z consts_1 U.vm h0 x) (fun _ _ _ _ _ => True) (fun _ U o U' => ∃ v L, o = .returned v ∧ Q5 Z a0 cs9 t9 k9 N9 vs9 w1 h0 n0 v U'.heap L ∧ CHr Z consts_1 U.vm U.heap U'.vm U'.heap ∧ ReturnedEndW U o U' L ({ frames := 2, cells := 4, slots := 28, locals := 28 } : Room).cells ({ frames := 2, cells := 4, slots := 28, locals := 28 } : Room).slots) := by
  refine MetFree.of_bodySF (plainFor_of_name pn_2) hisR ?_
  intro p e s m args below meth c s₁ Bd hml0 hP hK
  obtain ⟨rfl, hZ, hh, Hc, hsf⟩ := hP
  have hx := Bd.exec
  have hby := Bd.bytes
  have hret := Bd.returns
  have hlk : meth.locks = false := BodyLoose.notSynchronized Bd
  have hml : c.maxLocals = 1 := hml0
  have hown : s.vm.findClass "com/example/avvik/avvik/io/XsdValues" = some m.cls := findClass_of_methodNamed Bd.named
  have hnm := (name_of_methodNamed Bd.named Bd.method).1
  have X0 : Stand p l e ({ frames := 2, cells := 4, slots := 28, locals := 28 } : Room) (s.setVm s.vm) m #[(.ref a0)] below meth c s₁ [] 0 0 := Stand.of_body Bd
  have hS : s.Since s.vm h0.size := State.WarmedH.since (State.WarmedH.refl s) _
  have hk : h0.size ≤ h0.size := Nat.le_refl _
  have hstr : ∀ a ∈ Bundle.stringAtoms, a.before aZ Z = true := fun d hd => hw d ((by decide +kernel : ∀ d ∈ Bundle.stringAtoms, d ∈ tables_1) d hd)
  have e0 : s₁.heap = h0 := by rw [← hh, Bd.state]; rfl
  have N0 := Fr.nil n0
  have K0 : Keep h0 h0 [] := Keep.refl _ _
  have pre0 : ∀ t, Steps p.tables e below (s₁.setTop (mkF m 0 #[.val (.ref a0)] [])) t → Steps p.tables e below (s₁.setTop (entryFrame m #[(.ref a0)] 1)) t := fun t k => castTop (ef_5 m a0) k
  have HC : CHr Z consts_1 s.vm h0 s.vm h0 := CHr.refl Hc
  suffices hfin : OFinH p e below s Z h0 (Q5 Z a0 cs9 t9 k9 N9 vs9 w1 h0 n0) ({ frames := 2, cells := 4, slots := 28, locals := 28 } : Room).cells ({ frames := 2, cells := 4, slots := 28, locals := 28 } : Room).slots (s₁.setTop (entryFrame m #[(.ref a0)] 1)) by
    obtain ⟨s₂, o, a1, a2, a3, v, L, b1, b2, b3, b4⟩ := hfin
    exact ⟨s₂, o, a1, a2, a3, v, L, b1, b2, by rw [hh]; exact b3, b4⟩
  refine OFinH.go pre0 ?_
  have heq : ∀ d ∈ StrChars.Road.wordsEq, d.before aZ Z = true := fun d hd => hw d ((by decide +kernel : ∀ d ∈ StrChars.Road.wordsEq, d ∈ tables_1) d hd)
  obtain ⟨b101, T101, h101, k101, t101, kb101, X101, e101, E101, hS, hk, hZ, hown, P101_0, P101_1, P101_2, P101_3, -, -, C101, -, D101, st101⟩ := ldcCH X0 hx hZ hown (hw _ (List.mem_of_getElem? (i := 31) rfl)) hstr e0 hS hk hEL (by simp [consts_1]) HC.1 (vs := [(.int (116 : Int32)), (.int (114 : Int32)), (.int (117 : Int32)), (.int (101 : Int32))]) (z := (4 : Int32)) ⟨by decide, by decide⟩ (by decide) (by decide) (g := (mkF m 0 #[.val (.ref a0)] [])) rfl (hb hby d5_0) (n := 16) (by decide) (by decide) (by decide) (by decide)
  refine OFinH.go st101 ?_
  have HC := HC.trans C101
  have K101 : Keep h0 h101 [] := K0.ext E101
  have sg102 : ∀ t, Steps p.tables e below (T101.setTop (mkF m 3 #[.val (.ref a0)] [(.ref a0), (.ref b101)])) t → Steps p.tables e below (T101.setTop (mkF m 2 #[.val (.ref a0)] [(.ref b101)])) t := by
    intro t k
    show Steps p.tables e below (T101.setTop (mkF m 2 #[.val (.ref a0)] [(.ref b101)])) t
    refine XS.aloadN X101.here hx rfl (hb hby d5_2) rfl rfl ?_
    exact k
  refine OFinH.go sg102 ?_
  have hlit103 : StrChars.Road.CodA ([116, 114, 117, 101] : List Int32) 0 (4 : Int32) [(.int (116 : Int32)), (.int (114 : Int32)), (.int (117 : Int32)), (.int (101 : Int32))] := Or.inl ⟨rfl, by decide, by decide, by decide⟩
  obtain ⟨cq103, kq103, q103a, q103b, q103c⟩ := isOf hZ e101 P101_0
  obtain ⟨_, _, ⟨T103, L103, k103, n103⟩, -, X103, ⟨Lc103, ⟨hv103, hL103, e103⟩, l103, y103, z103⟩, st103⟩ := X101.virtualBack hx (y := (⟨"java/lang/String", "equals", "(Ljava/lang/Object;)Z"⟩ : MethodName)) (z := (⟨"java/lang/String", "equals", "(Ljava/lang/Object;)Z"⟩ : MethodName)) hown (mvT hZ (hw _ (List.mem_of_getElem? (i := 32) rfl))) (mvT hZ (hw _ (List.mem_of_getElem? (i := 33) rfl))) (notFace_of_selects (args := #[]) (mvT hZ (hw _ (List.mem_of_getElem? (i := 35) rfl)))) (mvT hZ (hw _ (List.mem_of_getElem? (i := 35) rfl))) (mvT hZ (hw _ (List.mem_of_getElem? (i := 34) rfl))) (by decide) (StrChars.Road.eqW (W := 0) hZ heq (kI := 4) (hw _ (List.mem_of_getElem? (i := 6) rfl)) P101_0 P101_2 P101_1 P101_3 hlit103 (by decide) (by decide) (E1.ext E101) (F1.ext E101) (F2.ext E101) (V1.ext E101) hcd hbd hln (S1.ext (O0.ext E101).2) hcs (by decide) (by decide)) q103a q103c (g := (mkF m 3 #[.val (.ref a0)] [(.ref a0), (.ref b101)])) rfl (by rw [hml]; rfl) (Steps.refl _) (argsL := [(.ref a0)]) (rest := []) (lenOf pd_2 rfl) rfl (by show 2 * 0 + _ ≤ _; exact Nat.le_of_eq rfl) (hb hby d5_3) (fun _ _ => ⟨rfl, e101, (by decide : 2 + 0 ≤ _), (by decide : 20 + 0 ≤ _)⟩)
  dsimp only [Pt.U, Pt.locs, Pt.cells, Pt.slots] at X103 l103 y103 z103 st103 hv103 hL103 e103
  subst l103 y103 z103 hL103
  have N103 := Fr.app N0 (Fr.nil n0)
  rcases hv103 with ⟨rfl, hq103⟩ | ⟨rfl, hq103⟩
  · have hq103' : cs9 = ([116, 114, 117, 101] : List Int32) := hq103.symm
    refine OFinH.tr st103 ?_
    have sg104 : ∀ t, Steps p.tables e below (T103.setTop (mkF m 23 #[.val (.ref a0)] [(.int (1 : Int32))])) t → Steps p.tables e below (T103.setTop (mkF m 6 #[.val (.ref a0)] [(.int (1 : Int32))])) t := by
      intro t k
      show Steps p.tables e below (T103.setTop (mkF m 6 #[.val (.ref a0)] [(.int (1 : Int32))])) t
      refine XS.ifYes X103.here hx rfl (pc0 := 6) (pc' := 18) rfl (hb hby d5_6) rfl ((if0 _ _).trans (feq (by decide : ¬ ((1 : Int32) = (0 : Int32)))).2) (by decide) (by decide) ?_
      show Steps p.tables e below (T103.setTop (mkF m 18 #[.val (.ref a0)] [])) t
      refine XS.iconst X103.here hx rfl (hb hby d5_18) ?_
      show Steps p.tables e below (T103.setTop (mkF m 19 #[.val (.ref a0)] [(.int (1 : Int32))])) t
      refine XS.goto X103.here hx rfl (pc0 := 19) (pc' := 23) rfl (hb hby d5_19) (by decide) (by decide) ?_
      exact k
    refine OFinH.go sg104 ?_
    exact OFinH.retN X103 hS (by rw [e103]; exact hk) hZ hEL e103 HC hx hret (by simp) hlk (hb hby d5_23) rfl (by rw [e103]; exact ⟨(congrArg (fun z => some (Value.int z)) ((by first | rfl | (simp [hq103']; done) | (simp_all; done)) : (1 : Int32) = (if cs9 = ([116, 114, 117, 101] : List Int32) ∨ cs9 = ([49] : List Int32) then (1 : Int32) else (0 : Int32)))), N103, K101⟩) (by decide) (by decide)
  · have hq103' : ¬ (cs9 = ([116, 114, 117, 101] : List Int32)) := fun q => hq103 q.symm
    refine OFinH.tr st103 ?_
    have sg105 : ∀ t, Steps p.tables e below (T103.setTop (mkF m 9 #[.val (.ref a0)] [])) t → Steps p.tables e below (T103.setTop (mkF m 6 #[.val (.ref a0)] [(.int (0 : Int32))])) t := by
      intro t k
      show Steps p.tables e below (T103.setTop (mkF m 6 #[.val (.ref a0)] [(.int (0 : Int32))])) t
      refine XS.ifNo X103.here hx rfl (hb hby d5_6) rfl ((if0 _ _).trans (teq (by decide : (0 : Int32) = (0 : Int32))).2) ?_
      exact k
    refine OFinH.go sg105 ?_
    obtain ⟨b106, T106, h106, k106, t106, kb106, X106, e106, E106, hS, hk, hZ, hown, P106_0, P106_1, P106_2, P106_3, -, -, C106, -, D106, st106⟩ := ldcCH X103 hx hZ hown (hw _ (List.mem_of_getElem? (i := 43) rfl)) hstr e103 hS hk hEL (by simp [consts_1]) HC.1 (vs := [(.int (49 : Int32))]) (z := (1 : Int32)) ⟨by decide, by decide⟩ (by decide) (by decide) (g := (mkF m 9 #[.val (.ref a0)] [])) rfl (hb hby d5_9) (n := 4) (by decide) (by decide) (by decide) (by decide)
    refine OFinH.go st106 ?_
    have HC := HC.trans C106
    have K106 : Keep h0 h106 [] := K101.ext E106
    have sg107 : ∀ t, Steps p.tables e below (T106.setTop (mkF m 12 #[.val (.ref a0)] [(.ref a0), (.ref b106)])) t → Steps p.tables e below (T106.setTop (mkF m 11 #[.val (.ref a0)] [(.ref b106)])) t := by
      intro t k
      show Steps p.tables e below (T106.setTop (mkF m 11 #[.val (.ref a0)] [(.ref b106)])) t
      refine XS.aloadN X106.here hx rfl (hb hby d5_11) rfl rfl ?_
      exact k
    refine OFinH.go sg107 ?_
    have hlit108 : StrChars.Road.CodA ([49] : List Int32) 0 (1 : Int32) [(.int (49 : Int32))] := Or.inl ⟨rfl, by decide, by decide, by decide⟩
    obtain ⟨cq108, kq108, q108a, q108b, q108c⟩ := isOf hZ e106 P106_0
    obtain ⟨_, _, ⟨T108, L108, k108, n108⟩, -, X108, ⟨Lc108, ⟨hv108, hL108, e108⟩, l108, y108, z108⟩, st108⟩ := X106.virtualBack hx (y := (⟨"java/lang/String", "equals", "(Ljava/lang/Object;)Z"⟩ : MethodName)) (z := (⟨"java/lang/String", "equals", "(Ljava/lang/Object;)Z"⟩ : MethodName)) hown (mvT hZ (hw _ (List.mem_of_getElem? (i := 32) rfl))) (mvT hZ (hw _ (List.mem_of_getElem? (i := 33) rfl))) (notFace_of_selects (args := #[]) (mvT hZ (hw _ (List.mem_of_getElem? (i := 35) rfl)))) (mvT hZ (hw _ (List.mem_of_getElem? (i := 35) rfl))) (mvT hZ (hw _ (List.mem_of_getElem? (i := 34) rfl))) (by decide) (StrChars.Road.eqW (W := 0) hZ heq (kI := 4) (hw _ (List.mem_of_getElem? (i := 6) rfl)) P106_0 P106_2 P106_1 P106_3 hlit108 (by decide) (by decide) ((E1.ext E101).ext E106) ((F1.ext E101).ext E106) ((F2.ext E101).ext E106) ((V1.ext E101).ext E106) hcd hbd hln (S1.ext ((O0.ext E101).ext E106).2) hcs (by decide) (by decide)) q108a q108c (g := (mkF m 12 #[.val (.ref a0)] [(.ref a0), (.ref b106)])) rfl (by rw [hml]; rfl) (Steps.refl _) (argsL := [(.ref a0)]) (rest := []) (lenOf pd_2 rfl) rfl (by show 2 * 0 + _ ≤ _; exact Nat.le_of_eq rfl) (hb hby d5_12) (fun _ _ => ⟨rfl, e106, (by decide : 4 + 0 ≤ _), (by decide : 28 + 0 ≤ _)⟩)
    dsimp only [Pt.U, Pt.locs, Pt.cells, Pt.slots] at X108 l108 y108 z108 st108 hv108 hL108 e108
    subst l108 y108 z108 hL108
    have N108 := Fr.app N103 (Fr.nil n0)
    rcases hv108 with ⟨rfl, hq108⟩ | ⟨rfl, hq108⟩
    · have hq108' : cs9 = ([49] : List Int32) := hq108.symm
      refine OFinH.tr st108 ?_
      have sg109 : ∀ t, Steps p.tables e below (T108.setTop (mkF m 23 #[.val (.ref a0)] [(.int (1 : Int32))])) t → Steps p.tables e below (T108.setTop (mkF m 15 #[.val (.ref a0)] [(.int (1 : Int32))])) t := by
        intro t k
        show Steps p.tables e below (T108.setTop (mkF m 15 #[.val (.ref a0)] [(.int (1 : Int32))])) t
        refine XS.ifNo X108.here hx rfl (hb hby d5_15) rfl ((if0 _ _).trans (feq (by decide : ¬ ((1 : Int32) = (0 : Int32)))).1) ?_
        show Steps p.tables e below (T108.setTop (mkF m 18 #[.val (.ref a0)] [])) t
        refine XS.iconst X108.here hx rfl (hb hby d5_18) ?_
        show Steps p.tables e below (T108.setTop (mkF m 19 #[.val (.ref a0)] [(.int (1 : Int32))])) t
        refine XS.goto X108.here hx rfl (pc0 := 19) (pc' := 23) rfl (hb hby d5_19) (by decide) (by decide) ?_
        exact k
      refine OFinH.go sg109 ?_
      exact OFinH.retN X108 hS (by rw [e108]; exact hk) hZ hEL e108 HC hx hret (by simp) hlk (hb hby d5_23) rfl (by rw [e108]; exact ⟨(congrArg (fun z => some (Value.int z)) ((by first | rfl | (simp [hq103', hq108']; done) | (simp_all; done)) : (1 : Int32) = (if cs9 = ([116, 114, 117, 101] : List Int32) ∨ cs9 = ([49] : List Int32) then (1 : Int32) else (0 : Int32)))), N108, K106⟩) (by decide) (by decide)
    · have hq108' : ¬ (cs9 = ([49] : List Int32)) := fun q => hq108 q.symm
      refine OFinH.tr st108 ?_
      have sg110 : ∀ t, Steps p.tables e below (T108.setTop (mkF m 23 #[.val (.ref a0)] [(.int (0 : Int32))])) t → Steps p.tables e below (T108.setTop (mkF m 15 #[.val (.ref a0)] [(.int (0 : Int32))])) t := by
        intro t k
        show Steps p.tables e below (T108.setTop (mkF m 15 #[.val (.ref a0)] [(.int (0 : Int32))])) t
        refine XS.ifYes X108.here hx rfl (pc0 := 15) (pc' := 22) rfl (hb hby d5_15) rfl ((if0 _ _).trans (teq (by decide : (0 : Int32) = (0 : Int32))).1) (by decide) (by decide) ?_
        show Steps p.tables e below (T108.setTop (mkF m 22 #[.val (.ref a0)] [])) t
        refine XS.iconst X108.here hx rfl (hb hby d5_22) ?_
        exact k
      refine OFinH.go sg110 ?_
      exact OFinH.retN X108 hS (by rw [e108]; exact hk) hZ hEL e108 HC hx hret (by simp) hlk (hb hby d5_23) rfl (by rw [e108]; exact ⟨(congrArg (fun z => some (Value.int z)) ((by first | rfl | (simp [hq103', hq108']; done) | (simp_all; done)) : (0 : Int32) = (if cs9 = ([116, 114, 117, 101] : List Int32) ∨ cs9 = ([49] : List Int32) then (1 : Int32) else (0 : Int32)))), N108, K106⟩) (by decide) (by decide)
theorem ef_5n (m : MethodId)  : entryFrame m #[.null] 1 = mkF m 0 #[.val .null] [] := by first | (simp [entryFrame, mkF, argsToLocals, Value.category]; done) | rfl
def Q5n (Z : State)  (h0 : Heap) (n0 : Nat) (v : Option Value) (h : Heap) (L : List Loc) : Prop := v = some (.int (0 : Int32)) ∧ Fr n0 L ∧ Keep h0 h []
set_option maxHeartbeats 40000000 in
theorem rm5n (l : Launch) (Z : State) (aZ : Array Value) (hw : ∀ d ∈ tables_1, d.before aZ Z = true) (hEL : EW Z aZ consts_1) (ws : List Jvm.Cond)  (h0 : Heap) (n0 : Nat) (Z0 : n0 ≤ h0.size) :
    MetFree l (⟨"com/example/avvik/avvik/io/XsdValues", "isTrue", "(Ljava/lang/String;)Z"⟩ : MethodName) (head1 (Jvm.Cond.code (⟨"com/example/avvik/avvik/io/XsdValues", "isTrue", "(Ljava/lang/String;)Z"⟩ : MethodName) prog_24_method_2_code 1 (some .boolean) :: ws) ({ frames := 1, cells := 4, slots := 28, locals := 14 } : Room)) (fun a U => a = #[.null] ∧ Z.Warmed39 U.vm ∧ U.heap = h0 ∧ CHv Z consts_1 U.vm h0 ∧ ∀ x ∈ [], Safe Z consts_1 U.vm h0 x) (fun _ _ _ _ _ => True) (fun _ U o U' => ∃ v L, o = .returned v ∧ Q5n Z  h0 n0 v U'.heap L ∧ CHr Z consts_1 U.vm U.heap U'.vm U'.heap ∧ ReturnedEndW U o U' L ({ frames := 1, cells := 4, slots := 28, locals := 14 } : Room).cells ({ frames := 1, cells := 4, slots := 28, locals := 14 } : Room).slots) := by
  refine MetFree.of_bodySF (plainFor_of_name pn_2) hisR ?_
  intro p e s m args below meth c s₁ Bd hml0 hP hK
  obtain ⟨rfl, hZ, hh, Hc, hsf⟩ := hP
  have hx := Bd.exec
  have hby := Bd.bytes
  have hret := Bd.returns
  have hlk : meth.locks = false := BodyLoose.notSynchronized Bd
  have hml : c.maxLocals = 1 := hml0
  have hown : s.vm.findClass "com/example/avvik/avvik/io/XsdValues" = some m.cls := findClass_of_methodNamed Bd.named
  have hnm := (name_of_methodNamed Bd.named Bd.method).1
  have X0 : Stand p l e ({ frames := 1, cells := 4, slots := 28, locals := 14 } : Room) (s.setVm s.vm) m #[.null] below meth c s₁ [] 0 0 := Stand.of_body Bd
  have hS : s.Since s.vm h0.size := State.WarmedH.since (State.WarmedH.refl s) _
  have hk : h0.size ≤ h0.size := Nat.le_refl _
  have hstr : ∀ a ∈ Bundle.stringAtoms, a.before aZ Z = true := fun d hd => hw d ((by decide +kernel : ∀ d ∈ Bundle.stringAtoms, d ∈ tables_1) d hd)
  have e0 : s₁.heap = h0 := by rw [← hh, Bd.state]; rfl
  have N0 := Fr.nil n0
  have K0 : Keep h0 h0 [] := Keep.refl _ _
  have pre0 : ∀ t, Steps p.tables e below (s₁.setTop (mkF m 0 #[.val .null] [])) t → Steps p.tables e below (s₁.setTop (entryFrame m #[.null] 1)) t := fun t k => castTop (ef_5n m ) k
  have HC : CHr Z consts_1 s.vm h0 s.vm h0 := CHr.refl Hc
  suffices hfin : OFinH p e below s Z h0 (Q5n Z  h0 n0) ({ frames := 1, cells := 4, slots := 28, locals := 14 } : Room).cells ({ frames := 1, cells := 4, slots := 28, locals := 14 } : Room).slots (s₁.setTop (entryFrame m #[.null] 1)) by
    obtain ⟨s₂, o, a1, a2, a3, v, L, b1, b2, b3, b4⟩ := hfin
    exact ⟨s₂, o, a1, a2, a3, v, L, b1, b2, by rw [hh]; exact b3, b4⟩
  refine OFinH.go pre0 ?_
  obtain ⟨b101, T101, h101, k101, t101, kb101, X101, e101, E101, hS, hk, hZ, hown, P101_0, P101_1, P101_2, P101_3, -, -, C101, -, D101, st101⟩ := ldcCH X0 hx hZ hown (hw _ (List.mem_of_getElem? (i := 31) rfl)) hstr e0 hS hk hEL (by simp [consts_1]) HC.1 (vs := [(.int (116 : Int32)), (.int (114 : Int32)), (.int (117 : Int32)), (.int (101 : Int32))]) (z := (4 : Int32)) ⟨by decide, by decide⟩ (by decide) (by decide) (g := (mkF m 0 #[.val .null] [])) rfl (hb hby d5_0) (n := 16) (by decide) (by decide) (by decide) (by decide)
  refine OFinH.go st101 ?_
  have HC := HC.trans C101
  have K101 : Keep h0 h101 [] := K0.ext E101
  have sg102 : ∀ t, Steps p.tables e below (T101.setTop (mkF m 3 #[.val .null] [.null, (.ref b101)])) t → Steps p.tables e below (T101.setTop (mkF m 2 #[.val .null] [(.ref b101)])) t := by
    intro t k
    show Steps p.tables e below (T101.setTop (mkF m 2 #[.val .null] [(.ref b101)])) t
    refine XS.aloadN X101.here hx rfl (hb hby d5_2) rfl rfl ?_
    exact k
  refine OFinH.go sg102 ?_
  obtain ⟨cq103, kq103, q103a, q103b, q103c⟩ := isOf hZ e101 P101_0
  obtain ⟨_, _, ⟨T103, L103, k103, n103⟩, -, X103, ⟨Lc103, hQ103, l103, y103, z103⟩, st103⟩ := X101.virtualBack hx (y := (⟨"java/lang/String", "equals", "(Ljava/lang/Object;)Z"⟩ : MethodName)) (z := (⟨"java/lang/String", "equals", "(Ljava/lang/Object;)Z"⟩ : MethodName)) hown (mvT hZ (hw _ (List.mem_of_getElem? (i := 32) rfl))) (mvT hZ (hw _ (List.mem_of_getElem? (i := 33) rfl))) (notFace_of_selects (args := #[]) (mvT hZ (hw _ (List.mem_of_getElem? (i := 35) rfl)))) (mvT hZ (hw _ (List.mem_of_getElem? (i := 35) rfl))) (mvT hZ (hw _ (List.mem_of_getElem? (i := 34) rfl))) (by decide) (backOf (W := 0) (rm6n l Z aZ hw [] b101 h101 n0 (Nat.le_trans Z0 K101.1) ) hZ (hw _ (List.mem_of_getElem? (i := 36) rfl)) (hw _ (List.mem_of_getElem? (i := 7) rfl)) (by decide) (by decide)) q103a q103c (g := (mkF m 3 #[.val .null] [.null, (.ref b101)])) rfl (by rw [hml]; rfl) (Steps.refl _) (argsL := [.null]) (rest := []) (lenOf pd_2 rfl) rfl (by show 2 * 0 + _ ≤ _; exact Nat.le_of_eq rfl) (hb hby d5_3) (fun _ _ => ⟨rfl, e101, (by decide : 2 + 0 ≤ _), (by decide : 20 + 0 ≤ _)⟩)
  dsimp only [Pt.U, Pt.locs, Pt.cells, Pt.slots] at X103 l103 y103 z103 st103 hQ103
  subst l103 y103 z103
  obtain ⟨rfl, N103q, e103⟩ := hQ103
  have N103 := Fr.app N0 N103q
  refine OFinH.tr st103 ?_
  have sg104 : ∀ t, Steps p.tables e below (T103.setTop (mkF m 9 #[.val .null] [])) t → Steps p.tables e below (T103.setTop (mkF m 6 #[.val .null] [(.int (0 : Int32))])) t := by
    intro t k
    show Steps p.tables e below (T103.setTop (mkF m 6 #[.val .null] [(.int (0 : Int32))])) t
    refine XS.ifNo X103.here hx rfl (hb hby d5_6) rfl ((if0 _ _).trans (teq (by decide : (0 : Int32) = (0 : Int32))).2) ?_
    exact k
  refine OFinH.go sg104 ?_
  obtain ⟨b105, T105, h105, k105, t105, kb105, X105, e105, E105, hS, hk, hZ, hown, P105_0, P105_1, P105_2, P105_3, -, -, C105, -, D105, st105⟩ := ldcCH X103 hx hZ hown (hw _ (List.mem_of_getElem? (i := 43) rfl)) hstr e103 hS hk hEL (by simp [consts_1]) HC.1 (vs := [(.int (49 : Int32))]) (z := (1 : Int32)) ⟨by decide, by decide⟩ (by decide) (by decide) (g := (mkF m 9 #[.val .null] [])) rfl (hb hby d5_9) (n := 4) (by decide) (by decide) (by decide) (by decide)
  refine OFinH.go st105 ?_
  have HC := HC.trans C105
  have K105 : Keep h0 h105 [] := K101.ext E105
  have sg106 : ∀ t, Steps p.tables e below (T105.setTop (mkF m 12 #[.val .null] [.null, (.ref b105)])) t → Steps p.tables e below (T105.setTop (mkF m 11 #[.val .null] [(.ref b105)])) t := by
    intro t k
    show Steps p.tables e below (T105.setTop (mkF m 11 #[.val .null] [(.ref b105)])) t
    refine XS.aloadN X105.here hx rfl (hb hby d5_11) rfl rfl ?_
    exact k
  refine OFinH.go sg106 ?_
  obtain ⟨cq107, kq107, q107a, q107b, q107c⟩ := isOf hZ e105 P105_0
  obtain ⟨_, _, ⟨T107, L107, k107, n107⟩, -, X107, ⟨Lc107, hQ107, l107, y107, z107⟩, st107⟩ := X105.virtualBack hx (y := (⟨"java/lang/String", "equals", "(Ljava/lang/Object;)Z"⟩ : MethodName)) (z := (⟨"java/lang/String", "equals", "(Ljava/lang/Object;)Z"⟩ : MethodName)) hown (mvT hZ (hw _ (List.mem_of_getElem? (i := 32) rfl))) (mvT hZ (hw _ (List.mem_of_getElem? (i := 33) rfl))) (notFace_of_selects (args := #[]) (mvT hZ (hw _ (List.mem_of_getElem? (i := 35) rfl)))) (mvT hZ (hw _ (List.mem_of_getElem? (i := 35) rfl))) (mvT hZ (hw _ (List.mem_of_getElem? (i := 34) rfl))) (by decide) (backOf (W := 0) (rm6n l Z aZ hw [] b105 h105 n0 (Nat.le_trans Z0 K105.1) ) hZ (hw _ (List.mem_of_getElem? (i := 36) rfl)) (hw _ (List.mem_of_getElem? (i := 7) rfl)) (by decide) (by decide)) q107a q107c (g := (mkF m 12 #[.val .null] [.null, (.ref b105)])) rfl (by rw [hml]; rfl) (Steps.refl _) (argsL := [.null]) (rest := []) (lenOf pd_2 rfl) rfl (by show 2 * 0 + _ ≤ _; exact Nat.le_of_eq rfl) (hb hby d5_12) (fun _ _ => ⟨rfl, e105, (by decide : 4 + 0 ≤ _), (by decide : 28 + 0 ≤ _)⟩)
  dsimp only [Pt.U, Pt.locs, Pt.cells, Pt.slots] at X107 l107 y107 z107 st107 hQ107
  subst l107 y107 z107
  obtain ⟨rfl, N107q, e107⟩ := hQ107
  have N107 := Fr.app N103 N107q
  refine OFinH.tr st107 ?_
  have sg108 : ∀ t, Steps p.tables e below (T107.setTop (mkF m 23 #[.val .null] [(.int (0 : Int32))])) t → Steps p.tables e below (T107.setTop (mkF m 15 #[.val .null] [(.int (0 : Int32))])) t := by
    intro t k
    show Steps p.tables e below (T107.setTop (mkF m 15 #[.val .null] [(.int (0 : Int32))])) t
    refine XS.ifYes X107.here hx rfl (pc0 := 15) (pc' := 22) rfl (hb hby d5_15) rfl ((if0 _ _).trans (teq (by decide : (0 : Int32) = (0 : Int32))).1) (by decide) (by decide) ?_
    show Steps p.tables e below (T107.setTop (mkF m 22 #[.val .null] [])) t
    refine XS.iconst X107.here hx rfl (hb hby d5_22) ?_
    exact k
  refine OFinH.go sg108 ?_
  exact OFinH.retN X107 hS (by rw [e107]; exact hk) hZ hEL e107 HC hx hret (by simp) hlk (hb hby d5_23) rfl (by rw [e107]; exact ⟨rfl, N107, K105⟩) (by decide) (by decide)
theorem own_e1 (n c a b : Int32) (hn : n = c) (ha : a = (if c = (49 : Int32) then (1 : Int32) else (0 : Int32))) (hb : b = (if a = (0 : Int32) then (0 : Int32) else (1 : Int32))) : (if ([n] : List Int32) = ([116, 114, 117, 101] : List Int32) ∨ ([n] : List Int32) = ([49] : List Int32) then (1 : Int32) else (0 : Int32)) = b := by
  subst hn hb ha
  by_cases q : n = 49
  · simp [q]
  · simp [q]
theorem own_e4 (n0 n1 n2 n3 c0 c1 c2 c3 a b : Int32) (h0 : n0 = c0) (h1 : n1 = c1) (h2 : n2 = c2) (h3 : n3 = c3) (ha : a = (if c0 = (116 : Int32) then (if c1 = (114 : Int32) then (if c2 = (117 : Int32) then (if c3 = (101 : Int32) then (1 : Int32) else (0 : Int32)) else (0 : Int32)) else (0 : Int32)) else (0 : Int32)))
    (hb : b = (if a = (0 : Int32) then (0 : Int32) else (1 : Int32))) : (if ([n0, n1, n2, n3] : List Int32) = ([116, 114, 117, 101] : List Int32) ∨ ([n0, n1, n2, n3] : List Int32) = ([49] : List Int32) then (1 : Int32) else (0 : Int32)) = b := by
  subst h0 h1 h2 h3 hb ha
  by_cases q0 : n0 = 116
  · by_cases q1 : n1 = 114
    · by_cases q2 : n2 = 117
      · by_cases q3 : n3 = 101
        · simp [q0, q1, q2, q3]
        · simp [q0, q1, q2, q3]
      · simp [q0, q1, q2]
    · simp [q0, q1]
  · simp [q0]
theorem pd_3 : parseMethodDescriptor "(ICCCCC)Ljava/lang/String;" = some ⟨[.int, .char, .char, .char, .char, .char], some (.object "java/lang/String")⟩ := by decide +kernel
theorem pd_4 : parseMethodDescriptor "(Ljava/lang/String;)Z" = some ⟨[(.object "java/lang/String")], some .boolean⟩ := by decide +kernel
theorem ef_0 (m : MethodId) (x0 : Int32) (x1 : Int32) (x2 : Int32) : entryFrame m #[(.int x0), (.int x1), (.int x2)] maxLocals = mkF m 0 #[.val (.int x0), .val (.int x1), .val (.int x2), .unset, .unset, .unset, .unset, .unset, .unset, .unset, .unset, .unset, .unset] [] := by first | (simp [entryFrame, mkF, argsToLocals, Value.category, maxLocals]; done) | rfl
def Q0 (Z : State) (q0 : Int32) (q1 : Int32) (q2 : Int32) (w1 : Int32) (h0 : Heap) (n0 : Nat) (v : Option Value) (h : Heap) (L : List Loc) : Prop := v = some (.int (1 : Int32)) ∧ Fr n0 L
set_option maxHeartbeats 40000000 in
theorem rm0 (l : Launch) (Z : State) (aZ : Array Value) (hw : ∀ d ∈ tables_1, d.before aZ Z = true) (hEL : EW Z aZ consts_1) (ws : List Jvm.Cond) (q0 : Int32) (q1 : Int32) (q2 : Int32) (w1 : Int32) (h0 : Heap) (n0 : Nat) (Z0 : n0 ≤ h0.size) (O0 : Old Z n0 h0) (S1 : Sta Z Z.heap "java/lang/String" "COMPACT_STRINGS" "Z" (.int w1)) (hcs : ¬ (w1 = (0 : Int32))) :
    MetFree l x (head1 (Jvm.Cond.code x code maxLocals ret :: ws) room_1) (fun a U => a = #[(.int q0), (.int q1), (.int q2)] ∧ Z.Warmed39 U.vm ∧ U.heap = h0 ∧ CHv Z consts_1 U.vm h0 ∧ ∀ x ∈ [], Safe Z consts_1 U.vm h0 x) (fun _ _ _ _ _ => True) (fun _ U o U' => ∃ v L, o = .returned v ∧ Q0 Z q0 q1 q2 w1 h0 n0 v U'.heap L ∧ CHr Z consts_1 U.vm U.heap U'.vm U'.heap ∧ ReturnedEndW U o U' L room_1.cells room_1.slots) := by
  refine MetFree.of_bodySF (plainFor_of_name pn_1) hisR ?_
  intro p e s m args below meth c s₁ Bd hml0 hP hK
  obtain ⟨rfl, hZ, hh, Hc, hsf⟩ := hP
  have hx := Bd.exec
  have hby := Bd.bytes
  have hret := Bd.returns
  have hlk : meth.locks = false := BodyLoose.notSynchronized Bd
  have hml : c.maxLocals = 13 := hml0
  have hown : s.vm.findClass "com/example/avvik/avvik/io/XsdValuesIsTruePinLaw" = some m.cls := findClass_of_methodNamed Bd.named
  have hnm := (name_of_methodNamed Bd.named Bd.method).1
  have X0 : Stand p l e room_1 (s.setVm s.vm) m #[(.int q0), (.int q1), (.int q2)] below meth c s₁ [] 0 0 := Stand.of_body Bd
  have hS : s.Since s.vm h0.size := State.WarmedH.since (State.WarmedH.refl s) _
  have hk : h0.size ≤ h0.size := Nat.le_refl _
  have hstr : ∀ a ∈ Bundle.stringAtoms, a.before aZ Z = true := fun d hd => hw d ((by decide +kernel : ∀ d ∈ Bundle.stringAtoms, d ∈ tables_1) d hd)
  have e0 : s₁.heap = h0 := by rw [← hh, Bd.state]; rfl
  have N0 := Fr.nil n0
  have K0 : Keep h0 h0 [] := Keep.refl _ _
  have pre0 : ∀ t, Steps p.tables e below (s₁.setTop (mkF m 0 #[.val (.int q0), .val (.int q1), .val (.int q2), .unset, .unset, .unset, .unset, .unset, .unset, .unset, .unset, .unset, .unset] [])) t → Steps p.tables e below (s₁.setTop (entryFrame m #[(.int q0), (.int q1), (.int q2)] maxLocals)) t := fun t k => castTop (ef_0 m q0 q1 q2) k
  have HC : CHr Z consts_1 s.vm h0 s.vm h0 := CHr.refl Hc
  suffices hfin : OFinH p e below s Z h0 (Q0 Z q0 q1 q2 w1 h0 n0) room_1.cells room_1.slots (s₁.setTop (entryFrame m #[(.int q0), (.int q1), (.int q2)] maxLocals)) by
    obtain ⟨s₂, o, a1, a2, a3, v, L, b1, b2, b3, b4⟩ := hfin
    exact ⟨s₂, o, a1, a2, a3, v, L, b1, b2, by rw [hh]; exact b3, b4⟩
  refine OFinH.go pre0 ?_
  have sg101 : ∀ t, Steps p.tables e below (s₁.setTop (mkF m 57 #[.val (.int q0), .val (.int q1), .val (.int q2), .val (.int ((q0 &&& (2147483647 : Int32)) % (7 : Int32))), .val (.int ((q1 &&& (255 : Int32)).toUInt32.toUInt16.toUInt32.toInt32)), .val (.int ((((q1.toUInt32 >>> ((8 : Int32) &&& 31).toUInt32).toInt32) &&& (255 : Int32)).toUInt32.toUInt16.toUInt32.toInt32)), .val (.int ((((q1.toUInt32 >>> ((16 : Int32) &&& 31).toUInt32).toInt32) &&& (255 : Int32)).toUInt32.toUInt16.toUInt32.toInt32)), .val (.int ((((q1.toUInt32 >>> ((24 : Int32) &&& 31).toUInt32).toInt32) &&& (255 : Int32)).toUInt32.toUInt16.toUInt32.toInt32)), .val (.int ((q2 &&& (255 : Int32)).toUInt32.toUInt16.toUInt32.toInt32)), .unset, .unset, .unset, .unset] [])) t → Steps p.tables e below (s₁.setTop (mkF m 0 #[.val (.int q0), .val (.int q1), .val (.int q2), .unset, .unset, .unset, .unset, .unset, .unset, .unset, .unset, .unset, .unset] [])) t := by
    intro t k
    show Steps p.tables e below (s₁.setTop (mkF m 0 #[.val (.int q0), .val (.int q1), .val (.int q2), .unset, .unset, .unset, .unset, .unset, .unset, .unset, .unset, .unset, .unset] [])) t
    refine XS.iloadN X0.here hx rfl (hb hby at_0) rfl ?_
    show Steps p.tables e below (s₁.setTop (mkF m 1 #[.val (.int q0), .val (.int q1), .val (.int q2), .unset, .unset, .unset, .unset, .unset, .unset, .unset, .unset, .unset, .unset] [(.int q0)])) t
    refine X0.ldcInt hx hown (mvT hZ (hw _ (List.mem_of_getElem? (i := 0) rfl))) (g := (mkF m 1 #[.val (.int q0), .val (.int q1), .val (.int q2), .unset, .unset, .unset, .unset, .unset, .unset, .unset, .unset, .unset, .unset] [(.int q0)])) rfl (hb hby at_1) _ ?_
    show Steps p.tables e below (s₁.setTop (mkF m 3 #[.val (.int q0), .val (.int q1), .val (.int q2), .unset, .unset, .unset, .unset, .unset, .unset, .unset, .unset, .unset, .unset] [(.int (2147483647 : Int32)), (.int q0)])) t
    refine XS.iand X0.here hx rfl (hb hby at_3) rfl ?_
    show Steps p.tables e below (s₁.setTop (mkF m 4 #[.val (.int q0), .val (.int q1), .val (.int q2), .unset, .unset, .unset, .unset, .unset, .unset, .unset, .unset, .unset, .unset] [(.int (q0 &&& (2147483647 : Int32)))])) t
    refine XS.bipush X0.here hx rfl (hb hby at_4) ?_
    show Steps p.tables e below (s₁.setTop (mkF m 6 #[.val (.int q0), .val (.int q1), .val (.int q2), .unset, .unset, .unset, .unset, .unset, .unset, .unset, .unset, .unset, .unset] [(.int (7 : Int32)), (.int (q0 &&& (2147483647 : Int32)))])) t
    refine iremM X0 hx rfl (hb hby at_6) rfl (by decide) ?_
    show Steps p.tables e below (s₁.setTop (mkF m 7 #[.val (.int q0), .val (.int q1), .val (.int q2), .unset, .unset, .unset, .unset, .unset, .unset, .unset, .unset, .unset, .unset] [(.int ((q0 &&& (2147483647 : Int32)) % (7 : Int32)))])) t
    refine XS.istoreN X0.here hx rfl (hb hby at_7) rfl (l' := #[.val (.int q0), .val (.int q1), .val (.int q2), .val (.int ((q0 &&& (2147483647 : Int32)) % (7 : Int32))), .unset, .unset, .unset, .unset, .unset, .unset, .unset, .unset, .unset]) rfl ?_
    show Steps p.tables e below (s₁.setTop (mkF m 8 #[.val (.int q0), .val (.int q1), .val (.int q2), .val (.int ((q0 &&& (2147483647 : Int32)) % (7 : Int32))), .unset, .unset, .unset, .unset, .unset, .unset, .unset, .unset, .unset] [])) t
    refine XS.iloadN X0.here hx rfl (hb hby at_8) rfl ?_
    show Steps p.tables e below (s₁.setTop (mkF m 9 #[.val (.int q0), .val (.int q1), .val (.int q2), .val (.int ((q0 &&& (2147483647 : Int32)) % (7 : Int32))), .unset, .unset, .unset, .unset, .unset, .unset, .unset, .unset, .unset] [(.int q1)])) t
    refine XS.sipush X0.here hx rfl (hb hby at_9) ?_
    show Steps p.tables e below (s₁.setTop (mkF m 12 #[.val (.int q0), .val (.int q1), .val (.int q2), .val (.int ((q0 &&& (2147483647 : Int32)) % (7 : Int32))), .unset, .unset, .unset, .unset, .unset, .unset, .unset, .unset, .unset] [(.int (255 : Int32)), (.int q1)])) t
    refine XS.iand X0.here hx rfl (hb hby at_12) rfl ?_
    show Steps p.tables e below (s₁.setTop (mkF m 13 #[.val (.int q0), .val (.int q1), .val (.int q2), .val (.int ((q0 &&& (2147483647 : Int32)) % (7 : Int32))), .unset, .unset, .unset, .unset, .unset, .unset, .unset, .unset, .unset] [(.int (q1 &&& (255 : Int32)))])) t
    refine XS.i2c X0.here hx rfl (hb hby at_13) rfl ?_
    show Steps p.tables e below (s₁.setTop (mkF m 14 #[.val (.int q0), .val (.int q1), .val (.int q2), .val (.int ((q0 &&& (2147483647 : Int32)) % (7 : Int32))), .unset, .unset, .unset, .unset, .unset, .unset, .unset, .unset, .unset] [(.int ((q1 &&& (255 : Int32)).toUInt32.toUInt16.toUInt32.toInt32))])) t
    refine XS.istore X0.here hx rfl (hb hby at_14) rfl (l' := #[.val (.int q0), .val (.int q1), .val (.int q2), .val (.int ((q0 &&& (2147483647 : Int32)) % (7 : Int32))), .val (.int ((q1 &&& (255 : Int32)).toUInt32.toUInt16.toUInt32.toInt32)), .unset, .unset, .unset, .unset, .unset, .unset, .unset, .unset]) rfl ?_
    show Steps p.tables e below (s₁.setTop (mkF m 16 #[.val (.int q0), .val (.int q1), .val (.int q2), .val (.int ((q0 &&& (2147483647 : Int32)) % (7 : Int32))), .val (.int ((q1 &&& (255 : Int32)).toUInt32.toUInt16.toUInt32.toInt32)), .unset, .unset, .unset, .unset, .unset, .unset, .unset, .unset] [])) t
    refine XS.iloadN X0.here hx rfl (hb hby at_16) rfl ?_
    show Steps p.tables e below (s₁.setTop (mkF m 17 #[.val (.int q0), .val (.int q1), .val (.int q2), .val (.int ((q0 &&& (2147483647 : Int32)) % (7 : Int32))), .val (.int ((q1 &&& (255 : Int32)).toUInt32.toUInt16.toUInt32.toInt32)), .unset, .unset, .unset, .unset, .unset, .unset, .unset, .unset] [(.int q1)])) t
    refine XS.bipush X0.here hx rfl (hb hby at_17) ?_
    show Steps p.tables e below (s₁.setTop (mkF m 19 #[.val (.int q0), .val (.int q1), .val (.int q2), .val (.int ((q0 &&& (2147483647 : Int32)) % (7 : Int32))), .val (.int ((q1 &&& (255 : Int32)).toUInt32.toUInt16.toUInt32.toInt32)), .unset, .unset, .unset, .unset, .unset, .unset, .unset, .unset] [(.int (8 : Int32)), (.int q1)])) t
    refine XS.iushr X0.here hx rfl (hb hby at_19) rfl ?_
    show Steps p.tables e below (s₁.setTop (mkF m 20 #[.val (.int q0), .val (.int q1), .val (.int q2), .val (.int ((q0 &&& (2147483647 : Int32)) % (7 : Int32))), .val (.int ((q1 &&& (255 : Int32)).toUInt32.toUInt16.toUInt32.toInt32)), .unset, .unset, .unset, .unset, .unset, .unset, .unset, .unset] [(.int ((q1.toUInt32 >>> ((8 : Int32) &&& 31).toUInt32).toInt32))])) t
    refine XS.sipush X0.here hx rfl (hb hby at_20) ?_
    show Steps p.tables e below (s₁.setTop (mkF m 23 #[.val (.int q0), .val (.int q1), .val (.int q2), .val (.int ((q0 &&& (2147483647 : Int32)) % (7 : Int32))), .val (.int ((q1 &&& (255 : Int32)).toUInt32.toUInt16.toUInt32.toInt32)), .unset, .unset, .unset, .unset, .unset, .unset, .unset, .unset] [(.int (255 : Int32)), (.int ((q1.toUInt32 >>> ((8 : Int32) &&& 31).toUInt32).toInt32))])) t
    refine XS.iand X0.here hx rfl (hb hby at_23) rfl ?_
    show Steps p.tables e below (s₁.setTop (mkF m 24 #[.val (.int q0), .val (.int q1), .val (.int q2), .val (.int ((q0 &&& (2147483647 : Int32)) % (7 : Int32))), .val (.int ((q1 &&& (255 : Int32)).toUInt32.toUInt16.toUInt32.toInt32)), .unset, .unset, .unset, .unset, .unset, .unset, .unset, .unset] [(.int (((q1.toUInt32 >>> ((8 : Int32) &&& 31).toUInt32).toInt32) &&& (255 : Int32)))])) t
    refine XS.i2c X0.here hx rfl (hb hby at_24) rfl ?_
    show Steps p.tables e below (s₁.setTop (mkF m 25 #[.val (.int q0), .val (.int q1), .val (.int q2), .val (.int ((q0 &&& (2147483647 : Int32)) % (7 : Int32))), .val (.int ((q1 &&& (255 : Int32)).toUInt32.toUInt16.toUInt32.toInt32)), .unset, .unset, .unset, .unset, .unset, .unset, .unset, .unset] [(.int ((((q1.toUInt32 >>> ((8 : Int32) &&& 31).toUInt32).toInt32) &&& (255 : Int32)).toUInt32.toUInt16.toUInt32.toInt32))])) t
    refine XS.istore X0.here hx rfl (hb hby at_25) rfl (l' := #[.val (.int q0), .val (.int q1), .val (.int q2), .val (.int ((q0 &&& (2147483647 : Int32)) % (7 : Int32))), .val (.int ((q1 &&& (255 : Int32)).toUInt32.toUInt16.toUInt32.toInt32)), .val (.int ((((q1.toUInt32 >>> ((8 : Int32) &&& 31).toUInt32).toInt32) &&& (255 : Int32)).toUInt32.toUInt16.toUInt32.toInt32)), .unset, .unset, .unset, .unset, .unset, .unset, .unset]) rfl ?_
    show Steps p.tables e below (s₁.setTop (mkF m 27 #[.val (.int q0), .val (.int q1), .val (.int q2), .val (.int ((q0 &&& (2147483647 : Int32)) % (7 : Int32))), .val (.int ((q1 &&& (255 : Int32)).toUInt32.toUInt16.toUInt32.toInt32)), .val (.int ((((q1.toUInt32 >>> ((8 : Int32) &&& 31).toUInt32).toInt32) &&& (255 : Int32)).toUInt32.toUInt16.toUInt32.toInt32)), .unset, .unset, .unset, .unset, .unset, .unset, .unset] [])) t
    refine XS.iloadN X0.here hx rfl (hb hby at_27) rfl ?_
    show Steps p.tables e below (s₁.setTop (mkF m 28 #[.val (.int q0), .val (.int q1), .val (.int q2), .val (.int ((q0 &&& (2147483647 : Int32)) % (7 : Int32))), .val (.int ((q1 &&& (255 : Int32)).toUInt32.toUInt16.toUInt32.toInt32)), .val (.int ((((q1.toUInt32 >>> ((8 : Int32) &&& 31).toUInt32).toInt32) &&& (255 : Int32)).toUInt32.toUInt16.toUInt32.toInt32)), .unset, .unset, .unset, .unset, .unset, .unset, .unset] [(.int q1)])) t
    refine XS.bipush X0.here hx rfl (hb hby at_28) ?_
    show Steps p.tables e below (s₁.setTop (mkF m 30 #[.val (.int q0), .val (.int q1), .val (.int q2), .val (.int ((q0 &&& (2147483647 : Int32)) % (7 : Int32))), .val (.int ((q1 &&& (255 : Int32)).toUInt32.toUInt16.toUInt32.toInt32)), .val (.int ((((q1.toUInt32 >>> ((8 : Int32) &&& 31).toUInt32).toInt32) &&& (255 : Int32)).toUInt32.toUInt16.toUInt32.toInt32)), .unset, .unset, .unset, .unset, .unset, .unset, .unset] [(.int (16 : Int32)), (.int q1)])) t
    refine XS.iushr X0.here hx rfl (hb hby at_30) rfl ?_
    show Steps p.tables e below (s₁.setTop (mkF m 31 #[.val (.int q0), .val (.int q1), .val (.int q2), .val (.int ((q0 &&& (2147483647 : Int32)) % (7 : Int32))), .val (.int ((q1 &&& (255 : Int32)).toUInt32.toUInt16.toUInt32.toInt32)), .val (.int ((((q1.toUInt32 >>> ((8 : Int32) &&& 31).toUInt32).toInt32) &&& (255 : Int32)).toUInt32.toUInt16.toUInt32.toInt32)), .unset, .unset, .unset, .unset, .unset, .unset, .unset] [(.int ((q1.toUInt32 >>> ((16 : Int32) &&& 31).toUInt32).toInt32))])) t
    refine XS.sipush X0.here hx rfl (hb hby at_31) ?_
    show Steps p.tables e below (s₁.setTop (mkF m 34 #[.val (.int q0), .val (.int q1), .val (.int q2), .val (.int ((q0 &&& (2147483647 : Int32)) % (7 : Int32))), .val (.int ((q1 &&& (255 : Int32)).toUInt32.toUInt16.toUInt32.toInt32)), .val (.int ((((q1.toUInt32 >>> ((8 : Int32) &&& 31).toUInt32).toInt32) &&& (255 : Int32)).toUInt32.toUInt16.toUInt32.toInt32)), .unset, .unset, .unset, .unset, .unset, .unset, .unset] [(.int (255 : Int32)), (.int ((q1.toUInt32 >>> ((16 : Int32) &&& 31).toUInt32).toInt32))])) t
    refine XS.iand X0.here hx rfl (hb hby at_34) rfl ?_
    show Steps p.tables e below (s₁.setTop (mkF m 35 #[.val (.int q0), .val (.int q1), .val (.int q2), .val (.int ((q0 &&& (2147483647 : Int32)) % (7 : Int32))), .val (.int ((q1 &&& (255 : Int32)).toUInt32.toUInt16.toUInt32.toInt32)), .val (.int ((((q1.toUInt32 >>> ((8 : Int32) &&& 31).toUInt32).toInt32) &&& (255 : Int32)).toUInt32.toUInt16.toUInt32.toInt32)), .unset, .unset, .unset, .unset, .unset, .unset, .unset] [(.int (((q1.toUInt32 >>> ((16 : Int32) &&& 31).toUInt32).toInt32) &&& (255 : Int32)))])) t
    refine XS.i2c X0.here hx rfl (hb hby at_35) rfl ?_
    show Steps p.tables e below (s₁.setTop (mkF m 36 #[.val (.int q0), .val (.int q1), .val (.int q2), .val (.int ((q0 &&& (2147483647 : Int32)) % (7 : Int32))), .val (.int ((q1 &&& (255 : Int32)).toUInt32.toUInt16.toUInt32.toInt32)), .val (.int ((((q1.toUInt32 >>> ((8 : Int32) &&& 31).toUInt32).toInt32) &&& (255 : Int32)).toUInt32.toUInt16.toUInt32.toInt32)), .unset, .unset, .unset, .unset, .unset, .unset, .unset] [(.int ((((q1.toUInt32 >>> ((16 : Int32) &&& 31).toUInt32).toInt32) &&& (255 : Int32)).toUInt32.toUInt16.toUInt32.toInt32))])) t
    refine XS.istore X0.here hx rfl (hb hby at_36) rfl (l' := #[.val (.int q0), .val (.int q1), .val (.int q2), .val (.int ((q0 &&& (2147483647 : Int32)) % (7 : Int32))), .val (.int ((q1 &&& (255 : Int32)).toUInt32.toUInt16.toUInt32.toInt32)), .val (.int ((((q1.toUInt32 >>> ((8 : Int32) &&& 31).toUInt32).toInt32) &&& (255 : Int32)).toUInt32.toUInt16.toUInt32.toInt32)), .val (.int ((((q1.toUInt32 >>> ((16 : Int32) &&& 31).toUInt32).toInt32) &&& (255 : Int32)).toUInt32.toUInt16.toUInt32.toInt32)), .unset, .unset, .unset, .unset, .unset, .unset]) rfl ?_
    show Steps p.tables e below (s₁.setTop (mkF m 38 #[.val (.int q0), .val (.int q1), .val (.int q2), .val (.int ((q0 &&& (2147483647 : Int32)) % (7 : Int32))), .val (.int ((q1 &&& (255 : Int32)).toUInt32.toUInt16.toUInt32.toInt32)), .val (.int ((((q1.toUInt32 >>> ((8 : Int32) &&& 31).toUInt32).toInt32) &&& (255 : Int32)).toUInt32.toUInt16.toUInt32.toInt32)), .val (.int ((((q1.toUInt32 >>> ((16 : Int32) &&& 31).toUInt32).toInt32) &&& (255 : Int32)).toUInt32.toUInt16.toUInt32.toInt32)), .unset, .unset, .unset, .unset, .unset, .unset] [])) t
    refine XS.iloadN X0.here hx rfl (hb hby at_38) rfl ?_
    show Steps p.tables e below (s₁.setTop (mkF m 39 #[.val (.int q0), .val (.int q1), .val (.int q2), .val (.int ((q0 &&& (2147483647 : Int32)) % (7 : Int32))), .val (.int ((q1 &&& (255 : Int32)).toUInt32.toUInt16.toUInt32.toInt32)), .val (.int ((((q1.toUInt32 >>> ((8 : Int32) &&& 31).toUInt32).toInt32) &&& (255 : Int32)).toUInt32.toUInt16.toUInt32.toInt32)), .val (.int ((((q1.toUInt32 >>> ((16 : Int32) &&& 31).toUInt32).toInt32) &&& (255 : Int32)).toUInt32.toUInt16.toUInt32.toInt32)), .unset, .unset, .unset, .unset, .unset, .unset] [(.int q1)])) t
    refine XS.bipush X0.here hx rfl (hb hby at_39) ?_
    show Steps p.tables e below (s₁.setTop (mkF m 41 #[.val (.int q0), .val (.int q1), .val (.int q2), .val (.int ((q0 &&& (2147483647 : Int32)) % (7 : Int32))), .val (.int ((q1 &&& (255 : Int32)).toUInt32.toUInt16.toUInt32.toInt32)), .val (.int ((((q1.toUInt32 >>> ((8 : Int32) &&& 31).toUInt32).toInt32) &&& (255 : Int32)).toUInt32.toUInt16.toUInt32.toInt32)), .val (.int ((((q1.toUInt32 >>> ((16 : Int32) &&& 31).toUInt32).toInt32) &&& (255 : Int32)).toUInt32.toUInt16.toUInt32.toInt32)), .unset, .unset, .unset, .unset, .unset, .unset] [(.int (24 : Int32)), (.int q1)])) t
    refine XS.iushr X0.here hx rfl (hb hby at_41) rfl ?_
    show Steps p.tables e below (s₁.setTop (mkF m 42 #[.val (.int q0), .val (.int q1), .val (.int q2), .val (.int ((q0 &&& (2147483647 : Int32)) % (7 : Int32))), .val (.int ((q1 &&& (255 : Int32)).toUInt32.toUInt16.toUInt32.toInt32)), .val (.int ((((q1.toUInt32 >>> ((8 : Int32) &&& 31).toUInt32).toInt32) &&& (255 : Int32)).toUInt32.toUInt16.toUInt32.toInt32)), .val (.int ((((q1.toUInt32 >>> ((16 : Int32) &&& 31).toUInt32).toInt32) &&& (255 : Int32)).toUInt32.toUInt16.toUInt32.toInt32)), .unset, .unset, .unset, .unset, .unset, .unset] [(.int ((q1.toUInt32 >>> ((24 : Int32) &&& 31).toUInt32).toInt32))])) t
    refine XS.sipush X0.here hx rfl (hb hby at_42) ?_
    show Steps p.tables e below (s₁.setTop (mkF m 45 #[.val (.int q0), .val (.int q1), .val (.int q2), .val (.int ((q0 &&& (2147483647 : Int32)) % (7 : Int32))), .val (.int ((q1 &&& (255 : Int32)).toUInt32.toUInt16.toUInt32.toInt32)), .val (.int ((((q1.toUInt32 >>> ((8 : Int32) &&& 31).toUInt32).toInt32) &&& (255 : Int32)).toUInt32.toUInt16.toUInt32.toInt32)), .val (.int ((((q1.toUInt32 >>> ((16 : Int32) &&& 31).toUInt32).toInt32) &&& (255 : Int32)).toUInt32.toUInt16.toUInt32.toInt32)), .unset, .unset, .unset, .unset, .unset, .unset] [(.int (255 : Int32)), (.int ((q1.toUInt32 >>> ((24 : Int32) &&& 31).toUInt32).toInt32))])) t
    refine XS.iand X0.here hx rfl (hb hby at_45) rfl ?_
    show Steps p.tables e below (s₁.setTop (mkF m 46 #[.val (.int q0), .val (.int q1), .val (.int q2), .val (.int ((q0 &&& (2147483647 : Int32)) % (7 : Int32))), .val (.int ((q1 &&& (255 : Int32)).toUInt32.toUInt16.toUInt32.toInt32)), .val (.int ((((q1.toUInt32 >>> ((8 : Int32) &&& 31).toUInt32).toInt32) &&& (255 : Int32)).toUInt32.toUInt16.toUInt32.toInt32)), .val (.int ((((q1.toUInt32 >>> ((16 : Int32) &&& 31).toUInt32).toInt32) &&& (255 : Int32)).toUInt32.toUInt16.toUInt32.toInt32)), .unset, .unset, .unset, .unset, .unset, .unset] [(.int (((q1.toUInt32 >>> ((24 : Int32) &&& 31).toUInt32).toInt32) &&& (255 : Int32)))])) t
    refine XS.i2c X0.here hx rfl (hb hby at_46) rfl ?_
    show Steps p.tables e below (s₁.setTop (mkF m 47 #[.val (.int q0), .val (.int q1), .val (.int q2), .val (.int ((q0 &&& (2147483647 : Int32)) % (7 : Int32))), .val (.int ((q1 &&& (255 : Int32)).toUInt32.toUInt16.toUInt32.toInt32)), .val (.int ((((q1.toUInt32 >>> ((8 : Int32) &&& 31).toUInt32).toInt32) &&& (255 : Int32)).toUInt32.toUInt16.toUInt32.toInt32)), .val (.int ((((q1.toUInt32 >>> ((16 : Int32) &&& 31).toUInt32).toInt32) &&& (255 : Int32)).toUInt32.toUInt16.toUInt32.toInt32)), .unset, .unset, .unset, .unset, .unset, .unset] [(.int ((((q1.toUInt32 >>> ((24 : Int32) &&& 31).toUInt32).toInt32) &&& (255 : Int32)).toUInt32.toUInt16.toUInt32.toInt32))])) t
    refine XS.istore X0.here hx rfl (hb hby at_47) rfl (l' := #[.val (.int q0), .val (.int q1), .val (.int q2), .val (.int ((q0 &&& (2147483647 : Int32)) % (7 : Int32))), .val (.int ((q1 &&& (255 : Int32)).toUInt32.toUInt16.toUInt32.toInt32)), .val (.int ((((q1.toUInt32 >>> ((8 : Int32) &&& 31).toUInt32).toInt32) &&& (255 : Int32)).toUInt32.toUInt16.toUInt32.toInt32)), .val (.int ((((q1.toUInt32 >>> ((16 : Int32) &&& 31).toUInt32).toInt32) &&& (255 : Int32)).toUInt32.toUInt16.toUInt32.toInt32)), .val (.int ((((q1.toUInt32 >>> ((24 : Int32) &&& 31).toUInt32).toInt32) &&& (255 : Int32)).toUInt32.toUInt16.toUInt32.toInt32)), .unset, .unset, .unset, .unset, .unset]) rfl ?_
    show Steps p.tables e below (s₁.setTop (mkF m 49 #[.val (.int q0), .val (.int q1), .val (.int q2), .val (.int ((q0 &&& (2147483647 : Int32)) % (7 : Int32))), .val (.int ((q1 &&& (255 : Int32)).toUInt32.toUInt16.toUInt32.toInt32)), .val (.int ((((q1.toUInt32 >>> ((8 : Int32) &&& 31).toUInt32).toInt32) &&& (255 : Int32)).toUInt32.toUInt16.toUInt32.toInt32)), .val (.int ((((q1.toUInt32 >>> ((16 : Int32) &&& 31).toUInt32).toInt32) &&& (255 : Int32)).toUInt32.toUInt16.toUInt32.toInt32)), .val (.int ((((q1.toUInt32 >>> ((24 : Int32) &&& 31).toUInt32).toInt32) &&& (255 : Int32)).toUInt32.toUInt16.toUInt32.toInt32)), .unset, .unset, .unset, .unset, .unset] [])) t
    refine XS.iloadN X0.here hx rfl (hb hby at_49) rfl ?_
    show Steps p.tables e below (s₁.setTop (mkF m 50 #[.val (.int q0), .val (.int q1), .val (.int q2), .val (.int ((q0 &&& (2147483647 : Int32)) % (7 : Int32))), .val (.int ((q1 &&& (255 : Int32)).toUInt32.toUInt16.toUInt32.toInt32)), .val (.int ((((q1.toUInt32 >>> ((8 : Int32) &&& 31).toUInt32).toInt32) &&& (255 : Int32)).toUInt32.toUInt16.toUInt32.toInt32)), .val (.int ((((q1.toUInt32 >>> ((16 : Int32) &&& 31).toUInt32).toInt32) &&& (255 : Int32)).toUInt32.toUInt16.toUInt32.toInt32)), .val (.int ((((q1.toUInt32 >>> ((24 : Int32) &&& 31).toUInt32).toInt32) &&& (255 : Int32)).toUInt32.toUInt16.toUInt32.toInt32)), .unset, .unset, .unset, .unset, .unset] [(.int q2)])) t
    refine XS.sipush X0.here hx rfl (hb hby at_50) ?_
    show Steps p.tables e below (s₁.setTop (mkF m 53 #[.val (.int q0), .val (.int q1), .val (.int q2), .val (.int ((q0 &&& (2147483647 : Int32)) % (7 : Int32))), .val (.int ((q1 &&& (255 : Int32)).toUInt32.toUInt16.toUInt32.toInt32)), .val (.int ((((q1.toUInt32 >>> ((8 : Int32) &&& 31).toUInt32).toInt32) &&& (255 : Int32)).toUInt32.toUInt16.toUInt32.toInt32)), .val (.int ((((q1.toUInt32 >>> ((16 : Int32) &&& 31).toUInt32).toInt32) &&& (255 : Int32)).toUInt32.toUInt16.toUInt32.toInt32)), .val (.int ((((q1.toUInt32 >>> ((24 : Int32) &&& 31).toUInt32).toInt32) &&& (255 : Int32)).toUInt32.toUInt16.toUInt32.toInt32)), .unset, .unset, .unset, .unset, .unset] [(.int (255 : Int32)), (.int q2)])) t
    refine XS.iand X0.here hx rfl (hb hby at_53) rfl ?_
    show Steps p.tables e below (s₁.setTop (mkF m 54 #[.val (.int q0), .val (.int q1), .val (.int q2), .val (.int ((q0 &&& (2147483647 : Int32)) % (7 : Int32))), .val (.int ((q1 &&& (255 : Int32)).toUInt32.toUInt16.toUInt32.toInt32)), .val (.int ((((q1.toUInt32 >>> ((8 : Int32) &&& 31).toUInt32).toInt32) &&& (255 : Int32)).toUInt32.toUInt16.toUInt32.toInt32)), .val (.int ((((q1.toUInt32 >>> ((16 : Int32) &&& 31).toUInt32).toInt32) &&& (255 : Int32)).toUInt32.toUInt16.toUInt32.toInt32)), .val (.int ((((q1.toUInt32 >>> ((24 : Int32) &&& 31).toUInt32).toInt32) &&& (255 : Int32)).toUInt32.toUInt16.toUInt32.toInt32)), .unset, .unset, .unset, .unset, .unset] [(.int (q2 &&& (255 : Int32)))])) t
    refine XS.i2c X0.here hx rfl (hb hby at_54) rfl ?_
    show Steps p.tables e below (s₁.setTop (mkF m 55 #[.val (.int q0), .val (.int q1), .val (.int q2), .val (.int ((q0 &&& (2147483647 : Int32)) % (7 : Int32))), .val (.int ((q1 &&& (255 : Int32)).toUInt32.toUInt16.toUInt32.toInt32)), .val (.int ((((q1.toUInt32 >>> ((8 : Int32) &&& 31).toUInt32).toInt32) &&& (255 : Int32)).toUInt32.toUInt16.toUInt32.toInt32)), .val (.int ((((q1.toUInt32 >>> ((16 : Int32) &&& 31).toUInt32).toInt32) &&& (255 : Int32)).toUInt32.toUInt16.toUInt32.toInt32)), .val (.int ((((q1.toUInt32 >>> ((24 : Int32) &&& 31).toUInt32).toInt32) &&& (255 : Int32)).toUInt32.toUInt16.toUInt32.toInt32)), .unset, .unset, .unset, .unset, .unset] [(.int ((q2 &&& (255 : Int32)).toUInt32.toUInt16.toUInt32.toInt32))])) t
    refine XS.istore X0.here hx rfl (hb hby at_55) rfl (l' := #[.val (.int q0), .val (.int q1), .val (.int q2), .val (.int ((q0 &&& (2147483647 : Int32)) % (7 : Int32))), .val (.int ((q1 &&& (255 : Int32)).toUInt32.toUInt16.toUInt32.toInt32)), .val (.int ((((q1.toUInt32 >>> ((8 : Int32) &&& 31).toUInt32).toInt32) &&& (255 : Int32)).toUInt32.toUInt16.toUInt32.toInt32)), .val (.int ((((q1.toUInt32 >>> ((16 : Int32) &&& 31).toUInt32).toInt32) &&& (255 : Int32)).toUInt32.toUInt16.toUInt32.toInt32)), .val (.int ((((q1.toUInt32 >>> ((24 : Int32) &&& 31).toUInt32).toInt32) &&& (255 : Int32)).toUInt32.toUInt16.toUInt32.toInt32)), .val (.int ((q2 &&& (255 : Int32)).toUInt32.toUInt16.toUInt32.toInt32)), .unset, .unset, .unset, .unset]) rfl ?_
    exact k
  refine OFinH.go sg101 ?_
  rcases own_k7 q0 with hk7 | hk7 | hk7 | hk7 | hk7 | hk7 | hk7
  · rw [hk7]
    have sg102 : ∀ t, Steps p.tables e below (s₁.setTop (mkF m 68 #[.val (.int q0), .val (.int q1), .val (.int q2), .val (.int (0 : Int32)), .val (.int ((q1 &&& (255 : Int32)).toUInt32.toUInt16.toUInt32.toInt32)), .val (.int ((((q1.toUInt32 >>> ((8 : Int32) &&& 31).toUInt32).toInt32) &&& (255 : Int32)).toUInt32.toUInt16.toUInt32.toInt32)), .val (.int ((((q1.toUInt32 >>> ((16 : Int32) &&& 31).toUInt32).toInt32) &&& (255 : Int32)).toUInt32.toUInt16.toUInt32.toInt32)), .val (.int ((((q1.toUInt32 >>> ((24 : Int32) &&& 31).toUInt32).toInt32) &&& (255 : Int32)).toUInt32.toUInt16.toUInt32.toInt32)), .val (.int ((q2 &&& (255 : Int32)).toUInt32.toUInt16.toUInt32.toInt32)), .unset, .unset, .unset, .unset] [(.int ((q2 &&& (255 : Int32)).toUInt32.toUInt16.toUInt32.toInt32)), (.int ((((q1.toUInt32 >>> ((24 : Int32) &&& 31).toUInt32).toInt32) &&& (255 : Int32)).toUInt32.toUInt16.toUInt32.toInt32)), (.int ((((q1.toUInt32 >>> ((16 : Int32) &&& 31).toUInt32).toInt32) &&& (255 : Int32)).toUInt32.toUInt16.toUInt32.toInt32)), (.int ((((q1.toUInt32 >>> ((8 : Int32) &&& 31).toUInt32).toInt32) &&& (255 : Int32)).toUInt32.toUInt16.toUInt32.toInt32)), (.int ((q1 &&& (255 : Int32)).toUInt32.toUInt16.toUInt32.toInt32)), (.int (0 : Int32))])) t → Steps p.tables e below (s₁.setTop (mkF m 57 #[.val (.int q0), .val (.int q1), .val (.int q2), .val (.int (0 : Int32)), .val (.int ((q1 &&& (255 : Int32)).toUInt32.toUInt16.toUInt32.toInt32)), .val (.int ((((q1.toUInt32 >>> ((8 : Int32) &&& 31).toUInt32).toInt32) &&& (255 : Int32)).toUInt32.toUInt16.toUInt32.toInt32)), .val (.int ((((q1.toUInt32 >>> ((16 : Int32) &&& 31).toUInt32).toInt32) &&& (255 : Int32)).toUInt32.toUInt16.toUInt32.toInt32)), .val (.int ((((q1.toUInt32 >>> ((24 : Int32) &&& 31).toUInt32).toInt32) &&& (255 : Int32)).toUInt32.toUInt16.toUInt32.toInt32)), .val (.int ((q2 &&& (255 : Int32)).toUInt32.toUInt16.toUInt32.toInt32)), .unset, .unset, .unset, .unset] [])) t := by
      intro t k
      show Steps p.tables e below (s₁.setTop (mkF m 57 #[.val (.int q0), .val (.int q1), .val (.int q2), .val (.int (0 : Int32)), .val (.int ((q1 &&& (255 : Int32)).toUInt32.toUInt16.toUInt32.toInt32)), .val (.int ((((q1.toUInt32 >>> ((8 : Int32) &&& 31).toUInt32).toInt32) &&& (255 : Int32)).toUInt32.toUInt16.toUInt32.toInt32)), .val (.int ((((q1.toUInt32 >>> ((16 : Int32) &&& 31).toUInt32).toInt32) &&& (255 : Int32)).toUInt32.toUInt16.toUInt32.toInt32)), .val (.int ((((q1.toUInt32 >>> ((24 : Int32) &&& 31).toUInt32).toInt32) &&& (255 : Int32)).toUInt32.toUInt16.toUInt32.toInt32)), .val (.int ((q2 &&& (255 : Int32)).toUInt32.toUInt16.toUInt32.toInt32)), .unset, .unset, .unset, .unset] [])) t
      refine XS.iloadN X0.here hx rfl (hb hby at_57) rfl ?_
      show Steps p.tables e below (s₁.setTop (mkF m 58 #[.val (.int q0), .val (.int q1), .val (.int q2), .val (.int (0 : Int32)), .val (.int ((q1 &&& (255 : Int32)).toUInt32.toUInt16.toUInt32.toInt32)), .val (.int ((((q1.toUInt32 >>> ((8 : Int32) &&& 31).toUInt32).toInt32) &&& (255 : Int32)).toUInt32.toUInt16.toUInt32.toInt32)), .val (.int ((((q1.toUInt32 >>> ((16 : Int32) &&& 31).toUInt32).toInt32) &&& (255 : Int32)).toUInt32.toUInt16.toUInt32.toInt32)), .val (.int ((((q1.toUInt32 >>> ((24 : Int32) &&& 31).toUInt32).toInt32) &&& (255 : Int32)).toUInt32.toUInt16.toUInt32.toInt32)), .val (.int ((q2 &&& (255 : Int32)).toUInt32.toUInt16.toUInt32.toInt32)), .unset, .unset, .unset, .unset] [(.int (0 : Int32))])) t
      refine XS.iload X0.here hx rfl (hb hby at_58) rfl ?_
      show Steps p.tables e below (s₁.setTop (mkF m 60 #[.val (.int q0), .val (.int q1), .val (.int q2), .val (.int (0 : Int32)), .val (.int ((q1 &&& (255 : Int32)).toUInt32.toUInt16.toUInt32.toInt32)), .val (.int ((((q1.toUInt32 >>> ((8 : Int32) &&& 31).toUInt32).toInt32) &&& (255 : Int32)).toUInt32.toUInt16.toUInt32.toInt32)), .val (.int ((((q1.toUInt32 >>> ((16 : Int32) &&& 31).toUInt32).toInt32) &&& (255 : Int32)).toUInt32.toUInt16.toUInt32.toInt32)), .val (.int ((((q1.toUInt32 >>> ((24 : Int32) &&& 31).toUInt32).toInt32) &&& (255 : Int32)).toUInt32.toUInt16.toUInt32.toInt32)), .val (.int ((q2 &&& (255 : Int32)).toUInt32.toUInt16.toUInt32.toInt32)), .unset, .unset, .unset, .unset] [(.int ((q1 &&& (255 : Int32)).toUInt32.toUInt16.toUInt32.toInt32)), (.int (0 : Int32))])) t
      refine XS.iload X0.here hx rfl (hb hby at_60) rfl ?_
      show Steps p.tables e below (s₁.setTop (mkF m 62 #[.val (.int q0), .val (.int q1), .val (.int q2), .val (.int (0 : Int32)), .val (.int ((q1 &&& (255 : Int32)).toUInt32.toUInt16.toUInt32.toInt32)), .val (.int ((((q1.toUInt32 >>> ((8 : Int32) &&& 31).toUInt32).toInt32) &&& (255 : Int32)).toUInt32.toUInt16.toUInt32.toInt32)), .val (.int ((((q1.toUInt32 >>> ((16 : Int32) &&& 31).toUInt32).toInt32) &&& (255 : Int32)).toUInt32.toUInt16.toUInt32.toInt32)), .val (.int ((((q1.toUInt32 >>> ((24 : Int32) &&& 31).toUInt32).toInt32) &&& (255 : Int32)).toUInt32.toUInt16.toUInt32.toInt32)), .val (.int ((q2 &&& (255 : Int32)).toUInt32.toUInt16.toUInt32.toInt32)), .unset, .unset, .unset, .unset] [(.int ((((q1.toUInt32 >>> ((8 : Int32) &&& 31).toUInt32).toInt32) &&& (255 : Int32)).toUInt32.toUInt16.toUInt32.toInt32)), (.int ((q1 &&& (255 : Int32)).toUInt32.toUInt16.toUInt32.toInt32)), (.int (0 : Int32))])) t
      refine XS.iload X0.here hx rfl (hb hby at_62) rfl ?_
      show Steps p.tables e below (s₁.setTop (mkF m 64 #[.val (.int q0), .val (.int q1), .val (.int q2), .val (.int (0 : Int32)), .val (.int ((q1 &&& (255 : Int32)).toUInt32.toUInt16.toUInt32.toInt32)), .val (.int ((((q1.toUInt32 >>> ((8 : Int32) &&& 31).toUInt32).toInt32) &&& (255 : Int32)).toUInt32.toUInt16.toUInt32.toInt32)), .val (.int ((((q1.toUInt32 >>> ((16 : Int32) &&& 31).toUInt32).toInt32) &&& (255 : Int32)).toUInt32.toUInt16.toUInt32.toInt32)), .val (.int ((((q1.toUInt32 >>> ((24 : Int32) &&& 31).toUInt32).toInt32) &&& (255 : Int32)).toUInt32.toUInt16.toUInt32.toInt32)), .val (.int ((q2 &&& (255 : Int32)).toUInt32.toUInt16.toUInt32.toInt32)), .unset, .unset, .unset, .unset] [(.int ((((q1.toUInt32 >>> ((16 : Int32) &&& 31).toUInt32).toInt32) &&& (255 : Int32)).toUInt32.toUInt16.toUInt32.toInt32)), (.int ((((q1.toUInt32 >>> ((8 : Int32) &&& 31).toUInt32).toInt32) &&& (255 : Int32)).toUInt32.toUInt16.toUInt32.toInt32)), (.int ((q1 &&& (255 : Int32)).toUInt32.toUInt16.toUInt32.toInt32)), (.int (0 : Int32))])) t
      refine XS.iload X0.here hx rfl (hb hby at_64) rfl ?_
      show Steps p.tables e below (s₁.setTop (mkF m 66 #[.val (.int q0), .val (.int q1), .val (.int q2), .val (.int (0 : Int32)), .val (.int ((q1 &&& (255 : Int32)).toUInt32.toUInt16.toUInt32.toInt32)), .val (.int ((((q1.toUInt32 >>> ((8 : Int32) &&& 31).toUInt32).toInt32) &&& (255 : Int32)).toUInt32.toUInt16.toUInt32.toInt32)), .val (.int ((((q1.toUInt32 >>> ((16 : Int32) &&& 31).toUInt32).toInt32) &&& (255 : Int32)).toUInt32.toUInt16.toUInt32.toInt32)), .val (.int ((((q1.toUInt32 >>> ((24 : Int32) &&& 31).toUInt32).toInt32) &&& (255 : Int32)).toUInt32.toUInt16.toUInt32.toInt32)), .val (.int ((q2 &&& (255 : Int32)).toUInt32.toUInt16.toUInt32.toInt32)), .unset, .unset, .unset, .unset] [(.int ((((q1.toUInt32 >>> ((24 : Int32) &&& 31).toUInt32).toInt32) &&& (255 : Int32)).toUInt32.toUInt16.toUInt32.toInt32)), (.int ((((q1.toUInt32 >>> ((16 : Int32) &&& 31).toUInt32).toInt32) &&& (255 : Int32)).toUInt32.toUInt16.toUInt32.toInt32)), (.int ((((q1.toUInt32 >>> ((8 : Int32) &&& 31).toUInt32).toInt32) &&& (255 : Int32)).toUInt32.toUInt16.toUInt32.toInt32)), (.int ((q1 &&& (255 : Int32)).toUInt32.toUInt16.toUInt32.toInt32)), (.int (0 : Int32))])) t
      refine XS.iload X0.here hx rfl (hb hby at_66) rfl ?_
      exact k
    refine OFinH.go sg102 ?_
    obtain ⟨_, _, ⟨T103, L103, k103, n103⟩, -, X103, hSn, hgn, ⟨Lc103, hQ103, l103, y103, z103, C103⟩, st103⟩ := callSS X0 hx (y := (⟨"com/example/avvik/avvik/io/XsdValuesIsTruePinLaw", "make", "(ICCCCC)Ljava/lang/String;"⟩ : MethodName)) hown (mvT hZ (hw _ (List.mem_of_getElem? (i := 1) rfl))) (mvT hZ (hw _ (List.mem_of_getElem? (i := 2) rfl))) (mvT hZ (hw _ (List.mem_of_getElem? (i := 3) rfl))) (mvT hZ (hw _ (List.mem_of_getElem? (i := 4) rfl))) (by decide) (own_back (W := 0) (sf := []) (rm1k0 l Z aZ hw hEL [] ((q1 &&& (255 : Int32)).toUInt32.toUInt16.toUInt32.toInt32) ((((q1.toUInt32 >>> ((8 : Int32) &&& 31).toUInt32).toInt32) &&& (255 : Int32)).toUInt32.toUInt16.toUInt32.toInt32) ((((q1.toUInt32 >>> ((16 : Int32) &&& 31).toUInt32).toInt32) &&& (255 : Int32)).toUInt32.toUInt16.toUInt32.toInt32) ((((q1.toUInt32 >>> ((24 : Int32) &&& 31).toUInt32).toInt32) &&& (255 : Int32)).toUInt32.toUInt16.toUInt32.toInt32) ((q2 &&& (255 : Int32)).toUInt32.toUInt16.toUInt32.toInt32) h0 n0 (Nat.le_trans Z0 K0.1) ) hZ (hw _ (List.mem_of_getElem? (i := 4) rfl)) (hw _ (List.mem_of_getElem? (i := 3) rfl)) (by decide) (by decide) hEL HC.1 all0 all0) (g := (mkF m 68 #[.val (.int q0), .val (.int q1), .val (.int q2), .val (.int (0 : Int32)), .val (.int ((q1 &&& (255 : Int32)).toUInt32.toUInt16.toUInt32.toInt32)), .val (.int ((((q1.toUInt32 >>> ((8 : Int32) &&& 31).toUInt32).toInt32) &&& (255 : Int32)).toUInt32.toUInt16.toUInt32.toInt32)), .val (.int ((((q1.toUInt32 >>> ((16 : Int32) &&& 31).toUInt32).toInt32) &&& (255 : Int32)).toUInt32.toUInt16.toUInt32.toInt32)), .val (.int ((((q1.toUInt32 >>> ((24 : Int32) &&& 31).toUInt32).toInt32) &&& (255 : Int32)).toUInt32.toUInt16.toUInt32.toInt32)), .val (.int ((q2 &&& (255 : Int32)).toUInt32.toUInt16.toUInt32.toInt32)), .unset, .unset, .unset, .unset] [(.int ((q2 &&& (255 : Int32)).toUInt32.toUInt16.toUInt32.toInt32)), (.int ((((q1.toUInt32 >>> ((24 : Int32) &&& 31).toUInt32).toInt32) &&& (255 : Int32)).toUInt32.toUInt16.toUInt32.toInt32)), (.int ((((q1.toUInt32 >>> ((16 : Int32) &&& 31).toUInt32).toInt32) &&& (255 : Int32)).toUInt32.toUInt16.toUInt32.toInt32)), (.int ((((q1.toUInt32 >>> ((8 : Int32) &&& 31).toUInt32).toInt32) &&& (255 : Int32)).toUInt32.toUInt16.toUInt32.toInt32)), (.int ((q1 &&& (255 : Int32)).toUInt32.toUInt16.toUInt32.toInt32)), (.int (0 : Int32))])) rfl (by rw [hml]; rfl) (argsL := [(.int (0 : Int32)), (.int ((q1 &&& (255 : Int32)).toUInt32.toUInt16.toUInt32.toInt32)), (.int ((((q1.toUInt32 >>> ((8 : Int32) &&& 31).toUInt32).toInt32) &&& (255 : Int32)).toUInt32.toUInt16.toUInt32.toInt32)), (.int ((((q1.toUInt32 >>> ((16 : Int32) &&& 31).toUInt32).toInt32) &&& (255 : Int32)).toUInt32.toUInt16.toUInt32.toInt32)), (.int ((((q1.toUInt32 >>> ((24 : Int32) &&& 31).toUInt32).toInt32) &&& (255 : Int32)).toUInt32.toUInt16.toUInt32.toInt32)), (.int ((q2 &&& (255 : Int32)).toUInt32.toUInt16.toUInt32.toInt32))]) (rest := []) (lenOf pd_3 rfl) rfl (by show 2 * 0 + _ ≤ _; exact Nat.le_of_eq rfl) (hb hby at_68) (fun _ _ => ⟨rfl, e0, (by decide : 0 + 6 ≤ _), (by decide : 0 + 12 ≤ _)⟩)
    dsimp only [Pt.U, Pt.locs, Pt.cells, Pt.slots] at X103 l103 y103 z103 st103 hQ103 hSn hgn C103
    have X103 : Stand p l e room_1 (s.setVm T103.vm) m #[(.int q0), (.int q1), (.int q2)] below meth c T103 L103 k103 n103 := X103
    have HC := HC.trans C103
    have hk103 := hk
    have hS := State.Since.trans hS hSn (Nat.le_trans hk103 (by rw [← e0]; exact hgn))
    have hk := Nat.le_refl T103.heap.size
    have hown : (s.setVm T103.vm).vm.findClass "com/example/avvik/avvik/io/XsdValuesIsTruePinLaw" = some m.cls := by rw [show (s.setVm T103.vm).vm = T103.vm from rfl, hSn.1.alike.findClass]; exact hown
    have hZ : Z.Warmed39 T103.vm := State.Warmed39.trans hZ hSn.1
    subst l103 y103 z103
    obtain ⟨b9103, t9103, k9103, rfl, N103q, Kq103, P103_0, P103_1, P103_2, P103_3⟩ := hQ103
    have N103 := Fr.app N0 N103q
    refine OFinH.tr st103 ?_
    have K103 : Keep h0 T103.heap [] := K0.trans Kq103 all0
    have sg104 : ∀ t, Steps p.tables e below (T103.setTop (mkF m 157 #[.val (.int q0), .val (.int q1), .val (.int q2), .val (.int (0 : Int32)), .val (.int ((q1 &&& (255 : Int32)).toUInt32.toUInt16.toUInt32.toInt32)), .val (.int ((((q1.toUInt32 >>> ((8 : Int32) &&& 31).toUInt32).toInt32) &&& (255 : Int32)).toUInt32.toUInt16.toUInt32.toInt32)), .val (.int ((((q1.toUInt32 >>> ((16 : Int32) &&& 31).toUInt32).toInt32) &&& (255 : Int32)).toUInt32.toUInt16.toUInt32.toInt32)), .val (.int ((((q1.toUInt32 >>> ((24 : Int32) &&& 31).toUInt32).toInt32) &&& (255 : Int32)).toUInt32.toUInt16.toUInt32.toInt32)), .val (.int ((q2 &&& (255 : Int32)).toUInt32.toUInt16.toUInt32.toInt32)), .val (.ref b9103), .val (.int (0 : Int32)), .val (.int (0 : Int32)), .val (.int (0 : Int32))] [(.ref b9103)])) t → Steps p.tables e below (T103.setTop (mkF m 71 #[.val (.int q0), .val (.int q1), .val (.int q2), .val (.int (0 : Int32)), .val (.int ((q1 &&& (255 : Int32)).toUInt32.toUInt16.toUInt32.toInt32)), .val (.int ((((q1.toUInt32 >>> ((8 : Int32) &&& 31).toUInt32).toInt32) &&& (255 : Int32)).toUInt32.toUInt16.toUInt32.toInt32)), .val (.int ((((q1.toUInt32 >>> ((16 : Int32) &&& 31).toUInt32).toInt32) &&& (255 : Int32)).toUInt32.toUInt16.toUInt32.toInt32)), .val (.int ((((q1.toUInt32 >>> ((24 : Int32) &&& 31).toUInt32).toInt32) &&& (255 : Int32)).toUInt32.toUInt16.toUInt32.toInt32)), .val (.int ((q2 &&& (255 : Int32)).toUInt32.toUInt16.toUInt32.toInt32)), .unset, .unset, .unset, .unset] [(.ref b9103)])) t := by
      intro t k
      show Steps p.tables e below (T103.setTop (mkF m 71 #[.val (.int q0), .val (.int q1), .val (.int q2), .val (.int (0 : Int32)), .val (.int ((q1 &&& (255 : Int32)).toUInt32.toUInt16.toUInt32.toInt32)), .val (.int ((((q1.toUInt32 >>> ((8 : Int32) &&& 31).toUInt32).toInt32) &&& (255 : Int32)).toUInt32.toUInt16.toUInt32.toInt32)), .val (.int ((((q1.toUInt32 >>> ((16 : Int32) &&& 31).toUInt32).toInt32) &&& (255 : Int32)).toUInt32.toUInt16.toUInt32.toInt32)), .val (.int ((((q1.toUInt32 >>> ((24 : Int32) &&& 31).toUInt32).toInt32) &&& (255 : Int32)).toUInt32.toUInt16.toUInt32.toInt32)), .val (.int ((q2 &&& (255 : Int32)).toUInt32.toUInt16.toUInt32.toInt32)), .unset, .unset, .unset, .unset] [(.ref b9103)])) t
      refine XS.astore X103.here hx rfl (hb hby at_71) rfl rfl (l' := #[.val (.int q0), .val (.int q1), .val (.int q2), .val (.int (0 : Int32)), .val (.int ((q1 &&& (255 : Int32)).toUInt32.toUInt16.toUInt32.toInt32)), .val (.int ((((q1.toUInt32 >>> ((8 : Int32) &&& 31).toUInt32).toInt32) &&& (255 : Int32)).toUInt32.toUInt16.toUInt32.toInt32)), .val (.int ((((q1.toUInt32 >>> ((16 : Int32) &&& 31).toUInt32).toInt32) &&& (255 : Int32)).toUInt32.toUInt16.toUInt32.toInt32)), .val (.int ((((q1.toUInt32 >>> ((24 : Int32) &&& 31).toUInt32).toInt32) &&& (255 : Int32)).toUInt32.toUInt16.toUInt32.toInt32)), .val (.int ((q2 &&& (255 : Int32)).toUInt32.toUInt16.toUInt32.toInt32)), .val (.ref b9103), .unset, .unset, .unset]) rfl ?_
      show Steps p.tables e below (T103.setTop (mkF m 73 #[.val (.int q0), .val (.int q1), .val (.int q2), .val (.int (0 : Int32)), .val (.int ((q1 &&& (255 : Int32)).toUInt32.toUInt16.toUInt32.toInt32)), .val (.int ((((q1.toUInt32 >>> ((8 : Int32) &&& 31).toUInt32).toInt32) &&& (255 : Int32)).toUInt32.toUInt16.toUInt32.toInt32)), .val (.int ((((q1.toUInt32 >>> ((16 : Int32) &&& 31).toUInt32).toInt32) &&& (255 : Int32)).toUInt32.toUInt16.toUInt32.toInt32)), .val (.int ((((q1.toUInt32 >>> ((24 : Int32) &&& 31).toUInt32).toInt32) &&& (255 : Int32)).toUInt32.toUInt16.toUInt32.toInt32)), .val (.int ((q2 &&& (255 : Int32)).toUInt32.toUInt16.toUInt32.toInt32)), .val (.ref b9103), .unset, .unset, .unset] [])) t
      refine XS.iloadN X103.here hx rfl (hb hby at_73) rfl ?_
      show Steps p.tables e below (T103.setTop (mkF m 74 #[.val (.int q0), .val (.int q1), .val (.int q2), .val (.int (0 : Int32)), .val (.int ((q1 &&& (255 : Int32)).toUInt32.toUInt16.toUInt32.toInt32)), .val (.int ((((q1.toUInt32 >>> ((8 : Int32) &&& 31).toUInt32).toInt32) &&& (255 : Int32)).toUInt32.toUInt16.toUInt32.toInt32)), .val (.int ((((q1.toUInt32 >>> ((16 : Int32) &&& 31).toUInt32).toInt32) &&& (255 : Int32)).toUInt32.toUInt16.toUInt32.toInt32)), .val (.int ((((q1.toUInt32 >>> ((24 : Int32) &&& 31).toUInt32).toInt32) &&& (255 : Int32)).toUInt32.toUInt16.toUInt32.toInt32)), .val (.int ((q2 &&& (255 : Int32)).toUInt32.toUInt16.toUInt32.toInt32)), .val (.ref b9103), .unset, .unset, .unset] [(.int (0 : Int32))])) t
      refine XS.iconst X103.here hx rfl (hb hby at_74) ?_
      show Steps p.tables e below (T103.setTop (mkF m 75 #[.val (.int q0), .val (.int q1), .val (.int q2), .val (.int (0 : Int32)), .val (.int ((q1 &&& (255 : Int32)).toUInt32.toUInt16.toUInt32.toInt32)), .val (.int ((((q1.toUInt32 >>> ((8 : Int32) &&& 31).toUInt32).toInt32) &&& (255 : Int32)).toUInt32.toUInt16.toUInt32.toInt32)), .val (.int ((((q1.toUInt32 >>> ((16 : Int32) &&& 31).toUInt32).toInt32) &&& (255 : Int32)).toUInt32.toUInt16.toUInt32.toInt32)), .val (.int ((((q1.toUInt32 >>> ((24 : Int32) &&& 31).toUInt32).toInt32) &&& (255 : Int32)).toUInt32.toUInt16.toUInt32.toInt32)), .val (.int ((q2 &&& (255 : Int32)).toUInt32.toUInt16.toUInt32.toInt32)), .val (.ref b9103), .unset, .unset, .unset] [(.int (4 : Int32)), (.int (0 : Int32))])) t
      refine XS.icmpYes X103.here hx rfl (pc0 := 75) (pc' := 110) rfl (hb hby at_75) rfl (feq (by decide : ¬ ((0 : Int32) = (4 : Int32)))).2 (by decide) (by decide) ?_
      show Steps p.tables e below (T103.setTop (mkF m 110 #[.val (.int q0), .val (.int q1), .val (.int q2), .val (.int (0 : Int32)), .val (.int ((q1 &&& (255 : Int32)).toUInt32.toUInt16.toUInt32.toInt32)), .val (.int ((((q1.toUInt32 >>> ((8 : Int32) &&& 31).toUInt32).toInt32) &&& (255 : Int32)).toUInt32.toUInt16.toUInt32.toInt32)), .val (.int ((((q1.toUInt32 >>> ((16 : Int32) &&& 31).toUInt32).toInt32) &&& (255 : Int32)).toUInt32.toUInt16.toUInt32.toInt32)), .val (.int ((((q1.toUInt32 >>> ((24 : Int32) &&& 31).toUInt32).toInt32) &&& (255 : Int32)).toUInt32.toUInt16.toUInt32.toInt32)), .val (.int ((q2 &&& (255 : Int32)).toUInt32.toUInt16.toUInt32.toInt32)), .val (.ref b9103), .unset, .unset, .unset] [])) t
      refine XS.iconst X103.here hx rfl (hb hby at_110) ?_
      show Steps p.tables e below (T103.setTop (mkF m 111 #[.val (.int q0), .val (.int q1), .val (.int q2), .val (.int (0 : Int32)), .val (.int ((q1 &&& (255 : Int32)).toUInt32.toUInt16.toUInt32.toInt32)), .val (.int ((((q1.toUInt32 >>> ((8 : Int32) &&& 31).toUInt32).toInt32) &&& (255 : Int32)).toUInt32.toUInt16.toUInt32.toInt32)), .val (.int ((((q1.toUInt32 >>> ((16 : Int32) &&& 31).toUInt32).toInt32) &&& (255 : Int32)).toUInt32.toUInt16.toUInt32.toInt32)), .val (.int ((((q1.toUInt32 >>> ((24 : Int32) &&& 31).toUInt32).toInt32) &&& (255 : Int32)).toUInt32.toUInt16.toUInt32.toInt32)), .val (.int ((q2 &&& (255 : Int32)).toUInt32.toUInt16.toUInt32.toInt32)), .val (.ref b9103), .unset, .unset, .unset] [(.int (0 : Int32))])) t
      refine XS.istore X103.here hx rfl (hb hby at_111) rfl (l' := #[.val (.int q0), .val (.int q1), .val (.int q2), .val (.int (0 : Int32)), .val (.int ((q1 &&& (255 : Int32)).toUInt32.toUInt16.toUInt32.toInt32)), .val (.int ((((q1.toUInt32 >>> ((8 : Int32) &&& 31).toUInt32).toInt32) &&& (255 : Int32)).toUInt32.toUInt16.toUInt32.toInt32)), .val (.int ((((q1.toUInt32 >>> ((16 : Int32) &&& 31).toUInt32).toInt32) &&& (255 : Int32)).toUInt32.toUInt16.toUInt32.toInt32)), .val (.int ((((q1.toUInt32 >>> ((24 : Int32) &&& 31).toUInt32).toInt32) &&& (255 : Int32)).toUInt32.toUInt16.toUInt32.toInt32)), .val (.int ((q2 &&& (255 : Int32)).toUInt32.toUInt16.toUInt32.toInt32)), .val (.ref b9103), .val (.int (0 : Int32)), .unset, .unset]) rfl ?_
      show Steps p.tables e below (T103.setTop (mkF m 113 #[.val (.int q0), .val (.int q1), .val (.int q2), .val (.int (0 : Int32)), .val (.int ((q1 &&& (255 : Int32)).toUInt32.toUInt16.toUInt32.toInt32)), .val (.int ((((q1.toUInt32 >>> ((8 : Int32) &&& 31).toUInt32).toInt32) &&& (255 : Int32)).toUInt32.toUInt16.toUInt32.toInt32)), .val (.int ((((q1.toUInt32 >>> ((16 : Int32) &&& 31).toUInt32).toInt32) &&& (255 : Int32)).toUInt32.toUInt16.toUInt32.toInt32)), .val (.int ((((q1.toUInt32 >>> ((24 : Int32) &&& 31).toUInt32).toInt32) &&& (255 : Int32)).toUInt32.toUInt16.toUInt32.toInt32)), .val (.int ((q2 &&& (255 : Int32)).toUInt32.toUInt16.toUInt32.toInt32)), .val (.ref b9103), .val (.int (0 : Int32)), .unset, .unset] [])) t
      refine XS.iloadN X103.here hx rfl (hb hby at_113) rfl ?_
      show Steps p.tables e below (T103.setTop (mkF m 114 #[.val (.int q0), .val (.int q1), .val (.int q2), .val (.int (0 : Int32)), .val (.int ((q1 &&& (255 : Int32)).toUInt32.toUInt16.toUInt32.toInt32)), .val (.int ((((q1.toUInt32 >>> ((8 : Int32) &&& 31).toUInt32).toInt32) &&& (255 : Int32)).toUInt32.toUInt16.toUInt32.toInt32)), .val (.int ((((q1.toUInt32 >>> ((16 : Int32) &&& 31).toUInt32).toInt32) &&& (255 : Int32)).toUInt32.toUInt16.toUInt32.toInt32)), .val (.int ((((q1.toUInt32 >>> ((24 : Int32) &&& 31).toUInt32).toInt32) &&& (255 : Int32)).toUInt32.toUInt16.toUInt32.toInt32)), .val (.int ((q2 &&& (255 : Int32)).toUInt32.toUInt16.toUInt32.toInt32)), .val (.ref b9103), .val (.int (0 : Int32)), .unset, .unset] [(.int (0 : Int32))])) t
      refine XS.iconst X103.here hx rfl (hb hby at_114) ?_
      show Steps p.tables e below (T103.setTop (mkF m 115 #[.val (.int q0), .val (.int q1), .val (.int q2), .val (.int (0 : Int32)), .val (.int ((q1 &&& (255 : Int32)).toUInt32.toUInt16.toUInt32.toInt32)), .val (.int ((((q1.toUInt32 >>> ((8 : Int32) &&& 31).toUInt32).toInt32) &&& (255 : Int32)).toUInt32.toUInt16.toUInt32.toInt32)), .val (.int ((((q1.toUInt32 >>> ((16 : Int32) &&& 31).toUInt32).toInt32) &&& (255 : Int32)).toUInt32.toUInt16.toUInt32.toInt32)), .val (.int ((((q1.toUInt32 >>> ((24 : Int32) &&& 31).toUInt32).toInt32) &&& (255 : Int32)).toUInt32.toUInt16.toUInt32.toInt32)), .val (.int ((q2 &&& (255 : Int32)).toUInt32.toUInt16.toUInt32.toInt32)), .val (.ref b9103), .val (.int (0 : Int32)), .unset, .unset] [(.int (1 : Int32)), (.int (0 : Int32))])) t
      refine XS.icmpYes X103.here hx rfl (pc0 := 115) (pc' := 129) rfl (hb hby at_115) rfl (feq (by decide : ¬ ((0 : Int32) = (1 : Int32)))).2 (by decide) (by decide) ?_
      show Steps p.tables e below (T103.setTop (mkF m 129 #[.val (.int q0), .val (.int q1), .val (.int q2), .val (.int (0 : Int32)), .val (.int ((q1 &&& (255 : Int32)).toUInt32.toUInt16.toUInt32.toInt32)), .val (.int ((((q1.toUInt32 >>> ((8 : Int32) &&& 31).toUInt32).toInt32) &&& (255 : Int32)).toUInt32.toUInt16.toUInt32.toInt32)), .val (.int ((((q1.toUInt32 >>> ((16 : Int32) &&& 31).toUInt32).toInt32) &&& (255 : Int32)).toUInt32.toUInt16.toUInt32.toInt32)), .val (.int ((((q1.toUInt32 >>> ((24 : Int32) &&& 31).toUInt32).toInt32) &&& (255 : Int32)).toUInt32.toUInt16.toUInt32.toInt32)), .val (.int ((q2 &&& (255 : Int32)).toUInt32.toUInt16.toUInt32.toInt32)), .val (.ref b9103), .val (.int (0 : Int32)), .unset, .unset] [])) t
      refine XS.iconst X103.here hx rfl (hb hby at_129) ?_
      show Steps p.tables e below (T103.setTop (mkF m 130 #[.val (.int q0), .val (.int q1), .val (.int q2), .val (.int (0 : Int32)), .val (.int ((q1 &&& (255 : Int32)).toUInt32.toUInt16.toUInt32.toInt32)), .val (.int ((((q1.toUInt32 >>> ((8 : Int32) &&& 31).toUInt32).toInt32) &&& (255 : Int32)).toUInt32.toUInt16.toUInt32.toInt32)), .val (.int ((((q1.toUInt32 >>> ((16 : Int32) &&& 31).toUInt32).toInt32) &&& (255 : Int32)).toUInt32.toUInt16.toUInt32.toInt32)), .val (.int ((((q1.toUInt32 >>> ((24 : Int32) &&& 31).toUInt32).toInt32) &&& (255 : Int32)).toUInt32.toUInt16.toUInt32.toInt32)), .val (.int ((q2 &&& (255 : Int32)).toUInt32.toUInt16.toUInt32.toInt32)), .val (.ref b9103), .val (.int (0 : Int32)), .unset, .unset] [(.int (0 : Int32))])) t
      refine XS.istore X103.here hx rfl (hb hby at_130) rfl (l' := #[.val (.int q0), .val (.int q1), .val (.int q2), .val (.int (0 : Int32)), .val (.int ((q1 &&& (255 : Int32)).toUInt32.toUInt16.toUInt32.toInt32)), .val (.int ((((q1.toUInt32 >>> ((8 : Int32) &&& 31).toUInt32).toInt32) &&& (255 : Int32)).toUInt32.toUInt16.toUInt32.toInt32)), .val (.int ((((q1.toUInt32 >>> ((16 : Int32) &&& 31).toUInt32).toInt32) &&& (255 : Int32)).toUInt32.toUInt16.toUInt32.toInt32)), .val (.int ((((q1.toUInt32 >>> ((24 : Int32) &&& 31).toUInt32).toInt32) &&& (255 : Int32)).toUInt32.toUInt16.toUInt32.toInt32)), .val (.int ((q2 &&& (255 : Int32)).toUInt32.toUInt16.toUInt32.toInt32)), .val (.ref b9103), .val (.int (0 : Int32)), .val (.int (0 : Int32)), .unset]) rfl ?_
      show Steps p.tables e below (T103.setTop (mkF m 132 #[.val (.int q0), .val (.int q1), .val (.int q2), .val (.int (0 : Int32)), .val (.int ((q1 &&& (255 : Int32)).toUInt32.toUInt16.toUInt32.toInt32)), .val (.int ((((q1.toUInt32 >>> ((8 : Int32) &&& 31).toUInt32).toInt32) &&& (255 : Int32)).toUInt32.toUInt16.toUInt32.toInt32)), .val (.int ((((q1.toUInt32 >>> ((16 : Int32) &&& 31).toUInt32).toInt32) &&& (255 : Int32)).toUInt32.toUInt16.toUInt32.toInt32)), .val (.int ((((q1.toUInt32 >>> ((24 : Int32) &&& 31).toUInt32).toInt32) &&& (255 : Int32)).toUInt32.toUInt16.toUInt32.toInt32)), .val (.int ((q2 &&& (255 : Int32)).toUInt32.toUInt16.toUInt32.toInt32)), .val (.ref b9103), .val (.int (0 : Int32)), .val (.int (0 : Int32)), .unset] [])) t
      refine XS.iloadN X103.here hx rfl (hb hby at_132) rfl ?_
      show Steps p.tables e below (T103.setTop (mkF m 133 #[.val (.int q0), .val (.int q1), .val (.int q2), .val (.int (0 : Int32)), .val (.int ((q1 &&& (255 : Int32)).toUInt32.toUInt16.toUInt32.toInt32)), .val (.int ((((q1.toUInt32 >>> ((8 : Int32) &&& 31).toUInt32).toInt32) &&& (255 : Int32)).toUInt32.toUInt16.toUInt32.toInt32)), .val (.int ((((q1.toUInt32 >>> ((16 : Int32) &&& 31).toUInt32).toInt32) &&& (255 : Int32)).toUInt32.toUInt16.toUInt32.toInt32)), .val (.int ((((q1.toUInt32 >>> ((24 : Int32) &&& 31).toUInt32).toInt32) &&& (255 : Int32)).toUInt32.toUInt16.toUInt32.toInt32)), .val (.int ((q2 &&& (255 : Int32)).toUInt32.toUInt16.toUInt32.toInt32)), .val (.ref b9103), .val (.int (0 : Int32)), .val (.int (0 : Int32)), .unset] [(.int (0 : Int32))])) t
      refine XS.bipush X103.here hx rfl (hb hby at_133) ?_
      show Steps p.tables e below (T103.setTop (mkF m 135 #[.val (.int q0), .val (.int q1), .val (.int q2), .val (.int (0 : Int32)), .val (.int ((q1 &&& (255 : Int32)).toUInt32.toUInt16.toUInt32.toInt32)), .val (.int ((((q1.toUInt32 >>> ((8 : Int32) &&& 31).toUInt32).toInt32) &&& (255 : Int32)).toUInt32.toUInt16.toUInt32.toInt32)), .val (.int ((((q1.toUInt32 >>> ((16 : Int32) &&& 31).toUInt32).toInt32) &&& (255 : Int32)).toUInt32.toUInt16.toUInt32.toInt32)), .val (.int ((((q1.toUInt32 >>> ((24 : Int32) &&& 31).toUInt32).toInt32) &&& (255 : Int32)).toUInt32.toUInt16.toUInt32.toInt32)), .val (.int ((q2 &&& (255 : Int32)).toUInt32.toUInt16.toUInt32.toInt32)), .val (.ref b9103), .val (.int (0 : Int32)), .val (.int (0 : Int32)), .unset] [(.int (6 : Int32)), (.int (0 : Int32))])) t
      refine XS.icmpNo X103.here hx rfl (hb hby at_135) rfl (feq (by decide : ¬ ((0 : Int32) = (6 : Int32)))).1 ?_
      show Steps p.tables e below (T103.setTop (mkF m 138 #[.val (.int q0), .val (.int q1), .val (.int q2), .val (.int (0 : Int32)), .val (.int ((q1 &&& (255 : Int32)).toUInt32.toUInt16.toUInt32.toInt32)), .val (.int ((((q1.toUInt32 >>> ((8 : Int32) &&& 31).toUInt32).toInt32) &&& (255 : Int32)).toUInt32.toUInt16.toUInt32.toInt32)), .val (.int ((((q1.toUInt32 >>> ((16 : Int32) &&& 31).toUInt32).toInt32) &&& (255 : Int32)).toUInt32.toUInt16.toUInt32.toInt32)), .val (.int ((((q1.toUInt32 >>> ((24 : Int32) &&& 31).toUInt32).toInt32) &&& (255 : Int32)).toUInt32.toUInt16.toUInt32.toInt32)), .val (.int ((q2 &&& (255 : Int32)).toUInt32.toUInt16.toUInt32.toInt32)), .val (.ref b9103), .val (.int (0 : Int32)), .val (.int (0 : Int32)), .unset] [])) t
      refine XS.iload X103.here hx rfl (hb hby at_138) rfl ?_
      show Steps p.tables e below (T103.setTop (mkF m 140 #[.val (.int q0), .val (.int q1), .val (.int q2), .val (.int (0 : Int32)), .val (.int ((q1 &&& (255 : Int32)).toUInt32.toUInt16.toUInt32.toInt32)), .val (.int ((((q1.toUInt32 >>> ((8 : Int32) &&& 31).toUInt32).toInt32) &&& (255 : Int32)).toUInt32.toUInt16.toUInt32.toInt32)), .val (.int ((((q1.toUInt32 >>> ((16 : Int32) &&& 31).toUInt32).toInt32) &&& (255 : Int32)).toUInt32.toUInt16.toUInt32.toInt32)), .val (.int ((((q1.toUInt32 >>> ((24 : Int32) &&& 31).toUInt32).toInt32) &&& (255 : Int32)).toUInt32.toUInt16.toUInt32.toInt32)), .val (.int ((q2 &&& (255 : Int32)).toUInt32.toUInt16.toUInt32.toInt32)), .val (.ref b9103), .val (.int (0 : Int32)), .val (.int (0 : Int32)), .unset] [(.int (0 : Int32))])) t
      refine XS.ifNo X103.here hx rfl (hb hby at_140) rfl ((if0 _ _).trans (teq (by decide : (0 : Int32) = (0 : Int32))).2) ?_
      show Steps p.tables e below (T103.setTop (mkF m 143 #[.val (.int q0), .val (.int q1), .val (.int q2), .val (.int (0 : Int32)), .val (.int ((q1 &&& (255 : Int32)).toUInt32.toUInt16.toUInt32.toInt32)), .val (.int ((((q1.toUInt32 >>> ((8 : Int32) &&& 31).toUInt32).toInt32) &&& (255 : Int32)).toUInt32.toUInt16.toUInt32.toInt32)), .val (.int ((((q1.toUInt32 >>> ((16 : Int32) &&& 31).toUInt32).toInt32) &&& (255 : Int32)).toUInt32.toUInt16.toUInt32.toInt32)), .val (.int ((((q1.toUInt32 >>> ((24 : Int32) &&& 31).toUInt32).toInt32) &&& (255 : Int32)).toUInt32.toUInt16.toUInt32.toInt32)), .val (.int ((q2 &&& (255 : Int32)).toUInt32.toUInt16.toUInt32.toInt32)), .val (.ref b9103), .val (.int (0 : Int32)), .val (.int (0 : Int32)), .unset] [])) t
      refine XS.iload X103.here hx rfl (hb hby at_143) rfl ?_
      show Steps p.tables e below (T103.setTop (mkF m 145 #[.val (.int q0), .val (.int q1), .val (.int q2), .val (.int (0 : Int32)), .val (.int ((q1 &&& (255 : Int32)).toUInt32.toUInt16.toUInt32.toInt32)), .val (.int ((((q1.toUInt32 >>> ((8 : Int32) &&& 31).toUInt32).toInt32) &&& (255 : Int32)).toUInt32.toUInt16.toUInt32.toInt32)), .val (.int ((((q1.toUInt32 >>> ((16 : Int32) &&& 31).toUInt32).toInt32) &&& (255 : Int32)).toUInt32.toUInt16.toUInt32.toInt32)), .val (.int ((((q1.toUInt32 >>> ((24 : Int32) &&& 31).toUInt32).toInt32) &&& (255 : Int32)).toUInt32.toUInt16.toUInt32.toInt32)), .val (.int ((q2 &&& (255 : Int32)).toUInt32.toUInt16.toUInt32.toInt32)), .val (.ref b9103), .val (.int (0 : Int32)), .val (.int (0 : Int32)), .unset] [(.int (0 : Int32))])) t
      refine XS.ifYes X103.here hx rfl (pc0 := 145) (pc' := 152) rfl (hb hby at_145) rfl ((if0 _ _).trans (teq (by decide : (0 : Int32) = (0 : Int32))).1) (by decide) (by decide) ?_
      show Steps p.tables e below (T103.setTop (mkF m 152 #[.val (.int q0), .val (.int q1), .val (.int q2), .val (.int (0 : Int32)), .val (.int ((q1 &&& (255 : Int32)).toUInt32.toUInt16.toUInt32.toInt32)), .val (.int ((((q1.toUInt32 >>> ((8 : Int32) &&& 31).toUInt32).toInt32) &&& (255 : Int32)).toUInt32.toUInt16.toUInt32.toInt32)), .val (.int ((((q1.toUInt32 >>> ((16 : Int32) &&& 31).toUInt32).toInt32) &&& (255 : Int32)).toUInt32.toUInt16.toUInt32.toInt32)), .val (.int ((((q1.toUInt32 >>> ((24 : Int32) &&& 31).toUInt32).toInt32) &&& (255 : Int32)).toUInt32.toUInt16.toUInt32.toInt32)), .val (.int ((q2 &&& (255 : Int32)).toUInt32.toUInt16.toUInt32.toInt32)), .val (.ref b9103), .val (.int (0 : Int32)), .val (.int (0 : Int32)), .unset] [])) t
      refine XS.iconst X103.here hx rfl (hb hby at_152) ?_
      show Steps p.tables e below (T103.setTop (mkF m 153 #[.val (.int q0), .val (.int q1), .val (.int q2), .val (.int (0 : Int32)), .val (.int ((q1 &&& (255 : Int32)).toUInt32.toUInt16.toUInt32.toInt32)), .val (.int ((((q1.toUInt32 >>> ((8 : Int32) &&& 31).toUInt32).toInt32) &&& (255 : Int32)).toUInt32.toUInt16.toUInt32.toInt32)), .val (.int ((((q1.toUInt32 >>> ((16 : Int32) &&& 31).toUInt32).toInt32) &&& (255 : Int32)).toUInt32.toUInt16.toUInt32.toInt32)), .val (.int ((((q1.toUInt32 >>> ((24 : Int32) &&& 31).toUInt32).toInt32) &&& (255 : Int32)).toUInt32.toUInt16.toUInt32.toInt32)), .val (.int ((q2 &&& (255 : Int32)).toUInt32.toUInt16.toUInt32.toInt32)), .val (.ref b9103), .val (.int (0 : Int32)), .val (.int (0 : Int32)), .unset] [(.int (0 : Int32))])) t
      refine XS.istore X103.here hx rfl (hb hby at_153) rfl (l' := #[.val (.int q0), .val (.int q1), .val (.int q2), .val (.int (0 : Int32)), .val (.int ((q1 &&& (255 : Int32)).toUInt32.toUInt16.toUInt32.toInt32)), .val (.int ((((q1.toUInt32 >>> ((8 : Int32) &&& 31).toUInt32).toInt32) &&& (255 : Int32)).toUInt32.toUInt16.toUInt32.toInt32)), .val (.int ((((q1.toUInt32 >>> ((16 : Int32) &&& 31).toUInt32).toInt32) &&& (255 : Int32)).toUInt32.toUInt16.toUInt32.toInt32)), .val (.int ((((q1.toUInt32 >>> ((24 : Int32) &&& 31).toUInt32).toInt32) &&& (255 : Int32)).toUInt32.toUInt16.toUInt32.toInt32)), .val (.int ((q2 &&& (255 : Int32)).toUInt32.toUInt16.toUInt32.toInt32)), .val (.ref b9103), .val (.int (0 : Int32)), .val (.int (0 : Int32)), .val (.int (0 : Int32))]) rfl ?_
      show Steps p.tables e below (T103.setTop (mkF m 155 #[.val (.int q0), .val (.int q1), .val (.int q2), .val (.int (0 : Int32)), .val (.int ((q1 &&& (255 : Int32)).toUInt32.toUInt16.toUInt32.toInt32)), .val (.int ((((q1.toUInt32 >>> ((8 : Int32) &&& 31).toUInt32).toInt32) &&& (255 : Int32)).toUInt32.toUInt16.toUInt32.toInt32)), .val (.int ((((q1.toUInt32 >>> ((16 : Int32) &&& 31).toUInt32).toInt32) &&& (255 : Int32)).toUInt32.toUInt16.toUInt32.toInt32)), .val (.int ((((q1.toUInt32 >>> ((24 : Int32) &&& 31).toUInt32).toInt32) &&& (255 : Int32)).toUInt32.toUInt16.toUInt32.toInt32)), .val (.int ((q2 &&& (255 : Int32)).toUInt32.toUInt16.toUInt32.toInt32)), .val (.ref b9103), .val (.int (0 : Int32)), .val (.int (0 : Int32)), .val (.int (0 : Int32))] [])) t
      refine XS.aload X103.here hx rfl (hb hby at_155) rfl rfl ?_
      exact k
    refine OFinH.go sg104 ?_
    have hpc : ∀ c ∈ ([] : List Int32), ¬ c < 0 ∧ ¬ (255 : Int32) < c := own_all0
    obtain ⟨_, _, ⟨T105, L105, k105, n105⟩, -, X105, hSn, hgn, ⟨Lc105, hQ105, l105, y105, z105, C105⟩, st105⟩ := callSS X103 hx (y := (⟨"com/example/avvik/avvik/io/XsdValues", "isTrue", "(Ljava/lang/String;)Z"⟩ : MethodName)) hown (mvT hZ (hw _ (List.mem_of_getElem? (i := 27) rfl))) (mvT hZ (hw _ (List.mem_of_getElem? (i := 28) rfl))) (mvT hZ (hw _ (List.mem_of_getElem? (i := 29) rfl))) (mvT hZ (hw _ (List.mem_of_getElem? (i := 30) rfl))) (by decide) (own_back (W := 0) (sf := []) (rm5 l Z aZ hw hEL [] b9103 ([] : List Int32) t9103 k9103 (0 : Int32) [] w1 T103.heap n0 (Nat.le_trans Z0 K103.1) (O0.keep Kq103 all0) P103_0 P103_1 P103_2 P103_3 S1 (Or.inl ⟨rfl, rfl, rfl, fun c hc => nomatch hc⟩) (own_up _ hpc) (Nat.le_of_ble_eq_true rfl) hcs) hZ (hw _ (List.mem_of_getElem? (i := 30) rfl)) (hw _ (List.mem_of_getElem? (i := 29) rfl)) (by decide) (by decide) hEL HC.1 all0 all0) (g := (mkF m 157 #[.val (.int q0), .val (.int q1), .val (.int q2), .val (.int (0 : Int32)), .val (.int ((q1 &&& (255 : Int32)).toUInt32.toUInt16.toUInt32.toInt32)), .val (.int ((((q1.toUInt32 >>> ((8 : Int32) &&& 31).toUInt32).toInt32) &&& (255 : Int32)).toUInt32.toUInt16.toUInt32.toInt32)), .val (.int ((((q1.toUInt32 >>> ((16 : Int32) &&& 31).toUInt32).toInt32) &&& (255 : Int32)).toUInt32.toUInt16.toUInt32.toInt32)), .val (.int ((((q1.toUInt32 >>> ((24 : Int32) &&& 31).toUInt32).toInt32) &&& (255 : Int32)).toUInt32.toUInt16.toUInt32.toInt32)), .val (.int ((q2 &&& (255 : Int32)).toUInt32.toUInt16.toUInt32.toInt32)), .val (.ref b9103), .val (.int (0 : Int32)), .val (.int (0 : Int32)), .val (.int (0 : Int32))] [(.ref b9103)])) rfl (by rw [hml]; rfl) (argsL := [(.ref b9103)]) (rest := []) (lenOf pd_4 rfl) rfl (by show 2 * 0 + _ ≤ _; exact Nat.le_of_eq rfl) (hb hby at_157) (fun _ _ => ⟨rfl, rfl, (by decide : 6 + 4 ≤ _), (by decide : 12 + 28 ≤ _)⟩)
    dsimp only [Pt.U, Pt.locs, Pt.cells, Pt.slots] at X105 l105 y105 z105 st105 hQ105 hSn hgn C105
    have X105 : Stand p l e room_1 (s.setVm T105.vm) m #[(.int q0), (.int q1), (.int q2)] below meth c T105 L105 k105 n105 := X105
    have HC := HC.trans C105
    have hk105 := hk
    have hS := State.Since.trans hS hSn (Nat.le_trans hk105 hgn)
    have hk := Nat.le_refl T105.heap.size
    have hown : (s.setVm T105.vm).vm.findClass "com/example/avvik/avvik/io/XsdValuesIsTruePinLaw" = some m.cls := by rw [show (s.setVm T105.vm).vm = T105.vm from rfl, hSn.1.alike.findClass]; exact hown
    have hZ : Z.Warmed39 T105.vm := State.Warmed39.trans hZ hSn.1
    subst l105 y105 z105
    obtain ⟨rfl, N105q, Kq105⟩ := hQ105
    have N105 := Fr.app N103 N105q
    refine OFinH.tr st105 ?_
    have K105 : Keep h0 T105.heap [] := K103.trans Kq105 all0
    have sg107 : ∀ t, Steps p.tables e below (T105.setTop (mkF m 162 #[.val (.int q0), .val (.int q1), .val (.int q2), .val (.int (0 : Int32)), .val (.int ((q1 &&& (255 : Int32)).toUInt32.toUInt16.toUInt32.toInt32)), .val (.int ((((q1.toUInt32 >>> ((8 : Int32) &&& 31).toUInt32).toInt32) &&& (255 : Int32)).toUInt32.toUInt16.toUInt32.toInt32)), .val (.int ((((q1.toUInt32 >>> ((16 : Int32) &&& 31).toUInt32).toInt32) &&& (255 : Int32)).toUInt32.toUInt16.toUInt32.toInt32)), .val (.int ((((q1.toUInt32 >>> ((24 : Int32) &&& 31).toUInt32).toInt32) &&& (255 : Int32)).toUInt32.toUInt16.toUInt32.toInt32)), .val (.int ((q2 &&& (255 : Int32)).toUInt32.toUInt16.toUInt32.toInt32)), .val (.ref b9103), .val (.int (0 : Int32)), .val (.int (0 : Int32)), .val (.int (0 : Int32))] [(.int (0 : Int32)), (.int (if ([] : List Int32) = ([116, 114, 117, 101] : List Int32) ∨ ([] : List Int32) = ([49] : List Int32) then (1 : Int32) else (0 : Int32)))])) t → Steps p.tables e below (T105.setTop (mkF m 160 #[.val (.int q0), .val (.int q1), .val (.int q2), .val (.int (0 : Int32)), .val (.int ((q1 &&& (255 : Int32)).toUInt32.toUInt16.toUInt32.toInt32)), .val (.int ((((q1.toUInt32 >>> ((8 : Int32) &&& 31).toUInt32).toInt32) &&& (255 : Int32)).toUInt32.toUInt16.toUInt32.toInt32)), .val (.int ((((q1.toUInt32 >>> ((16 : Int32) &&& 31).toUInt32).toInt32) &&& (255 : Int32)).toUInt32.toUInt16.toUInt32.toInt32)), .val (.int ((((q1.toUInt32 >>> ((24 : Int32) &&& 31).toUInt32).toInt32) &&& (255 : Int32)).toUInt32.toUInt16.toUInt32.toInt32)), .val (.int ((q2 &&& (255 : Int32)).toUInt32.toUInt16.toUInt32.toInt32)), .val (.ref b9103), .val (.int (0 : Int32)), .val (.int (0 : Int32)), .val (.int (0 : Int32))] [(.int (if ([] : List Int32) = ([116, 114, 117, 101] : List Int32) ∨ ([] : List Int32) = ([49] : List Int32) then (1 : Int32) else (0 : Int32)))])) t := by
      intro t k
      show Steps p.tables e below (T105.setTop (mkF m 160 #[.val (.int q0), .val (.int q1), .val (.int q2), .val (.int (0 : Int32)), .val (.int ((q1 &&& (255 : Int32)).toUInt32.toUInt16.toUInt32.toInt32)), .val (.int ((((q1.toUInt32 >>> ((8 : Int32) &&& 31).toUInt32).toInt32) &&& (255 : Int32)).toUInt32.toUInt16.toUInt32.toInt32)), .val (.int ((((q1.toUInt32 >>> ((16 : Int32) &&& 31).toUInt32).toInt32) &&& (255 : Int32)).toUInt32.toUInt16.toUInt32.toInt32)), .val (.int ((((q1.toUInt32 >>> ((24 : Int32) &&& 31).toUInt32).toInt32) &&& (255 : Int32)).toUInt32.toUInt16.toUInt32.toInt32)), .val (.int ((q2 &&& (255 : Int32)).toUInt32.toUInt16.toUInt32.toInt32)), .val (.ref b9103), .val (.int (0 : Int32)), .val (.int (0 : Int32)), .val (.int (0 : Int32))] [(.int (if ([] : List Int32) = ([116, 114, 117, 101] : List Int32) ∨ ([] : List Int32) = ([49] : List Int32) then (1 : Int32) else (0 : Int32)))])) t
      refine XS.iload X105.here hx rfl (hb hby at_160) rfl ?_
      exact k
    refine OFinH.go sg107 ?_
    have c106 : (if ([] : List Int32) = ([116, 114, 117, 101] : List Int32) ∨ ([] : List Int32) = ([49] : List Int32) then (1 : Int32) else (0 : Int32)) = (0 : Int32) := (by simp)
    have sg108 : ∀ t, Steps p.tables e below (T105.setTop (mkF m 170 #[.val (.int q0), .val (.int q1), .val (.int q2), .val (.int (0 : Int32)), .val (.int ((q1 &&& (255 : Int32)).toUInt32.toUInt16.toUInt32.toInt32)), .val (.int ((((q1.toUInt32 >>> ((8 : Int32) &&& 31).toUInt32).toInt32) &&& (255 : Int32)).toUInt32.toUInt16.toUInt32.toInt32)), .val (.int ((((q1.toUInt32 >>> ((16 : Int32) &&& 31).toUInt32).toInt32) &&& (255 : Int32)).toUInt32.toUInt16.toUInt32.toInt32)), .val (.int ((((q1.toUInt32 >>> ((24 : Int32) &&& 31).toUInt32).toInt32) &&& (255 : Int32)).toUInt32.toUInt16.toUInt32.toInt32)), .val (.int ((q2 &&& (255 : Int32)).toUInt32.toUInt16.toUInt32.toInt32)), .val (.ref b9103), .val (.int (0 : Int32)), .val (.int (0 : Int32)), .val (.int (0 : Int32))] [(.int (1 : Int32))])) t → Steps p.tables e below (T105.setTop (mkF m 162 #[.val (.int q0), .val (.int q1), .val (.int q2), .val (.int (0 : Int32)), .val (.int ((q1 &&& (255 : Int32)).toUInt32.toUInt16.toUInt32.toInt32)), .val (.int ((((q1.toUInt32 >>> ((8 : Int32) &&& 31).toUInt32).toInt32) &&& (255 : Int32)).toUInt32.toUInt16.toUInt32.toInt32)), .val (.int ((((q1.toUInt32 >>> ((16 : Int32) &&& 31).toUInt32).toInt32) &&& (255 : Int32)).toUInt32.toUInt16.toUInt32.toInt32)), .val (.int ((((q1.toUInt32 >>> ((24 : Int32) &&& 31).toUInt32).toInt32) &&& (255 : Int32)).toUInt32.toUInt16.toUInt32.toInt32)), .val (.int ((q2 &&& (255 : Int32)).toUInt32.toUInt16.toUInt32.toInt32)), .val (.ref b9103), .val (.int (0 : Int32)), .val (.int (0 : Int32)), .val (.int (0 : Int32))] [(.int (0 : Int32)), (.int (if ([] : List Int32) = ([116, 114, 117, 101] : List Int32) ∨ ([] : List Int32) = ([49] : List Int32) then (1 : Int32) else (0 : Int32)))])) t := by
      intro t k
      show Steps p.tables e below (T105.setTop (mkF m 162 #[.val (.int q0), .val (.int q1), .val (.int q2), .val (.int (0 : Int32)), .val (.int ((q1 &&& (255 : Int32)).toUInt32.toUInt16.toUInt32.toInt32)), .val (.int ((((q1.toUInt32 >>> ((8 : Int32) &&& 31).toUInt32).toInt32) &&& (255 : Int32)).toUInt32.toUInt16.toUInt32.toInt32)), .val (.int ((((q1.toUInt32 >>> ((16 : Int32) &&& 31).toUInt32).toInt32) &&& (255 : Int32)).toUInt32.toUInt16.toUInt32.toInt32)), .val (.int ((((q1.toUInt32 >>> ((24 : Int32) &&& 31).toUInt32).toInt32) &&& (255 : Int32)).toUInt32.toUInt16.toUInt32.toInt32)), .val (.int ((q2 &&& (255 : Int32)).toUInt32.toUInt16.toUInt32.toInt32)), .val (.ref b9103), .val (.int (0 : Int32)), .val (.int (0 : Int32)), .val (.int (0 : Int32))] [(.int (0 : Int32)), (.int (if ([] : List Int32) = ([116, 114, 117, 101] : List Int32) ∨ ([] : List Int32) = ([49] : List Int32) then (1 : Int32) else (0 : Int32)))])) t
      refine XS.icmpNo X105.here hx rfl (hb hby at_162) rfl (teq c106).2 ?_
      show Steps p.tables e below (T105.setTop (mkF m 165 #[.val (.int q0), .val (.int q1), .val (.int q2), .val (.int (0 : Int32)), .val (.int ((q1 &&& (255 : Int32)).toUInt32.toUInt16.toUInt32.toInt32)), .val (.int ((((q1.toUInt32 >>> ((8 : Int32) &&& 31).toUInt32).toInt32) &&& (255 : Int32)).toUInt32.toUInt16.toUInt32.toInt32)), .val (.int ((((q1.toUInt32 >>> ((16 : Int32) &&& 31).toUInt32).toInt32) &&& (255 : Int32)).toUInt32.toUInt16.toUInt32.toInt32)), .val (.int ((((q1.toUInt32 >>> ((24 : Int32) &&& 31).toUInt32).toInt32) &&& (255 : Int32)).toUInt32.toUInt16.toUInt32.toInt32)), .val (.int ((q2 &&& (255 : Int32)).toUInt32.toUInt16.toUInt32.toInt32)), .val (.ref b9103), .val (.int (0 : Int32)), .val (.int (0 : Int32)), .val (.int (0 : Int32))] [])) t
      refine XS.iconst X105.here hx rfl (hb hby at_165) ?_
      show Steps p.tables e below (T105.setTop (mkF m 166 #[.val (.int q0), .val (.int q1), .val (.int q2), .val (.int (0 : Int32)), .val (.int ((q1 &&& (255 : Int32)).toUInt32.toUInt16.toUInt32.toInt32)), .val (.int ((((q1.toUInt32 >>> ((8 : Int32) &&& 31).toUInt32).toInt32) &&& (255 : Int32)).toUInt32.toUInt16.toUInt32.toInt32)), .val (.int ((((q1.toUInt32 >>> ((16 : Int32) &&& 31).toUInt32).toInt32) &&& (255 : Int32)).toUInt32.toUInt16.toUInt32.toInt32)), .val (.int ((((q1.toUInt32 >>> ((24 : Int32) &&& 31).toUInt32).toInt32) &&& (255 : Int32)).toUInt32.toUInt16.toUInt32.toInt32)), .val (.int ((q2 &&& (255 : Int32)).toUInt32.toUInt16.toUInt32.toInt32)), .val (.ref b9103), .val (.int (0 : Int32)), .val (.int (0 : Int32)), .val (.int (0 : Int32))] [(.int (1 : Int32))])) t
      refine XS.goto X105.here hx rfl (pc0 := 166) (pc' := 170) rfl (hb hby at_166) (by decide) (by decide) ?_
      exact k
    refine OFinH.go sg108 ?_
    exact OFinH.retN X105 hS hk hZ hEL rfl HC hx hret (by simp) hlk (hb hby at_170) rfl ⟨rfl, N105⟩ (by decide) (by decide)
  · rw [hk7]
    have sg109 : ∀ t, Steps p.tables e below (s₁.setTop (mkF m 68 #[.val (.int q0), .val (.int q1), .val (.int q2), .val (.int (1 : Int32)), .val (.int ((q1 &&& (255 : Int32)).toUInt32.toUInt16.toUInt32.toInt32)), .val (.int ((((q1.toUInt32 >>> ((8 : Int32) &&& 31).toUInt32).toInt32) &&& (255 : Int32)).toUInt32.toUInt16.toUInt32.toInt32)), .val (.int ((((q1.toUInt32 >>> ((16 : Int32) &&& 31).toUInt32).toInt32) &&& (255 : Int32)).toUInt32.toUInt16.toUInt32.toInt32)), .val (.int ((((q1.toUInt32 >>> ((24 : Int32) &&& 31).toUInt32).toInt32) &&& (255 : Int32)).toUInt32.toUInt16.toUInt32.toInt32)), .val (.int ((q2 &&& (255 : Int32)).toUInt32.toUInt16.toUInt32.toInt32)), .unset, .unset, .unset, .unset] [(.int ((q2 &&& (255 : Int32)).toUInt32.toUInt16.toUInt32.toInt32)), (.int ((((q1.toUInt32 >>> ((24 : Int32) &&& 31).toUInt32).toInt32) &&& (255 : Int32)).toUInt32.toUInt16.toUInt32.toInt32)), (.int ((((q1.toUInt32 >>> ((16 : Int32) &&& 31).toUInt32).toInt32) &&& (255 : Int32)).toUInt32.toUInt16.toUInt32.toInt32)), (.int ((((q1.toUInt32 >>> ((8 : Int32) &&& 31).toUInt32).toInt32) &&& (255 : Int32)).toUInt32.toUInt16.toUInt32.toInt32)), (.int ((q1 &&& (255 : Int32)).toUInt32.toUInt16.toUInt32.toInt32)), (.int (1 : Int32))])) t → Steps p.tables e below (s₁.setTop (mkF m 57 #[.val (.int q0), .val (.int q1), .val (.int q2), .val (.int (1 : Int32)), .val (.int ((q1 &&& (255 : Int32)).toUInt32.toUInt16.toUInt32.toInt32)), .val (.int ((((q1.toUInt32 >>> ((8 : Int32) &&& 31).toUInt32).toInt32) &&& (255 : Int32)).toUInt32.toUInt16.toUInt32.toInt32)), .val (.int ((((q1.toUInt32 >>> ((16 : Int32) &&& 31).toUInt32).toInt32) &&& (255 : Int32)).toUInt32.toUInt16.toUInt32.toInt32)), .val (.int ((((q1.toUInt32 >>> ((24 : Int32) &&& 31).toUInt32).toInt32) &&& (255 : Int32)).toUInt32.toUInt16.toUInt32.toInt32)), .val (.int ((q2 &&& (255 : Int32)).toUInt32.toUInt16.toUInt32.toInt32)), .unset, .unset, .unset, .unset] [])) t := by
      intro t k
      show Steps p.tables e below (s₁.setTop (mkF m 57 #[.val (.int q0), .val (.int q1), .val (.int q2), .val (.int (1 : Int32)), .val (.int ((q1 &&& (255 : Int32)).toUInt32.toUInt16.toUInt32.toInt32)), .val (.int ((((q1.toUInt32 >>> ((8 : Int32) &&& 31).toUInt32).toInt32) &&& (255 : Int32)).toUInt32.toUInt16.toUInt32.toInt32)), .val (.int ((((q1.toUInt32 >>> ((16 : Int32) &&& 31).toUInt32).toInt32) &&& (255 : Int32)).toUInt32.toUInt16.toUInt32.toInt32)), .val (.int ((((q1.toUInt32 >>> ((24 : Int32) &&& 31).toUInt32).toInt32) &&& (255 : Int32)).toUInt32.toUInt16.toUInt32.toInt32)), .val (.int ((q2 &&& (255 : Int32)).toUInt32.toUInt16.toUInt32.toInt32)), .unset, .unset, .unset, .unset] [])) t
      refine XS.iloadN X0.here hx rfl (hb hby at_57) rfl ?_
      show Steps p.tables e below (s₁.setTop (mkF m 58 #[.val (.int q0), .val (.int q1), .val (.int q2), .val (.int (1 : Int32)), .val (.int ((q1 &&& (255 : Int32)).toUInt32.toUInt16.toUInt32.toInt32)), .val (.int ((((q1.toUInt32 >>> ((8 : Int32) &&& 31).toUInt32).toInt32) &&& (255 : Int32)).toUInt32.toUInt16.toUInt32.toInt32)), .val (.int ((((q1.toUInt32 >>> ((16 : Int32) &&& 31).toUInt32).toInt32) &&& (255 : Int32)).toUInt32.toUInt16.toUInt32.toInt32)), .val (.int ((((q1.toUInt32 >>> ((24 : Int32) &&& 31).toUInt32).toInt32) &&& (255 : Int32)).toUInt32.toUInt16.toUInt32.toInt32)), .val (.int ((q2 &&& (255 : Int32)).toUInt32.toUInt16.toUInt32.toInt32)), .unset, .unset, .unset, .unset] [(.int (1 : Int32))])) t
      refine XS.iload X0.here hx rfl (hb hby at_58) rfl ?_
      show Steps p.tables e below (s₁.setTop (mkF m 60 #[.val (.int q0), .val (.int q1), .val (.int q2), .val (.int (1 : Int32)), .val (.int ((q1 &&& (255 : Int32)).toUInt32.toUInt16.toUInt32.toInt32)), .val (.int ((((q1.toUInt32 >>> ((8 : Int32) &&& 31).toUInt32).toInt32) &&& (255 : Int32)).toUInt32.toUInt16.toUInt32.toInt32)), .val (.int ((((q1.toUInt32 >>> ((16 : Int32) &&& 31).toUInt32).toInt32) &&& (255 : Int32)).toUInt32.toUInt16.toUInt32.toInt32)), .val (.int ((((q1.toUInt32 >>> ((24 : Int32) &&& 31).toUInt32).toInt32) &&& (255 : Int32)).toUInt32.toUInt16.toUInt32.toInt32)), .val (.int ((q2 &&& (255 : Int32)).toUInt32.toUInt16.toUInt32.toInt32)), .unset, .unset, .unset, .unset] [(.int ((q1 &&& (255 : Int32)).toUInt32.toUInt16.toUInt32.toInt32)), (.int (1 : Int32))])) t
      refine XS.iload X0.here hx rfl (hb hby at_60) rfl ?_
      show Steps p.tables e below (s₁.setTop (mkF m 62 #[.val (.int q0), .val (.int q1), .val (.int q2), .val (.int (1 : Int32)), .val (.int ((q1 &&& (255 : Int32)).toUInt32.toUInt16.toUInt32.toInt32)), .val (.int ((((q1.toUInt32 >>> ((8 : Int32) &&& 31).toUInt32).toInt32) &&& (255 : Int32)).toUInt32.toUInt16.toUInt32.toInt32)), .val (.int ((((q1.toUInt32 >>> ((16 : Int32) &&& 31).toUInt32).toInt32) &&& (255 : Int32)).toUInt32.toUInt16.toUInt32.toInt32)), .val (.int ((((q1.toUInt32 >>> ((24 : Int32) &&& 31).toUInt32).toInt32) &&& (255 : Int32)).toUInt32.toUInt16.toUInt32.toInt32)), .val (.int ((q2 &&& (255 : Int32)).toUInt32.toUInt16.toUInt32.toInt32)), .unset, .unset, .unset, .unset] [(.int ((((q1.toUInt32 >>> ((8 : Int32) &&& 31).toUInt32).toInt32) &&& (255 : Int32)).toUInt32.toUInt16.toUInt32.toInt32)), (.int ((q1 &&& (255 : Int32)).toUInt32.toUInt16.toUInt32.toInt32)), (.int (1 : Int32))])) t
      refine XS.iload X0.here hx rfl (hb hby at_62) rfl ?_
      show Steps p.tables e below (s₁.setTop (mkF m 64 #[.val (.int q0), .val (.int q1), .val (.int q2), .val (.int (1 : Int32)), .val (.int ((q1 &&& (255 : Int32)).toUInt32.toUInt16.toUInt32.toInt32)), .val (.int ((((q1.toUInt32 >>> ((8 : Int32) &&& 31).toUInt32).toInt32) &&& (255 : Int32)).toUInt32.toUInt16.toUInt32.toInt32)), .val (.int ((((q1.toUInt32 >>> ((16 : Int32) &&& 31).toUInt32).toInt32) &&& (255 : Int32)).toUInt32.toUInt16.toUInt32.toInt32)), .val (.int ((((q1.toUInt32 >>> ((24 : Int32) &&& 31).toUInt32).toInt32) &&& (255 : Int32)).toUInt32.toUInt16.toUInt32.toInt32)), .val (.int ((q2 &&& (255 : Int32)).toUInt32.toUInt16.toUInt32.toInt32)), .unset, .unset, .unset, .unset] [(.int ((((q1.toUInt32 >>> ((16 : Int32) &&& 31).toUInt32).toInt32) &&& (255 : Int32)).toUInt32.toUInt16.toUInt32.toInt32)), (.int ((((q1.toUInt32 >>> ((8 : Int32) &&& 31).toUInt32).toInt32) &&& (255 : Int32)).toUInt32.toUInt16.toUInt32.toInt32)), (.int ((q1 &&& (255 : Int32)).toUInt32.toUInt16.toUInt32.toInt32)), (.int (1 : Int32))])) t
      refine XS.iload X0.here hx rfl (hb hby at_64) rfl ?_
      show Steps p.tables e below (s₁.setTop (mkF m 66 #[.val (.int q0), .val (.int q1), .val (.int q2), .val (.int (1 : Int32)), .val (.int ((q1 &&& (255 : Int32)).toUInt32.toUInt16.toUInt32.toInt32)), .val (.int ((((q1.toUInt32 >>> ((8 : Int32) &&& 31).toUInt32).toInt32) &&& (255 : Int32)).toUInt32.toUInt16.toUInt32.toInt32)), .val (.int ((((q1.toUInt32 >>> ((16 : Int32) &&& 31).toUInt32).toInt32) &&& (255 : Int32)).toUInt32.toUInt16.toUInt32.toInt32)), .val (.int ((((q1.toUInt32 >>> ((24 : Int32) &&& 31).toUInt32).toInt32) &&& (255 : Int32)).toUInt32.toUInt16.toUInt32.toInt32)), .val (.int ((q2 &&& (255 : Int32)).toUInt32.toUInt16.toUInt32.toInt32)), .unset, .unset, .unset, .unset] [(.int ((((q1.toUInt32 >>> ((24 : Int32) &&& 31).toUInt32).toInt32) &&& (255 : Int32)).toUInt32.toUInt16.toUInt32.toInt32)), (.int ((((q1.toUInt32 >>> ((16 : Int32) &&& 31).toUInt32).toInt32) &&& (255 : Int32)).toUInt32.toUInt16.toUInt32.toInt32)), (.int ((((q1.toUInt32 >>> ((8 : Int32) &&& 31).toUInt32).toInt32) &&& (255 : Int32)).toUInt32.toUInt16.toUInt32.toInt32)), (.int ((q1 &&& (255 : Int32)).toUInt32.toUInt16.toUInt32.toInt32)), (.int (1 : Int32))])) t
      refine XS.iload X0.here hx rfl (hb hby at_66) rfl ?_
      exact k
    refine OFinH.go sg109 ?_
    obtain ⟨_, _, ⟨T110, L110, k110, n110⟩, -, X110, hSn, hgn, ⟨Lc110, hQ110, l110, y110, z110, C110⟩, st110⟩ := callSS X0 hx (y := (⟨"com/example/avvik/avvik/io/XsdValuesIsTruePinLaw", "make", "(ICCCCC)Ljava/lang/String;"⟩ : MethodName)) hown (mvT hZ (hw _ (List.mem_of_getElem? (i := 1) rfl))) (mvT hZ (hw _ (List.mem_of_getElem? (i := 2) rfl))) (mvT hZ (hw _ (List.mem_of_getElem? (i := 3) rfl))) (mvT hZ (hw _ (List.mem_of_getElem? (i := 4) rfl))) (by decide) (own_back (W := 0) (sf := []) (rm1k1 l Z aZ hw hEL [] ((q1 &&& (255 : Int32)).toUInt32.toUInt16.toUInt32.toInt32) ((((q1.toUInt32 >>> ((8 : Int32) &&& 31).toUInt32).toInt32) &&& (255 : Int32)).toUInt32.toUInt16.toUInt32.toInt32) ((((q1.toUInt32 >>> ((16 : Int32) &&& 31).toUInt32).toInt32) &&& (255 : Int32)).toUInt32.toUInt16.toUInt32.toInt32) ((((q1.toUInt32 >>> ((24 : Int32) &&& 31).toUInt32).toInt32) &&& (255 : Int32)).toUInt32.toUInt16.toUInt32.toInt32) ((q2 &&& (255 : Int32)).toUInt32.toUInt16.toUInt32.toInt32) w1 h0 n0 (Nat.le_trans Z0 K0.1) O0 S1 hcs (own_ch _)) hZ (hw _ (List.mem_of_getElem? (i := 4) rfl)) (hw _ (List.mem_of_getElem? (i := 3) rfl)) (by decide) (by decide) hEL HC.1 all0 all0) (g := (mkF m 68 #[.val (.int q0), .val (.int q1), .val (.int q2), .val (.int (1 : Int32)), .val (.int ((q1 &&& (255 : Int32)).toUInt32.toUInt16.toUInt32.toInt32)), .val (.int ((((q1.toUInt32 >>> ((8 : Int32) &&& 31).toUInt32).toInt32) &&& (255 : Int32)).toUInt32.toUInt16.toUInt32.toInt32)), .val (.int ((((q1.toUInt32 >>> ((16 : Int32) &&& 31).toUInt32).toInt32) &&& (255 : Int32)).toUInt32.toUInt16.toUInt32.toInt32)), .val (.int ((((q1.toUInt32 >>> ((24 : Int32) &&& 31).toUInt32).toInt32) &&& (255 : Int32)).toUInt32.toUInt16.toUInt32.toInt32)), .val (.int ((q2 &&& (255 : Int32)).toUInt32.toUInt16.toUInt32.toInt32)), .unset, .unset, .unset, .unset] [(.int ((q2 &&& (255 : Int32)).toUInt32.toUInt16.toUInt32.toInt32)), (.int ((((q1.toUInt32 >>> ((24 : Int32) &&& 31).toUInt32).toInt32) &&& (255 : Int32)).toUInt32.toUInt16.toUInt32.toInt32)), (.int ((((q1.toUInt32 >>> ((16 : Int32) &&& 31).toUInt32).toInt32) &&& (255 : Int32)).toUInt32.toUInt16.toUInt32.toInt32)), (.int ((((q1.toUInt32 >>> ((8 : Int32) &&& 31).toUInt32).toInt32) &&& (255 : Int32)).toUInt32.toUInt16.toUInt32.toInt32)), (.int ((q1 &&& (255 : Int32)).toUInt32.toUInt16.toUInt32.toInt32)), (.int (1 : Int32))])) rfl (by rw [hml]; rfl) (argsL := [(.int (1 : Int32)), (.int ((q1 &&& (255 : Int32)).toUInt32.toUInt16.toUInt32.toInt32)), (.int ((((q1.toUInt32 >>> ((8 : Int32) &&& 31).toUInt32).toInt32) &&& (255 : Int32)).toUInt32.toUInt16.toUInt32.toInt32)), (.int ((((q1.toUInt32 >>> ((16 : Int32) &&& 31).toUInt32).toInt32) &&& (255 : Int32)).toUInt32.toUInt16.toUInt32.toInt32)), (.int ((((q1.toUInt32 >>> ((24 : Int32) &&& 31).toUInt32).toInt32) &&& (255 : Int32)).toUInt32.toUInt16.toUInt32.toInt32)), (.int ((q2 &&& (255 : Int32)).toUInt32.toUInt16.toUInt32.toInt32))]) (rest := []) (lenOf pd_3 rfl) rfl (by show 2 * 0 + _ ≤ _; exact Nat.le_of_eq rfl) (hb hby at_68) (fun _ _ => ⟨rfl, e0, (by decide : 0 + 3 ≤ _), (by decide : 0 + 6 ≤ _)⟩)
    dsimp only [Pt.U, Pt.locs, Pt.cells, Pt.slots] at X110 l110 y110 z110 st110 hQ110 hSn hgn C110
    have X110 : Stand p l e room_1 (s.setVm T110.vm) m #[(.int q0), (.int q1), (.int q2)] below meth c T110 L110 k110 n110 := X110
    have HC := HC.trans C110
    have hk110 := hk
    have hS := State.Since.trans hS hSn (Nat.le_trans hk110 (by rw [← e0]; exact hgn))
    have hk := Nat.le_refl T110.heap.size
    have hown : (s.setVm T110.vm).vm.findClass "com/example/avvik/avvik/io/XsdValuesIsTruePinLaw" = some m.cls := by rw [show (s.setVm T110.vm).vm = T110.vm from rfl, hSn.1.alike.findClass]; exact hown
    have hZ : Z.Warmed39 T110.vm := State.Warmed39.trans hZ hSn.1
    subst l110 y110 z110
    obtain ⟨b9110, t9110, k9110, rfl, N110q, Kq110, P110_0, P110_1, P110_2, P110_3⟩ := hQ110
    have N110 := Fr.app N0 N110q
    refine OFinH.tr st110 ?_
    have K110 : Keep h0 T110.heap [] := K0.trans Kq110 all0
    have sg113 : ∀ t, Steps p.tables e below (T110.setTop (mkF m 122 #[.val (.int q0), .val (.int q1), .val (.int q2), .val (.int (1 : Int32)), .val (.int ((q1 &&& (255 : Int32)).toUInt32.toUInt16.toUInt32.toInt32)), .val (.int ((((q1.toUInt32 >>> ((8 : Int32) &&& 31).toUInt32).toInt32) &&& (255 : Int32)).toUInt32.toUInt16.toUInt32.toInt32)), .val (.int ((((q1.toUInt32 >>> ((16 : Int32) &&& 31).toUInt32).toInt32) &&& (255 : Int32)).toUInt32.toUInt16.toUInt32.toInt32)), .val (.int ((((q1.toUInt32 >>> ((24 : Int32) &&& 31).toUInt32).toInt32) &&& (255 : Int32)).toUInt32.toUInt16.toUInt32.toInt32)), .val (.int ((q2 &&& (255 : Int32)).toUInt32.toUInt16.toUInt32.toInt32)), .val (.ref b9110), .val (.int (0 : Int32)), .unset, .unset] [(.int (49 : Int32)), (.int ((q1 &&& (255 : Int32)).toUInt32.toUInt16.toUInt32.toInt32))])) t → Steps p.tables e below (T110.setTop (mkF m 71 #[.val (.int q0), .val (.int q1), .val (.int q2), .val (.int (1 : Int32)), .val (.int ((q1 &&& (255 : Int32)).toUInt32.toUInt16.toUInt32.toInt32)), .val (.int ((((q1.toUInt32 >>> ((8 : Int32) &&& 31).toUInt32).toInt32) &&& (255 : Int32)).toUInt32.toUInt16.toUInt32.toInt32)), .val (.int ((((q1.toUInt32 >>> ((16 : Int32) &&& 31).toUInt32).toInt32) &&& (255 : Int32)).toUInt32.toUInt16.toUInt32.toInt32)), .val (.int ((((q1.toUInt32 >>> ((24 : Int32) &&& 31).toUInt32).toInt32) &&& (255 : Int32)).toUInt32.toUInt16.toUInt32.toInt32)), .val (.int ((q2 &&& (255 : Int32)).toUInt32.toUInt16.toUInt32.toInt32)), .unset, .unset, .unset, .unset] [(.ref b9110)])) t := by
      intro t k
      show Steps p.tables e below (T110.setTop (mkF m 71 #[.val (.int q0), .val (.int q1), .val (.int q2), .val (.int (1 : Int32)), .val (.int ((q1 &&& (255 : Int32)).toUInt32.toUInt16.toUInt32.toInt32)), .val (.int ((((q1.toUInt32 >>> ((8 : Int32) &&& 31).toUInt32).toInt32) &&& (255 : Int32)).toUInt32.toUInt16.toUInt32.toInt32)), .val (.int ((((q1.toUInt32 >>> ((16 : Int32) &&& 31).toUInt32).toInt32) &&& (255 : Int32)).toUInt32.toUInt16.toUInt32.toInt32)), .val (.int ((((q1.toUInt32 >>> ((24 : Int32) &&& 31).toUInt32).toInt32) &&& (255 : Int32)).toUInt32.toUInt16.toUInt32.toInt32)), .val (.int ((q2 &&& (255 : Int32)).toUInt32.toUInt16.toUInt32.toInt32)), .unset, .unset, .unset, .unset] [(.ref b9110)])) t
      refine XS.astore X110.here hx rfl (hb hby at_71) rfl rfl (l' := #[.val (.int q0), .val (.int q1), .val (.int q2), .val (.int (1 : Int32)), .val (.int ((q1 &&& (255 : Int32)).toUInt32.toUInt16.toUInt32.toInt32)), .val (.int ((((q1.toUInt32 >>> ((8 : Int32) &&& 31).toUInt32).toInt32) &&& (255 : Int32)).toUInt32.toUInt16.toUInt32.toInt32)), .val (.int ((((q1.toUInt32 >>> ((16 : Int32) &&& 31).toUInt32).toInt32) &&& (255 : Int32)).toUInt32.toUInt16.toUInt32.toInt32)), .val (.int ((((q1.toUInt32 >>> ((24 : Int32) &&& 31).toUInt32).toInt32) &&& (255 : Int32)).toUInt32.toUInt16.toUInt32.toInt32)), .val (.int ((q2 &&& (255 : Int32)).toUInt32.toUInt16.toUInt32.toInt32)), .val (.ref b9110), .unset, .unset, .unset]) rfl ?_
      show Steps p.tables e below (T110.setTop (mkF m 73 #[.val (.int q0), .val (.int q1), .val (.int q2), .val (.int (1 : Int32)), .val (.int ((q1 &&& (255 : Int32)).toUInt32.toUInt16.toUInt32.toInt32)), .val (.int ((((q1.toUInt32 >>> ((8 : Int32) &&& 31).toUInt32).toInt32) &&& (255 : Int32)).toUInt32.toUInt16.toUInt32.toInt32)), .val (.int ((((q1.toUInt32 >>> ((16 : Int32) &&& 31).toUInt32).toInt32) &&& (255 : Int32)).toUInt32.toUInt16.toUInt32.toInt32)), .val (.int ((((q1.toUInt32 >>> ((24 : Int32) &&& 31).toUInt32).toInt32) &&& (255 : Int32)).toUInt32.toUInt16.toUInt32.toInt32)), .val (.int ((q2 &&& (255 : Int32)).toUInt32.toUInt16.toUInt32.toInt32)), .val (.ref b9110), .unset, .unset, .unset] [])) t
      refine XS.iloadN X110.here hx rfl (hb hby at_73) rfl ?_
      show Steps p.tables e below (T110.setTop (mkF m 74 #[.val (.int q0), .val (.int q1), .val (.int q2), .val (.int (1 : Int32)), .val (.int ((q1 &&& (255 : Int32)).toUInt32.toUInt16.toUInt32.toInt32)), .val (.int ((((q1.toUInt32 >>> ((8 : Int32) &&& 31).toUInt32).toInt32) &&& (255 : Int32)).toUInt32.toUInt16.toUInt32.toInt32)), .val (.int ((((q1.toUInt32 >>> ((16 : Int32) &&& 31).toUInt32).toInt32) &&& (255 : Int32)).toUInt32.toUInt16.toUInt32.toInt32)), .val (.int ((((q1.toUInt32 >>> ((24 : Int32) &&& 31).toUInt32).toInt32) &&& (255 : Int32)).toUInt32.toUInt16.toUInt32.toInt32)), .val (.int ((q2 &&& (255 : Int32)).toUInt32.toUInt16.toUInt32.toInt32)), .val (.ref b9110), .unset, .unset, .unset] [(.int (1 : Int32))])) t
      refine XS.iconst X110.here hx rfl (hb hby at_74) ?_
      show Steps p.tables e below (T110.setTop (mkF m 75 #[.val (.int q0), .val (.int q1), .val (.int q2), .val (.int (1 : Int32)), .val (.int ((q1 &&& (255 : Int32)).toUInt32.toUInt16.toUInt32.toInt32)), .val (.int ((((q1.toUInt32 >>> ((8 : Int32) &&& 31).toUInt32).toInt32) &&& (255 : Int32)).toUInt32.toUInt16.toUInt32.toInt32)), .val (.int ((((q1.toUInt32 >>> ((16 : Int32) &&& 31).toUInt32).toInt32) &&& (255 : Int32)).toUInt32.toUInt16.toUInt32.toInt32)), .val (.int ((((q1.toUInt32 >>> ((24 : Int32) &&& 31).toUInt32).toInt32) &&& (255 : Int32)).toUInt32.toUInt16.toUInt32.toInt32)), .val (.int ((q2 &&& (255 : Int32)).toUInt32.toUInt16.toUInt32.toInt32)), .val (.ref b9110), .unset, .unset, .unset] [(.int (4 : Int32)), (.int (1 : Int32))])) t
      refine XS.icmpYes X110.here hx rfl (pc0 := 75) (pc' := 110) rfl (hb hby at_75) rfl (feq (by decide : ¬ ((1 : Int32) = (4 : Int32)))).2 (by decide) (by decide) ?_
      show Steps p.tables e below (T110.setTop (mkF m 110 #[.val (.int q0), .val (.int q1), .val (.int q2), .val (.int (1 : Int32)), .val (.int ((q1 &&& (255 : Int32)).toUInt32.toUInt16.toUInt32.toInt32)), .val (.int ((((q1.toUInt32 >>> ((8 : Int32) &&& 31).toUInt32).toInt32) &&& (255 : Int32)).toUInt32.toUInt16.toUInt32.toInt32)), .val (.int ((((q1.toUInt32 >>> ((16 : Int32) &&& 31).toUInt32).toInt32) &&& (255 : Int32)).toUInt32.toUInt16.toUInt32.toInt32)), .val (.int ((((q1.toUInt32 >>> ((24 : Int32) &&& 31).toUInt32).toInt32) &&& (255 : Int32)).toUInt32.toUInt16.toUInt32.toInt32)), .val (.int ((q2 &&& (255 : Int32)).toUInt32.toUInt16.toUInt32.toInt32)), .val (.ref b9110), .unset, .unset, .unset] [])) t
      refine XS.iconst X110.here hx rfl (hb hby at_110) ?_
      show Steps p.tables e below (T110.setTop (mkF m 111 #[.val (.int q0), .val (.int q1), .val (.int q2), .val (.int (1 : Int32)), .val (.int ((q1 &&& (255 : Int32)).toUInt32.toUInt16.toUInt32.toInt32)), .val (.int ((((q1.toUInt32 >>> ((8 : Int32) &&& 31).toUInt32).toInt32) &&& (255 : Int32)).toUInt32.toUInt16.toUInt32.toInt32)), .val (.int ((((q1.toUInt32 >>> ((16 : Int32) &&& 31).toUInt32).toInt32) &&& (255 : Int32)).toUInt32.toUInt16.toUInt32.toInt32)), .val (.int ((((q1.toUInt32 >>> ((24 : Int32) &&& 31).toUInt32).toInt32) &&& (255 : Int32)).toUInt32.toUInt16.toUInt32.toInt32)), .val (.int ((q2 &&& (255 : Int32)).toUInt32.toUInt16.toUInt32.toInt32)), .val (.ref b9110), .unset, .unset, .unset] [(.int (0 : Int32))])) t
      refine XS.istore X110.here hx rfl (hb hby at_111) rfl (l' := #[.val (.int q0), .val (.int q1), .val (.int q2), .val (.int (1 : Int32)), .val (.int ((q1 &&& (255 : Int32)).toUInt32.toUInt16.toUInt32.toInt32)), .val (.int ((((q1.toUInt32 >>> ((8 : Int32) &&& 31).toUInt32).toInt32) &&& (255 : Int32)).toUInt32.toUInt16.toUInt32.toInt32)), .val (.int ((((q1.toUInt32 >>> ((16 : Int32) &&& 31).toUInt32).toInt32) &&& (255 : Int32)).toUInt32.toUInt16.toUInt32.toInt32)), .val (.int ((((q1.toUInt32 >>> ((24 : Int32) &&& 31).toUInt32).toInt32) &&& (255 : Int32)).toUInt32.toUInt16.toUInt32.toInt32)), .val (.int ((q2 &&& (255 : Int32)).toUInt32.toUInt16.toUInt32.toInt32)), .val (.ref b9110), .val (.int (0 : Int32)), .unset, .unset]) rfl ?_
      show Steps p.tables e below (T110.setTop (mkF m 113 #[.val (.int q0), .val (.int q1), .val (.int q2), .val (.int (1 : Int32)), .val (.int ((q1 &&& (255 : Int32)).toUInt32.toUInt16.toUInt32.toInt32)), .val (.int ((((q1.toUInt32 >>> ((8 : Int32) &&& 31).toUInt32).toInt32) &&& (255 : Int32)).toUInt32.toUInt16.toUInt32.toInt32)), .val (.int ((((q1.toUInt32 >>> ((16 : Int32) &&& 31).toUInt32).toInt32) &&& (255 : Int32)).toUInt32.toUInt16.toUInt32.toInt32)), .val (.int ((((q1.toUInt32 >>> ((24 : Int32) &&& 31).toUInt32).toInt32) &&& (255 : Int32)).toUInt32.toUInt16.toUInt32.toInt32)), .val (.int ((q2 &&& (255 : Int32)).toUInt32.toUInt16.toUInt32.toInt32)), .val (.ref b9110), .val (.int (0 : Int32)), .unset, .unset] [])) t
      refine XS.iloadN X110.here hx rfl (hb hby at_113) rfl ?_
      show Steps p.tables e below (T110.setTop (mkF m 114 #[.val (.int q0), .val (.int q1), .val (.int q2), .val (.int (1 : Int32)), .val (.int ((q1 &&& (255 : Int32)).toUInt32.toUInt16.toUInt32.toInt32)), .val (.int ((((q1.toUInt32 >>> ((8 : Int32) &&& 31).toUInt32).toInt32) &&& (255 : Int32)).toUInt32.toUInt16.toUInt32.toInt32)), .val (.int ((((q1.toUInt32 >>> ((16 : Int32) &&& 31).toUInt32).toInt32) &&& (255 : Int32)).toUInt32.toUInt16.toUInt32.toInt32)), .val (.int ((((q1.toUInt32 >>> ((24 : Int32) &&& 31).toUInt32).toInt32) &&& (255 : Int32)).toUInt32.toUInt16.toUInt32.toInt32)), .val (.int ((q2 &&& (255 : Int32)).toUInt32.toUInt16.toUInt32.toInt32)), .val (.ref b9110), .val (.int (0 : Int32)), .unset, .unset] [(.int (1 : Int32))])) t
      refine XS.iconst X110.here hx rfl (hb hby at_114) ?_
      show Steps p.tables e below (T110.setTop (mkF m 115 #[.val (.int q0), .val (.int q1), .val (.int q2), .val (.int (1 : Int32)), .val (.int ((q1 &&& (255 : Int32)).toUInt32.toUInt16.toUInt32.toInt32)), .val (.int ((((q1.toUInt32 >>> ((8 : Int32) &&& 31).toUInt32).toInt32) &&& (255 : Int32)).toUInt32.toUInt16.toUInt32.toInt32)), .val (.int ((((q1.toUInt32 >>> ((16 : Int32) &&& 31).toUInt32).toInt32) &&& (255 : Int32)).toUInt32.toUInt16.toUInt32.toInt32)), .val (.int ((((q1.toUInt32 >>> ((24 : Int32) &&& 31).toUInt32).toInt32) &&& (255 : Int32)).toUInt32.toUInt16.toUInt32.toInt32)), .val (.int ((q2 &&& (255 : Int32)).toUInt32.toUInt16.toUInt32.toInt32)), .val (.ref b9110), .val (.int (0 : Int32)), .unset, .unset] [(.int (1 : Int32)), (.int (1 : Int32))])) t
      refine XS.icmpNo X110.here hx rfl (hb hby at_115) rfl (teq (by decide : (1 : Int32) = (1 : Int32))).2 ?_
      show Steps p.tables e below (T110.setTop (mkF m 118 #[.val (.int q0), .val (.int q1), .val (.int q2), .val (.int (1 : Int32)), .val (.int ((q1 &&& (255 : Int32)).toUInt32.toUInt16.toUInt32.toInt32)), .val (.int ((((q1.toUInt32 >>> ((8 : Int32) &&& 31).toUInt32).toInt32) &&& (255 : Int32)).toUInt32.toUInt16.toUInt32.toInt32)), .val (.int ((((q1.toUInt32 >>> ((16 : Int32) &&& 31).toUInt32).toInt32) &&& (255 : Int32)).toUInt32.toUInt16.toUInt32.toInt32)), .val (.int ((((q1.toUInt32 >>> ((24 : Int32) &&& 31).toUInt32).toInt32) &&& (255 : Int32)).toUInt32.toUInt16.toUInt32.toInt32)), .val (.int ((q2 &&& (255 : Int32)).toUInt32.toUInt16.toUInt32.toInt32)), .val (.ref b9110), .val (.int (0 : Int32)), .unset, .unset] [])) t
      refine XS.iload X110.here hx rfl (hb hby at_118) rfl ?_
      show Steps p.tables e below (T110.setTop (mkF m 120 #[.val (.int q0), .val (.int q1), .val (.int q2), .val (.int (1 : Int32)), .val (.int ((q1 &&& (255 : Int32)).toUInt32.toUInt16.toUInt32.toInt32)), .val (.int ((((q1.toUInt32 >>> ((8 : Int32) &&& 31).toUInt32).toInt32) &&& (255 : Int32)).toUInt32.toUInt16.toUInt32.toInt32)), .val (.int ((((q1.toUInt32 >>> ((16 : Int32) &&& 31).toUInt32).toInt32) &&& (255 : Int32)).toUInt32.toUInt16.toUInt32.toInt32)), .val (.int ((((q1.toUInt32 >>> ((24 : Int32) &&& 31).toUInt32).toInt32) &&& (255 : Int32)).toUInt32.toUInt16.toUInt32.toInt32)), .val (.int ((q2 &&& (255 : Int32)).toUInt32.toUInt16.toUInt32.toInt32)), .val (.ref b9110), .val (.int (0 : Int32)), .unset, .unset] [(.int ((q1 &&& (255 : Int32)).toUInt32.toUInt16.toUInt32.toInt32))])) t
      refine XS.bipush X110.here hx rfl (hb hby at_120) ?_
      exact k
    refine OFinH.go sg113 ?_
    obtain ⟨v112, e_v112⟩ : ∃ z : Int32, z = (if ((q1 &&& (255 : Int32)).toUInt32.toUInt16.toUInt32.toInt32) = (49 : Int32) then (1 : Int32) else (0 : Int32)) := ⟨_, rfl⟩
    have sg114 : ∀ t, Steps p.tables e below (T110.setTop (mkF m 130 #[.val (.int q0), .val (.int q1), .val (.int q2), .val (.int (1 : Int32)), .val (.int ((q1 &&& (255 : Int32)).toUInt32.toUInt16.toUInt32.toInt32)), .val (.int ((((q1.toUInt32 >>> ((8 : Int32) &&& 31).toUInt32).toInt32) &&& (255 : Int32)).toUInt32.toUInt16.toUInt32.toInt32)), .val (.int ((((q1.toUInt32 >>> ((16 : Int32) &&& 31).toUInt32).toInt32) &&& (255 : Int32)).toUInt32.toUInt16.toUInt32.toInt32)), .val (.int ((((q1.toUInt32 >>> ((24 : Int32) &&& 31).toUInt32).toInt32) &&& (255 : Int32)).toUInt32.toUInt16.toUInt32.toInt32)), .val (.int ((q2 &&& (255 : Int32)).toUInt32.toUInt16.toUInt32.toInt32)), .val (.ref b9110), .val (.int (0 : Int32)), .unset, .unset] [(.int v112)])) t → Steps p.tables e below (T110.setTop (mkF m 122 #[.val (.int q0), .val (.int q1), .val (.int q2), .val (.int (1 : Int32)), .val (.int ((q1 &&& (255 : Int32)).toUInt32.toUInt16.toUInt32.toInt32)), .val (.int ((((q1.toUInt32 >>> ((8 : Int32) &&& 31).toUInt32).toInt32) &&& (255 : Int32)).toUInt32.toUInt16.toUInt32.toInt32)), .val (.int ((((q1.toUInt32 >>> ((16 : Int32) &&& 31).toUInt32).toInt32) &&& (255 : Int32)).toUInt32.toUInt16.toUInt32.toInt32)), .val (.int ((((q1.toUInt32 >>> ((24 : Int32) &&& 31).toUInt32).toInt32) &&& (255 : Int32)).toUInt32.toUInt16.toUInt32.toInt32)), .val (.int ((q2 &&& (255 : Int32)).toUInt32.toUInt16.toUInt32.toInt32)), .val (.ref b9110), .val (.int (0 : Int32)), .unset, .unset] [(.int (49 : Int32)), (.int ((q1 &&& (255 : Int32)).toUInt32.toUInt16.toUInt32.toInt32))])) t := by
      intro t k
      by_cases c111 : ((q1 &&& (255 : Int32)).toUInt32.toUInt16.toUInt32.toInt32) = (49 : Int32)
      · show Steps p.tables e below (T110.setTop (mkF m 122 #[.val (.int q0), .val (.int q1), .val (.int q2), .val (.int (1 : Int32)), .val (.int ((q1 &&& (255 : Int32)).toUInt32.toUInt16.toUInt32.toInt32)), .val (.int ((((q1.toUInt32 >>> ((8 : Int32) &&& 31).toUInt32).toInt32) &&& (255 : Int32)).toUInt32.toUInt16.toUInt32.toInt32)), .val (.int ((((q1.toUInt32 >>> ((16 : Int32) &&& 31).toUInt32).toInt32) &&& (255 : Int32)).toUInt32.toUInt16.toUInt32.toInt32)), .val (.int ((((q1.toUInt32 >>> ((24 : Int32) &&& 31).toUInt32).toInt32) &&& (255 : Int32)).toUInt32.toUInt16.toUInt32.toInt32)), .val (.int ((q2 &&& (255 : Int32)).toUInt32.toUInt16.toUInt32.toInt32)), .val (.ref b9110), .val (.int (0 : Int32)), .unset, .unset] [(.int (49 : Int32)), (.int ((q1 &&& (255 : Int32)).toUInt32.toUInt16.toUInt32.toInt32))])) t
        refine XS.icmpNo X110.here hx rfl (hb hby at_122) rfl (teq c111).2 ?_
        show Steps p.tables e below (T110.setTop (mkF m 125 #[.val (.int q0), .val (.int q1), .val (.int q2), .val (.int (1 : Int32)), .val (.int ((q1 &&& (255 : Int32)).toUInt32.toUInt16.toUInt32.toInt32)), .val (.int ((((q1.toUInt32 >>> ((8 : Int32) &&& 31).toUInt32).toInt32) &&& (255 : Int32)).toUInt32.toUInt16.toUInt32.toInt32)), .val (.int ((((q1.toUInt32 >>> ((16 : Int32) &&& 31).toUInt32).toInt32) &&& (255 : Int32)).toUInt32.toUInt16.toUInt32.toInt32)), .val (.int ((((q1.toUInt32 >>> ((24 : Int32) &&& 31).toUInt32).toInt32) &&& (255 : Int32)).toUInt32.toUInt16.toUInt32.toInt32)), .val (.int ((q2 &&& (255 : Int32)).toUInt32.toUInt16.toUInt32.toInt32)), .val (.ref b9110), .val (.int (0 : Int32)), .unset, .unset] [])) t
        refine XS.iconst X110.here hx rfl (hb hby at_125) ?_
        show Steps p.tables e below (T110.setTop (mkF m 126 #[.val (.int q0), .val (.int q1), .val (.int q2), .val (.int (1 : Int32)), .val (.int ((q1 &&& (255 : Int32)).toUInt32.toUInt16.toUInt32.toInt32)), .val (.int ((((q1.toUInt32 >>> ((8 : Int32) &&& 31).toUInt32).toInt32) &&& (255 : Int32)).toUInt32.toUInt16.toUInt32.toInt32)), .val (.int ((((q1.toUInt32 >>> ((16 : Int32) &&& 31).toUInt32).toInt32) &&& (255 : Int32)).toUInt32.toUInt16.toUInt32.toInt32)), .val (.int ((((q1.toUInt32 >>> ((24 : Int32) &&& 31).toUInt32).toInt32) &&& (255 : Int32)).toUInt32.toUInt16.toUInt32.toInt32)), .val (.int ((q2 &&& (255 : Int32)).toUInt32.toUInt16.toUInt32.toInt32)), .val (.ref b9110), .val (.int (0 : Int32)), .unset, .unset] [(.int (1 : Int32))])) t
        refine XS.goto X110.here hx rfl (pc0 := 126) (pc' := 130) rfl (hb hby at_126) (by decide) (by decide) ?_
        have e_v112' : v112 = (1 : Int32) := e_v112.trans (if_pos c111)
        rw [e_v112'] at k
        exact k
      · show Steps p.tables e below (T110.setTop (mkF m 122 #[.val (.int q0), .val (.int q1), .val (.int q2), .val (.int (1 : Int32)), .val (.int ((q1 &&& (255 : Int32)).toUInt32.toUInt16.toUInt32.toInt32)), .val (.int ((((q1.toUInt32 >>> ((8 : Int32) &&& 31).toUInt32).toInt32) &&& (255 : Int32)).toUInt32.toUInt16.toUInt32.toInt32)), .val (.int ((((q1.toUInt32 >>> ((16 : Int32) &&& 31).toUInt32).toInt32) &&& (255 : Int32)).toUInt32.toUInt16.toUInt32.toInt32)), .val (.int ((((q1.toUInt32 >>> ((24 : Int32) &&& 31).toUInt32).toInt32) &&& (255 : Int32)).toUInt32.toUInt16.toUInt32.toInt32)), .val (.int ((q2 &&& (255 : Int32)).toUInt32.toUInt16.toUInt32.toInt32)), .val (.ref b9110), .val (.int (0 : Int32)), .unset, .unset] [(.int (49 : Int32)), (.int ((q1 &&& (255 : Int32)).toUInt32.toUInt16.toUInt32.toInt32))])) t
        refine XS.icmpYes X110.here hx rfl (pc0 := 122) (pc' := 129) rfl (hb hby at_122) rfl (feq c111).2 (by decide) (by decide) ?_
        show Steps p.tables e below (T110.setTop (mkF m 129 #[.val (.int q0), .val (.int q1), .val (.int q2), .val (.int (1 : Int32)), .val (.int ((q1 &&& (255 : Int32)).toUInt32.toUInt16.toUInt32.toInt32)), .val (.int ((((q1.toUInt32 >>> ((8 : Int32) &&& 31).toUInt32).toInt32) &&& (255 : Int32)).toUInt32.toUInt16.toUInt32.toInt32)), .val (.int ((((q1.toUInt32 >>> ((16 : Int32) &&& 31).toUInt32).toInt32) &&& (255 : Int32)).toUInt32.toUInt16.toUInt32.toInt32)), .val (.int ((((q1.toUInt32 >>> ((24 : Int32) &&& 31).toUInt32).toInt32) &&& (255 : Int32)).toUInt32.toUInt16.toUInt32.toInt32)), .val (.int ((q2 &&& (255 : Int32)).toUInt32.toUInt16.toUInt32.toInt32)), .val (.ref b9110), .val (.int (0 : Int32)), .unset, .unset] [])) t
        refine XS.iconst X110.here hx rfl (hb hby at_129) ?_
        have e_v112' : v112 = (0 : Int32) := e_v112.trans (if_neg c111)
        rw [e_v112'] at k
        exact k
    refine OFinH.go sg114 ?_
    have sg117 : ∀ t, Steps p.tables e below (T110.setTop (mkF m 145 #[.val (.int q0), .val (.int q1), .val (.int q2), .val (.int (1 : Int32)), .val (.int ((q1 &&& (255 : Int32)).toUInt32.toUInt16.toUInt32.toInt32)), .val (.int ((((q1.toUInt32 >>> ((8 : Int32) &&& 31).toUInt32).toInt32) &&& (255 : Int32)).toUInt32.toUInt16.toUInt32.toInt32)), .val (.int ((((q1.toUInt32 >>> ((16 : Int32) &&& 31).toUInt32).toInt32) &&& (255 : Int32)).toUInt32.toUInt16.toUInt32.toInt32)), .val (.int ((((q1.toUInt32 >>> ((24 : Int32) &&& 31).toUInt32).toInt32) &&& (255 : Int32)).toUInt32.toUInt16.toUInt32.toInt32)), .val (.int ((q2 &&& (255 : Int32)).toUInt32.toUInt16.toUInt32.toInt32)), .val (.ref b9110), .val (.int (0 : Int32)), .val (.int v112), .unset] [(.int v112)])) t → Steps p.tables e below (T110.setTop (mkF m 130 #[.val (.int q0), .val (.int q1), .val (.int q2), .val (.int (1 : Int32)), .val (.int ((q1 &&& (255 : Int32)).toUInt32.toUInt16.toUInt32.toInt32)), .val (.int ((((q1.toUInt32 >>> ((8 : Int32) &&& 31).toUInt32).toInt32) &&& (255 : Int32)).toUInt32.toUInt16.toUInt32.toInt32)), .val (.int ((((q1.toUInt32 >>> ((16 : Int32) &&& 31).toUInt32).toInt32) &&& (255 : Int32)).toUInt32.toUInt16.toUInt32.toInt32)), .val (.int ((((q1.toUInt32 >>> ((24 : Int32) &&& 31).toUInt32).toInt32) &&& (255 : Int32)).toUInt32.toUInt16.toUInt32.toInt32)), .val (.int ((q2 &&& (255 : Int32)).toUInt32.toUInt16.toUInt32.toInt32)), .val (.ref b9110), .val (.int (0 : Int32)), .unset, .unset] [(.int v112)])) t := by
      intro t k
      show Steps p.tables e below (T110.setTop (mkF m 130 #[.val (.int q0), .val (.int q1), .val (.int q2), .val (.int (1 : Int32)), .val (.int ((q1 &&& (255 : Int32)).toUInt32.toUInt16.toUInt32.toInt32)), .val (.int ((((q1.toUInt32 >>> ((8 : Int32) &&& 31).toUInt32).toInt32) &&& (255 : Int32)).toUInt32.toUInt16.toUInt32.toInt32)), .val (.int ((((q1.toUInt32 >>> ((16 : Int32) &&& 31).toUInt32).toInt32) &&& (255 : Int32)).toUInt32.toUInt16.toUInt32.toInt32)), .val (.int ((((q1.toUInt32 >>> ((24 : Int32) &&& 31).toUInt32).toInt32) &&& (255 : Int32)).toUInt32.toUInt16.toUInt32.toInt32)), .val (.int ((q2 &&& (255 : Int32)).toUInt32.toUInt16.toUInt32.toInt32)), .val (.ref b9110), .val (.int (0 : Int32)), .unset, .unset] [(.int v112)])) t
      refine XS.istore X110.here hx rfl (hb hby at_130) rfl (l' := #[.val (.int q0), .val (.int q1), .val (.int q2), .val (.int (1 : Int32)), .val (.int ((q1 &&& (255 : Int32)).toUInt32.toUInt16.toUInt32.toInt32)), .val (.int ((((q1.toUInt32 >>> ((8 : Int32) &&& 31).toUInt32).toInt32) &&& (255 : Int32)).toUInt32.toUInt16.toUInt32.toInt32)), .val (.int ((((q1.toUInt32 >>> ((16 : Int32) &&& 31).toUInt32).toInt32) &&& (255 : Int32)).toUInt32.toUInt16.toUInt32.toInt32)), .val (.int ((((q1.toUInt32 >>> ((24 : Int32) &&& 31).toUInt32).toInt32) &&& (255 : Int32)).toUInt32.toUInt16.toUInt32.toInt32)), .val (.int ((q2 &&& (255 : Int32)).toUInt32.toUInt16.toUInt32.toInt32)), .val (.ref b9110), .val (.int (0 : Int32)), .val (.int v112), .unset]) rfl ?_
      show Steps p.tables e below (T110.setTop (mkF m 132 #[.val (.int q0), .val (.int q1), .val (.int q2), .val (.int (1 : Int32)), .val (.int ((q1 &&& (255 : Int32)).toUInt32.toUInt16.toUInt32.toInt32)), .val (.int ((((q1.toUInt32 >>> ((8 : Int32) &&& 31).toUInt32).toInt32) &&& (255 : Int32)).toUInt32.toUInt16.toUInt32.toInt32)), .val (.int ((((q1.toUInt32 >>> ((16 : Int32) &&& 31).toUInt32).toInt32) &&& (255 : Int32)).toUInt32.toUInt16.toUInt32.toInt32)), .val (.int ((((q1.toUInt32 >>> ((24 : Int32) &&& 31).toUInt32).toInt32) &&& (255 : Int32)).toUInt32.toUInt16.toUInt32.toInt32)), .val (.int ((q2 &&& (255 : Int32)).toUInt32.toUInt16.toUInt32.toInt32)), .val (.ref b9110), .val (.int (0 : Int32)), .val (.int v112), .unset] [])) t
      refine XS.iloadN X110.here hx rfl (hb hby at_132) rfl ?_
      show Steps p.tables e below (T110.setTop (mkF m 133 #[.val (.int q0), .val (.int q1), .val (.int q2), .val (.int (1 : Int32)), .val (.int ((q1 &&& (255 : Int32)).toUInt32.toUInt16.toUInt32.toInt32)), .val (.int ((((q1.toUInt32 >>> ((8 : Int32) &&& 31).toUInt32).toInt32) &&& (255 : Int32)).toUInt32.toUInt16.toUInt32.toInt32)), .val (.int ((((q1.toUInt32 >>> ((16 : Int32) &&& 31).toUInt32).toInt32) &&& (255 : Int32)).toUInt32.toUInt16.toUInt32.toInt32)), .val (.int ((((q1.toUInt32 >>> ((24 : Int32) &&& 31).toUInt32).toInt32) &&& (255 : Int32)).toUInt32.toUInt16.toUInt32.toInt32)), .val (.int ((q2 &&& (255 : Int32)).toUInt32.toUInt16.toUInt32.toInt32)), .val (.ref b9110), .val (.int (0 : Int32)), .val (.int v112), .unset] [(.int (1 : Int32))])) t
      refine XS.bipush X110.here hx rfl (hb hby at_133) ?_
      show Steps p.tables e below (T110.setTop (mkF m 135 #[.val (.int q0), .val (.int q1), .val (.int q2), .val (.int (1 : Int32)), .val (.int ((q1 &&& (255 : Int32)).toUInt32.toUInt16.toUInt32.toInt32)), .val (.int ((((q1.toUInt32 >>> ((8 : Int32) &&& 31).toUInt32).toInt32) &&& (255 : Int32)).toUInt32.toUInt16.toUInt32.toInt32)), .val (.int ((((q1.toUInt32 >>> ((16 : Int32) &&& 31).toUInt32).toInt32) &&& (255 : Int32)).toUInt32.toUInt16.toUInt32.toInt32)), .val (.int ((((q1.toUInt32 >>> ((24 : Int32) &&& 31).toUInt32).toInt32) &&& (255 : Int32)).toUInt32.toUInt16.toUInt32.toInt32)), .val (.int ((q2 &&& (255 : Int32)).toUInt32.toUInt16.toUInt32.toInt32)), .val (.ref b9110), .val (.int (0 : Int32)), .val (.int v112), .unset] [(.int (6 : Int32)), (.int (1 : Int32))])) t
      refine XS.icmpNo X110.here hx rfl (hb hby at_135) rfl (feq (by decide : ¬ ((1 : Int32) = (6 : Int32)))).1 ?_
      show Steps p.tables e below (T110.setTop (mkF m 138 #[.val (.int q0), .val (.int q1), .val (.int q2), .val (.int (1 : Int32)), .val (.int ((q1 &&& (255 : Int32)).toUInt32.toUInt16.toUInt32.toInt32)), .val (.int ((((q1.toUInt32 >>> ((8 : Int32) &&& 31).toUInt32).toInt32) &&& (255 : Int32)).toUInt32.toUInt16.toUInt32.toInt32)), .val (.int ((((q1.toUInt32 >>> ((16 : Int32) &&& 31).toUInt32).toInt32) &&& (255 : Int32)).toUInt32.toUInt16.toUInt32.toInt32)), .val (.int ((((q1.toUInt32 >>> ((24 : Int32) &&& 31).toUInt32).toInt32) &&& (255 : Int32)).toUInt32.toUInt16.toUInt32.toInt32)), .val (.int ((q2 &&& (255 : Int32)).toUInt32.toUInt16.toUInt32.toInt32)), .val (.ref b9110), .val (.int (0 : Int32)), .val (.int v112), .unset] [])) t
      refine XS.iload X110.here hx rfl (hb hby at_138) rfl ?_
      show Steps p.tables e below (T110.setTop (mkF m 140 #[.val (.int q0), .val (.int q1), .val (.int q2), .val (.int (1 : Int32)), .val (.int ((q1 &&& (255 : Int32)).toUInt32.toUInt16.toUInt32.toInt32)), .val (.int ((((q1.toUInt32 >>> ((8 : Int32) &&& 31).toUInt32).toInt32) &&& (255 : Int32)).toUInt32.toUInt16.toUInt32.toInt32)), .val (.int ((((q1.toUInt32 >>> ((16 : Int32) &&& 31).toUInt32).toInt32) &&& (255 : Int32)).toUInt32.toUInt16.toUInt32.toInt32)), .val (.int ((((q1.toUInt32 >>> ((24 : Int32) &&& 31).toUInt32).toInt32) &&& (255 : Int32)).toUInt32.toUInt16.toUInt32.toInt32)), .val (.int ((q2 &&& (255 : Int32)).toUInt32.toUInt16.toUInt32.toInt32)), .val (.ref b9110), .val (.int (0 : Int32)), .val (.int v112), .unset] [(.int (0 : Int32))])) t
      refine XS.ifNo X110.here hx rfl (hb hby at_140) rfl ((if0 _ _).trans (teq (by decide : (0 : Int32) = (0 : Int32))).2) ?_
      show Steps p.tables e below (T110.setTop (mkF m 143 #[.val (.int q0), .val (.int q1), .val (.int q2), .val (.int (1 : Int32)), .val (.int ((q1 &&& (255 : Int32)).toUInt32.toUInt16.toUInt32.toInt32)), .val (.int ((((q1.toUInt32 >>> ((8 : Int32) &&& 31).toUInt32).toInt32) &&& (255 : Int32)).toUInt32.toUInt16.toUInt32.toInt32)), .val (.int ((((q1.toUInt32 >>> ((16 : Int32) &&& 31).toUInt32).toInt32) &&& (255 : Int32)).toUInt32.toUInt16.toUInt32.toInt32)), .val (.int ((((q1.toUInt32 >>> ((24 : Int32) &&& 31).toUInt32).toInt32) &&& (255 : Int32)).toUInt32.toUInt16.toUInt32.toInt32)), .val (.int ((q2 &&& (255 : Int32)).toUInt32.toUInt16.toUInt32.toInt32)), .val (.ref b9110), .val (.int (0 : Int32)), .val (.int v112), .unset] [])) t
      refine XS.iload X110.here hx rfl (hb hby at_143) rfl ?_
      exact k
    refine OFinH.go sg117 ?_
    obtain ⟨v116, e_v116⟩ : ∃ z : Int32, z = (if v112 = (0 : Int32) then (0 : Int32) else (1 : Int32)) := ⟨_, rfl⟩
    have sg118 : ∀ t, Steps p.tables e below (T110.setTop (mkF m 153 #[.val (.int q0), .val (.int q1), .val (.int q2), .val (.int (1 : Int32)), .val (.int ((q1 &&& (255 : Int32)).toUInt32.toUInt16.toUInt32.toInt32)), .val (.int ((((q1.toUInt32 >>> ((8 : Int32) &&& 31).toUInt32).toInt32) &&& (255 : Int32)).toUInt32.toUInt16.toUInt32.toInt32)), .val (.int ((((q1.toUInt32 >>> ((16 : Int32) &&& 31).toUInt32).toInt32) &&& (255 : Int32)).toUInt32.toUInt16.toUInt32.toInt32)), .val (.int ((((q1.toUInt32 >>> ((24 : Int32) &&& 31).toUInt32).toInt32) &&& (255 : Int32)).toUInt32.toUInt16.toUInt32.toInt32)), .val (.int ((q2 &&& (255 : Int32)).toUInt32.toUInt16.toUInt32.toInt32)), .val (.ref b9110), .val (.int (0 : Int32)), .val (.int v112), .unset] [(.int v116)])) t → Steps p.tables e below (T110.setTop (mkF m 145 #[.val (.int q0), .val (.int q1), .val (.int q2), .val (.int (1 : Int32)), .val (.int ((q1 &&& (255 : Int32)).toUInt32.toUInt16.toUInt32.toInt32)), .val (.int ((((q1.toUInt32 >>> ((8 : Int32) &&& 31).toUInt32).toInt32) &&& (255 : Int32)).toUInt32.toUInt16.toUInt32.toInt32)), .val (.int ((((q1.toUInt32 >>> ((16 : Int32) &&& 31).toUInt32).toInt32) &&& (255 : Int32)).toUInt32.toUInt16.toUInt32.toInt32)), .val (.int ((((q1.toUInt32 >>> ((24 : Int32) &&& 31).toUInt32).toInt32) &&& (255 : Int32)).toUInt32.toUInt16.toUInt32.toInt32)), .val (.int ((q2 &&& (255 : Int32)).toUInt32.toUInt16.toUInt32.toInt32)), .val (.ref b9110), .val (.int (0 : Int32)), .val (.int v112), .unset] [(.int v112)])) t := by
      intro t k
      by_cases c115 : v112 = (0 : Int32)
      · show Steps p.tables e below (T110.setTop (mkF m 145 #[.val (.int q0), .val (.int q1), .val (.int q2), .val (.int (1 : Int32)), .val (.int ((q1 &&& (255 : Int32)).toUInt32.toUInt16.toUInt32.toInt32)), .val (.int ((((q1.toUInt32 >>> ((8 : Int32) &&& 31).toUInt32).toInt32) &&& (255 : Int32)).toUInt32.toUInt16.toUInt32.toInt32)), .val (.int ((((q1.toUInt32 >>> ((16 : Int32) &&& 31).toUInt32).toInt32) &&& (255 : Int32)).toUInt32.toUInt16.toUInt32.toInt32)), .val (.int ((((q1.toUInt32 >>> ((24 : Int32) &&& 31).toUInt32).toInt32) &&& (255 : Int32)).toUInt32.toUInt16.toUInt32.toInt32)), .val (.int ((q2 &&& (255 : Int32)).toUInt32.toUInt16.toUInt32.toInt32)), .val (.ref b9110), .val (.int (0 : Int32)), .val (.int v112), .unset] [(.int v112)])) t
        refine XS.ifYes X110.here hx rfl (pc0 := 145) (pc' := 152) rfl (hb hby at_145) rfl ((if0 _ _).trans (teq c115).1) (by decide) (by decide) ?_
        show Steps p.tables e below (T110.setTop (mkF m 152 #[.val (.int q0), .val (.int q1), .val (.int q2), .val (.int (1 : Int32)), .val (.int ((q1 &&& (255 : Int32)).toUInt32.toUInt16.toUInt32.toInt32)), .val (.int ((((q1.toUInt32 >>> ((8 : Int32) &&& 31).toUInt32).toInt32) &&& (255 : Int32)).toUInt32.toUInt16.toUInt32.toInt32)), .val (.int ((((q1.toUInt32 >>> ((16 : Int32) &&& 31).toUInt32).toInt32) &&& (255 : Int32)).toUInt32.toUInt16.toUInt32.toInt32)), .val (.int ((((q1.toUInt32 >>> ((24 : Int32) &&& 31).toUInt32).toInt32) &&& (255 : Int32)).toUInt32.toUInt16.toUInt32.toInt32)), .val (.int ((q2 &&& (255 : Int32)).toUInt32.toUInt16.toUInt32.toInt32)), .val (.ref b9110), .val (.int (0 : Int32)), .val (.int v112), .unset] [])) t
        refine XS.iconst X110.here hx rfl (hb hby at_152) ?_
        have e_v116' : v116 = (0 : Int32) := e_v116.trans (if_pos c115)
        rw [e_v116'] at k
        exact k
      · show Steps p.tables e below (T110.setTop (mkF m 145 #[.val (.int q0), .val (.int q1), .val (.int q2), .val (.int (1 : Int32)), .val (.int ((q1 &&& (255 : Int32)).toUInt32.toUInt16.toUInt32.toInt32)), .val (.int ((((q1.toUInt32 >>> ((8 : Int32) &&& 31).toUInt32).toInt32) &&& (255 : Int32)).toUInt32.toUInt16.toUInt32.toInt32)), .val (.int ((((q1.toUInt32 >>> ((16 : Int32) &&& 31).toUInt32).toInt32) &&& (255 : Int32)).toUInt32.toUInt16.toUInt32.toInt32)), .val (.int ((((q1.toUInt32 >>> ((24 : Int32) &&& 31).toUInt32).toInt32) &&& (255 : Int32)).toUInt32.toUInt16.toUInt32.toInt32)), .val (.int ((q2 &&& (255 : Int32)).toUInt32.toUInt16.toUInt32.toInt32)), .val (.ref b9110), .val (.int (0 : Int32)), .val (.int v112), .unset] [(.int v112)])) t
        refine XS.ifNo X110.here hx rfl (hb hby at_145) rfl ((if0 _ _).trans (feq c115).1) ?_
        show Steps p.tables e below (T110.setTop (mkF m 148 #[.val (.int q0), .val (.int q1), .val (.int q2), .val (.int (1 : Int32)), .val (.int ((q1 &&& (255 : Int32)).toUInt32.toUInt16.toUInt32.toInt32)), .val (.int ((((q1.toUInt32 >>> ((8 : Int32) &&& 31).toUInt32).toInt32) &&& (255 : Int32)).toUInt32.toUInt16.toUInt32.toInt32)), .val (.int ((((q1.toUInt32 >>> ((16 : Int32) &&& 31).toUInt32).toInt32) &&& (255 : Int32)).toUInt32.toUInt16.toUInt32.toInt32)), .val (.int ((((q1.toUInt32 >>> ((24 : Int32) &&& 31).toUInt32).toInt32) &&& (255 : Int32)).toUInt32.toUInt16.toUInt32.toInt32)), .val (.int ((q2 &&& (255 : Int32)).toUInt32.toUInt16.toUInt32.toInt32)), .val (.ref b9110), .val (.int (0 : Int32)), .val (.int v112), .unset] [])) t
        refine XS.iconst X110.here hx rfl (hb hby at_148) ?_
        show Steps p.tables e below (T110.setTop (mkF m 149 #[.val (.int q0), .val (.int q1), .val (.int q2), .val (.int (1 : Int32)), .val (.int ((q1 &&& (255 : Int32)).toUInt32.toUInt16.toUInt32.toInt32)), .val (.int ((((q1.toUInt32 >>> ((8 : Int32) &&& 31).toUInt32).toInt32) &&& (255 : Int32)).toUInt32.toUInt16.toUInt32.toInt32)), .val (.int ((((q1.toUInt32 >>> ((16 : Int32) &&& 31).toUInt32).toInt32) &&& (255 : Int32)).toUInt32.toUInt16.toUInt32.toInt32)), .val (.int ((((q1.toUInt32 >>> ((24 : Int32) &&& 31).toUInt32).toInt32) &&& (255 : Int32)).toUInt32.toUInt16.toUInt32.toInt32)), .val (.int ((q2 &&& (255 : Int32)).toUInt32.toUInt16.toUInt32.toInt32)), .val (.ref b9110), .val (.int (0 : Int32)), .val (.int v112), .unset] [(.int (1 : Int32))])) t
        refine XS.goto X110.here hx rfl (pc0 := 149) (pc' := 153) rfl (hb hby at_149) (by decide) (by decide) ?_
        have e_v116' : v116 = (1 : Int32) := e_v116.trans (if_neg c115)
        rw [e_v116'] at k
        exact k
    refine OFinH.go sg118 ?_
    have sg119 : ∀ t, Steps p.tables e below (T110.setTop (mkF m 157 #[.val (.int q0), .val (.int q1), .val (.int q2), .val (.int (1 : Int32)), .val (.int ((q1 &&& (255 : Int32)).toUInt32.toUInt16.toUInt32.toInt32)), .val (.int ((((q1.toUInt32 >>> ((8 : Int32) &&& 31).toUInt32).toInt32) &&& (255 : Int32)).toUInt32.toUInt16.toUInt32.toInt32)), .val (.int ((((q1.toUInt32 >>> ((16 : Int32) &&& 31).toUInt32).toInt32) &&& (255 : Int32)).toUInt32.toUInt16.toUInt32.toInt32)), .val (.int ((((q1.toUInt32 >>> ((24 : Int32) &&& 31).toUInt32).toInt32) &&& (255 : Int32)).toUInt32.toUInt16.toUInt32.toInt32)), .val (.int ((q2 &&& (255 : Int32)).toUInt32.toUInt16.toUInt32.toInt32)), .val (.ref b9110), .val (.int (0 : Int32)), .val (.int v112), .val (.int v116)] [(.ref b9110)])) t → Steps p.tables e below (T110.setTop (mkF m 153 #[.val (.int q0), .val (.int q1), .val (.int q2), .val (.int (1 : Int32)), .val (.int ((q1 &&& (255 : Int32)).toUInt32.toUInt16.toUInt32.toInt32)), .val (.int ((((q1.toUInt32 >>> ((8 : Int32) &&& 31).toUInt32).toInt32) &&& (255 : Int32)).toUInt32.toUInt16.toUInt32.toInt32)), .val (.int ((((q1.toUInt32 >>> ((16 : Int32) &&& 31).toUInt32).toInt32) &&& (255 : Int32)).toUInt32.toUInt16.toUInt32.toInt32)), .val (.int ((((q1.toUInt32 >>> ((24 : Int32) &&& 31).toUInt32).toInt32) &&& (255 : Int32)).toUInt32.toUInt16.toUInt32.toInt32)), .val (.int ((q2 &&& (255 : Int32)).toUInt32.toUInt16.toUInt32.toInt32)), .val (.ref b9110), .val (.int (0 : Int32)), .val (.int v112), .unset] [(.int v116)])) t := by
      intro t k
      show Steps p.tables e below (T110.setTop (mkF m 153 #[.val (.int q0), .val (.int q1), .val (.int q2), .val (.int (1 : Int32)), .val (.int ((q1 &&& (255 : Int32)).toUInt32.toUInt16.toUInt32.toInt32)), .val (.int ((((q1.toUInt32 >>> ((8 : Int32) &&& 31).toUInt32).toInt32) &&& (255 : Int32)).toUInt32.toUInt16.toUInt32.toInt32)), .val (.int ((((q1.toUInt32 >>> ((16 : Int32) &&& 31).toUInt32).toInt32) &&& (255 : Int32)).toUInt32.toUInt16.toUInt32.toInt32)), .val (.int ((((q1.toUInt32 >>> ((24 : Int32) &&& 31).toUInt32).toInt32) &&& (255 : Int32)).toUInt32.toUInt16.toUInt32.toInt32)), .val (.int ((q2 &&& (255 : Int32)).toUInt32.toUInt16.toUInt32.toInt32)), .val (.ref b9110), .val (.int (0 : Int32)), .val (.int v112), .unset] [(.int v116)])) t
      refine XS.istore X110.here hx rfl (hb hby at_153) rfl (l' := #[.val (.int q0), .val (.int q1), .val (.int q2), .val (.int (1 : Int32)), .val (.int ((q1 &&& (255 : Int32)).toUInt32.toUInt16.toUInt32.toInt32)), .val (.int ((((q1.toUInt32 >>> ((8 : Int32) &&& 31).toUInt32).toInt32) &&& (255 : Int32)).toUInt32.toUInt16.toUInt32.toInt32)), .val (.int ((((q1.toUInt32 >>> ((16 : Int32) &&& 31).toUInt32).toInt32) &&& (255 : Int32)).toUInt32.toUInt16.toUInt32.toInt32)), .val (.int ((((q1.toUInt32 >>> ((24 : Int32) &&& 31).toUInt32).toInt32) &&& (255 : Int32)).toUInt32.toUInt16.toUInt32.toInt32)), .val (.int ((q2 &&& (255 : Int32)).toUInt32.toUInt16.toUInt32.toInt32)), .val (.ref b9110), .val (.int (0 : Int32)), .val (.int v112), .val (.int v116)]) rfl ?_
      show Steps p.tables e below (T110.setTop (mkF m 155 #[.val (.int q0), .val (.int q1), .val (.int q2), .val (.int (1 : Int32)), .val (.int ((q1 &&& (255 : Int32)).toUInt32.toUInt16.toUInt32.toInt32)), .val (.int ((((q1.toUInt32 >>> ((8 : Int32) &&& 31).toUInt32).toInt32) &&& (255 : Int32)).toUInt32.toUInt16.toUInt32.toInt32)), .val (.int ((((q1.toUInt32 >>> ((16 : Int32) &&& 31).toUInt32).toInt32) &&& (255 : Int32)).toUInt32.toUInt16.toUInt32.toInt32)), .val (.int ((((q1.toUInt32 >>> ((24 : Int32) &&& 31).toUInt32).toInt32) &&& (255 : Int32)).toUInt32.toUInt16.toUInt32.toInt32)), .val (.int ((q2 &&& (255 : Int32)).toUInt32.toUInt16.toUInt32.toInt32)), .val (.ref b9110), .val (.int (0 : Int32)), .val (.int v112), .val (.int v116)] [])) t
      refine XS.aload X110.here hx rfl (hb hby at_155) rfl rfl ?_
      exact k
    refine OFinH.go sg119 ?_
    have hpc : ∀ c ∈ ([(nar .char ((q1 &&& (255 : Int32)).toUInt32.toUInt16.toUInt32.toInt32))] : List Int32), ¬ c < 0 ∧ ¬ (255 : Int32) < c := (own_allS (own_ch _) own_all0)
    obtain ⟨_, _, ⟨T120, L120, k120, n120⟩, -, X120, hSn, hgn, ⟨Lc120, hQ120, l120, y120, z120, C120⟩, st120⟩ := callSS X110 hx (y := (⟨"com/example/avvik/avvik/io/XsdValues", "isTrue", "(Ljava/lang/String;)Z"⟩ : MethodName)) hown (mvT hZ (hw _ (List.mem_of_getElem? (i := 27) rfl))) (mvT hZ (hw _ (List.mem_of_getElem? (i := 28) rfl))) (mvT hZ (hw _ (List.mem_of_getElem? (i := 29) rfl))) (mvT hZ (hw _ (List.mem_of_getElem? (i := 30) rfl))) (by decide) (own_back (W := 0) (sf := []) (rm5 l Z aZ hw hEL [] b9110 ([(nar .char ((q1 &&& (255 : Int32)).toUInt32.toUInt16.toUInt32.toInt32))] : List Int32) t9110 k9110 (1 : Int32) ((([(nar .char ((q1 &&& (255 : Int32)).toUInt32.toUInt16.toUInt32.toInt32))] : List Int32).map (fun c => c.toInt8.toInt32)).map Value.int) w1 T110.heap n0 (Nat.le_trans Z0 K110.1) (O0.keep Kq110 all0) P110_0 P110_1 P110_2 P110_3 S1 (StrChars.Road.codOf (n := 1) rfl (fun c hc => (hpc c hc).2)) (own_up _ hpc) (Nat.le_of_ble_eq_true rfl) hcs) hZ (hw _ (List.mem_of_getElem? (i := 30) rfl)) (hw _ (List.mem_of_getElem? (i := 29) rfl)) (by decide) (by decide) hEL HC.1 all0 all0) (g := (mkF m 157 #[.val (.int q0), .val (.int q1), .val (.int q2), .val (.int (1 : Int32)), .val (.int ((q1 &&& (255 : Int32)).toUInt32.toUInt16.toUInt32.toInt32)), .val (.int ((((q1.toUInt32 >>> ((8 : Int32) &&& 31).toUInt32).toInt32) &&& (255 : Int32)).toUInt32.toUInt16.toUInt32.toInt32)), .val (.int ((((q1.toUInt32 >>> ((16 : Int32) &&& 31).toUInt32).toInt32) &&& (255 : Int32)).toUInt32.toUInt16.toUInt32.toInt32)), .val (.int ((((q1.toUInt32 >>> ((24 : Int32) &&& 31).toUInt32).toInt32) &&& (255 : Int32)).toUInt32.toUInt16.toUInt32.toInt32)), .val (.int ((q2 &&& (255 : Int32)).toUInt32.toUInt16.toUInt32.toInt32)), .val (.ref b9110), .val (.int (0 : Int32)), .val (.int v112), .val (.int v116)] [(.ref b9110)])) rfl (by rw [hml]; rfl) (argsL := [(.ref b9110)]) (rest := []) (lenOf pd_4 rfl) rfl (by show 2 * 0 + _ ≤ _; exact Nat.le_of_eq rfl) (hb hby at_157) (fun _ _ => ⟨rfl, rfl, (by decide : 3 + 4 ≤ _), (by decide : 6 + 28 ≤ _)⟩)
    dsimp only [Pt.U, Pt.locs, Pt.cells, Pt.slots] at X120 l120 y120 z120 st120 hQ120 hSn hgn C120
    have X120 : Stand p l e room_1 (s.setVm T120.vm) m #[(.int q0), (.int q1), (.int q2)] below meth c T120 L120 k120 n120 := X120
    have HC := HC.trans C120
    have hk120 := hk
    have hS := State.Since.trans hS hSn (Nat.le_trans hk120 hgn)
    have hk := Nat.le_refl T120.heap.size
    have hown : (s.setVm T120.vm).vm.findClass "com/example/avvik/avvik/io/XsdValuesIsTruePinLaw" = some m.cls := by rw [show (s.setVm T120.vm).vm = T120.vm from rfl, hSn.1.alike.findClass]; exact hown
    have hZ : Z.Warmed39 T120.vm := State.Warmed39.trans hZ hSn.1
    subst l120 y120 z120
    obtain ⟨rfl, N120q, Kq120⟩ := hQ120
    have N120 := Fr.app N110 N120q
    refine OFinH.tr st120 ?_
    have K120 : Keep h0 T120.heap [] := K110.trans Kq120 all0
    have sg122 : ∀ t, Steps p.tables e below (T120.setTop (mkF m 162 #[.val (.int q0), .val (.int q1), .val (.int q2), .val (.int (1 : Int32)), .val (.int ((q1 &&& (255 : Int32)).toUInt32.toUInt16.toUInt32.toInt32)), .val (.int ((((q1.toUInt32 >>> ((8 : Int32) &&& 31).toUInt32).toInt32) &&& (255 : Int32)).toUInt32.toUInt16.toUInt32.toInt32)), .val (.int ((((q1.toUInt32 >>> ((16 : Int32) &&& 31).toUInt32).toInt32) &&& (255 : Int32)).toUInt32.toUInt16.toUInt32.toInt32)), .val (.int ((((q1.toUInt32 >>> ((24 : Int32) &&& 31).toUInt32).toInt32) &&& (255 : Int32)).toUInt32.toUInt16.toUInt32.toInt32)), .val (.int ((q2 &&& (255 : Int32)).toUInt32.toUInt16.toUInt32.toInt32)), .val (.ref b9110), .val (.int (0 : Int32)), .val (.int v112), .val (.int v116)] [(.int v116), (.int (if ([(nar .char ((q1 &&& (255 : Int32)).toUInt32.toUInt16.toUInt32.toInt32))] : List Int32) = ([116, 114, 117, 101] : List Int32) ∨ ([(nar .char ((q1 &&& (255 : Int32)).toUInt32.toUInt16.toUInt32.toInt32))] : List Int32) = ([49] : List Int32) then (1 : Int32) else (0 : Int32)))])) t → Steps p.tables e below (T120.setTop (mkF m 160 #[.val (.int q0), .val (.int q1), .val (.int q2), .val (.int (1 : Int32)), .val (.int ((q1 &&& (255 : Int32)).toUInt32.toUInt16.toUInt32.toInt32)), .val (.int ((((q1.toUInt32 >>> ((8 : Int32) &&& 31).toUInt32).toInt32) &&& (255 : Int32)).toUInt32.toUInt16.toUInt32.toInt32)), .val (.int ((((q1.toUInt32 >>> ((16 : Int32) &&& 31).toUInt32).toInt32) &&& (255 : Int32)).toUInt32.toUInt16.toUInt32.toInt32)), .val (.int ((((q1.toUInt32 >>> ((24 : Int32) &&& 31).toUInt32).toInt32) &&& (255 : Int32)).toUInt32.toUInt16.toUInt32.toInt32)), .val (.int ((q2 &&& (255 : Int32)).toUInt32.toUInt16.toUInt32.toInt32)), .val (.ref b9110), .val (.int (0 : Int32)), .val (.int v112), .val (.int v116)] [(.int (if ([(nar .char ((q1 &&& (255 : Int32)).toUInt32.toUInt16.toUInt32.toInt32))] : List Int32) = ([116, 114, 117, 101] : List Int32) ∨ ([(nar .char ((q1 &&& (255 : Int32)).toUInt32.toUInt16.toUInt32.toInt32))] : List Int32) = ([49] : List Int32) then (1 : Int32) else (0 : Int32)))])) t := by
      intro t k
      show Steps p.tables e below (T120.setTop (mkF m 160 #[.val (.int q0), .val (.int q1), .val (.int q2), .val (.int (1 : Int32)), .val (.int ((q1 &&& (255 : Int32)).toUInt32.toUInt16.toUInt32.toInt32)), .val (.int ((((q1.toUInt32 >>> ((8 : Int32) &&& 31).toUInt32).toInt32) &&& (255 : Int32)).toUInt32.toUInt16.toUInt32.toInt32)), .val (.int ((((q1.toUInt32 >>> ((16 : Int32) &&& 31).toUInt32).toInt32) &&& (255 : Int32)).toUInt32.toUInt16.toUInt32.toInt32)), .val (.int ((((q1.toUInt32 >>> ((24 : Int32) &&& 31).toUInt32).toInt32) &&& (255 : Int32)).toUInt32.toUInt16.toUInt32.toInt32)), .val (.int ((q2 &&& (255 : Int32)).toUInt32.toUInt16.toUInt32.toInt32)), .val (.ref b9110), .val (.int (0 : Int32)), .val (.int v112), .val (.int v116)] [(.int (if ([(nar .char ((q1 &&& (255 : Int32)).toUInt32.toUInt16.toUInt32.toInt32))] : List Int32) = ([116, 114, 117, 101] : List Int32) ∨ ([(nar .char ((q1 &&& (255 : Int32)).toUInt32.toUInt16.toUInt32.toInt32))] : List Int32) = ([49] : List Int32) then (1 : Int32) else (0 : Int32)))])) t
      refine XS.iload X120.here hx rfl (hb hby at_160) rfl ?_
      exact k
    refine OFinH.go sg122 ?_
    have c121 : (if ([(nar .char ((q1 &&& (255 : Int32)).toUInt32.toUInt16.toUInt32.toInt32))] : List Int32) = ([116, 114, 117, 101] : List Int32) ∨ ([(nar .char ((q1 &&& (255 : Int32)).toUInt32.toUInt16.toUInt32.toInt32))] : List Int32) = ([49] : List Int32) then (1 : Int32) else (0 : Int32)) = v116 := (own_e1 _ _ v112 v116 (own_nar _) e_v112 e_v116)
    have sg123 : ∀ t, Steps p.tables e below (T120.setTop (mkF m 170 #[.val (.int q0), .val (.int q1), .val (.int q2), .val (.int (1 : Int32)), .val (.int ((q1 &&& (255 : Int32)).toUInt32.toUInt16.toUInt32.toInt32)), .val (.int ((((q1.toUInt32 >>> ((8 : Int32) &&& 31).toUInt32).toInt32) &&& (255 : Int32)).toUInt32.toUInt16.toUInt32.toInt32)), .val (.int ((((q1.toUInt32 >>> ((16 : Int32) &&& 31).toUInt32).toInt32) &&& (255 : Int32)).toUInt32.toUInt16.toUInt32.toInt32)), .val (.int ((((q1.toUInt32 >>> ((24 : Int32) &&& 31).toUInt32).toInt32) &&& (255 : Int32)).toUInt32.toUInt16.toUInt32.toInt32)), .val (.int ((q2 &&& (255 : Int32)).toUInt32.toUInt16.toUInt32.toInt32)), .val (.ref b9110), .val (.int (0 : Int32)), .val (.int v112), .val (.int v116)] [(.int (1 : Int32))])) t → Steps p.tables e below (T120.setTop (mkF m 162 #[.val (.int q0), .val (.int q1), .val (.int q2), .val (.int (1 : Int32)), .val (.int ((q1 &&& (255 : Int32)).toUInt32.toUInt16.toUInt32.toInt32)), .val (.int ((((q1.toUInt32 >>> ((8 : Int32) &&& 31).toUInt32).toInt32) &&& (255 : Int32)).toUInt32.toUInt16.toUInt32.toInt32)), .val (.int ((((q1.toUInt32 >>> ((16 : Int32) &&& 31).toUInt32).toInt32) &&& (255 : Int32)).toUInt32.toUInt16.toUInt32.toInt32)), .val (.int ((((q1.toUInt32 >>> ((24 : Int32) &&& 31).toUInt32).toInt32) &&& (255 : Int32)).toUInt32.toUInt16.toUInt32.toInt32)), .val (.int ((q2 &&& (255 : Int32)).toUInt32.toUInt16.toUInt32.toInt32)), .val (.ref b9110), .val (.int (0 : Int32)), .val (.int v112), .val (.int v116)] [(.int v116), (.int (if ([(nar .char ((q1 &&& (255 : Int32)).toUInt32.toUInt16.toUInt32.toInt32))] : List Int32) = ([116, 114, 117, 101] : List Int32) ∨ ([(nar .char ((q1 &&& (255 : Int32)).toUInt32.toUInt16.toUInt32.toInt32))] : List Int32) = ([49] : List Int32) then (1 : Int32) else (0 : Int32)))])) t := by
      intro t k
      show Steps p.tables e below (T120.setTop (mkF m 162 #[.val (.int q0), .val (.int q1), .val (.int q2), .val (.int (1 : Int32)), .val (.int ((q1 &&& (255 : Int32)).toUInt32.toUInt16.toUInt32.toInt32)), .val (.int ((((q1.toUInt32 >>> ((8 : Int32) &&& 31).toUInt32).toInt32) &&& (255 : Int32)).toUInt32.toUInt16.toUInt32.toInt32)), .val (.int ((((q1.toUInt32 >>> ((16 : Int32) &&& 31).toUInt32).toInt32) &&& (255 : Int32)).toUInt32.toUInt16.toUInt32.toInt32)), .val (.int ((((q1.toUInt32 >>> ((24 : Int32) &&& 31).toUInt32).toInt32) &&& (255 : Int32)).toUInt32.toUInt16.toUInt32.toInt32)), .val (.int ((q2 &&& (255 : Int32)).toUInt32.toUInt16.toUInt32.toInt32)), .val (.ref b9110), .val (.int (0 : Int32)), .val (.int v112), .val (.int v116)] [(.int v116), (.int (if ([(nar .char ((q1 &&& (255 : Int32)).toUInt32.toUInt16.toUInt32.toInt32))] : List Int32) = ([116, 114, 117, 101] : List Int32) ∨ ([(nar .char ((q1 &&& (255 : Int32)).toUInt32.toUInt16.toUInt32.toInt32))] : List Int32) = ([49] : List Int32) then (1 : Int32) else (0 : Int32)))])) t
      refine XS.icmpNo X120.here hx rfl (hb hby at_162) rfl (teq c121).2 ?_
      show Steps p.tables e below (T120.setTop (mkF m 165 #[.val (.int q0), .val (.int q1), .val (.int q2), .val (.int (1 : Int32)), .val (.int ((q1 &&& (255 : Int32)).toUInt32.toUInt16.toUInt32.toInt32)), .val (.int ((((q1.toUInt32 >>> ((8 : Int32) &&& 31).toUInt32).toInt32) &&& (255 : Int32)).toUInt32.toUInt16.toUInt32.toInt32)), .val (.int ((((q1.toUInt32 >>> ((16 : Int32) &&& 31).toUInt32).toInt32) &&& (255 : Int32)).toUInt32.toUInt16.toUInt32.toInt32)), .val (.int ((((q1.toUInt32 >>> ((24 : Int32) &&& 31).toUInt32).toInt32) &&& (255 : Int32)).toUInt32.toUInt16.toUInt32.toInt32)), .val (.int ((q2 &&& (255 : Int32)).toUInt32.toUInt16.toUInt32.toInt32)), .val (.ref b9110), .val (.int (0 : Int32)), .val (.int v112), .val (.int v116)] [])) t
      refine XS.iconst X120.here hx rfl (hb hby at_165) ?_
      show Steps p.tables e below (T120.setTop (mkF m 166 #[.val (.int q0), .val (.int q1), .val (.int q2), .val (.int (1 : Int32)), .val (.int ((q1 &&& (255 : Int32)).toUInt32.toUInt16.toUInt32.toInt32)), .val (.int ((((q1.toUInt32 >>> ((8 : Int32) &&& 31).toUInt32).toInt32) &&& (255 : Int32)).toUInt32.toUInt16.toUInt32.toInt32)), .val (.int ((((q1.toUInt32 >>> ((16 : Int32) &&& 31).toUInt32).toInt32) &&& (255 : Int32)).toUInt32.toUInt16.toUInt32.toInt32)), .val (.int ((((q1.toUInt32 >>> ((24 : Int32) &&& 31).toUInt32).toInt32) &&& (255 : Int32)).toUInt32.toUInt16.toUInt32.toInt32)), .val (.int ((q2 &&& (255 : Int32)).toUInt32.toUInt16.toUInt32.toInt32)), .val (.ref b9110), .val (.int (0 : Int32)), .val (.int v112), .val (.int v116)] [(.int (1 : Int32))])) t
      refine XS.goto X120.here hx rfl (pc0 := 166) (pc' := 170) rfl (hb hby at_166) (by decide) (by decide) ?_
      exact k
    refine OFinH.go sg123 ?_
    exact OFinH.retN X120 hS hk hZ hEL rfl HC hx hret (by simp) hlk (hb hby at_170) rfl ⟨rfl, N120⟩ (by decide) (by decide)
  · rw [hk7]
    have sg124 : ∀ t, Steps p.tables e below (s₁.setTop (mkF m 68 #[.val (.int q0), .val (.int q1), .val (.int q2), .val (.int (2 : Int32)), .val (.int ((q1 &&& (255 : Int32)).toUInt32.toUInt16.toUInt32.toInt32)), .val (.int ((((q1.toUInt32 >>> ((8 : Int32) &&& 31).toUInt32).toInt32) &&& (255 : Int32)).toUInt32.toUInt16.toUInt32.toInt32)), .val (.int ((((q1.toUInt32 >>> ((16 : Int32) &&& 31).toUInt32).toInt32) &&& (255 : Int32)).toUInt32.toUInt16.toUInt32.toInt32)), .val (.int ((((q1.toUInt32 >>> ((24 : Int32) &&& 31).toUInt32).toInt32) &&& (255 : Int32)).toUInt32.toUInt16.toUInt32.toInt32)), .val (.int ((q2 &&& (255 : Int32)).toUInt32.toUInt16.toUInt32.toInt32)), .unset, .unset, .unset, .unset] [(.int ((q2 &&& (255 : Int32)).toUInt32.toUInt16.toUInt32.toInt32)), (.int ((((q1.toUInt32 >>> ((24 : Int32) &&& 31).toUInt32).toInt32) &&& (255 : Int32)).toUInt32.toUInt16.toUInt32.toInt32)), (.int ((((q1.toUInt32 >>> ((16 : Int32) &&& 31).toUInt32).toInt32) &&& (255 : Int32)).toUInt32.toUInt16.toUInt32.toInt32)), (.int ((((q1.toUInt32 >>> ((8 : Int32) &&& 31).toUInt32).toInt32) &&& (255 : Int32)).toUInt32.toUInt16.toUInt32.toInt32)), (.int ((q1 &&& (255 : Int32)).toUInt32.toUInt16.toUInt32.toInt32)), (.int (2 : Int32))])) t → Steps p.tables e below (s₁.setTop (mkF m 57 #[.val (.int q0), .val (.int q1), .val (.int q2), .val (.int (2 : Int32)), .val (.int ((q1 &&& (255 : Int32)).toUInt32.toUInt16.toUInt32.toInt32)), .val (.int ((((q1.toUInt32 >>> ((8 : Int32) &&& 31).toUInt32).toInt32) &&& (255 : Int32)).toUInt32.toUInt16.toUInt32.toInt32)), .val (.int ((((q1.toUInt32 >>> ((16 : Int32) &&& 31).toUInt32).toInt32) &&& (255 : Int32)).toUInt32.toUInt16.toUInt32.toInt32)), .val (.int ((((q1.toUInt32 >>> ((24 : Int32) &&& 31).toUInt32).toInt32) &&& (255 : Int32)).toUInt32.toUInt16.toUInt32.toInt32)), .val (.int ((q2 &&& (255 : Int32)).toUInt32.toUInt16.toUInt32.toInt32)), .unset, .unset, .unset, .unset] [])) t := by
      intro t k
      show Steps p.tables e below (s₁.setTop (mkF m 57 #[.val (.int q0), .val (.int q1), .val (.int q2), .val (.int (2 : Int32)), .val (.int ((q1 &&& (255 : Int32)).toUInt32.toUInt16.toUInt32.toInt32)), .val (.int ((((q1.toUInt32 >>> ((8 : Int32) &&& 31).toUInt32).toInt32) &&& (255 : Int32)).toUInt32.toUInt16.toUInt32.toInt32)), .val (.int ((((q1.toUInt32 >>> ((16 : Int32) &&& 31).toUInt32).toInt32) &&& (255 : Int32)).toUInt32.toUInt16.toUInt32.toInt32)), .val (.int ((((q1.toUInt32 >>> ((24 : Int32) &&& 31).toUInt32).toInt32) &&& (255 : Int32)).toUInt32.toUInt16.toUInt32.toInt32)), .val (.int ((q2 &&& (255 : Int32)).toUInt32.toUInt16.toUInt32.toInt32)), .unset, .unset, .unset, .unset] [])) t
      refine XS.iloadN X0.here hx rfl (hb hby at_57) rfl ?_
      show Steps p.tables e below (s₁.setTop (mkF m 58 #[.val (.int q0), .val (.int q1), .val (.int q2), .val (.int (2 : Int32)), .val (.int ((q1 &&& (255 : Int32)).toUInt32.toUInt16.toUInt32.toInt32)), .val (.int ((((q1.toUInt32 >>> ((8 : Int32) &&& 31).toUInt32).toInt32) &&& (255 : Int32)).toUInt32.toUInt16.toUInt32.toInt32)), .val (.int ((((q1.toUInt32 >>> ((16 : Int32) &&& 31).toUInt32).toInt32) &&& (255 : Int32)).toUInt32.toUInt16.toUInt32.toInt32)), .val (.int ((((q1.toUInt32 >>> ((24 : Int32) &&& 31).toUInt32).toInt32) &&& (255 : Int32)).toUInt32.toUInt16.toUInt32.toInt32)), .val (.int ((q2 &&& (255 : Int32)).toUInt32.toUInt16.toUInt32.toInt32)), .unset, .unset, .unset, .unset] [(.int (2 : Int32))])) t
      refine XS.iload X0.here hx rfl (hb hby at_58) rfl ?_
      show Steps p.tables e below (s₁.setTop (mkF m 60 #[.val (.int q0), .val (.int q1), .val (.int q2), .val (.int (2 : Int32)), .val (.int ((q1 &&& (255 : Int32)).toUInt32.toUInt16.toUInt32.toInt32)), .val (.int ((((q1.toUInt32 >>> ((8 : Int32) &&& 31).toUInt32).toInt32) &&& (255 : Int32)).toUInt32.toUInt16.toUInt32.toInt32)), .val (.int ((((q1.toUInt32 >>> ((16 : Int32) &&& 31).toUInt32).toInt32) &&& (255 : Int32)).toUInt32.toUInt16.toUInt32.toInt32)), .val (.int ((((q1.toUInt32 >>> ((24 : Int32) &&& 31).toUInt32).toInt32) &&& (255 : Int32)).toUInt32.toUInt16.toUInt32.toInt32)), .val (.int ((q2 &&& (255 : Int32)).toUInt32.toUInt16.toUInt32.toInt32)), .unset, .unset, .unset, .unset] [(.int ((q1 &&& (255 : Int32)).toUInt32.toUInt16.toUInt32.toInt32)), (.int (2 : Int32))])) t
      refine XS.iload X0.here hx rfl (hb hby at_60) rfl ?_
      show Steps p.tables e below (s₁.setTop (mkF m 62 #[.val (.int q0), .val (.int q1), .val (.int q2), .val (.int (2 : Int32)), .val (.int ((q1 &&& (255 : Int32)).toUInt32.toUInt16.toUInt32.toInt32)), .val (.int ((((q1.toUInt32 >>> ((8 : Int32) &&& 31).toUInt32).toInt32) &&& (255 : Int32)).toUInt32.toUInt16.toUInt32.toInt32)), .val (.int ((((q1.toUInt32 >>> ((16 : Int32) &&& 31).toUInt32).toInt32) &&& (255 : Int32)).toUInt32.toUInt16.toUInt32.toInt32)), .val (.int ((((q1.toUInt32 >>> ((24 : Int32) &&& 31).toUInt32).toInt32) &&& (255 : Int32)).toUInt32.toUInt16.toUInt32.toInt32)), .val (.int ((q2 &&& (255 : Int32)).toUInt32.toUInt16.toUInt32.toInt32)), .unset, .unset, .unset, .unset] [(.int ((((q1.toUInt32 >>> ((8 : Int32) &&& 31).toUInt32).toInt32) &&& (255 : Int32)).toUInt32.toUInt16.toUInt32.toInt32)), (.int ((q1 &&& (255 : Int32)).toUInt32.toUInt16.toUInt32.toInt32)), (.int (2 : Int32))])) t
      refine XS.iload X0.here hx rfl (hb hby at_62) rfl ?_
      show Steps p.tables e below (s₁.setTop (mkF m 64 #[.val (.int q0), .val (.int q1), .val (.int q2), .val (.int (2 : Int32)), .val (.int ((q1 &&& (255 : Int32)).toUInt32.toUInt16.toUInt32.toInt32)), .val (.int ((((q1.toUInt32 >>> ((8 : Int32) &&& 31).toUInt32).toInt32) &&& (255 : Int32)).toUInt32.toUInt16.toUInt32.toInt32)), .val (.int ((((q1.toUInt32 >>> ((16 : Int32) &&& 31).toUInt32).toInt32) &&& (255 : Int32)).toUInt32.toUInt16.toUInt32.toInt32)), .val (.int ((((q1.toUInt32 >>> ((24 : Int32) &&& 31).toUInt32).toInt32) &&& (255 : Int32)).toUInt32.toUInt16.toUInt32.toInt32)), .val (.int ((q2 &&& (255 : Int32)).toUInt32.toUInt16.toUInt32.toInt32)), .unset, .unset, .unset, .unset] [(.int ((((q1.toUInt32 >>> ((16 : Int32) &&& 31).toUInt32).toInt32) &&& (255 : Int32)).toUInt32.toUInt16.toUInt32.toInt32)), (.int ((((q1.toUInt32 >>> ((8 : Int32) &&& 31).toUInt32).toInt32) &&& (255 : Int32)).toUInt32.toUInt16.toUInt32.toInt32)), (.int ((q1 &&& (255 : Int32)).toUInt32.toUInt16.toUInt32.toInt32)), (.int (2 : Int32))])) t
      refine XS.iload X0.here hx rfl (hb hby at_64) rfl ?_
      show Steps p.tables e below (s₁.setTop (mkF m 66 #[.val (.int q0), .val (.int q1), .val (.int q2), .val (.int (2 : Int32)), .val (.int ((q1 &&& (255 : Int32)).toUInt32.toUInt16.toUInt32.toInt32)), .val (.int ((((q1.toUInt32 >>> ((8 : Int32) &&& 31).toUInt32).toInt32) &&& (255 : Int32)).toUInt32.toUInt16.toUInt32.toInt32)), .val (.int ((((q1.toUInt32 >>> ((16 : Int32) &&& 31).toUInt32).toInt32) &&& (255 : Int32)).toUInt32.toUInt16.toUInt32.toInt32)), .val (.int ((((q1.toUInt32 >>> ((24 : Int32) &&& 31).toUInt32).toInt32) &&& (255 : Int32)).toUInt32.toUInt16.toUInt32.toInt32)), .val (.int ((q2 &&& (255 : Int32)).toUInt32.toUInt16.toUInt32.toInt32)), .unset, .unset, .unset, .unset] [(.int ((((q1.toUInt32 >>> ((24 : Int32) &&& 31).toUInt32).toInt32) &&& (255 : Int32)).toUInt32.toUInt16.toUInt32.toInt32)), (.int ((((q1.toUInt32 >>> ((16 : Int32) &&& 31).toUInt32).toInt32) &&& (255 : Int32)).toUInt32.toUInt16.toUInt32.toInt32)), (.int ((((q1.toUInt32 >>> ((8 : Int32) &&& 31).toUInt32).toInt32) &&& (255 : Int32)).toUInt32.toUInt16.toUInt32.toInt32)), (.int ((q1 &&& (255 : Int32)).toUInt32.toUInt16.toUInt32.toInt32)), (.int (2 : Int32))])) t
      refine XS.iload X0.here hx rfl (hb hby at_66) rfl ?_
      exact k
    refine OFinH.go sg124 ?_
    obtain ⟨_, _, ⟨T125, L125, k125, n125⟩, -, X125, hSn, hgn, ⟨Lc125, hQ125, l125, y125, z125, C125⟩, st125⟩ := callSS X0 hx (y := (⟨"com/example/avvik/avvik/io/XsdValuesIsTruePinLaw", "make", "(ICCCCC)Ljava/lang/String;"⟩ : MethodName)) hown (mvT hZ (hw _ (List.mem_of_getElem? (i := 1) rfl))) (mvT hZ (hw _ (List.mem_of_getElem? (i := 2) rfl))) (mvT hZ (hw _ (List.mem_of_getElem? (i := 3) rfl))) (mvT hZ (hw _ (List.mem_of_getElem? (i := 4) rfl))) (by decide) (own_back (W := 0) (sf := []) (rm1k2 l Z aZ hw hEL [] ((q1 &&& (255 : Int32)).toUInt32.toUInt16.toUInt32.toInt32) ((((q1.toUInt32 >>> ((8 : Int32) &&& 31).toUInt32).toInt32) &&& (255 : Int32)).toUInt32.toUInt16.toUInt32.toInt32) ((((q1.toUInt32 >>> ((16 : Int32) &&& 31).toUInt32).toInt32) &&& (255 : Int32)).toUInt32.toUInt16.toUInt32.toInt32) ((((q1.toUInt32 >>> ((24 : Int32) &&& 31).toUInt32).toInt32) &&& (255 : Int32)).toUInt32.toUInt16.toUInt32.toInt32) ((q2 &&& (255 : Int32)).toUInt32.toUInt16.toUInt32.toInt32) w1 h0 n0 (Nat.le_trans Z0 K0.1) O0 S1 hcs (own_ch _) (own_ch _)) hZ (hw _ (List.mem_of_getElem? (i := 4) rfl)) (hw _ (List.mem_of_getElem? (i := 3) rfl)) (by decide) (by decide) hEL HC.1 all0 all0) (g := (mkF m 68 #[.val (.int q0), .val (.int q1), .val (.int q2), .val (.int (2 : Int32)), .val (.int ((q1 &&& (255 : Int32)).toUInt32.toUInt16.toUInt32.toInt32)), .val (.int ((((q1.toUInt32 >>> ((8 : Int32) &&& 31).toUInt32).toInt32) &&& (255 : Int32)).toUInt32.toUInt16.toUInt32.toInt32)), .val (.int ((((q1.toUInt32 >>> ((16 : Int32) &&& 31).toUInt32).toInt32) &&& (255 : Int32)).toUInt32.toUInt16.toUInt32.toInt32)), .val (.int ((((q1.toUInt32 >>> ((24 : Int32) &&& 31).toUInt32).toInt32) &&& (255 : Int32)).toUInt32.toUInt16.toUInt32.toInt32)), .val (.int ((q2 &&& (255 : Int32)).toUInt32.toUInt16.toUInt32.toInt32)), .unset, .unset, .unset, .unset] [(.int ((q2 &&& (255 : Int32)).toUInt32.toUInt16.toUInt32.toInt32)), (.int ((((q1.toUInt32 >>> ((24 : Int32) &&& 31).toUInt32).toInt32) &&& (255 : Int32)).toUInt32.toUInt16.toUInt32.toInt32)), (.int ((((q1.toUInt32 >>> ((16 : Int32) &&& 31).toUInt32).toInt32) &&& (255 : Int32)).toUInt32.toUInt16.toUInt32.toInt32)), (.int ((((q1.toUInt32 >>> ((8 : Int32) &&& 31).toUInt32).toInt32) &&& (255 : Int32)).toUInt32.toUInt16.toUInt32.toInt32)), (.int ((q1 &&& (255 : Int32)).toUInt32.toUInt16.toUInt32.toInt32)), (.int (2 : Int32))])) rfl (by rw [hml]; rfl) (argsL := [(.int (2 : Int32)), (.int ((q1 &&& (255 : Int32)).toUInt32.toUInt16.toUInt32.toInt32)), (.int ((((q1.toUInt32 >>> ((8 : Int32) &&& 31).toUInt32).toInt32) &&& (255 : Int32)).toUInt32.toUInt16.toUInt32.toInt32)), (.int ((((q1.toUInt32 >>> ((16 : Int32) &&& 31).toUInt32).toInt32) &&& (255 : Int32)).toUInt32.toUInt16.toUInt32.toInt32)), (.int ((((q1.toUInt32 >>> ((24 : Int32) &&& 31).toUInt32).toInt32) &&& (255 : Int32)).toUInt32.toUInt16.toUInt32.toInt32)), (.int ((q2 &&& (255 : Int32)).toUInt32.toUInt16.toUInt32.toInt32))]) (rest := []) (lenOf pd_3 rfl) rfl (by show 2 * 0 + _ ≤ _; exact Nat.le_of_eq rfl) (hb hby at_68) (fun _ _ => ⟨rfl, e0, (by decide : 0 + 3 ≤ _), (by decide : 0 + 8 ≤ _)⟩)
    dsimp only [Pt.U, Pt.locs, Pt.cells, Pt.slots] at X125 l125 y125 z125 st125 hQ125 hSn hgn C125
    have X125 : Stand p l e room_1 (s.setVm T125.vm) m #[(.int q0), (.int q1), (.int q2)] below meth c T125 L125 k125 n125 := X125
    have HC := HC.trans C125
    have hk125 := hk
    have hS := State.Since.trans hS hSn (Nat.le_trans hk125 (by rw [← e0]; exact hgn))
    have hk := Nat.le_refl T125.heap.size
    have hown : (s.setVm T125.vm).vm.findClass "com/example/avvik/avvik/io/XsdValuesIsTruePinLaw" = some m.cls := by rw [show (s.setVm T125.vm).vm = T125.vm from rfl, hSn.1.alike.findClass]; exact hown
    have hZ : Z.Warmed39 T125.vm := State.Warmed39.trans hZ hSn.1
    subst l125 y125 z125
    obtain ⟨b9125, t9125, k9125, rfl, N125q, Kq125, P125_0, P125_1, P125_2, P125_3⟩ := hQ125
    have N125 := Fr.app N0 N125q
    refine OFinH.tr st125 ?_
    have K125 : Keep h0 T125.heap [] := K0.trans Kq125 all0
    have sg126 : ∀ t, Steps p.tables e below (T125.setTop (mkF m 157 #[.val (.int q0), .val (.int q1), .val (.int q2), .val (.int (2 : Int32)), .val (.int ((q1 &&& (255 : Int32)).toUInt32.toUInt16.toUInt32.toInt32)), .val (.int ((((q1.toUInt32 >>> ((8 : Int32) &&& 31).toUInt32).toInt32) &&& (255 : Int32)).toUInt32.toUInt16.toUInt32.toInt32)), .val (.int ((((q1.toUInt32 >>> ((16 : Int32) &&& 31).toUInt32).toInt32) &&& (255 : Int32)).toUInt32.toUInt16.toUInt32.toInt32)), .val (.int ((((q1.toUInt32 >>> ((24 : Int32) &&& 31).toUInt32).toInt32) &&& (255 : Int32)).toUInt32.toUInt16.toUInt32.toInt32)), .val (.int ((q2 &&& (255 : Int32)).toUInt32.toUInt16.toUInt32.toInt32)), .val (.ref b9125), .val (.int (0 : Int32)), .val (.int (0 : Int32)), .val (.int (0 : Int32))] [(.ref b9125)])) t → Steps p.tables e below (T125.setTop (mkF m 71 #[.val (.int q0), .val (.int q1), .val (.int q2), .val (.int (2 : Int32)), .val (.int ((q1 &&& (255 : Int32)).toUInt32.toUInt16.toUInt32.toInt32)), .val (.int ((((q1.toUInt32 >>> ((8 : Int32) &&& 31).toUInt32).toInt32) &&& (255 : Int32)).toUInt32.toUInt16.toUInt32.toInt32)), .val (.int ((((q1.toUInt32 >>> ((16 : Int32) &&& 31).toUInt32).toInt32) &&& (255 : Int32)).toUInt32.toUInt16.toUInt32.toInt32)), .val (.int ((((q1.toUInt32 >>> ((24 : Int32) &&& 31).toUInt32).toInt32) &&& (255 : Int32)).toUInt32.toUInt16.toUInt32.toInt32)), .val (.int ((q2 &&& (255 : Int32)).toUInt32.toUInt16.toUInt32.toInt32)), .unset, .unset, .unset, .unset] [(.ref b9125)])) t := by
      intro t k
      show Steps p.tables e below (T125.setTop (mkF m 71 #[.val (.int q0), .val (.int q1), .val (.int q2), .val (.int (2 : Int32)), .val (.int ((q1 &&& (255 : Int32)).toUInt32.toUInt16.toUInt32.toInt32)), .val (.int ((((q1.toUInt32 >>> ((8 : Int32) &&& 31).toUInt32).toInt32) &&& (255 : Int32)).toUInt32.toUInt16.toUInt32.toInt32)), .val (.int ((((q1.toUInt32 >>> ((16 : Int32) &&& 31).toUInt32).toInt32) &&& (255 : Int32)).toUInt32.toUInt16.toUInt32.toInt32)), .val (.int ((((q1.toUInt32 >>> ((24 : Int32) &&& 31).toUInt32).toInt32) &&& (255 : Int32)).toUInt32.toUInt16.toUInt32.toInt32)), .val (.int ((q2 &&& (255 : Int32)).toUInt32.toUInt16.toUInt32.toInt32)), .unset, .unset, .unset, .unset] [(.ref b9125)])) t
      refine XS.astore X125.here hx rfl (hb hby at_71) rfl rfl (l' := #[.val (.int q0), .val (.int q1), .val (.int q2), .val (.int (2 : Int32)), .val (.int ((q1 &&& (255 : Int32)).toUInt32.toUInt16.toUInt32.toInt32)), .val (.int ((((q1.toUInt32 >>> ((8 : Int32) &&& 31).toUInt32).toInt32) &&& (255 : Int32)).toUInt32.toUInt16.toUInt32.toInt32)), .val (.int ((((q1.toUInt32 >>> ((16 : Int32) &&& 31).toUInt32).toInt32) &&& (255 : Int32)).toUInt32.toUInt16.toUInt32.toInt32)), .val (.int ((((q1.toUInt32 >>> ((24 : Int32) &&& 31).toUInt32).toInt32) &&& (255 : Int32)).toUInt32.toUInt16.toUInt32.toInt32)), .val (.int ((q2 &&& (255 : Int32)).toUInt32.toUInt16.toUInt32.toInt32)), .val (.ref b9125), .unset, .unset, .unset]) rfl ?_
      show Steps p.tables e below (T125.setTop (mkF m 73 #[.val (.int q0), .val (.int q1), .val (.int q2), .val (.int (2 : Int32)), .val (.int ((q1 &&& (255 : Int32)).toUInt32.toUInt16.toUInt32.toInt32)), .val (.int ((((q1.toUInt32 >>> ((8 : Int32) &&& 31).toUInt32).toInt32) &&& (255 : Int32)).toUInt32.toUInt16.toUInt32.toInt32)), .val (.int ((((q1.toUInt32 >>> ((16 : Int32) &&& 31).toUInt32).toInt32) &&& (255 : Int32)).toUInt32.toUInt16.toUInt32.toInt32)), .val (.int ((((q1.toUInt32 >>> ((24 : Int32) &&& 31).toUInt32).toInt32) &&& (255 : Int32)).toUInt32.toUInt16.toUInt32.toInt32)), .val (.int ((q2 &&& (255 : Int32)).toUInt32.toUInt16.toUInt32.toInt32)), .val (.ref b9125), .unset, .unset, .unset] [])) t
      refine XS.iloadN X125.here hx rfl (hb hby at_73) rfl ?_
      show Steps p.tables e below (T125.setTop (mkF m 74 #[.val (.int q0), .val (.int q1), .val (.int q2), .val (.int (2 : Int32)), .val (.int ((q1 &&& (255 : Int32)).toUInt32.toUInt16.toUInt32.toInt32)), .val (.int ((((q1.toUInt32 >>> ((8 : Int32) &&& 31).toUInt32).toInt32) &&& (255 : Int32)).toUInt32.toUInt16.toUInt32.toInt32)), .val (.int ((((q1.toUInt32 >>> ((16 : Int32) &&& 31).toUInt32).toInt32) &&& (255 : Int32)).toUInt32.toUInt16.toUInt32.toInt32)), .val (.int ((((q1.toUInt32 >>> ((24 : Int32) &&& 31).toUInt32).toInt32) &&& (255 : Int32)).toUInt32.toUInt16.toUInt32.toInt32)), .val (.int ((q2 &&& (255 : Int32)).toUInt32.toUInt16.toUInt32.toInt32)), .val (.ref b9125), .unset, .unset, .unset] [(.int (2 : Int32))])) t
      refine XS.iconst X125.here hx rfl (hb hby at_74) ?_
      show Steps p.tables e below (T125.setTop (mkF m 75 #[.val (.int q0), .val (.int q1), .val (.int q2), .val (.int (2 : Int32)), .val (.int ((q1 &&& (255 : Int32)).toUInt32.toUInt16.toUInt32.toInt32)), .val (.int ((((q1.toUInt32 >>> ((8 : Int32) &&& 31).toUInt32).toInt32) &&& (255 : Int32)).toUInt32.toUInt16.toUInt32.toInt32)), .val (.int ((((q1.toUInt32 >>> ((16 : Int32) &&& 31).toUInt32).toInt32) &&& (255 : Int32)).toUInt32.toUInt16.toUInt32.toInt32)), .val (.int ((((q1.toUInt32 >>> ((24 : Int32) &&& 31).toUInt32).toInt32) &&& (255 : Int32)).toUInt32.toUInt16.toUInt32.toInt32)), .val (.int ((q2 &&& (255 : Int32)).toUInt32.toUInt16.toUInt32.toInt32)), .val (.ref b9125), .unset, .unset, .unset] [(.int (4 : Int32)), (.int (2 : Int32))])) t
      refine XS.icmpYes X125.here hx rfl (pc0 := 75) (pc' := 110) rfl (hb hby at_75) rfl (feq (by decide : ¬ ((2 : Int32) = (4 : Int32)))).2 (by decide) (by decide) ?_
      show Steps p.tables e below (T125.setTop (mkF m 110 #[.val (.int q0), .val (.int q1), .val (.int q2), .val (.int (2 : Int32)), .val (.int ((q1 &&& (255 : Int32)).toUInt32.toUInt16.toUInt32.toInt32)), .val (.int ((((q1.toUInt32 >>> ((8 : Int32) &&& 31).toUInt32).toInt32) &&& (255 : Int32)).toUInt32.toUInt16.toUInt32.toInt32)), .val (.int ((((q1.toUInt32 >>> ((16 : Int32) &&& 31).toUInt32).toInt32) &&& (255 : Int32)).toUInt32.toUInt16.toUInt32.toInt32)), .val (.int ((((q1.toUInt32 >>> ((24 : Int32) &&& 31).toUInt32).toInt32) &&& (255 : Int32)).toUInt32.toUInt16.toUInt32.toInt32)), .val (.int ((q2 &&& (255 : Int32)).toUInt32.toUInt16.toUInt32.toInt32)), .val (.ref b9125), .unset, .unset, .unset] [])) t
      refine XS.iconst X125.here hx rfl (hb hby at_110) ?_
      show Steps p.tables e below (T125.setTop (mkF m 111 #[.val (.int q0), .val (.int q1), .val (.int q2), .val (.int (2 : Int32)), .val (.int ((q1 &&& (255 : Int32)).toUInt32.toUInt16.toUInt32.toInt32)), .val (.int ((((q1.toUInt32 >>> ((8 : Int32) &&& 31).toUInt32).toInt32) &&& (255 : Int32)).toUInt32.toUInt16.toUInt32.toInt32)), .val (.int ((((q1.toUInt32 >>> ((16 : Int32) &&& 31).toUInt32).toInt32) &&& (255 : Int32)).toUInt32.toUInt16.toUInt32.toInt32)), .val (.int ((((q1.toUInt32 >>> ((24 : Int32) &&& 31).toUInt32).toInt32) &&& (255 : Int32)).toUInt32.toUInt16.toUInt32.toInt32)), .val (.int ((q2 &&& (255 : Int32)).toUInt32.toUInt16.toUInt32.toInt32)), .val (.ref b9125), .unset, .unset, .unset] [(.int (0 : Int32))])) t
      refine XS.istore X125.here hx rfl (hb hby at_111) rfl (l' := #[.val (.int q0), .val (.int q1), .val (.int q2), .val (.int (2 : Int32)), .val (.int ((q1 &&& (255 : Int32)).toUInt32.toUInt16.toUInt32.toInt32)), .val (.int ((((q1.toUInt32 >>> ((8 : Int32) &&& 31).toUInt32).toInt32) &&& (255 : Int32)).toUInt32.toUInt16.toUInt32.toInt32)), .val (.int ((((q1.toUInt32 >>> ((16 : Int32) &&& 31).toUInt32).toInt32) &&& (255 : Int32)).toUInt32.toUInt16.toUInt32.toInt32)), .val (.int ((((q1.toUInt32 >>> ((24 : Int32) &&& 31).toUInt32).toInt32) &&& (255 : Int32)).toUInt32.toUInt16.toUInt32.toInt32)), .val (.int ((q2 &&& (255 : Int32)).toUInt32.toUInt16.toUInt32.toInt32)), .val (.ref b9125), .val (.int (0 : Int32)), .unset, .unset]) rfl ?_
      show Steps p.tables e below (T125.setTop (mkF m 113 #[.val (.int q0), .val (.int q1), .val (.int q2), .val (.int (2 : Int32)), .val (.int ((q1 &&& (255 : Int32)).toUInt32.toUInt16.toUInt32.toInt32)), .val (.int ((((q1.toUInt32 >>> ((8 : Int32) &&& 31).toUInt32).toInt32) &&& (255 : Int32)).toUInt32.toUInt16.toUInt32.toInt32)), .val (.int ((((q1.toUInt32 >>> ((16 : Int32) &&& 31).toUInt32).toInt32) &&& (255 : Int32)).toUInt32.toUInt16.toUInt32.toInt32)), .val (.int ((((q1.toUInt32 >>> ((24 : Int32) &&& 31).toUInt32).toInt32) &&& (255 : Int32)).toUInt32.toUInt16.toUInt32.toInt32)), .val (.int ((q2 &&& (255 : Int32)).toUInt32.toUInt16.toUInt32.toInt32)), .val (.ref b9125), .val (.int (0 : Int32)), .unset, .unset] [])) t
      refine XS.iloadN X125.here hx rfl (hb hby at_113) rfl ?_
      show Steps p.tables e below (T125.setTop (mkF m 114 #[.val (.int q0), .val (.int q1), .val (.int q2), .val (.int (2 : Int32)), .val (.int ((q1 &&& (255 : Int32)).toUInt32.toUInt16.toUInt32.toInt32)), .val (.int ((((q1.toUInt32 >>> ((8 : Int32) &&& 31).toUInt32).toInt32) &&& (255 : Int32)).toUInt32.toUInt16.toUInt32.toInt32)), .val (.int ((((q1.toUInt32 >>> ((16 : Int32) &&& 31).toUInt32).toInt32) &&& (255 : Int32)).toUInt32.toUInt16.toUInt32.toInt32)), .val (.int ((((q1.toUInt32 >>> ((24 : Int32) &&& 31).toUInt32).toInt32) &&& (255 : Int32)).toUInt32.toUInt16.toUInt32.toInt32)), .val (.int ((q2 &&& (255 : Int32)).toUInt32.toUInt16.toUInt32.toInt32)), .val (.ref b9125), .val (.int (0 : Int32)), .unset, .unset] [(.int (2 : Int32))])) t
      refine XS.iconst X125.here hx rfl (hb hby at_114) ?_
      show Steps p.tables e below (T125.setTop (mkF m 115 #[.val (.int q0), .val (.int q1), .val (.int q2), .val (.int (2 : Int32)), .val (.int ((q1 &&& (255 : Int32)).toUInt32.toUInt16.toUInt32.toInt32)), .val (.int ((((q1.toUInt32 >>> ((8 : Int32) &&& 31).toUInt32).toInt32) &&& (255 : Int32)).toUInt32.toUInt16.toUInt32.toInt32)), .val (.int ((((q1.toUInt32 >>> ((16 : Int32) &&& 31).toUInt32).toInt32) &&& (255 : Int32)).toUInt32.toUInt16.toUInt32.toInt32)), .val (.int ((((q1.toUInt32 >>> ((24 : Int32) &&& 31).toUInt32).toInt32) &&& (255 : Int32)).toUInt32.toUInt16.toUInt32.toInt32)), .val (.int ((q2 &&& (255 : Int32)).toUInt32.toUInt16.toUInt32.toInt32)), .val (.ref b9125), .val (.int (0 : Int32)), .unset, .unset] [(.int (1 : Int32)), (.int (2 : Int32))])) t
      refine XS.icmpYes X125.here hx rfl (pc0 := 115) (pc' := 129) rfl (hb hby at_115) rfl (feq (by decide : ¬ ((2 : Int32) = (1 : Int32)))).2 (by decide) (by decide) ?_
      show Steps p.tables e below (T125.setTop (mkF m 129 #[.val (.int q0), .val (.int q1), .val (.int q2), .val (.int (2 : Int32)), .val (.int ((q1 &&& (255 : Int32)).toUInt32.toUInt16.toUInt32.toInt32)), .val (.int ((((q1.toUInt32 >>> ((8 : Int32) &&& 31).toUInt32).toInt32) &&& (255 : Int32)).toUInt32.toUInt16.toUInt32.toInt32)), .val (.int ((((q1.toUInt32 >>> ((16 : Int32) &&& 31).toUInt32).toInt32) &&& (255 : Int32)).toUInt32.toUInt16.toUInt32.toInt32)), .val (.int ((((q1.toUInt32 >>> ((24 : Int32) &&& 31).toUInt32).toInt32) &&& (255 : Int32)).toUInt32.toUInt16.toUInt32.toInt32)), .val (.int ((q2 &&& (255 : Int32)).toUInt32.toUInt16.toUInt32.toInt32)), .val (.ref b9125), .val (.int (0 : Int32)), .unset, .unset] [])) t
      refine XS.iconst X125.here hx rfl (hb hby at_129) ?_
      show Steps p.tables e below (T125.setTop (mkF m 130 #[.val (.int q0), .val (.int q1), .val (.int q2), .val (.int (2 : Int32)), .val (.int ((q1 &&& (255 : Int32)).toUInt32.toUInt16.toUInt32.toInt32)), .val (.int ((((q1.toUInt32 >>> ((8 : Int32) &&& 31).toUInt32).toInt32) &&& (255 : Int32)).toUInt32.toUInt16.toUInt32.toInt32)), .val (.int ((((q1.toUInt32 >>> ((16 : Int32) &&& 31).toUInt32).toInt32) &&& (255 : Int32)).toUInt32.toUInt16.toUInt32.toInt32)), .val (.int ((((q1.toUInt32 >>> ((24 : Int32) &&& 31).toUInt32).toInt32) &&& (255 : Int32)).toUInt32.toUInt16.toUInt32.toInt32)), .val (.int ((q2 &&& (255 : Int32)).toUInt32.toUInt16.toUInt32.toInt32)), .val (.ref b9125), .val (.int (0 : Int32)), .unset, .unset] [(.int (0 : Int32))])) t
      refine XS.istore X125.here hx rfl (hb hby at_130) rfl (l' := #[.val (.int q0), .val (.int q1), .val (.int q2), .val (.int (2 : Int32)), .val (.int ((q1 &&& (255 : Int32)).toUInt32.toUInt16.toUInt32.toInt32)), .val (.int ((((q1.toUInt32 >>> ((8 : Int32) &&& 31).toUInt32).toInt32) &&& (255 : Int32)).toUInt32.toUInt16.toUInt32.toInt32)), .val (.int ((((q1.toUInt32 >>> ((16 : Int32) &&& 31).toUInt32).toInt32) &&& (255 : Int32)).toUInt32.toUInt16.toUInt32.toInt32)), .val (.int ((((q1.toUInt32 >>> ((24 : Int32) &&& 31).toUInt32).toInt32) &&& (255 : Int32)).toUInt32.toUInt16.toUInt32.toInt32)), .val (.int ((q2 &&& (255 : Int32)).toUInt32.toUInt16.toUInt32.toInt32)), .val (.ref b9125), .val (.int (0 : Int32)), .val (.int (0 : Int32)), .unset]) rfl ?_
      show Steps p.tables e below (T125.setTop (mkF m 132 #[.val (.int q0), .val (.int q1), .val (.int q2), .val (.int (2 : Int32)), .val (.int ((q1 &&& (255 : Int32)).toUInt32.toUInt16.toUInt32.toInt32)), .val (.int ((((q1.toUInt32 >>> ((8 : Int32) &&& 31).toUInt32).toInt32) &&& (255 : Int32)).toUInt32.toUInt16.toUInt32.toInt32)), .val (.int ((((q1.toUInt32 >>> ((16 : Int32) &&& 31).toUInt32).toInt32) &&& (255 : Int32)).toUInt32.toUInt16.toUInt32.toInt32)), .val (.int ((((q1.toUInt32 >>> ((24 : Int32) &&& 31).toUInt32).toInt32) &&& (255 : Int32)).toUInt32.toUInt16.toUInt32.toInt32)), .val (.int ((q2 &&& (255 : Int32)).toUInt32.toUInt16.toUInt32.toInt32)), .val (.ref b9125), .val (.int (0 : Int32)), .val (.int (0 : Int32)), .unset] [])) t
      refine XS.iloadN X125.here hx rfl (hb hby at_132) rfl ?_
      show Steps p.tables e below (T125.setTop (mkF m 133 #[.val (.int q0), .val (.int q1), .val (.int q2), .val (.int (2 : Int32)), .val (.int ((q1 &&& (255 : Int32)).toUInt32.toUInt16.toUInt32.toInt32)), .val (.int ((((q1.toUInt32 >>> ((8 : Int32) &&& 31).toUInt32).toInt32) &&& (255 : Int32)).toUInt32.toUInt16.toUInt32.toInt32)), .val (.int ((((q1.toUInt32 >>> ((16 : Int32) &&& 31).toUInt32).toInt32) &&& (255 : Int32)).toUInt32.toUInt16.toUInt32.toInt32)), .val (.int ((((q1.toUInt32 >>> ((24 : Int32) &&& 31).toUInt32).toInt32) &&& (255 : Int32)).toUInt32.toUInt16.toUInt32.toInt32)), .val (.int ((q2 &&& (255 : Int32)).toUInt32.toUInt16.toUInt32.toInt32)), .val (.ref b9125), .val (.int (0 : Int32)), .val (.int (0 : Int32)), .unset] [(.int (2 : Int32))])) t
      refine XS.bipush X125.here hx rfl (hb hby at_133) ?_
      show Steps p.tables e below (T125.setTop (mkF m 135 #[.val (.int q0), .val (.int q1), .val (.int q2), .val (.int (2 : Int32)), .val (.int ((q1 &&& (255 : Int32)).toUInt32.toUInt16.toUInt32.toInt32)), .val (.int ((((q1.toUInt32 >>> ((8 : Int32) &&& 31).toUInt32).toInt32) &&& (255 : Int32)).toUInt32.toUInt16.toUInt32.toInt32)), .val (.int ((((q1.toUInt32 >>> ((16 : Int32) &&& 31).toUInt32).toInt32) &&& (255 : Int32)).toUInt32.toUInt16.toUInt32.toInt32)), .val (.int ((((q1.toUInt32 >>> ((24 : Int32) &&& 31).toUInt32).toInt32) &&& (255 : Int32)).toUInt32.toUInt16.toUInt32.toInt32)), .val (.int ((q2 &&& (255 : Int32)).toUInt32.toUInt16.toUInt32.toInt32)), .val (.ref b9125), .val (.int (0 : Int32)), .val (.int (0 : Int32)), .unset] [(.int (6 : Int32)), (.int (2 : Int32))])) t
      refine XS.icmpNo X125.here hx rfl (hb hby at_135) rfl (feq (by decide : ¬ ((2 : Int32) = (6 : Int32)))).1 ?_
      show Steps p.tables e below (T125.setTop (mkF m 138 #[.val (.int q0), .val (.int q1), .val (.int q2), .val (.int (2 : Int32)), .val (.int ((q1 &&& (255 : Int32)).toUInt32.toUInt16.toUInt32.toInt32)), .val (.int ((((q1.toUInt32 >>> ((8 : Int32) &&& 31).toUInt32).toInt32) &&& (255 : Int32)).toUInt32.toUInt16.toUInt32.toInt32)), .val (.int ((((q1.toUInt32 >>> ((16 : Int32) &&& 31).toUInt32).toInt32) &&& (255 : Int32)).toUInt32.toUInt16.toUInt32.toInt32)), .val (.int ((((q1.toUInt32 >>> ((24 : Int32) &&& 31).toUInt32).toInt32) &&& (255 : Int32)).toUInt32.toUInt16.toUInt32.toInt32)), .val (.int ((q2 &&& (255 : Int32)).toUInt32.toUInt16.toUInt32.toInt32)), .val (.ref b9125), .val (.int (0 : Int32)), .val (.int (0 : Int32)), .unset] [])) t
      refine XS.iload X125.here hx rfl (hb hby at_138) rfl ?_
      show Steps p.tables e below (T125.setTop (mkF m 140 #[.val (.int q0), .val (.int q1), .val (.int q2), .val (.int (2 : Int32)), .val (.int ((q1 &&& (255 : Int32)).toUInt32.toUInt16.toUInt32.toInt32)), .val (.int ((((q1.toUInt32 >>> ((8 : Int32) &&& 31).toUInt32).toInt32) &&& (255 : Int32)).toUInt32.toUInt16.toUInt32.toInt32)), .val (.int ((((q1.toUInt32 >>> ((16 : Int32) &&& 31).toUInt32).toInt32) &&& (255 : Int32)).toUInt32.toUInt16.toUInt32.toInt32)), .val (.int ((((q1.toUInt32 >>> ((24 : Int32) &&& 31).toUInt32).toInt32) &&& (255 : Int32)).toUInt32.toUInt16.toUInt32.toInt32)), .val (.int ((q2 &&& (255 : Int32)).toUInt32.toUInt16.toUInt32.toInt32)), .val (.ref b9125), .val (.int (0 : Int32)), .val (.int (0 : Int32)), .unset] [(.int (0 : Int32))])) t
      refine XS.ifNo X125.here hx rfl (hb hby at_140) rfl ((if0 _ _).trans (teq (by decide : (0 : Int32) = (0 : Int32))).2) ?_
      show Steps p.tables e below (T125.setTop (mkF m 143 #[.val (.int q0), .val (.int q1), .val (.int q2), .val (.int (2 : Int32)), .val (.int ((q1 &&& (255 : Int32)).toUInt32.toUInt16.toUInt32.toInt32)), .val (.int ((((q1.toUInt32 >>> ((8 : Int32) &&& 31).toUInt32).toInt32) &&& (255 : Int32)).toUInt32.toUInt16.toUInt32.toInt32)), .val (.int ((((q1.toUInt32 >>> ((16 : Int32) &&& 31).toUInt32).toInt32) &&& (255 : Int32)).toUInt32.toUInt16.toUInt32.toInt32)), .val (.int ((((q1.toUInt32 >>> ((24 : Int32) &&& 31).toUInt32).toInt32) &&& (255 : Int32)).toUInt32.toUInt16.toUInt32.toInt32)), .val (.int ((q2 &&& (255 : Int32)).toUInt32.toUInt16.toUInt32.toInt32)), .val (.ref b9125), .val (.int (0 : Int32)), .val (.int (0 : Int32)), .unset] [])) t
      refine XS.iload X125.here hx rfl (hb hby at_143) rfl ?_
      show Steps p.tables e below (T125.setTop (mkF m 145 #[.val (.int q0), .val (.int q1), .val (.int q2), .val (.int (2 : Int32)), .val (.int ((q1 &&& (255 : Int32)).toUInt32.toUInt16.toUInt32.toInt32)), .val (.int ((((q1.toUInt32 >>> ((8 : Int32) &&& 31).toUInt32).toInt32) &&& (255 : Int32)).toUInt32.toUInt16.toUInt32.toInt32)), .val (.int ((((q1.toUInt32 >>> ((16 : Int32) &&& 31).toUInt32).toInt32) &&& (255 : Int32)).toUInt32.toUInt16.toUInt32.toInt32)), .val (.int ((((q1.toUInt32 >>> ((24 : Int32) &&& 31).toUInt32).toInt32) &&& (255 : Int32)).toUInt32.toUInt16.toUInt32.toInt32)), .val (.int ((q2 &&& (255 : Int32)).toUInt32.toUInt16.toUInt32.toInt32)), .val (.ref b9125), .val (.int (0 : Int32)), .val (.int (0 : Int32)), .unset] [(.int (0 : Int32))])) t
      refine XS.ifYes X125.here hx rfl (pc0 := 145) (pc' := 152) rfl (hb hby at_145) rfl ((if0 _ _).trans (teq (by decide : (0 : Int32) = (0 : Int32))).1) (by decide) (by decide) ?_
      show Steps p.tables e below (T125.setTop (mkF m 152 #[.val (.int q0), .val (.int q1), .val (.int q2), .val (.int (2 : Int32)), .val (.int ((q1 &&& (255 : Int32)).toUInt32.toUInt16.toUInt32.toInt32)), .val (.int ((((q1.toUInt32 >>> ((8 : Int32) &&& 31).toUInt32).toInt32) &&& (255 : Int32)).toUInt32.toUInt16.toUInt32.toInt32)), .val (.int ((((q1.toUInt32 >>> ((16 : Int32) &&& 31).toUInt32).toInt32) &&& (255 : Int32)).toUInt32.toUInt16.toUInt32.toInt32)), .val (.int ((((q1.toUInt32 >>> ((24 : Int32) &&& 31).toUInt32).toInt32) &&& (255 : Int32)).toUInt32.toUInt16.toUInt32.toInt32)), .val (.int ((q2 &&& (255 : Int32)).toUInt32.toUInt16.toUInt32.toInt32)), .val (.ref b9125), .val (.int (0 : Int32)), .val (.int (0 : Int32)), .unset] [])) t
      refine XS.iconst X125.here hx rfl (hb hby at_152) ?_
      show Steps p.tables e below (T125.setTop (mkF m 153 #[.val (.int q0), .val (.int q1), .val (.int q2), .val (.int (2 : Int32)), .val (.int ((q1 &&& (255 : Int32)).toUInt32.toUInt16.toUInt32.toInt32)), .val (.int ((((q1.toUInt32 >>> ((8 : Int32) &&& 31).toUInt32).toInt32) &&& (255 : Int32)).toUInt32.toUInt16.toUInt32.toInt32)), .val (.int ((((q1.toUInt32 >>> ((16 : Int32) &&& 31).toUInt32).toInt32) &&& (255 : Int32)).toUInt32.toUInt16.toUInt32.toInt32)), .val (.int ((((q1.toUInt32 >>> ((24 : Int32) &&& 31).toUInt32).toInt32) &&& (255 : Int32)).toUInt32.toUInt16.toUInt32.toInt32)), .val (.int ((q2 &&& (255 : Int32)).toUInt32.toUInt16.toUInt32.toInt32)), .val (.ref b9125), .val (.int (0 : Int32)), .val (.int (0 : Int32)), .unset] [(.int (0 : Int32))])) t
      refine XS.istore X125.here hx rfl (hb hby at_153) rfl (l' := #[.val (.int q0), .val (.int q1), .val (.int q2), .val (.int (2 : Int32)), .val (.int ((q1 &&& (255 : Int32)).toUInt32.toUInt16.toUInt32.toInt32)), .val (.int ((((q1.toUInt32 >>> ((8 : Int32) &&& 31).toUInt32).toInt32) &&& (255 : Int32)).toUInt32.toUInt16.toUInt32.toInt32)), .val (.int ((((q1.toUInt32 >>> ((16 : Int32) &&& 31).toUInt32).toInt32) &&& (255 : Int32)).toUInt32.toUInt16.toUInt32.toInt32)), .val (.int ((((q1.toUInt32 >>> ((24 : Int32) &&& 31).toUInt32).toInt32) &&& (255 : Int32)).toUInt32.toUInt16.toUInt32.toInt32)), .val (.int ((q2 &&& (255 : Int32)).toUInt32.toUInt16.toUInt32.toInt32)), .val (.ref b9125), .val (.int (0 : Int32)), .val (.int (0 : Int32)), .val (.int (0 : Int32))]) rfl ?_
      show Steps p.tables e below (T125.setTop (mkF m 155 #[.val (.int q0), .val (.int q1), .val (.int q2), .val (.int (2 : Int32)), .val (.int ((q1 &&& (255 : Int32)).toUInt32.toUInt16.toUInt32.toInt32)), .val (.int ((((q1.toUInt32 >>> ((8 : Int32) &&& 31).toUInt32).toInt32) &&& (255 : Int32)).toUInt32.toUInt16.toUInt32.toInt32)), .val (.int ((((q1.toUInt32 >>> ((16 : Int32) &&& 31).toUInt32).toInt32) &&& (255 : Int32)).toUInt32.toUInt16.toUInt32.toInt32)), .val (.int ((((q1.toUInt32 >>> ((24 : Int32) &&& 31).toUInt32).toInt32) &&& (255 : Int32)).toUInt32.toUInt16.toUInt32.toInt32)), .val (.int ((q2 &&& (255 : Int32)).toUInt32.toUInt16.toUInt32.toInt32)), .val (.ref b9125), .val (.int (0 : Int32)), .val (.int (0 : Int32)), .val (.int (0 : Int32))] [])) t
      refine XS.aload X125.here hx rfl (hb hby at_155) rfl rfl ?_
      exact k
    refine OFinH.go sg126 ?_
    have hpc : ∀ c ∈ ([(nar .char ((q1 &&& (255 : Int32)).toUInt32.toUInt16.toUInt32.toInt32)), (nar .char ((((q1.toUInt32 >>> ((8 : Int32) &&& 31).toUInt32).toInt32) &&& (255 : Int32)).toUInt32.toUInt16.toUInt32.toInt32))] : List Int32), ¬ c < 0 ∧ ¬ (255 : Int32) < c := (own_allS (own_ch _) (own_allS (own_ch _) own_all0))
    obtain ⟨_, _, ⟨T127, L127, k127, n127⟩, -, X127, hSn, hgn, ⟨Lc127, hQ127, l127, y127, z127, C127⟩, st127⟩ := callSS X125 hx (y := (⟨"com/example/avvik/avvik/io/XsdValues", "isTrue", "(Ljava/lang/String;)Z"⟩ : MethodName)) hown (mvT hZ (hw _ (List.mem_of_getElem? (i := 27) rfl))) (mvT hZ (hw _ (List.mem_of_getElem? (i := 28) rfl))) (mvT hZ (hw _ (List.mem_of_getElem? (i := 29) rfl))) (mvT hZ (hw _ (List.mem_of_getElem? (i := 30) rfl))) (by decide) (own_back (W := 0) (sf := []) (rm5 l Z aZ hw hEL [] b9125 ([(nar .char ((q1 &&& (255 : Int32)).toUInt32.toUInt16.toUInt32.toInt32)), (nar .char ((((q1.toUInt32 >>> ((8 : Int32) &&& 31).toUInt32).toInt32) &&& (255 : Int32)).toUInt32.toUInt16.toUInt32.toInt32))] : List Int32) t9125 k9125 (2 : Int32) ((([(nar .char ((q1 &&& (255 : Int32)).toUInt32.toUInt16.toUInt32.toInt32)), (nar .char ((((q1.toUInt32 >>> ((8 : Int32) &&& 31).toUInt32).toInt32) &&& (255 : Int32)).toUInt32.toUInt16.toUInt32.toInt32))] : List Int32).map (fun c => c.toInt8.toInt32)).map Value.int) w1 T125.heap n0 (Nat.le_trans Z0 K125.1) (O0.keep Kq125 all0) P125_0 P125_1 P125_2 P125_3 S1 (StrChars.Road.codOf (n := 2) rfl (fun c hc => (hpc c hc).2)) (own_up _ hpc) (Nat.le_of_ble_eq_true rfl) hcs) hZ (hw _ (List.mem_of_getElem? (i := 30) rfl)) (hw _ (List.mem_of_getElem? (i := 29) rfl)) (by decide) (by decide) hEL HC.1 all0 all0) (g := (mkF m 157 #[.val (.int q0), .val (.int q1), .val (.int q2), .val (.int (2 : Int32)), .val (.int ((q1 &&& (255 : Int32)).toUInt32.toUInt16.toUInt32.toInt32)), .val (.int ((((q1.toUInt32 >>> ((8 : Int32) &&& 31).toUInt32).toInt32) &&& (255 : Int32)).toUInt32.toUInt16.toUInt32.toInt32)), .val (.int ((((q1.toUInt32 >>> ((16 : Int32) &&& 31).toUInt32).toInt32) &&& (255 : Int32)).toUInt32.toUInt16.toUInt32.toInt32)), .val (.int ((((q1.toUInt32 >>> ((24 : Int32) &&& 31).toUInt32).toInt32) &&& (255 : Int32)).toUInt32.toUInt16.toUInt32.toInt32)), .val (.int ((q2 &&& (255 : Int32)).toUInt32.toUInt16.toUInt32.toInt32)), .val (.ref b9125), .val (.int (0 : Int32)), .val (.int (0 : Int32)), .val (.int (0 : Int32))] [(.ref b9125)])) rfl (by rw [hml]; rfl) (argsL := [(.ref b9125)]) (rest := []) (lenOf pd_4 rfl) rfl (by show 2 * 0 + _ ≤ _; exact Nat.le_of_eq rfl) (hb hby at_157) (fun _ _ => ⟨rfl, rfl, (by decide : 3 + 4 ≤ _), (by decide : 8 + 28 ≤ _)⟩)
    dsimp only [Pt.U, Pt.locs, Pt.cells, Pt.slots] at X127 l127 y127 z127 st127 hQ127 hSn hgn C127
    have X127 : Stand p l e room_1 (s.setVm T127.vm) m #[(.int q0), (.int q1), (.int q2)] below meth c T127 L127 k127 n127 := X127
    have HC := HC.trans C127
    have hk127 := hk
    have hS := State.Since.trans hS hSn (Nat.le_trans hk127 hgn)
    have hk := Nat.le_refl T127.heap.size
    have hown : (s.setVm T127.vm).vm.findClass "com/example/avvik/avvik/io/XsdValuesIsTruePinLaw" = some m.cls := by rw [show (s.setVm T127.vm).vm = T127.vm from rfl, hSn.1.alike.findClass]; exact hown
    have hZ : Z.Warmed39 T127.vm := State.Warmed39.trans hZ hSn.1
    subst l127 y127 z127
    obtain ⟨rfl, N127q, Kq127⟩ := hQ127
    have N127 := Fr.app N125 N127q
    refine OFinH.tr st127 ?_
    have K127 : Keep h0 T127.heap [] := K125.trans Kq127 all0
    have sg129 : ∀ t, Steps p.tables e below (T127.setTop (mkF m 162 #[.val (.int q0), .val (.int q1), .val (.int q2), .val (.int (2 : Int32)), .val (.int ((q1 &&& (255 : Int32)).toUInt32.toUInt16.toUInt32.toInt32)), .val (.int ((((q1.toUInt32 >>> ((8 : Int32) &&& 31).toUInt32).toInt32) &&& (255 : Int32)).toUInt32.toUInt16.toUInt32.toInt32)), .val (.int ((((q1.toUInt32 >>> ((16 : Int32) &&& 31).toUInt32).toInt32) &&& (255 : Int32)).toUInt32.toUInt16.toUInt32.toInt32)), .val (.int ((((q1.toUInt32 >>> ((24 : Int32) &&& 31).toUInt32).toInt32) &&& (255 : Int32)).toUInt32.toUInt16.toUInt32.toInt32)), .val (.int ((q2 &&& (255 : Int32)).toUInt32.toUInt16.toUInt32.toInt32)), .val (.ref b9125), .val (.int (0 : Int32)), .val (.int (0 : Int32)), .val (.int (0 : Int32))] [(.int (0 : Int32)), (.int (if ([(nar .char ((q1 &&& (255 : Int32)).toUInt32.toUInt16.toUInt32.toInt32)), (nar .char ((((q1.toUInt32 >>> ((8 : Int32) &&& 31).toUInt32).toInt32) &&& (255 : Int32)).toUInt32.toUInt16.toUInt32.toInt32))] : List Int32) = ([116, 114, 117, 101] : List Int32) ∨ ([(nar .char ((q1 &&& (255 : Int32)).toUInt32.toUInt16.toUInt32.toInt32)), (nar .char ((((q1.toUInt32 >>> ((8 : Int32) &&& 31).toUInt32).toInt32) &&& (255 : Int32)).toUInt32.toUInt16.toUInt32.toInt32))] : List Int32) = ([49] : List Int32) then (1 : Int32) else (0 : Int32)))])) t → Steps p.tables e below (T127.setTop (mkF m 160 #[.val (.int q0), .val (.int q1), .val (.int q2), .val (.int (2 : Int32)), .val (.int ((q1 &&& (255 : Int32)).toUInt32.toUInt16.toUInt32.toInt32)), .val (.int ((((q1.toUInt32 >>> ((8 : Int32) &&& 31).toUInt32).toInt32) &&& (255 : Int32)).toUInt32.toUInt16.toUInt32.toInt32)), .val (.int ((((q1.toUInt32 >>> ((16 : Int32) &&& 31).toUInt32).toInt32) &&& (255 : Int32)).toUInt32.toUInt16.toUInt32.toInt32)), .val (.int ((((q1.toUInt32 >>> ((24 : Int32) &&& 31).toUInt32).toInt32) &&& (255 : Int32)).toUInt32.toUInt16.toUInt32.toInt32)), .val (.int ((q2 &&& (255 : Int32)).toUInt32.toUInt16.toUInt32.toInt32)), .val (.ref b9125), .val (.int (0 : Int32)), .val (.int (0 : Int32)), .val (.int (0 : Int32))] [(.int (if ([(nar .char ((q1 &&& (255 : Int32)).toUInt32.toUInt16.toUInt32.toInt32)), (nar .char ((((q1.toUInt32 >>> ((8 : Int32) &&& 31).toUInt32).toInt32) &&& (255 : Int32)).toUInt32.toUInt16.toUInt32.toInt32))] : List Int32) = ([116, 114, 117, 101] : List Int32) ∨ ([(nar .char ((q1 &&& (255 : Int32)).toUInt32.toUInt16.toUInt32.toInt32)), (nar .char ((((q1.toUInt32 >>> ((8 : Int32) &&& 31).toUInt32).toInt32) &&& (255 : Int32)).toUInt32.toUInt16.toUInt32.toInt32))] : List Int32) = ([49] : List Int32) then (1 : Int32) else (0 : Int32)))])) t := by
      intro t k
      show Steps p.tables e below (T127.setTop (mkF m 160 #[.val (.int q0), .val (.int q1), .val (.int q2), .val (.int (2 : Int32)), .val (.int ((q1 &&& (255 : Int32)).toUInt32.toUInt16.toUInt32.toInt32)), .val (.int ((((q1.toUInt32 >>> ((8 : Int32) &&& 31).toUInt32).toInt32) &&& (255 : Int32)).toUInt32.toUInt16.toUInt32.toInt32)), .val (.int ((((q1.toUInt32 >>> ((16 : Int32) &&& 31).toUInt32).toInt32) &&& (255 : Int32)).toUInt32.toUInt16.toUInt32.toInt32)), .val (.int ((((q1.toUInt32 >>> ((24 : Int32) &&& 31).toUInt32).toInt32) &&& (255 : Int32)).toUInt32.toUInt16.toUInt32.toInt32)), .val (.int ((q2 &&& (255 : Int32)).toUInt32.toUInt16.toUInt32.toInt32)), .val (.ref b9125), .val (.int (0 : Int32)), .val (.int (0 : Int32)), .val (.int (0 : Int32))] [(.int (if ([(nar .char ((q1 &&& (255 : Int32)).toUInt32.toUInt16.toUInt32.toInt32)), (nar .char ((((q1.toUInt32 >>> ((8 : Int32) &&& 31).toUInt32).toInt32) &&& (255 : Int32)).toUInt32.toUInt16.toUInt32.toInt32))] : List Int32) = ([116, 114, 117, 101] : List Int32) ∨ ([(nar .char ((q1 &&& (255 : Int32)).toUInt32.toUInt16.toUInt32.toInt32)), (nar .char ((((q1.toUInt32 >>> ((8 : Int32) &&& 31).toUInt32).toInt32) &&& (255 : Int32)).toUInt32.toUInt16.toUInt32.toInt32))] : List Int32) = ([49] : List Int32) then (1 : Int32) else (0 : Int32)))])) t
      refine XS.iload X127.here hx rfl (hb hby at_160) rfl ?_
      exact k
    refine OFinH.go sg129 ?_
    have c128 : (if ([(nar .char ((q1 &&& (255 : Int32)).toUInt32.toUInt16.toUInt32.toInt32)), (nar .char ((((q1.toUInt32 >>> ((8 : Int32) &&& 31).toUInt32).toInt32) &&& (255 : Int32)).toUInt32.toUInt16.toUInt32.toInt32))] : List Int32) = ([116, 114, 117, 101] : List Int32) ∨ ([(nar .char ((q1 &&& (255 : Int32)).toUInt32.toUInt16.toUInt32.toInt32)), (nar .char ((((q1.toUInt32 >>> ((8 : Int32) &&& 31).toUInt32).toInt32) &&& (255 : Int32)).toUInt32.toUInt16.toUInt32.toInt32))] : List Int32) = ([49] : List Int32) then (1 : Int32) else (0 : Int32)) = (0 : Int32) := (by simp)
    have sg130 : ∀ t, Steps p.tables e below (T127.setTop (mkF m 170 #[.val (.int q0), .val (.int q1), .val (.int q2), .val (.int (2 : Int32)), .val (.int ((q1 &&& (255 : Int32)).toUInt32.toUInt16.toUInt32.toInt32)), .val (.int ((((q1.toUInt32 >>> ((8 : Int32) &&& 31).toUInt32).toInt32) &&& (255 : Int32)).toUInt32.toUInt16.toUInt32.toInt32)), .val (.int ((((q1.toUInt32 >>> ((16 : Int32) &&& 31).toUInt32).toInt32) &&& (255 : Int32)).toUInt32.toUInt16.toUInt32.toInt32)), .val (.int ((((q1.toUInt32 >>> ((24 : Int32) &&& 31).toUInt32).toInt32) &&& (255 : Int32)).toUInt32.toUInt16.toUInt32.toInt32)), .val (.int ((q2 &&& (255 : Int32)).toUInt32.toUInt16.toUInt32.toInt32)), .val (.ref b9125), .val (.int (0 : Int32)), .val (.int (0 : Int32)), .val (.int (0 : Int32))] [(.int (1 : Int32))])) t → Steps p.tables e below (T127.setTop (mkF m 162 #[.val (.int q0), .val (.int q1), .val (.int q2), .val (.int (2 : Int32)), .val (.int ((q1 &&& (255 : Int32)).toUInt32.toUInt16.toUInt32.toInt32)), .val (.int ((((q1.toUInt32 >>> ((8 : Int32) &&& 31).toUInt32).toInt32) &&& (255 : Int32)).toUInt32.toUInt16.toUInt32.toInt32)), .val (.int ((((q1.toUInt32 >>> ((16 : Int32) &&& 31).toUInt32).toInt32) &&& (255 : Int32)).toUInt32.toUInt16.toUInt32.toInt32)), .val (.int ((((q1.toUInt32 >>> ((24 : Int32) &&& 31).toUInt32).toInt32) &&& (255 : Int32)).toUInt32.toUInt16.toUInt32.toInt32)), .val (.int ((q2 &&& (255 : Int32)).toUInt32.toUInt16.toUInt32.toInt32)), .val (.ref b9125), .val (.int (0 : Int32)), .val (.int (0 : Int32)), .val (.int (0 : Int32))] [(.int (0 : Int32)), (.int (if ([(nar .char ((q1 &&& (255 : Int32)).toUInt32.toUInt16.toUInt32.toInt32)), (nar .char ((((q1.toUInt32 >>> ((8 : Int32) &&& 31).toUInt32).toInt32) &&& (255 : Int32)).toUInt32.toUInt16.toUInt32.toInt32))] : List Int32) = ([116, 114, 117, 101] : List Int32) ∨ ([(nar .char ((q1 &&& (255 : Int32)).toUInt32.toUInt16.toUInt32.toInt32)), (nar .char ((((q1.toUInt32 >>> ((8 : Int32) &&& 31).toUInt32).toInt32) &&& (255 : Int32)).toUInt32.toUInt16.toUInt32.toInt32))] : List Int32) = ([49] : List Int32) then (1 : Int32) else (0 : Int32)))])) t := by
      intro t k
      show Steps p.tables e below (T127.setTop (mkF m 162 #[.val (.int q0), .val (.int q1), .val (.int q2), .val (.int (2 : Int32)), .val (.int ((q1 &&& (255 : Int32)).toUInt32.toUInt16.toUInt32.toInt32)), .val (.int ((((q1.toUInt32 >>> ((8 : Int32) &&& 31).toUInt32).toInt32) &&& (255 : Int32)).toUInt32.toUInt16.toUInt32.toInt32)), .val (.int ((((q1.toUInt32 >>> ((16 : Int32) &&& 31).toUInt32).toInt32) &&& (255 : Int32)).toUInt32.toUInt16.toUInt32.toInt32)), .val (.int ((((q1.toUInt32 >>> ((24 : Int32) &&& 31).toUInt32).toInt32) &&& (255 : Int32)).toUInt32.toUInt16.toUInt32.toInt32)), .val (.int ((q2 &&& (255 : Int32)).toUInt32.toUInt16.toUInt32.toInt32)), .val (.ref b9125), .val (.int (0 : Int32)), .val (.int (0 : Int32)), .val (.int (0 : Int32))] [(.int (0 : Int32)), (.int (if ([(nar .char ((q1 &&& (255 : Int32)).toUInt32.toUInt16.toUInt32.toInt32)), (nar .char ((((q1.toUInt32 >>> ((8 : Int32) &&& 31).toUInt32).toInt32) &&& (255 : Int32)).toUInt32.toUInt16.toUInt32.toInt32))] : List Int32) = ([116, 114, 117, 101] : List Int32) ∨ ([(nar .char ((q1 &&& (255 : Int32)).toUInt32.toUInt16.toUInt32.toInt32)), (nar .char ((((q1.toUInt32 >>> ((8 : Int32) &&& 31).toUInt32).toInt32) &&& (255 : Int32)).toUInt32.toUInt16.toUInt32.toInt32))] : List Int32) = ([49] : List Int32) then (1 : Int32) else (0 : Int32)))])) t
      refine XS.icmpNo X127.here hx rfl (hb hby at_162) rfl (teq c128).2 ?_
      show Steps p.tables e below (T127.setTop (mkF m 165 #[.val (.int q0), .val (.int q1), .val (.int q2), .val (.int (2 : Int32)), .val (.int ((q1 &&& (255 : Int32)).toUInt32.toUInt16.toUInt32.toInt32)), .val (.int ((((q1.toUInt32 >>> ((8 : Int32) &&& 31).toUInt32).toInt32) &&& (255 : Int32)).toUInt32.toUInt16.toUInt32.toInt32)), .val (.int ((((q1.toUInt32 >>> ((16 : Int32) &&& 31).toUInt32).toInt32) &&& (255 : Int32)).toUInt32.toUInt16.toUInt32.toInt32)), .val (.int ((((q1.toUInt32 >>> ((24 : Int32) &&& 31).toUInt32).toInt32) &&& (255 : Int32)).toUInt32.toUInt16.toUInt32.toInt32)), .val (.int ((q2 &&& (255 : Int32)).toUInt32.toUInt16.toUInt32.toInt32)), .val (.ref b9125), .val (.int (0 : Int32)), .val (.int (0 : Int32)), .val (.int (0 : Int32))] [])) t
      refine XS.iconst X127.here hx rfl (hb hby at_165) ?_
      show Steps p.tables e below (T127.setTop (mkF m 166 #[.val (.int q0), .val (.int q1), .val (.int q2), .val (.int (2 : Int32)), .val (.int ((q1 &&& (255 : Int32)).toUInt32.toUInt16.toUInt32.toInt32)), .val (.int ((((q1.toUInt32 >>> ((8 : Int32) &&& 31).toUInt32).toInt32) &&& (255 : Int32)).toUInt32.toUInt16.toUInt32.toInt32)), .val (.int ((((q1.toUInt32 >>> ((16 : Int32) &&& 31).toUInt32).toInt32) &&& (255 : Int32)).toUInt32.toUInt16.toUInt32.toInt32)), .val (.int ((((q1.toUInt32 >>> ((24 : Int32) &&& 31).toUInt32).toInt32) &&& (255 : Int32)).toUInt32.toUInt16.toUInt32.toInt32)), .val (.int ((q2 &&& (255 : Int32)).toUInt32.toUInt16.toUInt32.toInt32)), .val (.ref b9125), .val (.int (0 : Int32)), .val (.int (0 : Int32)), .val (.int (0 : Int32))] [(.int (1 : Int32))])) t
      refine XS.goto X127.here hx rfl (pc0 := 166) (pc' := 170) rfl (hb hby at_166) (by decide) (by decide) ?_
      exact k
    refine OFinH.go sg130 ?_
    exact OFinH.retN X127 hS hk hZ hEL rfl HC hx hret (by simp) hlk (hb hby at_170) rfl ⟨rfl, N127⟩ (by decide) (by decide)
  · rw [hk7]
    have sg131 : ∀ t, Steps p.tables e below (s₁.setTop (mkF m 68 #[.val (.int q0), .val (.int q1), .val (.int q2), .val (.int (3 : Int32)), .val (.int ((q1 &&& (255 : Int32)).toUInt32.toUInt16.toUInt32.toInt32)), .val (.int ((((q1.toUInt32 >>> ((8 : Int32) &&& 31).toUInt32).toInt32) &&& (255 : Int32)).toUInt32.toUInt16.toUInt32.toInt32)), .val (.int ((((q1.toUInt32 >>> ((16 : Int32) &&& 31).toUInt32).toInt32) &&& (255 : Int32)).toUInt32.toUInt16.toUInt32.toInt32)), .val (.int ((((q1.toUInt32 >>> ((24 : Int32) &&& 31).toUInt32).toInt32) &&& (255 : Int32)).toUInt32.toUInt16.toUInt32.toInt32)), .val (.int ((q2 &&& (255 : Int32)).toUInt32.toUInt16.toUInt32.toInt32)), .unset, .unset, .unset, .unset] [(.int ((q2 &&& (255 : Int32)).toUInt32.toUInt16.toUInt32.toInt32)), (.int ((((q1.toUInt32 >>> ((24 : Int32) &&& 31).toUInt32).toInt32) &&& (255 : Int32)).toUInt32.toUInt16.toUInt32.toInt32)), (.int ((((q1.toUInt32 >>> ((16 : Int32) &&& 31).toUInt32).toInt32) &&& (255 : Int32)).toUInt32.toUInt16.toUInt32.toInt32)), (.int ((((q1.toUInt32 >>> ((8 : Int32) &&& 31).toUInt32).toInt32) &&& (255 : Int32)).toUInt32.toUInt16.toUInt32.toInt32)), (.int ((q1 &&& (255 : Int32)).toUInt32.toUInt16.toUInt32.toInt32)), (.int (3 : Int32))])) t → Steps p.tables e below (s₁.setTop (mkF m 57 #[.val (.int q0), .val (.int q1), .val (.int q2), .val (.int (3 : Int32)), .val (.int ((q1 &&& (255 : Int32)).toUInt32.toUInt16.toUInt32.toInt32)), .val (.int ((((q1.toUInt32 >>> ((8 : Int32) &&& 31).toUInt32).toInt32) &&& (255 : Int32)).toUInt32.toUInt16.toUInt32.toInt32)), .val (.int ((((q1.toUInt32 >>> ((16 : Int32) &&& 31).toUInt32).toInt32) &&& (255 : Int32)).toUInt32.toUInt16.toUInt32.toInt32)), .val (.int ((((q1.toUInt32 >>> ((24 : Int32) &&& 31).toUInt32).toInt32) &&& (255 : Int32)).toUInt32.toUInt16.toUInt32.toInt32)), .val (.int ((q2 &&& (255 : Int32)).toUInt32.toUInt16.toUInt32.toInt32)), .unset, .unset, .unset, .unset] [])) t := by
      intro t k
      show Steps p.tables e below (s₁.setTop (mkF m 57 #[.val (.int q0), .val (.int q1), .val (.int q2), .val (.int (3 : Int32)), .val (.int ((q1 &&& (255 : Int32)).toUInt32.toUInt16.toUInt32.toInt32)), .val (.int ((((q1.toUInt32 >>> ((8 : Int32) &&& 31).toUInt32).toInt32) &&& (255 : Int32)).toUInt32.toUInt16.toUInt32.toInt32)), .val (.int ((((q1.toUInt32 >>> ((16 : Int32) &&& 31).toUInt32).toInt32) &&& (255 : Int32)).toUInt32.toUInt16.toUInt32.toInt32)), .val (.int ((((q1.toUInt32 >>> ((24 : Int32) &&& 31).toUInt32).toInt32) &&& (255 : Int32)).toUInt32.toUInt16.toUInt32.toInt32)), .val (.int ((q2 &&& (255 : Int32)).toUInt32.toUInt16.toUInt32.toInt32)), .unset, .unset, .unset, .unset] [])) t
      refine XS.iloadN X0.here hx rfl (hb hby at_57) rfl ?_
      show Steps p.tables e below (s₁.setTop (mkF m 58 #[.val (.int q0), .val (.int q1), .val (.int q2), .val (.int (3 : Int32)), .val (.int ((q1 &&& (255 : Int32)).toUInt32.toUInt16.toUInt32.toInt32)), .val (.int ((((q1.toUInt32 >>> ((8 : Int32) &&& 31).toUInt32).toInt32) &&& (255 : Int32)).toUInt32.toUInt16.toUInt32.toInt32)), .val (.int ((((q1.toUInt32 >>> ((16 : Int32) &&& 31).toUInt32).toInt32) &&& (255 : Int32)).toUInt32.toUInt16.toUInt32.toInt32)), .val (.int ((((q1.toUInt32 >>> ((24 : Int32) &&& 31).toUInt32).toInt32) &&& (255 : Int32)).toUInt32.toUInt16.toUInt32.toInt32)), .val (.int ((q2 &&& (255 : Int32)).toUInt32.toUInt16.toUInt32.toInt32)), .unset, .unset, .unset, .unset] [(.int (3 : Int32))])) t
      refine XS.iload X0.here hx rfl (hb hby at_58) rfl ?_
      show Steps p.tables e below (s₁.setTop (mkF m 60 #[.val (.int q0), .val (.int q1), .val (.int q2), .val (.int (3 : Int32)), .val (.int ((q1 &&& (255 : Int32)).toUInt32.toUInt16.toUInt32.toInt32)), .val (.int ((((q1.toUInt32 >>> ((8 : Int32) &&& 31).toUInt32).toInt32) &&& (255 : Int32)).toUInt32.toUInt16.toUInt32.toInt32)), .val (.int ((((q1.toUInt32 >>> ((16 : Int32) &&& 31).toUInt32).toInt32) &&& (255 : Int32)).toUInt32.toUInt16.toUInt32.toInt32)), .val (.int ((((q1.toUInt32 >>> ((24 : Int32) &&& 31).toUInt32).toInt32) &&& (255 : Int32)).toUInt32.toUInt16.toUInt32.toInt32)), .val (.int ((q2 &&& (255 : Int32)).toUInt32.toUInt16.toUInt32.toInt32)), .unset, .unset, .unset, .unset] [(.int ((q1 &&& (255 : Int32)).toUInt32.toUInt16.toUInt32.toInt32)), (.int (3 : Int32))])) t
      refine XS.iload X0.here hx rfl (hb hby at_60) rfl ?_
      show Steps p.tables e below (s₁.setTop (mkF m 62 #[.val (.int q0), .val (.int q1), .val (.int q2), .val (.int (3 : Int32)), .val (.int ((q1 &&& (255 : Int32)).toUInt32.toUInt16.toUInt32.toInt32)), .val (.int ((((q1.toUInt32 >>> ((8 : Int32) &&& 31).toUInt32).toInt32) &&& (255 : Int32)).toUInt32.toUInt16.toUInt32.toInt32)), .val (.int ((((q1.toUInt32 >>> ((16 : Int32) &&& 31).toUInt32).toInt32) &&& (255 : Int32)).toUInt32.toUInt16.toUInt32.toInt32)), .val (.int ((((q1.toUInt32 >>> ((24 : Int32) &&& 31).toUInt32).toInt32) &&& (255 : Int32)).toUInt32.toUInt16.toUInt32.toInt32)), .val (.int ((q2 &&& (255 : Int32)).toUInt32.toUInt16.toUInt32.toInt32)), .unset, .unset, .unset, .unset] [(.int ((((q1.toUInt32 >>> ((8 : Int32) &&& 31).toUInt32).toInt32) &&& (255 : Int32)).toUInt32.toUInt16.toUInt32.toInt32)), (.int ((q1 &&& (255 : Int32)).toUInt32.toUInt16.toUInt32.toInt32)), (.int (3 : Int32))])) t
      refine XS.iload X0.here hx rfl (hb hby at_62) rfl ?_
      show Steps p.tables e below (s₁.setTop (mkF m 64 #[.val (.int q0), .val (.int q1), .val (.int q2), .val (.int (3 : Int32)), .val (.int ((q1 &&& (255 : Int32)).toUInt32.toUInt16.toUInt32.toInt32)), .val (.int ((((q1.toUInt32 >>> ((8 : Int32) &&& 31).toUInt32).toInt32) &&& (255 : Int32)).toUInt32.toUInt16.toUInt32.toInt32)), .val (.int ((((q1.toUInt32 >>> ((16 : Int32) &&& 31).toUInt32).toInt32) &&& (255 : Int32)).toUInt32.toUInt16.toUInt32.toInt32)), .val (.int ((((q1.toUInt32 >>> ((24 : Int32) &&& 31).toUInt32).toInt32) &&& (255 : Int32)).toUInt32.toUInt16.toUInt32.toInt32)), .val (.int ((q2 &&& (255 : Int32)).toUInt32.toUInt16.toUInt32.toInt32)), .unset, .unset, .unset, .unset] [(.int ((((q1.toUInt32 >>> ((16 : Int32) &&& 31).toUInt32).toInt32) &&& (255 : Int32)).toUInt32.toUInt16.toUInt32.toInt32)), (.int ((((q1.toUInt32 >>> ((8 : Int32) &&& 31).toUInt32).toInt32) &&& (255 : Int32)).toUInt32.toUInt16.toUInt32.toInt32)), (.int ((q1 &&& (255 : Int32)).toUInt32.toUInt16.toUInt32.toInt32)), (.int (3 : Int32))])) t
      refine XS.iload X0.here hx rfl (hb hby at_64) rfl ?_
      show Steps p.tables e below (s₁.setTop (mkF m 66 #[.val (.int q0), .val (.int q1), .val (.int q2), .val (.int (3 : Int32)), .val (.int ((q1 &&& (255 : Int32)).toUInt32.toUInt16.toUInt32.toInt32)), .val (.int ((((q1.toUInt32 >>> ((8 : Int32) &&& 31).toUInt32).toInt32) &&& (255 : Int32)).toUInt32.toUInt16.toUInt32.toInt32)), .val (.int ((((q1.toUInt32 >>> ((16 : Int32) &&& 31).toUInt32).toInt32) &&& (255 : Int32)).toUInt32.toUInt16.toUInt32.toInt32)), .val (.int ((((q1.toUInt32 >>> ((24 : Int32) &&& 31).toUInt32).toInt32) &&& (255 : Int32)).toUInt32.toUInt16.toUInt32.toInt32)), .val (.int ((q2 &&& (255 : Int32)).toUInt32.toUInt16.toUInt32.toInt32)), .unset, .unset, .unset, .unset] [(.int ((((q1.toUInt32 >>> ((24 : Int32) &&& 31).toUInt32).toInt32) &&& (255 : Int32)).toUInt32.toUInt16.toUInt32.toInt32)), (.int ((((q1.toUInt32 >>> ((16 : Int32) &&& 31).toUInt32).toInt32) &&& (255 : Int32)).toUInt32.toUInt16.toUInt32.toInt32)), (.int ((((q1.toUInt32 >>> ((8 : Int32) &&& 31).toUInt32).toInt32) &&& (255 : Int32)).toUInt32.toUInt16.toUInt32.toInt32)), (.int ((q1 &&& (255 : Int32)).toUInt32.toUInt16.toUInt32.toInt32)), (.int (3 : Int32))])) t
      refine XS.iload X0.here hx rfl (hb hby at_66) rfl ?_
      exact k
    refine OFinH.go sg131 ?_
    obtain ⟨_, _, ⟨T132, L132, k132, n132⟩, -, X132, hSn, hgn, ⟨Lc132, hQ132, l132, y132, z132, C132⟩, st132⟩ := callSS X0 hx (y := (⟨"com/example/avvik/avvik/io/XsdValuesIsTruePinLaw", "make", "(ICCCCC)Ljava/lang/String;"⟩ : MethodName)) hown (mvT hZ (hw _ (List.mem_of_getElem? (i := 1) rfl))) (mvT hZ (hw _ (List.mem_of_getElem? (i := 2) rfl))) (mvT hZ (hw _ (List.mem_of_getElem? (i := 3) rfl))) (mvT hZ (hw _ (List.mem_of_getElem? (i := 4) rfl))) (by decide) (own_back (W := 0) (sf := []) (rm1k3 l Z aZ hw hEL [] ((q1 &&& (255 : Int32)).toUInt32.toUInt16.toUInt32.toInt32) ((((q1.toUInt32 >>> ((8 : Int32) &&& 31).toUInt32).toInt32) &&& (255 : Int32)).toUInt32.toUInt16.toUInt32.toInt32) ((((q1.toUInt32 >>> ((16 : Int32) &&& 31).toUInt32).toInt32) &&& (255 : Int32)).toUInt32.toUInt16.toUInt32.toInt32) ((((q1.toUInt32 >>> ((24 : Int32) &&& 31).toUInt32).toInt32) &&& (255 : Int32)).toUInt32.toUInt16.toUInt32.toInt32) ((q2 &&& (255 : Int32)).toUInt32.toUInt16.toUInt32.toInt32) w1 h0 n0 (Nat.le_trans Z0 K0.1) O0 S1 hcs (own_ch _) (own_ch _) (own_ch _)) hZ (hw _ (List.mem_of_getElem? (i := 4) rfl)) (hw _ (List.mem_of_getElem? (i := 3) rfl)) (by decide) (by decide) hEL HC.1 all0 all0) (g := (mkF m 68 #[.val (.int q0), .val (.int q1), .val (.int q2), .val (.int (3 : Int32)), .val (.int ((q1 &&& (255 : Int32)).toUInt32.toUInt16.toUInt32.toInt32)), .val (.int ((((q1.toUInt32 >>> ((8 : Int32) &&& 31).toUInt32).toInt32) &&& (255 : Int32)).toUInt32.toUInt16.toUInt32.toInt32)), .val (.int ((((q1.toUInt32 >>> ((16 : Int32) &&& 31).toUInt32).toInt32) &&& (255 : Int32)).toUInt32.toUInt16.toUInt32.toInt32)), .val (.int ((((q1.toUInt32 >>> ((24 : Int32) &&& 31).toUInt32).toInt32) &&& (255 : Int32)).toUInt32.toUInt16.toUInt32.toInt32)), .val (.int ((q2 &&& (255 : Int32)).toUInt32.toUInt16.toUInt32.toInt32)), .unset, .unset, .unset, .unset] [(.int ((q2 &&& (255 : Int32)).toUInt32.toUInt16.toUInt32.toInt32)), (.int ((((q1.toUInt32 >>> ((24 : Int32) &&& 31).toUInt32).toInt32) &&& (255 : Int32)).toUInt32.toUInt16.toUInt32.toInt32)), (.int ((((q1.toUInt32 >>> ((16 : Int32) &&& 31).toUInt32).toInt32) &&& (255 : Int32)).toUInt32.toUInt16.toUInt32.toInt32)), (.int ((((q1.toUInt32 >>> ((8 : Int32) &&& 31).toUInt32).toInt32) &&& (255 : Int32)).toUInt32.toUInt16.toUInt32.toInt32)), (.int ((q1 &&& (255 : Int32)).toUInt32.toUInt16.toUInt32.toInt32)), (.int (3 : Int32))])) rfl (by rw [hml]; rfl) (argsL := [(.int (3 : Int32)), (.int ((q1 &&& (255 : Int32)).toUInt32.toUInt16.toUInt32.toInt32)), (.int ((((q1.toUInt32 >>> ((8 : Int32) &&& 31).toUInt32).toInt32) &&& (255 : Int32)).toUInt32.toUInt16.toUInt32.toInt32)), (.int ((((q1.toUInt32 >>> ((16 : Int32) &&& 31).toUInt32).toInt32) &&& (255 : Int32)).toUInt32.toUInt16.toUInt32.toInt32)), (.int ((((q1.toUInt32 >>> ((24 : Int32) &&& 31).toUInt32).toInt32) &&& (255 : Int32)).toUInt32.toUInt16.toUInt32.toInt32)), (.int ((q2 &&& (255 : Int32)).toUInt32.toUInt16.toUInt32.toInt32))]) (rest := []) (lenOf pd_3 rfl) rfl (by show 2 * 0 + _ ≤ _; exact Nat.le_of_eq rfl) (hb hby at_68) (fun _ _ => ⟨rfl, e0, (by decide : 0 + 3 ≤ _), (by decide : 0 + 10 ≤ _)⟩)
    dsimp only [Pt.U, Pt.locs, Pt.cells, Pt.slots] at X132 l132 y132 z132 st132 hQ132 hSn hgn C132
    have X132 : Stand p l e room_1 (s.setVm T132.vm) m #[(.int q0), (.int q1), (.int q2)] below meth c T132 L132 k132 n132 := X132
    have HC := HC.trans C132
    have hk132 := hk
    have hS := State.Since.trans hS hSn (Nat.le_trans hk132 (by rw [← e0]; exact hgn))
    have hk := Nat.le_refl T132.heap.size
    have hown : (s.setVm T132.vm).vm.findClass "com/example/avvik/avvik/io/XsdValuesIsTruePinLaw" = some m.cls := by rw [show (s.setVm T132.vm).vm = T132.vm from rfl, hSn.1.alike.findClass]; exact hown
    have hZ : Z.Warmed39 T132.vm := State.Warmed39.trans hZ hSn.1
    subst l132 y132 z132
    obtain ⟨b9132, t9132, k9132, rfl, N132q, Kq132, P132_0, P132_1, P132_2, P132_3⟩ := hQ132
    have N132 := Fr.app N0 N132q
    refine OFinH.tr st132 ?_
    have K132 : Keep h0 T132.heap [] := K0.trans Kq132 all0
    have sg133 : ∀ t, Steps p.tables e below (T132.setTop (mkF m 157 #[.val (.int q0), .val (.int q1), .val (.int q2), .val (.int (3 : Int32)), .val (.int ((q1 &&& (255 : Int32)).toUInt32.toUInt16.toUInt32.toInt32)), .val (.int ((((q1.toUInt32 >>> ((8 : Int32) &&& 31).toUInt32).toInt32) &&& (255 : Int32)).toUInt32.toUInt16.toUInt32.toInt32)), .val (.int ((((q1.toUInt32 >>> ((16 : Int32) &&& 31).toUInt32).toInt32) &&& (255 : Int32)).toUInt32.toUInt16.toUInt32.toInt32)), .val (.int ((((q1.toUInt32 >>> ((24 : Int32) &&& 31).toUInt32).toInt32) &&& (255 : Int32)).toUInt32.toUInt16.toUInt32.toInt32)), .val (.int ((q2 &&& (255 : Int32)).toUInt32.toUInt16.toUInt32.toInt32)), .val (.ref b9132), .val (.int (0 : Int32)), .val (.int (0 : Int32)), .val (.int (0 : Int32))] [(.ref b9132)])) t → Steps p.tables e below (T132.setTop (mkF m 71 #[.val (.int q0), .val (.int q1), .val (.int q2), .val (.int (3 : Int32)), .val (.int ((q1 &&& (255 : Int32)).toUInt32.toUInt16.toUInt32.toInt32)), .val (.int ((((q1.toUInt32 >>> ((8 : Int32) &&& 31).toUInt32).toInt32) &&& (255 : Int32)).toUInt32.toUInt16.toUInt32.toInt32)), .val (.int ((((q1.toUInt32 >>> ((16 : Int32) &&& 31).toUInt32).toInt32) &&& (255 : Int32)).toUInt32.toUInt16.toUInt32.toInt32)), .val (.int ((((q1.toUInt32 >>> ((24 : Int32) &&& 31).toUInt32).toInt32) &&& (255 : Int32)).toUInt32.toUInt16.toUInt32.toInt32)), .val (.int ((q2 &&& (255 : Int32)).toUInt32.toUInt16.toUInt32.toInt32)), .unset, .unset, .unset, .unset] [(.ref b9132)])) t := by
      intro t k
      show Steps p.tables e below (T132.setTop (mkF m 71 #[.val (.int q0), .val (.int q1), .val (.int q2), .val (.int (3 : Int32)), .val (.int ((q1 &&& (255 : Int32)).toUInt32.toUInt16.toUInt32.toInt32)), .val (.int ((((q1.toUInt32 >>> ((8 : Int32) &&& 31).toUInt32).toInt32) &&& (255 : Int32)).toUInt32.toUInt16.toUInt32.toInt32)), .val (.int ((((q1.toUInt32 >>> ((16 : Int32) &&& 31).toUInt32).toInt32) &&& (255 : Int32)).toUInt32.toUInt16.toUInt32.toInt32)), .val (.int ((((q1.toUInt32 >>> ((24 : Int32) &&& 31).toUInt32).toInt32) &&& (255 : Int32)).toUInt32.toUInt16.toUInt32.toInt32)), .val (.int ((q2 &&& (255 : Int32)).toUInt32.toUInt16.toUInt32.toInt32)), .unset, .unset, .unset, .unset] [(.ref b9132)])) t
      refine XS.astore X132.here hx rfl (hb hby at_71) rfl rfl (l' := #[.val (.int q0), .val (.int q1), .val (.int q2), .val (.int (3 : Int32)), .val (.int ((q1 &&& (255 : Int32)).toUInt32.toUInt16.toUInt32.toInt32)), .val (.int ((((q1.toUInt32 >>> ((8 : Int32) &&& 31).toUInt32).toInt32) &&& (255 : Int32)).toUInt32.toUInt16.toUInt32.toInt32)), .val (.int ((((q1.toUInt32 >>> ((16 : Int32) &&& 31).toUInt32).toInt32) &&& (255 : Int32)).toUInt32.toUInt16.toUInt32.toInt32)), .val (.int ((((q1.toUInt32 >>> ((24 : Int32) &&& 31).toUInt32).toInt32) &&& (255 : Int32)).toUInt32.toUInt16.toUInt32.toInt32)), .val (.int ((q2 &&& (255 : Int32)).toUInt32.toUInt16.toUInt32.toInt32)), .val (.ref b9132), .unset, .unset, .unset]) rfl ?_
      show Steps p.tables e below (T132.setTop (mkF m 73 #[.val (.int q0), .val (.int q1), .val (.int q2), .val (.int (3 : Int32)), .val (.int ((q1 &&& (255 : Int32)).toUInt32.toUInt16.toUInt32.toInt32)), .val (.int ((((q1.toUInt32 >>> ((8 : Int32) &&& 31).toUInt32).toInt32) &&& (255 : Int32)).toUInt32.toUInt16.toUInt32.toInt32)), .val (.int ((((q1.toUInt32 >>> ((16 : Int32) &&& 31).toUInt32).toInt32) &&& (255 : Int32)).toUInt32.toUInt16.toUInt32.toInt32)), .val (.int ((((q1.toUInt32 >>> ((24 : Int32) &&& 31).toUInt32).toInt32) &&& (255 : Int32)).toUInt32.toUInt16.toUInt32.toInt32)), .val (.int ((q2 &&& (255 : Int32)).toUInt32.toUInt16.toUInt32.toInt32)), .val (.ref b9132), .unset, .unset, .unset] [])) t
      refine XS.iloadN X132.here hx rfl (hb hby at_73) rfl ?_
      show Steps p.tables e below (T132.setTop (mkF m 74 #[.val (.int q0), .val (.int q1), .val (.int q2), .val (.int (3 : Int32)), .val (.int ((q1 &&& (255 : Int32)).toUInt32.toUInt16.toUInt32.toInt32)), .val (.int ((((q1.toUInt32 >>> ((8 : Int32) &&& 31).toUInt32).toInt32) &&& (255 : Int32)).toUInt32.toUInt16.toUInt32.toInt32)), .val (.int ((((q1.toUInt32 >>> ((16 : Int32) &&& 31).toUInt32).toInt32) &&& (255 : Int32)).toUInt32.toUInt16.toUInt32.toInt32)), .val (.int ((((q1.toUInt32 >>> ((24 : Int32) &&& 31).toUInt32).toInt32) &&& (255 : Int32)).toUInt32.toUInt16.toUInt32.toInt32)), .val (.int ((q2 &&& (255 : Int32)).toUInt32.toUInt16.toUInt32.toInt32)), .val (.ref b9132), .unset, .unset, .unset] [(.int (3 : Int32))])) t
      refine XS.iconst X132.here hx rfl (hb hby at_74) ?_
      show Steps p.tables e below (T132.setTop (mkF m 75 #[.val (.int q0), .val (.int q1), .val (.int q2), .val (.int (3 : Int32)), .val (.int ((q1 &&& (255 : Int32)).toUInt32.toUInt16.toUInt32.toInt32)), .val (.int ((((q1.toUInt32 >>> ((8 : Int32) &&& 31).toUInt32).toInt32) &&& (255 : Int32)).toUInt32.toUInt16.toUInt32.toInt32)), .val (.int ((((q1.toUInt32 >>> ((16 : Int32) &&& 31).toUInt32).toInt32) &&& (255 : Int32)).toUInt32.toUInt16.toUInt32.toInt32)), .val (.int ((((q1.toUInt32 >>> ((24 : Int32) &&& 31).toUInt32).toInt32) &&& (255 : Int32)).toUInt32.toUInt16.toUInt32.toInt32)), .val (.int ((q2 &&& (255 : Int32)).toUInt32.toUInt16.toUInt32.toInt32)), .val (.ref b9132), .unset, .unset, .unset] [(.int (4 : Int32)), (.int (3 : Int32))])) t
      refine XS.icmpYes X132.here hx rfl (pc0 := 75) (pc' := 110) rfl (hb hby at_75) rfl (feq (by decide : ¬ ((3 : Int32) = (4 : Int32)))).2 (by decide) (by decide) ?_
      show Steps p.tables e below (T132.setTop (mkF m 110 #[.val (.int q0), .val (.int q1), .val (.int q2), .val (.int (3 : Int32)), .val (.int ((q1 &&& (255 : Int32)).toUInt32.toUInt16.toUInt32.toInt32)), .val (.int ((((q1.toUInt32 >>> ((8 : Int32) &&& 31).toUInt32).toInt32) &&& (255 : Int32)).toUInt32.toUInt16.toUInt32.toInt32)), .val (.int ((((q1.toUInt32 >>> ((16 : Int32) &&& 31).toUInt32).toInt32) &&& (255 : Int32)).toUInt32.toUInt16.toUInt32.toInt32)), .val (.int ((((q1.toUInt32 >>> ((24 : Int32) &&& 31).toUInt32).toInt32) &&& (255 : Int32)).toUInt32.toUInt16.toUInt32.toInt32)), .val (.int ((q2 &&& (255 : Int32)).toUInt32.toUInt16.toUInt32.toInt32)), .val (.ref b9132), .unset, .unset, .unset] [])) t
      refine XS.iconst X132.here hx rfl (hb hby at_110) ?_
      show Steps p.tables e below (T132.setTop (mkF m 111 #[.val (.int q0), .val (.int q1), .val (.int q2), .val (.int (3 : Int32)), .val (.int ((q1 &&& (255 : Int32)).toUInt32.toUInt16.toUInt32.toInt32)), .val (.int ((((q1.toUInt32 >>> ((8 : Int32) &&& 31).toUInt32).toInt32) &&& (255 : Int32)).toUInt32.toUInt16.toUInt32.toInt32)), .val (.int ((((q1.toUInt32 >>> ((16 : Int32) &&& 31).toUInt32).toInt32) &&& (255 : Int32)).toUInt32.toUInt16.toUInt32.toInt32)), .val (.int ((((q1.toUInt32 >>> ((24 : Int32) &&& 31).toUInt32).toInt32) &&& (255 : Int32)).toUInt32.toUInt16.toUInt32.toInt32)), .val (.int ((q2 &&& (255 : Int32)).toUInt32.toUInt16.toUInt32.toInt32)), .val (.ref b9132), .unset, .unset, .unset] [(.int (0 : Int32))])) t
      refine XS.istore X132.here hx rfl (hb hby at_111) rfl (l' := #[.val (.int q0), .val (.int q1), .val (.int q2), .val (.int (3 : Int32)), .val (.int ((q1 &&& (255 : Int32)).toUInt32.toUInt16.toUInt32.toInt32)), .val (.int ((((q1.toUInt32 >>> ((8 : Int32) &&& 31).toUInt32).toInt32) &&& (255 : Int32)).toUInt32.toUInt16.toUInt32.toInt32)), .val (.int ((((q1.toUInt32 >>> ((16 : Int32) &&& 31).toUInt32).toInt32) &&& (255 : Int32)).toUInt32.toUInt16.toUInt32.toInt32)), .val (.int ((((q1.toUInt32 >>> ((24 : Int32) &&& 31).toUInt32).toInt32) &&& (255 : Int32)).toUInt32.toUInt16.toUInt32.toInt32)), .val (.int ((q2 &&& (255 : Int32)).toUInt32.toUInt16.toUInt32.toInt32)), .val (.ref b9132), .val (.int (0 : Int32)), .unset, .unset]) rfl ?_
      show Steps p.tables e below (T132.setTop (mkF m 113 #[.val (.int q0), .val (.int q1), .val (.int q2), .val (.int (3 : Int32)), .val (.int ((q1 &&& (255 : Int32)).toUInt32.toUInt16.toUInt32.toInt32)), .val (.int ((((q1.toUInt32 >>> ((8 : Int32) &&& 31).toUInt32).toInt32) &&& (255 : Int32)).toUInt32.toUInt16.toUInt32.toInt32)), .val (.int ((((q1.toUInt32 >>> ((16 : Int32) &&& 31).toUInt32).toInt32) &&& (255 : Int32)).toUInt32.toUInt16.toUInt32.toInt32)), .val (.int ((((q1.toUInt32 >>> ((24 : Int32) &&& 31).toUInt32).toInt32) &&& (255 : Int32)).toUInt32.toUInt16.toUInt32.toInt32)), .val (.int ((q2 &&& (255 : Int32)).toUInt32.toUInt16.toUInt32.toInt32)), .val (.ref b9132), .val (.int (0 : Int32)), .unset, .unset] [])) t
      refine XS.iloadN X132.here hx rfl (hb hby at_113) rfl ?_
      show Steps p.tables e below (T132.setTop (mkF m 114 #[.val (.int q0), .val (.int q1), .val (.int q2), .val (.int (3 : Int32)), .val (.int ((q1 &&& (255 : Int32)).toUInt32.toUInt16.toUInt32.toInt32)), .val (.int ((((q1.toUInt32 >>> ((8 : Int32) &&& 31).toUInt32).toInt32) &&& (255 : Int32)).toUInt32.toUInt16.toUInt32.toInt32)), .val (.int ((((q1.toUInt32 >>> ((16 : Int32) &&& 31).toUInt32).toInt32) &&& (255 : Int32)).toUInt32.toUInt16.toUInt32.toInt32)), .val (.int ((((q1.toUInt32 >>> ((24 : Int32) &&& 31).toUInt32).toInt32) &&& (255 : Int32)).toUInt32.toUInt16.toUInt32.toInt32)), .val (.int ((q2 &&& (255 : Int32)).toUInt32.toUInt16.toUInt32.toInt32)), .val (.ref b9132), .val (.int (0 : Int32)), .unset, .unset] [(.int (3 : Int32))])) t
      refine XS.iconst X132.here hx rfl (hb hby at_114) ?_
      show Steps p.tables e below (T132.setTop (mkF m 115 #[.val (.int q0), .val (.int q1), .val (.int q2), .val (.int (3 : Int32)), .val (.int ((q1 &&& (255 : Int32)).toUInt32.toUInt16.toUInt32.toInt32)), .val (.int ((((q1.toUInt32 >>> ((8 : Int32) &&& 31).toUInt32).toInt32) &&& (255 : Int32)).toUInt32.toUInt16.toUInt32.toInt32)), .val (.int ((((q1.toUInt32 >>> ((16 : Int32) &&& 31).toUInt32).toInt32) &&& (255 : Int32)).toUInt32.toUInt16.toUInt32.toInt32)), .val (.int ((((q1.toUInt32 >>> ((24 : Int32) &&& 31).toUInt32).toInt32) &&& (255 : Int32)).toUInt32.toUInt16.toUInt32.toInt32)), .val (.int ((q2 &&& (255 : Int32)).toUInt32.toUInt16.toUInt32.toInt32)), .val (.ref b9132), .val (.int (0 : Int32)), .unset, .unset] [(.int (1 : Int32)), (.int (3 : Int32))])) t
      refine XS.icmpYes X132.here hx rfl (pc0 := 115) (pc' := 129) rfl (hb hby at_115) rfl (feq (by decide : ¬ ((3 : Int32) = (1 : Int32)))).2 (by decide) (by decide) ?_
      show Steps p.tables e below (T132.setTop (mkF m 129 #[.val (.int q0), .val (.int q1), .val (.int q2), .val (.int (3 : Int32)), .val (.int ((q1 &&& (255 : Int32)).toUInt32.toUInt16.toUInt32.toInt32)), .val (.int ((((q1.toUInt32 >>> ((8 : Int32) &&& 31).toUInt32).toInt32) &&& (255 : Int32)).toUInt32.toUInt16.toUInt32.toInt32)), .val (.int ((((q1.toUInt32 >>> ((16 : Int32) &&& 31).toUInt32).toInt32) &&& (255 : Int32)).toUInt32.toUInt16.toUInt32.toInt32)), .val (.int ((((q1.toUInt32 >>> ((24 : Int32) &&& 31).toUInt32).toInt32) &&& (255 : Int32)).toUInt32.toUInt16.toUInt32.toInt32)), .val (.int ((q2 &&& (255 : Int32)).toUInt32.toUInt16.toUInt32.toInt32)), .val (.ref b9132), .val (.int (0 : Int32)), .unset, .unset] [])) t
      refine XS.iconst X132.here hx rfl (hb hby at_129) ?_
      show Steps p.tables e below (T132.setTop (mkF m 130 #[.val (.int q0), .val (.int q1), .val (.int q2), .val (.int (3 : Int32)), .val (.int ((q1 &&& (255 : Int32)).toUInt32.toUInt16.toUInt32.toInt32)), .val (.int ((((q1.toUInt32 >>> ((8 : Int32) &&& 31).toUInt32).toInt32) &&& (255 : Int32)).toUInt32.toUInt16.toUInt32.toInt32)), .val (.int ((((q1.toUInt32 >>> ((16 : Int32) &&& 31).toUInt32).toInt32) &&& (255 : Int32)).toUInt32.toUInt16.toUInt32.toInt32)), .val (.int ((((q1.toUInt32 >>> ((24 : Int32) &&& 31).toUInt32).toInt32) &&& (255 : Int32)).toUInt32.toUInt16.toUInt32.toInt32)), .val (.int ((q2 &&& (255 : Int32)).toUInt32.toUInt16.toUInt32.toInt32)), .val (.ref b9132), .val (.int (0 : Int32)), .unset, .unset] [(.int (0 : Int32))])) t
      refine XS.istore X132.here hx rfl (hb hby at_130) rfl (l' := #[.val (.int q0), .val (.int q1), .val (.int q2), .val (.int (3 : Int32)), .val (.int ((q1 &&& (255 : Int32)).toUInt32.toUInt16.toUInt32.toInt32)), .val (.int ((((q1.toUInt32 >>> ((8 : Int32) &&& 31).toUInt32).toInt32) &&& (255 : Int32)).toUInt32.toUInt16.toUInt32.toInt32)), .val (.int ((((q1.toUInt32 >>> ((16 : Int32) &&& 31).toUInt32).toInt32) &&& (255 : Int32)).toUInt32.toUInt16.toUInt32.toInt32)), .val (.int ((((q1.toUInt32 >>> ((24 : Int32) &&& 31).toUInt32).toInt32) &&& (255 : Int32)).toUInt32.toUInt16.toUInt32.toInt32)), .val (.int ((q2 &&& (255 : Int32)).toUInt32.toUInt16.toUInt32.toInt32)), .val (.ref b9132), .val (.int (0 : Int32)), .val (.int (0 : Int32)), .unset]) rfl ?_
      show Steps p.tables e below (T132.setTop (mkF m 132 #[.val (.int q0), .val (.int q1), .val (.int q2), .val (.int (3 : Int32)), .val (.int ((q1 &&& (255 : Int32)).toUInt32.toUInt16.toUInt32.toInt32)), .val (.int ((((q1.toUInt32 >>> ((8 : Int32) &&& 31).toUInt32).toInt32) &&& (255 : Int32)).toUInt32.toUInt16.toUInt32.toInt32)), .val (.int ((((q1.toUInt32 >>> ((16 : Int32) &&& 31).toUInt32).toInt32) &&& (255 : Int32)).toUInt32.toUInt16.toUInt32.toInt32)), .val (.int ((((q1.toUInt32 >>> ((24 : Int32) &&& 31).toUInt32).toInt32) &&& (255 : Int32)).toUInt32.toUInt16.toUInt32.toInt32)), .val (.int ((q2 &&& (255 : Int32)).toUInt32.toUInt16.toUInt32.toInt32)), .val (.ref b9132), .val (.int (0 : Int32)), .val (.int (0 : Int32)), .unset] [])) t
      refine XS.iloadN X132.here hx rfl (hb hby at_132) rfl ?_
      show Steps p.tables e below (T132.setTop (mkF m 133 #[.val (.int q0), .val (.int q1), .val (.int q2), .val (.int (3 : Int32)), .val (.int ((q1 &&& (255 : Int32)).toUInt32.toUInt16.toUInt32.toInt32)), .val (.int ((((q1.toUInt32 >>> ((8 : Int32) &&& 31).toUInt32).toInt32) &&& (255 : Int32)).toUInt32.toUInt16.toUInt32.toInt32)), .val (.int ((((q1.toUInt32 >>> ((16 : Int32) &&& 31).toUInt32).toInt32) &&& (255 : Int32)).toUInt32.toUInt16.toUInt32.toInt32)), .val (.int ((((q1.toUInt32 >>> ((24 : Int32) &&& 31).toUInt32).toInt32) &&& (255 : Int32)).toUInt32.toUInt16.toUInt32.toInt32)), .val (.int ((q2 &&& (255 : Int32)).toUInt32.toUInt16.toUInt32.toInt32)), .val (.ref b9132), .val (.int (0 : Int32)), .val (.int (0 : Int32)), .unset] [(.int (3 : Int32))])) t
      refine XS.bipush X132.here hx rfl (hb hby at_133) ?_
      show Steps p.tables e below (T132.setTop (mkF m 135 #[.val (.int q0), .val (.int q1), .val (.int q2), .val (.int (3 : Int32)), .val (.int ((q1 &&& (255 : Int32)).toUInt32.toUInt16.toUInt32.toInt32)), .val (.int ((((q1.toUInt32 >>> ((8 : Int32) &&& 31).toUInt32).toInt32) &&& (255 : Int32)).toUInt32.toUInt16.toUInt32.toInt32)), .val (.int ((((q1.toUInt32 >>> ((16 : Int32) &&& 31).toUInt32).toInt32) &&& (255 : Int32)).toUInt32.toUInt16.toUInt32.toInt32)), .val (.int ((((q1.toUInt32 >>> ((24 : Int32) &&& 31).toUInt32).toInt32) &&& (255 : Int32)).toUInt32.toUInt16.toUInt32.toInt32)), .val (.int ((q2 &&& (255 : Int32)).toUInt32.toUInt16.toUInt32.toInt32)), .val (.ref b9132), .val (.int (0 : Int32)), .val (.int (0 : Int32)), .unset] [(.int (6 : Int32)), (.int (3 : Int32))])) t
      refine XS.icmpNo X132.here hx rfl (hb hby at_135) rfl (feq (by decide : ¬ ((3 : Int32) = (6 : Int32)))).1 ?_
      show Steps p.tables e below (T132.setTop (mkF m 138 #[.val (.int q0), .val (.int q1), .val (.int q2), .val (.int (3 : Int32)), .val (.int ((q1 &&& (255 : Int32)).toUInt32.toUInt16.toUInt32.toInt32)), .val (.int ((((q1.toUInt32 >>> ((8 : Int32) &&& 31).toUInt32).toInt32) &&& (255 : Int32)).toUInt32.toUInt16.toUInt32.toInt32)), .val (.int ((((q1.toUInt32 >>> ((16 : Int32) &&& 31).toUInt32).toInt32) &&& (255 : Int32)).toUInt32.toUInt16.toUInt32.toInt32)), .val (.int ((((q1.toUInt32 >>> ((24 : Int32) &&& 31).toUInt32).toInt32) &&& (255 : Int32)).toUInt32.toUInt16.toUInt32.toInt32)), .val (.int ((q2 &&& (255 : Int32)).toUInt32.toUInt16.toUInt32.toInt32)), .val (.ref b9132), .val (.int (0 : Int32)), .val (.int (0 : Int32)), .unset] [])) t
      refine XS.iload X132.here hx rfl (hb hby at_138) rfl ?_
      show Steps p.tables e below (T132.setTop (mkF m 140 #[.val (.int q0), .val (.int q1), .val (.int q2), .val (.int (3 : Int32)), .val (.int ((q1 &&& (255 : Int32)).toUInt32.toUInt16.toUInt32.toInt32)), .val (.int ((((q1.toUInt32 >>> ((8 : Int32) &&& 31).toUInt32).toInt32) &&& (255 : Int32)).toUInt32.toUInt16.toUInt32.toInt32)), .val (.int ((((q1.toUInt32 >>> ((16 : Int32) &&& 31).toUInt32).toInt32) &&& (255 : Int32)).toUInt32.toUInt16.toUInt32.toInt32)), .val (.int ((((q1.toUInt32 >>> ((24 : Int32) &&& 31).toUInt32).toInt32) &&& (255 : Int32)).toUInt32.toUInt16.toUInt32.toInt32)), .val (.int ((q2 &&& (255 : Int32)).toUInt32.toUInt16.toUInt32.toInt32)), .val (.ref b9132), .val (.int (0 : Int32)), .val (.int (0 : Int32)), .unset] [(.int (0 : Int32))])) t
      refine XS.ifNo X132.here hx rfl (hb hby at_140) rfl ((if0 _ _).trans (teq (by decide : (0 : Int32) = (0 : Int32))).2) ?_
      show Steps p.tables e below (T132.setTop (mkF m 143 #[.val (.int q0), .val (.int q1), .val (.int q2), .val (.int (3 : Int32)), .val (.int ((q1 &&& (255 : Int32)).toUInt32.toUInt16.toUInt32.toInt32)), .val (.int ((((q1.toUInt32 >>> ((8 : Int32) &&& 31).toUInt32).toInt32) &&& (255 : Int32)).toUInt32.toUInt16.toUInt32.toInt32)), .val (.int ((((q1.toUInt32 >>> ((16 : Int32) &&& 31).toUInt32).toInt32) &&& (255 : Int32)).toUInt32.toUInt16.toUInt32.toInt32)), .val (.int ((((q1.toUInt32 >>> ((24 : Int32) &&& 31).toUInt32).toInt32) &&& (255 : Int32)).toUInt32.toUInt16.toUInt32.toInt32)), .val (.int ((q2 &&& (255 : Int32)).toUInt32.toUInt16.toUInt32.toInt32)), .val (.ref b9132), .val (.int (0 : Int32)), .val (.int (0 : Int32)), .unset] [])) t
      refine XS.iload X132.here hx rfl (hb hby at_143) rfl ?_
      show Steps p.tables e below (T132.setTop (mkF m 145 #[.val (.int q0), .val (.int q1), .val (.int q2), .val (.int (3 : Int32)), .val (.int ((q1 &&& (255 : Int32)).toUInt32.toUInt16.toUInt32.toInt32)), .val (.int ((((q1.toUInt32 >>> ((8 : Int32) &&& 31).toUInt32).toInt32) &&& (255 : Int32)).toUInt32.toUInt16.toUInt32.toInt32)), .val (.int ((((q1.toUInt32 >>> ((16 : Int32) &&& 31).toUInt32).toInt32) &&& (255 : Int32)).toUInt32.toUInt16.toUInt32.toInt32)), .val (.int ((((q1.toUInt32 >>> ((24 : Int32) &&& 31).toUInt32).toInt32) &&& (255 : Int32)).toUInt32.toUInt16.toUInt32.toInt32)), .val (.int ((q2 &&& (255 : Int32)).toUInt32.toUInt16.toUInt32.toInt32)), .val (.ref b9132), .val (.int (0 : Int32)), .val (.int (0 : Int32)), .unset] [(.int (0 : Int32))])) t
      refine XS.ifYes X132.here hx rfl (pc0 := 145) (pc' := 152) rfl (hb hby at_145) rfl ((if0 _ _).trans (teq (by decide : (0 : Int32) = (0 : Int32))).1) (by decide) (by decide) ?_
      show Steps p.tables e below (T132.setTop (mkF m 152 #[.val (.int q0), .val (.int q1), .val (.int q2), .val (.int (3 : Int32)), .val (.int ((q1 &&& (255 : Int32)).toUInt32.toUInt16.toUInt32.toInt32)), .val (.int ((((q1.toUInt32 >>> ((8 : Int32) &&& 31).toUInt32).toInt32) &&& (255 : Int32)).toUInt32.toUInt16.toUInt32.toInt32)), .val (.int ((((q1.toUInt32 >>> ((16 : Int32) &&& 31).toUInt32).toInt32) &&& (255 : Int32)).toUInt32.toUInt16.toUInt32.toInt32)), .val (.int ((((q1.toUInt32 >>> ((24 : Int32) &&& 31).toUInt32).toInt32) &&& (255 : Int32)).toUInt32.toUInt16.toUInt32.toInt32)), .val (.int ((q2 &&& (255 : Int32)).toUInt32.toUInt16.toUInt32.toInt32)), .val (.ref b9132), .val (.int (0 : Int32)), .val (.int (0 : Int32)), .unset] [])) t
      refine XS.iconst X132.here hx rfl (hb hby at_152) ?_
      show Steps p.tables e below (T132.setTop (mkF m 153 #[.val (.int q0), .val (.int q1), .val (.int q2), .val (.int (3 : Int32)), .val (.int ((q1 &&& (255 : Int32)).toUInt32.toUInt16.toUInt32.toInt32)), .val (.int ((((q1.toUInt32 >>> ((8 : Int32) &&& 31).toUInt32).toInt32) &&& (255 : Int32)).toUInt32.toUInt16.toUInt32.toInt32)), .val (.int ((((q1.toUInt32 >>> ((16 : Int32) &&& 31).toUInt32).toInt32) &&& (255 : Int32)).toUInt32.toUInt16.toUInt32.toInt32)), .val (.int ((((q1.toUInt32 >>> ((24 : Int32) &&& 31).toUInt32).toInt32) &&& (255 : Int32)).toUInt32.toUInt16.toUInt32.toInt32)), .val (.int ((q2 &&& (255 : Int32)).toUInt32.toUInt16.toUInt32.toInt32)), .val (.ref b9132), .val (.int (0 : Int32)), .val (.int (0 : Int32)), .unset] [(.int (0 : Int32))])) t
      refine XS.istore X132.here hx rfl (hb hby at_153) rfl (l' := #[.val (.int q0), .val (.int q1), .val (.int q2), .val (.int (3 : Int32)), .val (.int ((q1 &&& (255 : Int32)).toUInt32.toUInt16.toUInt32.toInt32)), .val (.int ((((q1.toUInt32 >>> ((8 : Int32) &&& 31).toUInt32).toInt32) &&& (255 : Int32)).toUInt32.toUInt16.toUInt32.toInt32)), .val (.int ((((q1.toUInt32 >>> ((16 : Int32) &&& 31).toUInt32).toInt32) &&& (255 : Int32)).toUInt32.toUInt16.toUInt32.toInt32)), .val (.int ((((q1.toUInt32 >>> ((24 : Int32) &&& 31).toUInt32).toInt32) &&& (255 : Int32)).toUInt32.toUInt16.toUInt32.toInt32)), .val (.int ((q2 &&& (255 : Int32)).toUInt32.toUInt16.toUInt32.toInt32)), .val (.ref b9132), .val (.int (0 : Int32)), .val (.int (0 : Int32)), .val (.int (0 : Int32))]) rfl ?_
      show Steps p.tables e below (T132.setTop (mkF m 155 #[.val (.int q0), .val (.int q1), .val (.int q2), .val (.int (3 : Int32)), .val (.int ((q1 &&& (255 : Int32)).toUInt32.toUInt16.toUInt32.toInt32)), .val (.int ((((q1.toUInt32 >>> ((8 : Int32) &&& 31).toUInt32).toInt32) &&& (255 : Int32)).toUInt32.toUInt16.toUInt32.toInt32)), .val (.int ((((q1.toUInt32 >>> ((16 : Int32) &&& 31).toUInt32).toInt32) &&& (255 : Int32)).toUInt32.toUInt16.toUInt32.toInt32)), .val (.int ((((q1.toUInt32 >>> ((24 : Int32) &&& 31).toUInt32).toInt32) &&& (255 : Int32)).toUInt32.toUInt16.toUInt32.toInt32)), .val (.int ((q2 &&& (255 : Int32)).toUInt32.toUInt16.toUInt32.toInt32)), .val (.ref b9132), .val (.int (0 : Int32)), .val (.int (0 : Int32)), .val (.int (0 : Int32))] [])) t
      refine XS.aload X132.here hx rfl (hb hby at_155) rfl rfl ?_
      exact k
    refine OFinH.go sg133 ?_
    have hpc : ∀ c ∈ ([(nar .char ((q1 &&& (255 : Int32)).toUInt32.toUInt16.toUInt32.toInt32)), (nar .char ((((q1.toUInt32 >>> ((8 : Int32) &&& 31).toUInt32).toInt32) &&& (255 : Int32)).toUInt32.toUInt16.toUInt32.toInt32)), (nar .char ((((q1.toUInt32 >>> ((16 : Int32) &&& 31).toUInt32).toInt32) &&& (255 : Int32)).toUInt32.toUInt16.toUInt32.toInt32))] : List Int32), ¬ c < 0 ∧ ¬ (255 : Int32) < c := (own_allS (own_ch _) (own_allS (own_ch _) (own_allS (own_ch _) own_all0)))
    obtain ⟨_, _, ⟨T134, L134, k134, n134⟩, -, X134, hSn, hgn, ⟨Lc134, hQ134, l134, y134, z134, C134⟩, st134⟩ := callSS X132 hx (y := (⟨"com/example/avvik/avvik/io/XsdValues", "isTrue", "(Ljava/lang/String;)Z"⟩ : MethodName)) hown (mvT hZ (hw _ (List.mem_of_getElem? (i := 27) rfl))) (mvT hZ (hw _ (List.mem_of_getElem? (i := 28) rfl))) (mvT hZ (hw _ (List.mem_of_getElem? (i := 29) rfl))) (mvT hZ (hw _ (List.mem_of_getElem? (i := 30) rfl))) (by decide) (own_back (W := 0) (sf := []) (rm5 l Z aZ hw hEL [] b9132 ([(nar .char ((q1 &&& (255 : Int32)).toUInt32.toUInt16.toUInt32.toInt32)), (nar .char ((((q1.toUInt32 >>> ((8 : Int32) &&& 31).toUInt32).toInt32) &&& (255 : Int32)).toUInt32.toUInt16.toUInt32.toInt32)), (nar .char ((((q1.toUInt32 >>> ((16 : Int32) &&& 31).toUInt32).toInt32) &&& (255 : Int32)).toUInt32.toUInt16.toUInt32.toInt32))] : List Int32) t9132 k9132 (3 : Int32) ((([(nar .char ((q1 &&& (255 : Int32)).toUInt32.toUInt16.toUInt32.toInt32)), (nar .char ((((q1.toUInt32 >>> ((8 : Int32) &&& 31).toUInt32).toInt32) &&& (255 : Int32)).toUInt32.toUInt16.toUInt32.toInt32)), (nar .char ((((q1.toUInt32 >>> ((16 : Int32) &&& 31).toUInt32).toInt32) &&& (255 : Int32)).toUInt32.toUInt16.toUInt32.toInt32))] : List Int32).map (fun c => c.toInt8.toInt32)).map Value.int) w1 T132.heap n0 (Nat.le_trans Z0 K132.1) (O0.keep Kq132 all0) P132_0 P132_1 P132_2 P132_3 S1 (StrChars.Road.codOf (n := 3) rfl (fun c hc => (hpc c hc).2)) (own_up _ hpc) (Nat.le_of_ble_eq_true rfl) hcs) hZ (hw _ (List.mem_of_getElem? (i := 30) rfl)) (hw _ (List.mem_of_getElem? (i := 29) rfl)) (by decide) (by decide) hEL HC.1 all0 all0) (g := (mkF m 157 #[.val (.int q0), .val (.int q1), .val (.int q2), .val (.int (3 : Int32)), .val (.int ((q1 &&& (255 : Int32)).toUInt32.toUInt16.toUInt32.toInt32)), .val (.int ((((q1.toUInt32 >>> ((8 : Int32) &&& 31).toUInt32).toInt32) &&& (255 : Int32)).toUInt32.toUInt16.toUInt32.toInt32)), .val (.int ((((q1.toUInt32 >>> ((16 : Int32) &&& 31).toUInt32).toInt32) &&& (255 : Int32)).toUInt32.toUInt16.toUInt32.toInt32)), .val (.int ((((q1.toUInt32 >>> ((24 : Int32) &&& 31).toUInt32).toInt32) &&& (255 : Int32)).toUInt32.toUInt16.toUInt32.toInt32)), .val (.int ((q2 &&& (255 : Int32)).toUInt32.toUInt16.toUInt32.toInt32)), .val (.ref b9132), .val (.int (0 : Int32)), .val (.int (0 : Int32)), .val (.int (0 : Int32))] [(.ref b9132)])) rfl (by rw [hml]; rfl) (argsL := [(.ref b9132)]) (rest := []) (lenOf pd_4 rfl) rfl (by show 2 * 0 + _ ≤ _; exact Nat.le_of_eq rfl) (hb hby at_157) (fun _ _ => ⟨rfl, rfl, (by decide : 3 + 4 ≤ _), (by decide : 10 + 28 ≤ _)⟩)
    dsimp only [Pt.U, Pt.locs, Pt.cells, Pt.slots] at X134 l134 y134 z134 st134 hQ134 hSn hgn C134
    have X134 : Stand p l e room_1 (s.setVm T134.vm) m #[(.int q0), (.int q1), (.int q2)] below meth c T134 L134 k134 n134 := X134
    have HC := HC.trans C134
    have hk134 := hk
    have hS := State.Since.trans hS hSn (Nat.le_trans hk134 hgn)
    have hk := Nat.le_refl T134.heap.size
    have hown : (s.setVm T134.vm).vm.findClass "com/example/avvik/avvik/io/XsdValuesIsTruePinLaw" = some m.cls := by rw [show (s.setVm T134.vm).vm = T134.vm from rfl, hSn.1.alike.findClass]; exact hown
    have hZ : Z.Warmed39 T134.vm := State.Warmed39.trans hZ hSn.1
    subst l134 y134 z134
    obtain ⟨rfl, N134q, Kq134⟩ := hQ134
    have N134 := Fr.app N132 N134q
    refine OFinH.tr st134 ?_
    have K134 : Keep h0 T134.heap [] := K132.trans Kq134 all0
    have sg136 : ∀ t, Steps p.tables e below (T134.setTop (mkF m 162 #[.val (.int q0), .val (.int q1), .val (.int q2), .val (.int (3 : Int32)), .val (.int ((q1 &&& (255 : Int32)).toUInt32.toUInt16.toUInt32.toInt32)), .val (.int ((((q1.toUInt32 >>> ((8 : Int32) &&& 31).toUInt32).toInt32) &&& (255 : Int32)).toUInt32.toUInt16.toUInt32.toInt32)), .val (.int ((((q1.toUInt32 >>> ((16 : Int32) &&& 31).toUInt32).toInt32) &&& (255 : Int32)).toUInt32.toUInt16.toUInt32.toInt32)), .val (.int ((((q1.toUInt32 >>> ((24 : Int32) &&& 31).toUInt32).toInt32) &&& (255 : Int32)).toUInt32.toUInt16.toUInt32.toInt32)), .val (.int ((q2 &&& (255 : Int32)).toUInt32.toUInt16.toUInt32.toInt32)), .val (.ref b9132), .val (.int (0 : Int32)), .val (.int (0 : Int32)), .val (.int (0 : Int32))] [(.int (0 : Int32)), (.int (if ([(nar .char ((q1 &&& (255 : Int32)).toUInt32.toUInt16.toUInt32.toInt32)), (nar .char ((((q1.toUInt32 >>> ((8 : Int32) &&& 31).toUInt32).toInt32) &&& (255 : Int32)).toUInt32.toUInt16.toUInt32.toInt32)), (nar .char ((((q1.toUInt32 >>> ((16 : Int32) &&& 31).toUInt32).toInt32) &&& (255 : Int32)).toUInt32.toUInt16.toUInt32.toInt32))] : List Int32) = ([116, 114, 117, 101] : List Int32) ∨ ([(nar .char ((q1 &&& (255 : Int32)).toUInt32.toUInt16.toUInt32.toInt32)), (nar .char ((((q1.toUInt32 >>> ((8 : Int32) &&& 31).toUInt32).toInt32) &&& (255 : Int32)).toUInt32.toUInt16.toUInt32.toInt32)), (nar .char ((((q1.toUInt32 >>> ((16 : Int32) &&& 31).toUInt32).toInt32) &&& (255 : Int32)).toUInt32.toUInt16.toUInt32.toInt32))] : List Int32) = ([49] : List Int32) then (1 : Int32) else (0 : Int32)))])) t → Steps p.tables e below (T134.setTop (mkF m 160 #[.val (.int q0), .val (.int q1), .val (.int q2), .val (.int (3 : Int32)), .val (.int ((q1 &&& (255 : Int32)).toUInt32.toUInt16.toUInt32.toInt32)), .val (.int ((((q1.toUInt32 >>> ((8 : Int32) &&& 31).toUInt32).toInt32) &&& (255 : Int32)).toUInt32.toUInt16.toUInt32.toInt32)), .val (.int ((((q1.toUInt32 >>> ((16 : Int32) &&& 31).toUInt32).toInt32) &&& (255 : Int32)).toUInt32.toUInt16.toUInt32.toInt32)), .val (.int ((((q1.toUInt32 >>> ((24 : Int32) &&& 31).toUInt32).toInt32) &&& (255 : Int32)).toUInt32.toUInt16.toUInt32.toInt32)), .val (.int ((q2 &&& (255 : Int32)).toUInt32.toUInt16.toUInt32.toInt32)), .val (.ref b9132), .val (.int (0 : Int32)), .val (.int (0 : Int32)), .val (.int (0 : Int32))] [(.int (if ([(nar .char ((q1 &&& (255 : Int32)).toUInt32.toUInt16.toUInt32.toInt32)), (nar .char ((((q1.toUInt32 >>> ((8 : Int32) &&& 31).toUInt32).toInt32) &&& (255 : Int32)).toUInt32.toUInt16.toUInt32.toInt32)), (nar .char ((((q1.toUInt32 >>> ((16 : Int32) &&& 31).toUInt32).toInt32) &&& (255 : Int32)).toUInt32.toUInt16.toUInt32.toInt32))] : List Int32) = ([116, 114, 117, 101] : List Int32) ∨ ([(nar .char ((q1 &&& (255 : Int32)).toUInt32.toUInt16.toUInt32.toInt32)), (nar .char ((((q1.toUInt32 >>> ((8 : Int32) &&& 31).toUInt32).toInt32) &&& (255 : Int32)).toUInt32.toUInt16.toUInt32.toInt32)), (nar .char ((((q1.toUInt32 >>> ((16 : Int32) &&& 31).toUInt32).toInt32) &&& (255 : Int32)).toUInt32.toUInt16.toUInt32.toInt32))] : List Int32) = ([49] : List Int32) then (1 : Int32) else (0 : Int32)))])) t := by
      intro t k
      show Steps p.tables e below (T134.setTop (mkF m 160 #[.val (.int q0), .val (.int q1), .val (.int q2), .val (.int (3 : Int32)), .val (.int ((q1 &&& (255 : Int32)).toUInt32.toUInt16.toUInt32.toInt32)), .val (.int ((((q1.toUInt32 >>> ((8 : Int32) &&& 31).toUInt32).toInt32) &&& (255 : Int32)).toUInt32.toUInt16.toUInt32.toInt32)), .val (.int ((((q1.toUInt32 >>> ((16 : Int32) &&& 31).toUInt32).toInt32) &&& (255 : Int32)).toUInt32.toUInt16.toUInt32.toInt32)), .val (.int ((((q1.toUInt32 >>> ((24 : Int32) &&& 31).toUInt32).toInt32) &&& (255 : Int32)).toUInt32.toUInt16.toUInt32.toInt32)), .val (.int ((q2 &&& (255 : Int32)).toUInt32.toUInt16.toUInt32.toInt32)), .val (.ref b9132), .val (.int (0 : Int32)), .val (.int (0 : Int32)), .val (.int (0 : Int32))] [(.int (if ([(nar .char ((q1 &&& (255 : Int32)).toUInt32.toUInt16.toUInt32.toInt32)), (nar .char ((((q1.toUInt32 >>> ((8 : Int32) &&& 31).toUInt32).toInt32) &&& (255 : Int32)).toUInt32.toUInt16.toUInt32.toInt32)), (nar .char ((((q1.toUInt32 >>> ((16 : Int32) &&& 31).toUInt32).toInt32) &&& (255 : Int32)).toUInt32.toUInt16.toUInt32.toInt32))] : List Int32) = ([116, 114, 117, 101] : List Int32) ∨ ([(nar .char ((q1 &&& (255 : Int32)).toUInt32.toUInt16.toUInt32.toInt32)), (nar .char ((((q1.toUInt32 >>> ((8 : Int32) &&& 31).toUInt32).toInt32) &&& (255 : Int32)).toUInt32.toUInt16.toUInt32.toInt32)), (nar .char ((((q1.toUInt32 >>> ((16 : Int32) &&& 31).toUInt32).toInt32) &&& (255 : Int32)).toUInt32.toUInt16.toUInt32.toInt32))] : List Int32) = ([49] : List Int32) then (1 : Int32) else (0 : Int32)))])) t
      refine XS.iload X134.here hx rfl (hb hby at_160) rfl ?_
      exact k
    refine OFinH.go sg136 ?_
    have c135 : (if ([(nar .char ((q1 &&& (255 : Int32)).toUInt32.toUInt16.toUInt32.toInt32)), (nar .char ((((q1.toUInt32 >>> ((8 : Int32) &&& 31).toUInt32).toInt32) &&& (255 : Int32)).toUInt32.toUInt16.toUInt32.toInt32)), (nar .char ((((q1.toUInt32 >>> ((16 : Int32) &&& 31).toUInt32).toInt32) &&& (255 : Int32)).toUInt32.toUInt16.toUInt32.toInt32))] : List Int32) = ([116, 114, 117, 101] : List Int32) ∨ ([(nar .char ((q1 &&& (255 : Int32)).toUInt32.toUInt16.toUInt32.toInt32)), (nar .char ((((q1.toUInt32 >>> ((8 : Int32) &&& 31).toUInt32).toInt32) &&& (255 : Int32)).toUInt32.toUInt16.toUInt32.toInt32)), (nar .char ((((q1.toUInt32 >>> ((16 : Int32) &&& 31).toUInt32).toInt32) &&& (255 : Int32)).toUInt32.toUInt16.toUInt32.toInt32))] : List Int32) = ([49] : List Int32) then (1 : Int32) else (0 : Int32)) = (0 : Int32) := (by simp)
    have sg137 : ∀ t, Steps p.tables e below (T134.setTop (mkF m 170 #[.val (.int q0), .val (.int q1), .val (.int q2), .val (.int (3 : Int32)), .val (.int ((q1 &&& (255 : Int32)).toUInt32.toUInt16.toUInt32.toInt32)), .val (.int ((((q1.toUInt32 >>> ((8 : Int32) &&& 31).toUInt32).toInt32) &&& (255 : Int32)).toUInt32.toUInt16.toUInt32.toInt32)), .val (.int ((((q1.toUInt32 >>> ((16 : Int32) &&& 31).toUInt32).toInt32) &&& (255 : Int32)).toUInt32.toUInt16.toUInt32.toInt32)), .val (.int ((((q1.toUInt32 >>> ((24 : Int32) &&& 31).toUInt32).toInt32) &&& (255 : Int32)).toUInt32.toUInt16.toUInt32.toInt32)), .val (.int ((q2 &&& (255 : Int32)).toUInt32.toUInt16.toUInt32.toInt32)), .val (.ref b9132), .val (.int (0 : Int32)), .val (.int (0 : Int32)), .val (.int (0 : Int32))] [(.int (1 : Int32))])) t → Steps p.tables e below (T134.setTop (mkF m 162 #[.val (.int q0), .val (.int q1), .val (.int q2), .val (.int (3 : Int32)), .val (.int ((q1 &&& (255 : Int32)).toUInt32.toUInt16.toUInt32.toInt32)), .val (.int ((((q1.toUInt32 >>> ((8 : Int32) &&& 31).toUInt32).toInt32) &&& (255 : Int32)).toUInt32.toUInt16.toUInt32.toInt32)), .val (.int ((((q1.toUInt32 >>> ((16 : Int32) &&& 31).toUInt32).toInt32) &&& (255 : Int32)).toUInt32.toUInt16.toUInt32.toInt32)), .val (.int ((((q1.toUInt32 >>> ((24 : Int32) &&& 31).toUInt32).toInt32) &&& (255 : Int32)).toUInt32.toUInt16.toUInt32.toInt32)), .val (.int ((q2 &&& (255 : Int32)).toUInt32.toUInt16.toUInt32.toInt32)), .val (.ref b9132), .val (.int (0 : Int32)), .val (.int (0 : Int32)), .val (.int (0 : Int32))] [(.int (0 : Int32)), (.int (if ([(nar .char ((q1 &&& (255 : Int32)).toUInt32.toUInt16.toUInt32.toInt32)), (nar .char ((((q1.toUInt32 >>> ((8 : Int32) &&& 31).toUInt32).toInt32) &&& (255 : Int32)).toUInt32.toUInt16.toUInt32.toInt32)), (nar .char ((((q1.toUInt32 >>> ((16 : Int32) &&& 31).toUInt32).toInt32) &&& (255 : Int32)).toUInt32.toUInt16.toUInt32.toInt32))] : List Int32) = ([116, 114, 117, 101] : List Int32) ∨ ([(nar .char ((q1 &&& (255 : Int32)).toUInt32.toUInt16.toUInt32.toInt32)), (nar .char ((((q1.toUInt32 >>> ((8 : Int32) &&& 31).toUInt32).toInt32) &&& (255 : Int32)).toUInt32.toUInt16.toUInt32.toInt32)), (nar .char ((((q1.toUInt32 >>> ((16 : Int32) &&& 31).toUInt32).toInt32) &&& (255 : Int32)).toUInt32.toUInt16.toUInt32.toInt32))] : List Int32) = ([49] : List Int32) then (1 : Int32) else (0 : Int32)))])) t := by
      intro t k
      show Steps p.tables e below (T134.setTop (mkF m 162 #[.val (.int q0), .val (.int q1), .val (.int q2), .val (.int (3 : Int32)), .val (.int ((q1 &&& (255 : Int32)).toUInt32.toUInt16.toUInt32.toInt32)), .val (.int ((((q1.toUInt32 >>> ((8 : Int32) &&& 31).toUInt32).toInt32) &&& (255 : Int32)).toUInt32.toUInt16.toUInt32.toInt32)), .val (.int ((((q1.toUInt32 >>> ((16 : Int32) &&& 31).toUInt32).toInt32) &&& (255 : Int32)).toUInt32.toUInt16.toUInt32.toInt32)), .val (.int ((((q1.toUInt32 >>> ((24 : Int32) &&& 31).toUInt32).toInt32) &&& (255 : Int32)).toUInt32.toUInt16.toUInt32.toInt32)), .val (.int ((q2 &&& (255 : Int32)).toUInt32.toUInt16.toUInt32.toInt32)), .val (.ref b9132), .val (.int (0 : Int32)), .val (.int (0 : Int32)), .val (.int (0 : Int32))] [(.int (0 : Int32)), (.int (if ([(nar .char ((q1 &&& (255 : Int32)).toUInt32.toUInt16.toUInt32.toInt32)), (nar .char ((((q1.toUInt32 >>> ((8 : Int32) &&& 31).toUInt32).toInt32) &&& (255 : Int32)).toUInt32.toUInt16.toUInt32.toInt32)), (nar .char ((((q1.toUInt32 >>> ((16 : Int32) &&& 31).toUInt32).toInt32) &&& (255 : Int32)).toUInt32.toUInt16.toUInt32.toInt32))] : List Int32) = ([116, 114, 117, 101] : List Int32) ∨ ([(nar .char ((q1 &&& (255 : Int32)).toUInt32.toUInt16.toUInt32.toInt32)), (nar .char ((((q1.toUInt32 >>> ((8 : Int32) &&& 31).toUInt32).toInt32) &&& (255 : Int32)).toUInt32.toUInt16.toUInt32.toInt32)), (nar .char ((((q1.toUInt32 >>> ((16 : Int32) &&& 31).toUInt32).toInt32) &&& (255 : Int32)).toUInt32.toUInt16.toUInt32.toInt32))] : List Int32) = ([49] : List Int32) then (1 : Int32) else (0 : Int32)))])) t
      refine XS.icmpNo X134.here hx rfl (hb hby at_162) rfl (teq c135).2 ?_
      show Steps p.tables e below (T134.setTop (mkF m 165 #[.val (.int q0), .val (.int q1), .val (.int q2), .val (.int (3 : Int32)), .val (.int ((q1 &&& (255 : Int32)).toUInt32.toUInt16.toUInt32.toInt32)), .val (.int ((((q1.toUInt32 >>> ((8 : Int32) &&& 31).toUInt32).toInt32) &&& (255 : Int32)).toUInt32.toUInt16.toUInt32.toInt32)), .val (.int ((((q1.toUInt32 >>> ((16 : Int32) &&& 31).toUInt32).toInt32) &&& (255 : Int32)).toUInt32.toUInt16.toUInt32.toInt32)), .val (.int ((((q1.toUInt32 >>> ((24 : Int32) &&& 31).toUInt32).toInt32) &&& (255 : Int32)).toUInt32.toUInt16.toUInt32.toInt32)), .val (.int ((q2 &&& (255 : Int32)).toUInt32.toUInt16.toUInt32.toInt32)), .val (.ref b9132), .val (.int (0 : Int32)), .val (.int (0 : Int32)), .val (.int (0 : Int32))] [])) t
      refine XS.iconst X134.here hx rfl (hb hby at_165) ?_
      show Steps p.tables e below (T134.setTop (mkF m 166 #[.val (.int q0), .val (.int q1), .val (.int q2), .val (.int (3 : Int32)), .val (.int ((q1 &&& (255 : Int32)).toUInt32.toUInt16.toUInt32.toInt32)), .val (.int ((((q1.toUInt32 >>> ((8 : Int32) &&& 31).toUInt32).toInt32) &&& (255 : Int32)).toUInt32.toUInt16.toUInt32.toInt32)), .val (.int ((((q1.toUInt32 >>> ((16 : Int32) &&& 31).toUInt32).toInt32) &&& (255 : Int32)).toUInt32.toUInt16.toUInt32.toInt32)), .val (.int ((((q1.toUInt32 >>> ((24 : Int32) &&& 31).toUInt32).toInt32) &&& (255 : Int32)).toUInt32.toUInt16.toUInt32.toInt32)), .val (.int ((q2 &&& (255 : Int32)).toUInt32.toUInt16.toUInt32.toInt32)), .val (.ref b9132), .val (.int (0 : Int32)), .val (.int (0 : Int32)), .val (.int (0 : Int32))] [(.int (1 : Int32))])) t
      refine XS.goto X134.here hx rfl (pc0 := 166) (pc' := 170) rfl (hb hby at_166) (by decide) (by decide) ?_
      exact k
    refine OFinH.go sg137 ?_
    exact OFinH.retN X134 hS hk hZ hEL rfl HC hx hret (by simp) hlk (hb hby at_170) rfl ⟨rfl, N134⟩ (by decide) (by decide)
  · rw [hk7]
    have sg138 : ∀ t, Steps p.tables e below (s₁.setTop (mkF m 68 #[.val (.int q0), .val (.int q1), .val (.int q2), .val (.int (4 : Int32)), .val (.int ((q1 &&& (255 : Int32)).toUInt32.toUInt16.toUInt32.toInt32)), .val (.int ((((q1.toUInt32 >>> ((8 : Int32) &&& 31).toUInt32).toInt32) &&& (255 : Int32)).toUInt32.toUInt16.toUInt32.toInt32)), .val (.int ((((q1.toUInt32 >>> ((16 : Int32) &&& 31).toUInt32).toInt32) &&& (255 : Int32)).toUInt32.toUInt16.toUInt32.toInt32)), .val (.int ((((q1.toUInt32 >>> ((24 : Int32) &&& 31).toUInt32).toInt32) &&& (255 : Int32)).toUInt32.toUInt16.toUInt32.toInt32)), .val (.int ((q2 &&& (255 : Int32)).toUInt32.toUInt16.toUInt32.toInt32)), .unset, .unset, .unset, .unset] [(.int ((q2 &&& (255 : Int32)).toUInt32.toUInt16.toUInt32.toInt32)), (.int ((((q1.toUInt32 >>> ((24 : Int32) &&& 31).toUInt32).toInt32) &&& (255 : Int32)).toUInt32.toUInt16.toUInt32.toInt32)), (.int ((((q1.toUInt32 >>> ((16 : Int32) &&& 31).toUInt32).toInt32) &&& (255 : Int32)).toUInt32.toUInt16.toUInt32.toInt32)), (.int ((((q1.toUInt32 >>> ((8 : Int32) &&& 31).toUInt32).toInt32) &&& (255 : Int32)).toUInt32.toUInt16.toUInt32.toInt32)), (.int ((q1 &&& (255 : Int32)).toUInt32.toUInt16.toUInt32.toInt32)), (.int (4 : Int32))])) t → Steps p.tables e below (s₁.setTop (mkF m 57 #[.val (.int q0), .val (.int q1), .val (.int q2), .val (.int (4 : Int32)), .val (.int ((q1 &&& (255 : Int32)).toUInt32.toUInt16.toUInt32.toInt32)), .val (.int ((((q1.toUInt32 >>> ((8 : Int32) &&& 31).toUInt32).toInt32) &&& (255 : Int32)).toUInt32.toUInt16.toUInt32.toInt32)), .val (.int ((((q1.toUInt32 >>> ((16 : Int32) &&& 31).toUInt32).toInt32) &&& (255 : Int32)).toUInt32.toUInt16.toUInt32.toInt32)), .val (.int ((((q1.toUInt32 >>> ((24 : Int32) &&& 31).toUInt32).toInt32) &&& (255 : Int32)).toUInt32.toUInt16.toUInt32.toInt32)), .val (.int ((q2 &&& (255 : Int32)).toUInt32.toUInt16.toUInt32.toInt32)), .unset, .unset, .unset, .unset] [])) t := by
      intro t k
      show Steps p.tables e below (s₁.setTop (mkF m 57 #[.val (.int q0), .val (.int q1), .val (.int q2), .val (.int (4 : Int32)), .val (.int ((q1 &&& (255 : Int32)).toUInt32.toUInt16.toUInt32.toInt32)), .val (.int ((((q1.toUInt32 >>> ((8 : Int32) &&& 31).toUInt32).toInt32) &&& (255 : Int32)).toUInt32.toUInt16.toUInt32.toInt32)), .val (.int ((((q1.toUInt32 >>> ((16 : Int32) &&& 31).toUInt32).toInt32) &&& (255 : Int32)).toUInt32.toUInt16.toUInt32.toInt32)), .val (.int ((((q1.toUInt32 >>> ((24 : Int32) &&& 31).toUInt32).toInt32) &&& (255 : Int32)).toUInt32.toUInt16.toUInt32.toInt32)), .val (.int ((q2 &&& (255 : Int32)).toUInt32.toUInt16.toUInt32.toInt32)), .unset, .unset, .unset, .unset] [])) t
      refine XS.iloadN X0.here hx rfl (hb hby at_57) rfl ?_
      show Steps p.tables e below (s₁.setTop (mkF m 58 #[.val (.int q0), .val (.int q1), .val (.int q2), .val (.int (4 : Int32)), .val (.int ((q1 &&& (255 : Int32)).toUInt32.toUInt16.toUInt32.toInt32)), .val (.int ((((q1.toUInt32 >>> ((8 : Int32) &&& 31).toUInt32).toInt32) &&& (255 : Int32)).toUInt32.toUInt16.toUInt32.toInt32)), .val (.int ((((q1.toUInt32 >>> ((16 : Int32) &&& 31).toUInt32).toInt32) &&& (255 : Int32)).toUInt32.toUInt16.toUInt32.toInt32)), .val (.int ((((q1.toUInt32 >>> ((24 : Int32) &&& 31).toUInt32).toInt32) &&& (255 : Int32)).toUInt32.toUInt16.toUInt32.toInt32)), .val (.int ((q2 &&& (255 : Int32)).toUInt32.toUInt16.toUInt32.toInt32)), .unset, .unset, .unset, .unset] [(.int (4 : Int32))])) t
      refine XS.iload X0.here hx rfl (hb hby at_58) rfl ?_
      show Steps p.tables e below (s₁.setTop (mkF m 60 #[.val (.int q0), .val (.int q1), .val (.int q2), .val (.int (4 : Int32)), .val (.int ((q1 &&& (255 : Int32)).toUInt32.toUInt16.toUInt32.toInt32)), .val (.int ((((q1.toUInt32 >>> ((8 : Int32) &&& 31).toUInt32).toInt32) &&& (255 : Int32)).toUInt32.toUInt16.toUInt32.toInt32)), .val (.int ((((q1.toUInt32 >>> ((16 : Int32) &&& 31).toUInt32).toInt32) &&& (255 : Int32)).toUInt32.toUInt16.toUInt32.toInt32)), .val (.int ((((q1.toUInt32 >>> ((24 : Int32) &&& 31).toUInt32).toInt32) &&& (255 : Int32)).toUInt32.toUInt16.toUInt32.toInt32)), .val (.int ((q2 &&& (255 : Int32)).toUInt32.toUInt16.toUInt32.toInt32)), .unset, .unset, .unset, .unset] [(.int ((q1 &&& (255 : Int32)).toUInt32.toUInt16.toUInt32.toInt32)), (.int (4 : Int32))])) t
      refine XS.iload X0.here hx rfl (hb hby at_60) rfl ?_
      show Steps p.tables e below (s₁.setTop (mkF m 62 #[.val (.int q0), .val (.int q1), .val (.int q2), .val (.int (4 : Int32)), .val (.int ((q1 &&& (255 : Int32)).toUInt32.toUInt16.toUInt32.toInt32)), .val (.int ((((q1.toUInt32 >>> ((8 : Int32) &&& 31).toUInt32).toInt32) &&& (255 : Int32)).toUInt32.toUInt16.toUInt32.toInt32)), .val (.int ((((q1.toUInt32 >>> ((16 : Int32) &&& 31).toUInt32).toInt32) &&& (255 : Int32)).toUInt32.toUInt16.toUInt32.toInt32)), .val (.int ((((q1.toUInt32 >>> ((24 : Int32) &&& 31).toUInt32).toInt32) &&& (255 : Int32)).toUInt32.toUInt16.toUInt32.toInt32)), .val (.int ((q2 &&& (255 : Int32)).toUInt32.toUInt16.toUInt32.toInt32)), .unset, .unset, .unset, .unset] [(.int ((((q1.toUInt32 >>> ((8 : Int32) &&& 31).toUInt32).toInt32) &&& (255 : Int32)).toUInt32.toUInt16.toUInt32.toInt32)), (.int ((q1 &&& (255 : Int32)).toUInt32.toUInt16.toUInt32.toInt32)), (.int (4 : Int32))])) t
      refine XS.iload X0.here hx rfl (hb hby at_62) rfl ?_
      show Steps p.tables e below (s₁.setTop (mkF m 64 #[.val (.int q0), .val (.int q1), .val (.int q2), .val (.int (4 : Int32)), .val (.int ((q1 &&& (255 : Int32)).toUInt32.toUInt16.toUInt32.toInt32)), .val (.int ((((q1.toUInt32 >>> ((8 : Int32) &&& 31).toUInt32).toInt32) &&& (255 : Int32)).toUInt32.toUInt16.toUInt32.toInt32)), .val (.int ((((q1.toUInt32 >>> ((16 : Int32) &&& 31).toUInt32).toInt32) &&& (255 : Int32)).toUInt32.toUInt16.toUInt32.toInt32)), .val (.int ((((q1.toUInt32 >>> ((24 : Int32) &&& 31).toUInt32).toInt32) &&& (255 : Int32)).toUInt32.toUInt16.toUInt32.toInt32)), .val (.int ((q2 &&& (255 : Int32)).toUInt32.toUInt16.toUInt32.toInt32)), .unset, .unset, .unset, .unset] [(.int ((((q1.toUInt32 >>> ((16 : Int32) &&& 31).toUInt32).toInt32) &&& (255 : Int32)).toUInt32.toUInt16.toUInt32.toInt32)), (.int ((((q1.toUInt32 >>> ((8 : Int32) &&& 31).toUInt32).toInt32) &&& (255 : Int32)).toUInt32.toUInt16.toUInt32.toInt32)), (.int ((q1 &&& (255 : Int32)).toUInt32.toUInt16.toUInt32.toInt32)), (.int (4 : Int32))])) t
      refine XS.iload X0.here hx rfl (hb hby at_64) rfl ?_
      show Steps p.tables e below (s₁.setTop (mkF m 66 #[.val (.int q0), .val (.int q1), .val (.int q2), .val (.int (4 : Int32)), .val (.int ((q1 &&& (255 : Int32)).toUInt32.toUInt16.toUInt32.toInt32)), .val (.int ((((q1.toUInt32 >>> ((8 : Int32) &&& 31).toUInt32).toInt32) &&& (255 : Int32)).toUInt32.toUInt16.toUInt32.toInt32)), .val (.int ((((q1.toUInt32 >>> ((16 : Int32) &&& 31).toUInt32).toInt32) &&& (255 : Int32)).toUInt32.toUInt16.toUInt32.toInt32)), .val (.int ((((q1.toUInt32 >>> ((24 : Int32) &&& 31).toUInt32).toInt32) &&& (255 : Int32)).toUInt32.toUInt16.toUInt32.toInt32)), .val (.int ((q2 &&& (255 : Int32)).toUInt32.toUInt16.toUInt32.toInt32)), .unset, .unset, .unset, .unset] [(.int ((((q1.toUInt32 >>> ((24 : Int32) &&& 31).toUInt32).toInt32) &&& (255 : Int32)).toUInt32.toUInt16.toUInt32.toInt32)), (.int ((((q1.toUInt32 >>> ((16 : Int32) &&& 31).toUInt32).toInt32) &&& (255 : Int32)).toUInt32.toUInt16.toUInt32.toInt32)), (.int ((((q1.toUInt32 >>> ((8 : Int32) &&& 31).toUInt32).toInt32) &&& (255 : Int32)).toUInt32.toUInt16.toUInt32.toInt32)), (.int ((q1 &&& (255 : Int32)).toUInt32.toUInt16.toUInt32.toInt32)), (.int (4 : Int32))])) t
      refine XS.iload X0.here hx rfl (hb hby at_66) rfl ?_
      exact k
    refine OFinH.go sg138 ?_
    obtain ⟨_, _, ⟨T139, L139, k139, n139⟩, -, X139, hSn, hgn, ⟨Lc139, hQ139, l139, y139, z139, C139⟩, st139⟩ := callSS X0 hx (y := (⟨"com/example/avvik/avvik/io/XsdValuesIsTruePinLaw", "make", "(ICCCCC)Ljava/lang/String;"⟩ : MethodName)) hown (mvT hZ (hw _ (List.mem_of_getElem? (i := 1) rfl))) (mvT hZ (hw _ (List.mem_of_getElem? (i := 2) rfl))) (mvT hZ (hw _ (List.mem_of_getElem? (i := 3) rfl))) (mvT hZ (hw _ (List.mem_of_getElem? (i := 4) rfl))) (by decide) (own_back (W := 0) (sf := []) (rm1k4 l Z aZ hw hEL [] ((q1 &&& (255 : Int32)).toUInt32.toUInt16.toUInt32.toInt32) ((((q1.toUInt32 >>> ((8 : Int32) &&& 31).toUInt32).toInt32) &&& (255 : Int32)).toUInt32.toUInt16.toUInt32.toInt32) ((((q1.toUInt32 >>> ((16 : Int32) &&& 31).toUInt32).toInt32) &&& (255 : Int32)).toUInt32.toUInt16.toUInt32.toInt32) ((((q1.toUInt32 >>> ((24 : Int32) &&& 31).toUInt32).toInt32) &&& (255 : Int32)).toUInt32.toUInt16.toUInt32.toInt32) ((q2 &&& (255 : Int32)).toUInt32.toUInt16.toUInt32.toInt32) w1 h0 n0 (Nat.le_trans Z0 K0.1) O0 S1 hcs (own_ch _) (own_ch _) (own_ch _) (own_ch _)) hZ (hw _ (List.mem_of_getElem? (i := 4) rfl)) (hw _ (List.mem_of_getElem? (i := 3) rfl)) (by decide) (by decide) hEL HC.1 all0 all0) (g := (mkF m 68 #[.val (.int q0), .val (.int q1), .val (.int q2), .val (.int (4 : Int32)), .val (.int ((q1 &&& (255 : Int32)).toUInt32.toUInt16.toUInt32.toInt32)), .val (.int ((((q1.toUInt32 >>> ((8 : Int32) &&& 31).toUInt32).toInt32) &&& (255 : Int32)).toUInt32.toUInt16.toUInt32.toInt32)), .val (.int ((((q1.toUInt32 >>> ((16 : Int32) &&& 31).toUInt32).toInt32) &&& (255 : Int32)).toUInt32.toUInt16.toUInt32.toInt32)), .val (.int ((((q1.toUInt32 >>> ((24 : Int32) &&& 31).toUInt32).toInt32) &&& (255 : Int32)).toUInt32.toUInt16.toUInt32.toInt32)), .val (.int ((q2 &&& (255 : Int32)).toUInt32.toUInt16.toUInt32.toInt32)), .unset, .unset, .unset, .unset] [(.int ((q2 &&& (255 : Int32)).toUInt32.toUInt16.toUInt32.toInt32)), (.int ((((q1.toUInt32 >>> ((24 : Int32) &&& 31).toUInt32).toInt32) &&& (255 : Int32)).toUInt32.toUInt16.toUInt32.toInt32)), (.int ((((q1.toUInt32 >>> ((16 : Int32) &&& 31).toUInt32).toInt32) &&& (255 : Int32)).toUInt32.toUInt16.toUInt32.toInt32)), (.int ((((q1.toUInt32 >>> ((8 : Int32) &&& 31).toUInt32).toInt32) &&& (255 : Int32)).toUInt32.toUInt16.toUInt32.toInt32)), (.int ((q1 &&& (255 : Int32)).toUInt32.toUInt16.toUInt32.toInt32)), (.int (4 : Int32))])) rfl (by rw [hml]; rfl) (argsL := [(.int (4 : Int32)), (.int ((q1 &&& (255 : Int32)).toUInt32.toUInt16.toUInt32.toInt32)), (.int ((((q1.toUInt32 >>> ((8 : Int32) &&& 31).toUInt32).toInt32) &&& (255 : Int32)).toUInt32.toUInt16.toUInt32.toInt32)), (.int ((((q1.toUInt32 >>> ((16 : Int32) &&& 31).toUInt32).toInt32) &&& (255 : Int32)).toUInt32.toUInt16.toUInt32.toInt32)), (.int ((((q1.toUInt32 >>> ((24 : Int32) &&& 31).toUInt32).toInt32) &&& (255 : Int32)).toUInt32.toUInt16.toUInt32.toInt32)), (.int ((q2 &&& (255 : Int32)).toUInt32.toUInt16.toUInt32.toInt32))]) (rest := []) (lenOf pd_3 rfl) rfl (by show 2 * 0 + _ ≤ _; exact Nat.le_of_eq rfl) (hb hby at_68) (fun _ _ => ⟨rfl, e0, (by decide : 0 + 3 ≤ _), (by decide : 0 + 12 ≤ _)⟩)
    dsimp only [Pt.U, Pt.locs, Pt.cells, Pt.slots] at X139 l139 y139 z139 st139 hQ139 hSn hgn C139
    have X139 : Stand p l e room_1 (s.setVm T139.vm) m #[(.int q0), (.int q1), (.int q2)] below meth c T139 L139 k139 n139 := X139
    have HC := HC.trans C139
    have hk139 := hk
    have hS := State.Since.trans hS hSn (Nat.le_trans hk139 (by rw [← e0]; exact hgn))
    have hk := Nat.le_refl T139.heap.size
    have hown : (s.setVm T139.vm).vm.findClass "com/example/avvik/avvik/io/XsdValuesIsTruePinLaw" = some m.cls := by rw [show (s.setVm T139.vm).vm = T139.vm from rfl, hSn.1.alike.findClass]; exact hown
    have hZ : Z.Warmed39 T139.vm := State.Warmed39.trans hZ hSn.1
    subst l139 y139 z139
    obtain ⟨b9139, t9139, k9139, rfl, N139q, Kq139, P139_0, P139_1, P139_2, P139_3⟩ := hQ139
    have N139 := Fr.app N0 N139q
    refine OFinH.tr st139 ?_
    have K139 : Keep h0 T139.heap [] := K0.trans Kq139 all0
    have sg145 : ∀ t, Steps p.tables e below (T139.setTop (mkF m 82 #[.val (.int q0), .val (.int q1), .val (.int q2), .val (.int (4 : Int32)), .val (.int ((q1 &&& (255 : Int32)).toUInt32.toUInt16.toUInt32.toInt32)), .val (.int ((((q1.toUInt32 >>> ((8 : Int32) &&& 31).toUInt32).toInt32) &&& (255 : Int32)).toUInt32.toUInt16.toUInt32.toInt32)), .val (.int ((((q1.toUInt32 >>> ((16 : Int32) &&& 31).toUInt32).toInt32) &&& (255 : Int32)).toUInt32.toUInt16.toUInt32.toInt32)), .val (.int ((((q1.toUInt32 >>> ((24 : Int32) &&& 31).toUInt32).toInt32) &&& (255 : Int32)).toUInt32.toUInt16.toUInt32.toInt32)), .val (.int ((q2 &&& (255 : Int32)).toUInt32.toUInt16.toUInt32.toInt32)), .val (.ref b9139), .unset, .unset, .unset] [(.int (116 : Int32)), (.int ((q1 &&& (255 : Int32)).toUInt32.toUInt16.toUInt32.toInt32))])) t → Steps p.tables e below (T139.setTop (mkF m 71 #[.val (.int q0), .val (.int q1), .val (.int q2), .val (.int (4 : Int32)), .val (.int ((q1 &&& (255 : Int32)).toUInt32.toUInt16.toUInt32.toInt32)), .val (.int ((((q1.toUInt32 >>> ((8 : Int32) &&& 31).toUInt32).toInt32) &&& (255 : Int32)).toUInt32.toUInt16.toUInt32.toInt32)), .val (.int ((((q1.toUInt32 >>> ((16 : Int32) &&& 31).toUInt32).toInt32) &&& (255 : Int32)).toUInt32.toUInt16.toUInt32.toInt32)), .val (.int ((((q1.toUInt32 >>> ((24 : Int32) &&& 31).toUInt32).toInt32) &&& (255 : Int32)).toUInt32.toUInt16.toUInt32.toInt32)), .val (.int ((q2 &&& (255 : Int32)).toUInt32.toUInt16.toUInt32.toInt32)), .unset, .unset, .unset, .unset] [(.ref b9139)])) t := by
      intro t k
      show Steps p.tables e below (T139.setTop (mkF m 71 #[.val (.int q0), .val (.int q1), .val (.int q2), .val (.int (4 : Int32)), .val (.int ((q1 &&& (255 : Int32)).toUInt32.toUInt16.toUInt32.toInt32)), .val (.int ((((q1.toUInt32 >>> ((8 : Int32) &&& 31).toUInt32).toInt32) &&& (255 : Int32)).toUInt32.toUInt16.toUInt32.toInt32)), .val (.int ((((q1.toUInt32 >>> ((16 : Int32) &&& 31).toUInt32).toInt32) &&& (255 : Int32)).toUInt32.toUInt16.toUInt32.toInt32)), .val (.int ((((q1.toUInt32 >>> ((24 : Int32) &&& 31).toUInt32).toInt32) &&& (255 : Int32)).toUInt32.toUInt16.toUInt32.toInt32)), .val (.int ((q2 &&& (255 : Int32)).toUInt32.toUInt16.toUInt32.toInt32)), .unset, .unset, .unset, .unset] [(.ref b9139)])) t
      refine XS.astore X139.here hx rfl (hb hby at_71) rfl rfl (l' := #[.val (.int q0), .val (.int q1), .val (.int q2), .val (.int (4 : Int32)), .val (.int ((q1 &&& (255 : Int32)).toUInt32.toUInt16.toUInt32.toInt32)), .val (.int ((((q1.toUInt32 >>> ((8 : Int32) &&& 31).toUInt32).toInt32) &&& (255 : Int32)).toUInt32.toUInt16.toUInt32.toInt32)), .val (.int ((((q1.toUInt32 >>> ((16 : Int32) &&& 31).toUInt32).toInt32) &&& (255 : Int32)).toUInt32.toUInt16.toUInt32.toInt32)), .val (.int ((((q1.toUInt32 >>> ((24 : Int32) &&& 31).toUInt32).toInt32) &&& (255 : Int32)).toUInt32.toUInt16.toUInt32.toInt32)), .val (.int ((q2 &&& (255 : Int32)).toUInt32.toUInt16.toUInt32.toInt32)), .val (.ref b9139), .unset, .unset, .unset]) rfl ?_
      show Steps p.tables e below (T139.setTop (mkF m 73 #[.val (.int q0), .val (.int q1), .val (.int q2), .val (.int (4 : Int32)), .val (.int ((q1 &&& (255 : Int32)).toUInt32.toUInt16.toUInt32.toInt32)), .val (.int ((((q1.toUInt32 >>> ((8 : Int32) &&& 31).toUInt32).toInt32) &&& (255 : Int32)).toUInt32.toUInt16.toUInt32.toInt32)), .val (.int ((((q1.toUInt32 >>> ((16 : Int32) &&& 31).toUInt32).toInt32) &&& (255 : Int32)).toUInt32.toUInt16.toUInt32.toInt32)), .val (.int ((((q1.toUInt32 >>> ((24 : Int32) &&& 31).toUInt32).toInt32) &&& (255 : Int32)).toUInt32.toUInt16.toUInt32.toInt32)), .val (.int ((q2 &&& (255 : Int32)).toUInt32.toUInt16.toUInt32.toInt32)), .val (.ref b9139), .unset, .unset, .unset] [])) t
      refine XS.iloadN X139.here hx rfl (hb hby at_73) rfl ?_
      show Steps p.tables e below (T139.setTop (mkF m 74 #[.val (.int q0), .val (.int q1), .val (.int q2), .val (.int (4 : Int32)), .val (.int ((q1 &&& (255 : Int32)).toUInt32.toUInt16.toUInt32.toInt32)), .val (.int ((((q1.toUInt32 >>> ((8 : Int32) &&& 31).toUInt32).toInt32) &&& (255 : Int32)).toUInt32.toUInt16.toUInt32.toInt32)), .val (.int ((((q1.toUInt32 >>> ((16 : Int32) &&& 31).toUInt32).toInt32) &&& (255 : Int32)).toUInt32.toUInt16.toUInt32.toInt32)), .val (.int ((((q1.toUInt32 >>> ((24 : Int32) &&& 31).toUInt32).toInt32) &&& (255 : Int32)).toUInt32.toUInt16.toUInt32.toInt32)), .val (.int ((q2 &&& (255 : Int32)).toUInt32.toUInt16.toUInt32.toInt32)), .val (.ref b9139), .unset, .unset, .unset] [(.int (4 : Int32))])) t
      refine XS.iconst X139.here hx rfl (hb hby at_74) ?_
      show Steps p.tables e below (T139.setTop (mkF m 75 #[.val (.int q0), .val (.int q1), .val (.int q2), .val (.int (4 : Int32)), .val (.int ((q1 &&& (255 : Int32)).toUInt32.toUInt16.toUInt32.toInt32)), .val (.int ((((q1.toUInt32 >>> ((8 : Int32) &&& 31).toUInt32).toInt32) &&& (255 : Int32)).toUInt32.toUInt16.toUInt32.toInt32)), .val (.int ((((q1.toUInt32 >>> ((16 : Int32) &&& 31).toUInt32).toInt32) &&& (255 : Int32)).toUInt32.toUInt16.toUInt32.toInt32)), .val (.int ((((q1.toUInt32 >>> ((24 : Int32) &&& 31).toUInt32).toInt32) &&& (255 : Int32)).toUInt32.toUInt16.toUInt32.toInt32)), .val (.int ((q2 &&& (255 : Int32)).toUInt32.toUInt16.toUInt32.toInt32)), .val (.ref b9139), .unset, .unset, .unset] [(.int (4 : Int32)), (.int (4 : Int32))])) t
      refine XS.icmpNo X139.here hx rfl (hb hby at_75) rfl (teq (by decide : (4 : Int32) = (4 : Int32))).2 ?_
      show Steps p.tables e below (T139.setTop (mkF m 78 #[.val (.int q0), .val (.int q1), .val (.int q2), .val (.int (4 : Int32)), .val (.int ((q1 &&& (255 : Int32)).toUInt32.toUInt16.toUInt32.toInt32)), .val (.int ((((q1.toUInt32 >>> ((8 : Int32) &&& 31).toUInt32).toInt32) &&& (255 : Int32)).toUInt32.toUInt16.toUInt32.toInt32)), .val (.int ((((q1.toUInt32 >>> ((16 : Int32) &&& 31).toUInt32).toInt32) &&& (255 : Int32)).toUInt32.toUInt16.toUInt32.toInt32)), .val (.int ((((q1.toUInt32 >>> ((24 : Int32) &&& 31).toUInt32).toInt32) &&& (255 : Int32)).toUInt32.toUInt16.toUInt32.toInt32)), .val (.int ((q2 &&& (255 : Int32)).toUInt32.toUInt16.toUInt32.toInt32)), .val (.ref b9139), .unset, .unset, .unset] [])) t
      refine XS.iload X139.here hx rfl (hb hby at_78) rfl ?_
      show Steps p.tables e below (T139.setTop (mkF m 80 #[.val (.int q0), .val (.int q1), .val (.int q2), .val (.int (4 : Int32)), .val (.int ((q1 &&& (255 : Int32)).toUInt32.toUInt16.toUInt32.toInt32)), .val (.int ((((q1.toUInt32 >>> ((8 : Int32) &&& 31).toUInt32).toInt32) &&& (255 : Int32)).toUInt32.toUInt16.toUInt32.toInt32)), .val (.int ((((q1.toUInt32 >>> ((16 : Int32) &&& 31).toUInt32).toInt32) &&& (255 : Int32)).toUInt32.toUInt16.toUInt32.toInt32)), .val (.int ((((q1.toUInt32 >>> ((24 : Int32) &&& 31).toUInt32).toInt32) &&& (255 : Int32)).toUInt32.toUInt16.toUInt32.toInt32)), .val (.int ((q2 &&& (255 : Int32)).toUInt32.toUInt16.toUInt32.toInt32)), .val (.ref b9139), .unset, .unset, .unset] [(.int ((q1 &&& (255 : Int32)).toUInt32.toUInt16.toUInt32.toInt32))])) t
      refine XS.bipush X139.here hx rfl (hb hby at_80) ?_
      exact k
    refine OFinH.go sg145 ?_
    obtain ⟨v144, e_v144⟩ : ∃ z : Int32, z = (if ((q1 &&& (255 : Int32)).toUInt32.toUInt16.toUInt32.toInt32) = (116 : Int32) then (if ((((q1.toUInt32 >>> ((8 : Int32) &&& 31).toUInt32).toInt32) &&& (255 : Int32)).toUInt32.toUInt16.toUInt32.toInt32) = (114 : Int32) then (if ((((q1.toUInt32 >>> ((16 : Int32) &&& 31).toUInt32).toInt32) &&& (255 : Int32)).toUInt32.toUInt16.toUInt32.toInt32) = (117 : Int32) then (if ((((q1.toUInt32 >>> ((24 : Int32) &&& 31).toUInt32).toInt32) &&& (255 : Int32)).toUInt32.toUInt16.toUInt32.toInt32) = (101 : Int32) then (1 : Int32) else (0 : Int32)) else (0 : Int32)) else (0 : Int32)) else (0 : Int32)) := ⟨_, rfl⟩
    have sg146 : ∀ t, Steps p.tables e below (T139.setTop (mkF m 111 #[.val (.int q0), .val (.int q1), .val (.int q2), .val (.int (4 : Int32)), .val (.int ((q1 &&& (255 : Int32)).toUInt32.toUInt16.toUInt32.toInt32)), .val (.int ((((q1.toUInt32 >>> ((8 : Int32) &&& 31).toUInt32).toInt32) &&& (255 : Int32)).toUInt32.toUInt16.toUInt32.toInt32)), .val (.int ((((q1.toUInt32 >>> ((16 : Int32) &&& 31).toUInt32).toInt32) &&& (255 : Int32)).toUInt32.toUInt16.toUInt32.toInt32)), .val (.int ((((q1.toUInt32 >>> ((24 : Int32) &&& 31).toUInt32).toInt32) &&& (255 : Int32)).toUInt32.toUInt16.toUInt32.toInt32)), .val (.int ((q2 &&& (255 : Int32)).toUInt32.toUInt16.toUInt32.toInt32)), .val (.ref b9139), .unset, .unset, .unset] [(.int v144)])) t → Steps p.tables e below (T139.setTop (mkF m 82 #[.val (.int q0), .val (.int q1), .val (.int q2), .val (.int (4 : Int32)), .val (.int ((q1 &&& (255 : Int32)).toUInt32.toUInt16.toUInt32.toInt32)), .val (.int ((((q1.toUInt32 >>> ((8 : Int32) &&& 31).toUInt32).toInt32) &&& (255 : Int32)).toUInt32.toUInt16.toUInt32.toInt32)), .val (.int ((((q1.toUInt32 >>> ((16 : Int32) &&& 31).toUInt32).toInt32) &&& (255 : Int32)).toUInt32.toUInt16.toUInt32.toInt32)), .val (.int ((((q1.toUInt32 >>> ((24 : Int32) &&& 31).toUInt32).toInt32) &&& (255 : Int32)).toUInt32.toUInt16.toUInt32.toInt32)), .val (.int ((q2 &&& (255 : Int32)).toUInt32.toUInt16.toUInt32.toInt32)), .val (.ref b9139), .unset, .unset, .unset] [(.int (116 : Int32)), (.int ((q1 &&& (255 : Int32)).toUInt32.toUInt16.toUInt32.toInt32))])) t := by
      intro t k
      by_cases c140 : ((q1 &&& (255 : Int32)).toUInt32.toUInt16.toUInt32.toInt32) = (116 : Int32)
      · show Steps p.tables e below (T139.setTop (mkF m 82 #[.val (.int q0), .val (.int q1), .val (.int q2), .val (.int (4 : Int32)), .val (.int ((q1 &&& (255 : Int32)).toUInt32.toUInt16.toUInt32.toInt32)), .val (.int ((((q1.toUInt32 >>> ((8 : Int32) &&& 31).toUInt32).toInt32) &&& (255 : Int32)).toUInt32.toUInt16.toUInt32.toInt32)), .val (.int ((((q1.toUInt32 >>> ((16 : Int32) &&& 31).toUInt32).toInt32) &&& (255 : Int32)).toUInt32.toUInt16.toUInt32.toInt32)), .val (.int ((((q1.toUInt32 >>> ((24 : Int32) &&& 31).toUInt32).toInt32) &&& (255 : Int32)).toUInt32.toUInt16.toUInt32.toInt32)), .val (.int ((q2 &&& (255 : Int32)).toUInt32.toUInt16.toUInt32.toInt32)), .val (.ref b9139), .unset, .unset, .unset] [(.int (116 : Int32)), (.int ((q1 &&& (255 : Int32)).toUInt32.toUInt16.toUInt32.toInt32))])) t
        refine XS.icmpNo X139.here hx rfl (hb hby at_82) rfl (teq c140).2 ?_
        show Steps p.tables e below (T139.setTop (mkF m 85 #[.val (.int q0), .val (.int q1), .val (.int q2), .val (.int (4 : Int32)), .val (.int ((q1 &&& (255 : Int32)).toUInt32.toUInt16.toUInt32.toInt32)), .val (.int ((((q1.toUInt32 >>> ((8 : Int32) &&& 31).toUInt32).toInt32) &&& (255 : Int32)).toUInt32.toUInt16.toUInt32.toInt32)), .val (.int ((((q1.toUInt32 >>> ((16 : Int32) &&& 31).toUInt32).toInt32) &&& (255 : Int32)).toUInt32.toUInt16.toUInt32.toInt32)), .val (.int ((((q1.toUInt32 >>> ((24 : Int32) &&& 31).toUInt32).toInt32) &&& (255 : Int32)).toUInt32.toUInt16.toUInt32.toInt32)), .val (.int ((q2 &&& (255 : Int32)).toUInt32.toUInt16.toUInt32.toInt32)), .val (.ref b9139), .unset, .unset, .unset] [])) t
        refine XS.iload X139.here hx rfl (hb hby at_85) rfl ?_
        show Steps p.tables e below (T139.setTop (mkF m 87 #[.val (.int q0), .val (.int q1), .val (.int q2), .val (.int (4 : Int32)), .val (.int ((q1 &&& (255 : Int32)).toUInt32.toUInt16.toUInt32.toInt32)), .val (.int ((((q1.toUInt32 >>> ((8 : Int32) &&& 31).toUInt32).toInt32) &&& (255 : Int32)).toUInt32.toUInt16.toUInt32.toInt32)), .val (.int ((((q1.toUInt32 >>> ((16 : Int32) &&& 31).toUInt32).toInt32) &&& (255 : Int32)).toUInt32.toUInt16.toUInt32.toInt32)), .val (.int ((((q1.toUInt32 >>> ((24 : Int32) &&& 31).toUInt32).toInt32) &&& (255 : Int32)).toUInt32.toUInt16.toUInt32.toInt32)), .val (.int ((q2 &&& (255 : Int32)).toUInt32.toUInt16.toUInt32.toInt32)), .val (.ref b9139), .unset, .unset, .unset] [(.int ((((q1.toUInt32 >>> ((8 : Int32) &&& 31).toUInt32).toInt32) &&& (255 : Int32)).toUInt32.toUInt16.toUInt32.toInt32))])) t
        refine XS.bipush X139.here hx rfl (hb hby at_87) ?_
        by_cases c141 : ((((q1.toUInt32 >>> ((8 : Int32) &&& 31).toUInt32).toInt32) &&& (255 : Int32)).toUInt32.toUInt16.toUInt32.toInt32) = (114 : Int32)
        · show Steps p.tables e below (T139.setTop (mkF m 89 #[.val (.int q0), .val (.int q1), .val (.int q2), .val (.int (4 : Int32)), .val (.int ((q1 &&& (255 : Int32)).toUInt32.toUInt16.toUInt32.toInt32)), .val (.int ((((q1.toUInt32 >>> ((8 : Int32) &&& 31).toUInt32).toInt32) &&& (255 : Int32)).toUInt32.toUInt16.toUInt32.toInt32)), .val (.int ((((q1.toUInt32 >>> ((16 : Int32) &&& 31).toUInt32).toInt32) &&& (255 : Int32)).toUInt32.toUInt16.toUInt32.toInt32)), .val (.int ((((q1.toUInt32 >>> ((24 : Int32) &&& 31).toUInt32).toInt32) &&& (255 : Int32)).toUInt32.toUInt16.toUInt32.toInt32)), .val (.int ((q2 &&& (255 : Int32)).toUInt32.toUInt16.toUInt32.toInt32)), .val (.ref b9139), .unset, .unset, .unset] [(.int (114 : Int32)), (.int ((((q1.toUInt32 >>> ((8 : Int32) &&& 31).toUInt32).toInt32) &&& (255 : Int32)).toUInt32.toUInt16.toUInt32.toInt32))])) t
          refine XS.icmpNo X139.here hx rfl (hb hby at_89) rfl (teq c141).2 ?_
          show Steps p.tables e below (T139.setTop (mkF m 92 #[.val (.int q0), .val (.int q1), .val (.int q2), .val (.int (4 : Int32)), .val (.int ((q1 &&& (255 : Int32)).toUInt32.toUInt16.toUInt32.toInt32)), .val (.int ((((q1.toUInt32 >>> ((8 : Int32) &&& 31).toUInt32).toInt32) &&& (255 : Int32)).toUInt32.toUInt16.toUInt32.toInt32)), .val (.int ((((q1.toUInt32 >>> ((16 : Int32) &&& 31).toUInt32).toInt32) &&& (255 : Int32)).toUInt32.toUInt16.toUInt32.toInt32)), .val (.int ((((q1.toUInt32 >>> ((24 : Int32) &&& 31).toUInt32).toInt32) &&& (255 : Int32)).toUInt32.toUInt16.toUInt32.toInt32)), .val (.int ((q2 &&& (255 : Int32)).toUInt32.toUInt16.toUInt32.toInt32)), .val (.ref b9139), .unset, .unset, .unset] [])) t
          refine XS.iload X139.here hx rfl (hb hby at_92) rfl ?_
          show Steps p.tables e below (T139.setTop (mkF m 94 #[.val (.int q0), .val (.int q1), .val (.int q2), .val (.int (4 : Int32)), .val (.int ((q1 &&& (255 : Int32)).toUInt32.toUInt16.toUInt32.toInt32)), .val (.int ((((q1.toUInt32 >>> ((8 : Int32) &&& 31).toUInt32).toInt32) &&& (255 : Int32)).toUInt32.toUInt16.toUInt32.toInt32)), .val (.int ((((q1.toUInt32 >>> ((16 : Int32) &&& 31).toUInt32).toInt32) &&& (255 : Int32)).toUInt32.toUInt16.toUInt32.toInt32)), .val (.int ((((q1.toUInt32 >>> ((24 : Int32) &&& 31).toUInt32).toInt32) &&& (255 : Int32)).toUInt32.toUInt16.toUInt32.toInt32)), .val (.int ((q2 &&& (255 : Int32)).toUInt32.toUInt16.toUInt32.toInt32)), .val (.ref b9139), .unset, .unset, .unset] [(.int ((((q1.toUInt32 >>> ((16 : Int32) &&& 31).toUInt32).toInt32) &&& (255 : Int32)).toUInt32.toUInt16.toUInt32.toInt32))])) t
          refine XS.bipush X139.here hx rfl (hb hby at_94) ?_
          by_cases c142 : ((((q1.toUInt32 >>> ((16 : Int32) &&& 31).toUInt32).toInt32) &&& (255 : Int32)).toUInt32.toUInt16.toUInt32.toInt32) = (117 : Int32)
          · show Steps p.tables e below (T139.setTop (mkF m 96 #[.val (.int q0), .val (.int q1), .val (.int q2), .val (.int (4 : Int32)), .val (.int ((q1 &&& (255 : Int32)).toUInt32.toUInt16.toUInt32.toInt32)), .val (.int ((((q1.toUInt32 >>> ((8 : Int32) &&& 31).toUInt32).toInt32) &&& (255 : Int32)).toUInt32.toUInt16.toUInt32.toInt32)), .val (.int ((((q1.toUInt32 >>> ((16 : Int32) &&& 31).toUInt32).toInt32) &&& (255 : Int32)).toUInt32.toUInt16.toUInt32.toInt32)), .val (.int ((((q1.toUInt32 >>> ((24 : Int32) &&& 31).toUInt32).toInt32) &&& (255 : Int32)).toUInt32.toUInt16.toUInt32.toInt32)), .val (.int ((q2 &&& (255 : Int32)).toUInt32.toUInt16.toUInt32.toInt32)), .val (.ref b9139), .unset, .unset, .unset] [(.int (117 : Int32)), (.int ((((q1.toUInt32 >>> ((16 : Int32) &&& 31).toUInt32).toInt32) &&& (255 : Int32)).toUInt32.toUInt16.toUInt32.toInt32))])) t
            refine XS.icmpNo X139.here hx rfl (hb hby at_96) rfl (teq c142).2 ?_
            show Steps p.tables e below (T139.setTop (mkF m 99 #[.val (.int q0), .val (.int q1), .val (.int q2), .val (.int (4 : Int32)), .val (.int ((q1 &&& (255 : Int32)).toUInt32.toUInt16.toUInt32.toInt32)), .val (.int ((((q1.toUInt32 >>> ((8 : Int32) &&& 31).toUInt32).toInt32) &&& (255 : Int32)).toUInt32.toUInt16.toUInt32.toInt32)), .val (.int ((((q1.toUInt32 >>> ((16 : Int32) &&& 31).toUInt32).toInt32) &&& (255 : Int32)).toUInt32.toUInt16.toUInt32.toInt32)), .val (.int ((((q1.toUInt32 >>> ((24 : Int32) &&& 31).toUInt32).toInt32) &&& (255 : Int32)).toUInt32.toUInt16.toUInt32.toInt32)), .val (.int ((q2 &&& (255 : Int32)).toUInt32.toUInt16.toUInt32.toInt32)), .val (.ref b9139), .unset, .unset, .unset] [])) t
            refine XS.iload X139.here hx rfl (hb hby at_99) rfl ?_
            show Steps p.tables e below (T139.setTop (mkF m 101 #[.val (.int q0), .val (.int q1), .val (.int q2), .val (.int (4 : Int32)), .val (.int ((q1 &&& (255 : Int32)).toUInt32.toUInt16.toUInt32.toInt32)), .val (.int ((((q1.toUInt32 >>> ((8 : Int32) &&& 31).toUInt32).toInt32) &&& (255 : Int32)).toUInt32.toUInt16.toUInt32.toInt32)), .val (.int ((((q1.toUInt32 >>> ((16 : Int32) &&& 31).toUInt32).toInt32) &&& (255 : Int32)).toUInt32.toUInt16.toUInt32.toInt32)), .val (.int ((((q1.toUInt32 >>> ((24 : Int32) &&& 31).toUInt32).toInt32) &&& (255 : Int32)).toUInt32.toUInt16.toUInt32.toInt32)), .val (.int ((q2 &&& (255 : Int32)).toUInt32.toUInt16.toUInt32.toInt32)), .val (.ref b9139), .unset, .unset, .unset] [(.int ((((q1.toUInt32 >>> ((24 : Int32) &&& 31).toUInt32).toInt32) &&& (255 : Int32)).toUInt32.toUInt16.toUInt32.toInt32))])) t
            refine XS.bipush X139.here hx rfl (hb hby at_101) ?_
            by_cases c143 : ((((q1.toUInt32 >>> ((24 : Int32) &&& 31).toUInt32).toInt32) &&& (255 : Int32)).toUInt32.toUInt16.toUInt32.toInt32) = (101 : Int32)
            · show Steps p.tables e below (T139.setTop (mkF m 103 #[.val (.int q0), .val (.int q1), .val (.int q2), .val (.int (4 : Int32)), .val (.int ((q1 &&& (255 : Int32)).toUInt32.toUInt16.toUInt32.toInt32)), .val (.int ((((q1.toUInt32 >>> ((8 : Int32) &&& 31).toUInt32).toInt32) &&& (255 : Int32)).toUInt32.toUInt16.toUInt32.toInt32)), .val (.int ((((q1.toUInt32 >>> ((16 : Int32) &&& 31).toUInt32).toInt32) &&& (255 : Int32)).toUInt32.toUInt16.toUInt32.toInt32)), .val (.int ((((q1.toUInt32 >>> ((24 : Int32) &&& 31).toUInt32).toInt32) &&& (255 : Int32)).toUInt32.toUInt16.toUInt32.toInt32)), .val (.int ((q2 &&& (255 : Int32)).toUInt32.toUInt16.toUInt32.toInt32)), .val (.ref b9139), .unset, .unset, .unset] [(.int (101 : Int32)), (.int ((((q1.toUInt32 >>> ((24 : Int32) &&& 31).toUInt32).toInt32) &&& (255 : Int32)).toUInt32.toUInt16.toUInt32.toInt32))])) t
              refine XS.icmpNo X139.here hx rfl (hb hby at_103) rfl (teq c143).2 ?_
              show Steps p.tables e below (T139.setTop (mkF m 106 #[.val (.int q0), .val (.int q1), .val (.int q2), .val (.int (4 : Int32)), .val (.int ((q1 &&& (255 : Int32)).toUInt32.toUInt16.toUInt32.toInt32)), .val (.int ((((q1.toUInt32 >>> ((8 : Int32) &&& 31).toUInt32).toInt32) &&& (255 : Int32)).toUInt32.toUInt16.toUInt32.toInt32)), .val (.int ((((q1.toUInt32 >>> ((16 : Int32) &&& 31).toUInt32).toInt32) &&& (255 : Int32)).toUInt32.toUInt16.toUInt32.toInt32)), .val (.int ((((q1.toUInt32 >>> ((24 : Int32) &&& 31).toUInt32).toInt32) &&& (255 : Int32)).toUInt32.toUInt16.toUInt32.toInt32)), .val (.int ((q2 &&& (255 : Int32)).toUInt32.toUInt16.toUInt32.toInt32)), .val (.ref b9139), .unset, .unset, .unset] [])) t
              refine XS.iconst X139.here hx rfl (hb hby at_106) ?_
              show Steps p.tables e below (T139.setTop (mkF m 107 #[.val (.int q0), .val (.int q1), .val (.int q2), .val (.int (4 : Int32)), .val (.int ((q1 &&& (255 : Int32)).toUInt32.toUInt16.toUInt32.toInt32)), .val (.int ((((q1.toUInt32 >>> ((8 : Int32) &&& 31).toUInt32).toInt32) &&& (255 : Int32)).toUInt32.toUInt16.toUInt32.toInt32)), .val (.int ((((q1.toUInt32 >>> ((16 : Int32) &&& 31).toUInt32).toInt32) &&& (255 : Int32)).toUInt32.toUInt16.toUInt32.toInt32)), .val (.int ((((q1.toUInt32 >>> ((24 : Int32) &&& 31).toUInt32).toInt32) &&& (255 : Int32)).toUInt32.toUInt16.toUInt32.toInt32)), .val (.int ((q2 &&& (255 : Int32)).toUInt32.toUInt16.toUInt32.toInt32)), .val (.ref b9139), .unset, .unset, .unset] [(.int (1 : Int32))])) t
              refine XS.goto X139.here hx rfl (pc0 := 107) (pc' := 111) rfl (hb hby at_107) (by decide) (by decide) ?_
              have e_v144' : v144 = (1 : Int32) := e_v144.trans ((if_pos c140).trans ((if_pos c141).trans ((if_pos c142).trans (if_pos c143))))
              rw [e_v144'] at k
              exact k
            · show Steps p.tables e below (T139.setTop (mkF m 103 #[.val (.int q0), .val (.int q1), .val (.int q2), .val (.int (4 : Int32)), .val (.int ((q1 &&& (255 : Int32)).toUInt32.toUInt16.toUInt32.toInt32)), .val (.int ((((q1.toUInt32 >>> ((8 : Int32) &&& 31).toUInt32).toInt32) &&& (255 : Int32)).toUInt32.toUInt16.toUInt32.toInt32)), .val (.int ((((q1.toUInt32 >>> ((16 : Int32) &&& 31).toUInt32).toInt32) &&& (255 : Int32)).toUInt32.toUInt16.toUInt32.toInt32)), .val (.int ((((q1.toUInt32 >>> ((24 : Int32) &&& 31).toUInt32).toInt32) &&& (255 : Int32)).toUInt32.toUInt16.toUInt32.toInt32)), .val (.int ((q2 &&& (255 : Int32)).toUInt32.toUInt16.toUInt32.toInt32)), .val (.ref b9139), .unset, .unset, .unset] [(.int (101 : Int32)), (.int ((((q1.toUInt32 >>> ((24 : Int32) &&& 31).toUInt32).toInt32) &&& (255 : Int32)).toUInt32.toUInt16.toUInt32.toInt32))])) t
              refine XS.icmpYes X139.here hx rfl (pc0 := 103) (pc' := 110) rfl (hb hby at_103) rfl (feq c143).2 (by decide) (by decide) ?_
              show Steps p.tables e below (T139.setTop (mkF m 110 #[.val (.int q0), .val (.int q1), .val (.int q2), .val (.int (4 : Int32)), .val (.int ((q1 &&& (255 : Int32)).toUInt32.toUInt16.toUInt32.toInt32)), .val (.int ((((q1.toUInt32 >>> ((8 : Int32) &&& 31).toUInt32).toInt32) &&& (255 : Int32)).toUInt32.toUInt16.toUInt32.toInt32)), .val (.int ((((q1.toUInt32 >>> ((16 : Int32) &&& 31).toUInt32).toInt32) &&& (255 : Int32)).toUInt32.toUInt16.toUInt32.toInt32)), .val (.int ((((q1.toUInt32 >>> ((24 : Int32) &&& 31).toUInt32).toInt32) &&& (255 : Int32)).toUInt32.toUInt16.toUInt32.toInt32)), .val (.int ((q2 &&& (255 : Int32)).toUInt32.toUInt16.toUInt32.toInt32)), .val (.ref b9139), .unset, .unset, .unset] [])) t
              refine XS.iconst X139.here hx rfl (hb hby at_110) ?_
              have e_v144' : v144 = (0 : Int32) := e_v144.trans ((if_pos c140).trans ((if_pos c141).trans ((if_pos c142).trans (if_neg c143))))
              rw [e_v144'] at k
              exact k
          · show Steps p.tables e below (T139.setTop (mkF m 96 #[.val (.int q0), .val (.int q1), .val (.int q2), .val (.int (4 : Int32)), .val (.int ((q1 &&& (255 : Int32)).toUInt32.toUInt16.toUInt32.toInt32)), .val (.int ((((q1.toUInt32 >>> ((8 : Int32) &&& 31).toUInt32).toInt32) &&& (255 : Int32)).toUInt32.toUInt16.toUInt32.toInt32)), .val (.int ((((q1.toUInt32 >>> ((16 : Int32) &&& 31).toUInt32).toInt32) &&& (255 : Int32)).toUInt32.toUInt16.toUInt32.toInt32)), .val (.int ((((q1.toUInt32 >>> ((24 : Int32) &&& 31).toUInt32).toInt32) &&& (255 : Int32)).toUInt32.toUInt16.toUInt32.toInt32)), .val (.int ((q2 &&& (255 : Int32)).toUInt32.toUInt16.toUInt32.toInt32)), .val (.ref b9139), .unset, .unset, .unset] [(.int (117 : Int32)), (.int ((((q1.toUInt32 >>> ((16 : Int32) &&& 31).toUInt32).toInt32) &&& (255 : Int32)).toUInt32.toUInt16.toUInt32.toInt32))])) t
            refine XS.icmpYes X139.here hx rfl (pc0 := 96) (pc' := 110) rfl (hb hby at_96) rfl (feq c142).2 (by decide) (by decide) ?_
            show Steps p.tables e below (T139.setTop (mkF m 110 #[.val (.int q0), .val (.int q1), .val (.int q2), .val (.int (4 : Int32)), .val (.int ((q1 &&& (255 : Int32)).toUInt32.toUInt16.toUInt32.toInt32)), .val (.int ((((q1.toUInt32 >>> ((8 : Int32) &&& 31).toUInt32).toInt32) &&& (255 : Int32)).toUInt32.toUInt16.toUInt32.toInt32)), .val (.int ((((q1.toUInt32 >>> ((16 : Int32) &&& 31).toUInt32).toInt32) &&& (255 : Int32)).toUInt32.toUInt16.toUInt32.toInt32)), .val (.int ((((q1.toUInt32 >>> ((24 : Int32) &&& 31).toUInt32).toInt32) &&& (255 : Int32)).toUInt32.toUInt16.toUInt32.toInt32)), .val (.int ((q2 &&& (255 : Int32)).toUInt32.toUInt16.toUInt32.toInt32)), .val (.ref b9139), .unset, .unset, .unset] [])) t
            refine XS.iconst X139.here hx rfl (hb hby at_110) ?_
            have e_v144' : v144 = (0 : Int32) := e_v144.trans ((if_pos c140).trans ((if_pos c141).trans (if_neg c142)))
            rw [e_v144'] at k
            exact k
        · show Steps p.tables e below (T139.setTop (mkF m 89 #[.val (.int q0), .val (.int q1), .val (.int q2), .val (.int (4 : Int32)), .val (.int ((q1 &&& (255 : Int32)).toUInt32.toUInt16.toUInt32.toInt32)), .val (.int ((((q1.toUInt32 >>> ((8 : Int32) &&& 31).toUInt32).toInt32) &&& (255 : Int32)).toUInt32.toUInt16.toUInt32.toInt32)), .val (.int ((((q1.toUInt32 >>> ((16 : Int32) &&& 31).toUInt32).toInt32) &&& (255 : Int32)).toUInt32.toUInt16.toUInt32.toInt32)), .val (.int ((((q1.toUInt32 >>> ((24 : Int32) &&& 31).toUInt32).toInt32) &&& (255 : Int32)).toUInt32.toUInt16.toUInt32.toInt32)), .val (.int ((q2 &&& (255 : Int32)).toUInt32.toUInt16.toUInt32.toInt32)), .val (.ref b9139), .unset, .unset, .unset] [(.int (114 : Int32)), (.int ((((q1.toUInt32 >>> ((8 : Int32) &&& 31).toUInt32).toInt32) &&& (255 : Int32)).toUInt32.toUInt16.toUInt32.toInt32))])) t
          refine XS.icmpYes X139.here hx rfl (pc0 := 89) (pc' := 110) rfl (hb hby at_89) rfl (feq c141).2 (by decide) (by decide) ?_
          show Steps p.tables e below (T139.setTop (mkF m 110 #[.val (.int q0), .val (.int q1), .val (.int q2), .val (.int (4 : Int32)), .val (.int ((q1 &&& (255 : Int32)).toUInt32.toUInt16.toUInt32.toInt32)), .val (.int ((((q1.toUInt32 >>> ((8 : Int32) &&& 31).toUInt32).toInt32) &&& (255 : Int32)).toUInt32.toUInt16.toUInt32.toInt32)), .val (.int ((((q1.toUInt32 >>> ((16 : Int32) &&& 31).toUInt32).toInt32) &&& (255 : Int32)).toUInt32.toUInt16.toUInt32.toInt32)), .val (.int ((((q1.toUInt32 >>> ((24 : Int32) &&& 31).toUInt32).toInt32) &&& (255 : Int32)).toUInt32.toUInt16.toUInt32.toInt32)), .val (.int ((q2 &&& (255 : Int32)).toUInt32.toUInt16.toUInt32.toInt32)), .val (.ref b9139), .unset, .unset, .unset] [])) t
          refine XS.iconst X139.here hx rfl (hb hby at_110) ?_
          have e_v144' : v144 = (0 : Int32) := e_v144.trans ((if_pos c140).trans (if_neg c141))
          rw [e_v144'] at k
          exact k
      · show Steps p.tables e below (T139.setTop (mkF m 82 #[.val (.int q0), .val (.int q1), .val (.int q2), .val (.int (4 : Int32)), .val (.int ((q1 &&& (255 : Int32)).toUInt32.toUInt16.toUInt32.toInt32)), .val (.int ((((q1.toUInt32 >>> ((8 : Int32) &&& 31).toUInt32).toInt32) &&& (255 : Int32)).toUInt32.toUInt16.toUInt32.toInt32)), .val (.int ((((q1.toUInt32 >>> ((16 : Int32) &&& 31).toUInt32).toInt32) &&& (255 : Int32)).toUInt32.toUInt16.toUInt32.toInt32)), .val (.int ((((q1.toUInt32 >>> ((24 : Int32) &&& 31).toUInt32).toInt32) &&& (255 : Int32)).toUInt32.toUInt16.toUInt32.toInt32)), .val (.int ((q2 &&& (255 : Int32)).toUInt32.toUInt16.toUInt32.toInt32)), .val (.ref b9139), .unset, .unset, .unset] [(.int (116 : Int32)), (.int ((q1 &&& (255 : Int32)).toUInt32.toUInt16.toUInt32.toInt32))])) t
        refine XS.icmpYes X139.here hx rfl (pc0 := 82) (pc' := 110) rfl (hb hby at_82) rfl (feq c140).2 (by decide) (by decide) ?_
        show Steps p.tables e below (T139.setTop (mkF m 110 #[.val (.int q0), .val (.int q1), .val (.int q2), .val (.int (4 : Int32)), .val (.int ((q1 &&& (255 : Int32)).toUInt32.toUInt16.toUInt32.toInt32)), .val (.int ((((q1.toUInt32 >>> ((8 : Int32) &&& 31).toUInt32).toInt32) &&& (255 : Int32)).toUInt32.toUInt16.toUInt32.toInt32)), .val (.int ((((q1.toUInt32 >>> ((16 : Int32) &&& 31).toUInt32).toInt32) &&& (255 : Int32)).toUInt32.toUInt16.toUInt32.toInt32)), .val (.int ((((q1.toUInt32 >>> ((24 : Int32) &&& 31).toUInt32).toInt32) &&& (255 : Int32)).toUInt32.toUInt16.toUInt32.toInt32)), .val (.int ((q2 &&& (255 : Int32)).toUInt32.toUInt16.toUInt32.toInt32)), .val (.ref b9139), .unset, .unset, .unset] [])) t
        refine XS.iconst X139.here hx rfl (hb hby at_110) ?_
        have e_v144' : v144 = (0 : Int32) := e_v144.trans (if_neg c140)
        rw [e_v144'] at k
        exact k
    refine OFinH.go sg146 ?_
    have sg149 : ∀ t, Steps p.tables e below (T139.setTop (mkF m 140 #[.val (.int q0), .val (.int q1), .val (.int q2), .val (.int (4 : Int32)), .val (.int ((q1 &&& (255 : Int32)).toUInt32.toUInt16.toUInt32.toInt32)), .val (.int ((((q1.toUInt32 >>> ((8 : Int32) &&& 31).toUInt32).toInt32) &&& (255 : Int32)).toUInt32.toUInt16.toUInt32.toInt32)), .val (.int ((((q1.toUInt32 >>> ((16 : Int32) &&& 31).toUInt32).toInt32) &&& (255 : Int32)).toUInt32.toUInt16.toUInt32.toInt32)), .val (.int ((((q1.toUInt32 >>> ((24 : Int32) &&& 31).toUInt32).toInt32) &&& (255 : Int32)).toUInt32.toUInt16.toUInt32.toInt32)), .val (.int ((q2 &&& (255 : Int32)).toUInt32.toUInt16.toUInt32.toInt32)), .val (.ref b9139), .val (.int v144), .val (.int (0 : Int32)), .unset] [(.int v144)])) t → Steps p.tables e below (T139.setTop (mkF m 111 #[.val (.int q0), .val (.int q1), .val (.int q2), .val (.int (4 : Int32)), .val (.int ((q1 &&& (255 : Int32)).toUInt32.toUInt16.toUInt32.toInt32)), .val (.int ((((q1.toUInt32 >>> ((8 : Int32) &&& 31).toUInt32).toInt32) &&& (255 : Int32)).toUInt32.toUInt16.toUInt32.toInt32)), .val (.int ((((q1.toUInt32 >>> ((16 : Int32) &&& 31).toUInt32).toInt32) &&& (255 : Int32)).toUInt32.toUInt16.toUInt32.toInt32)), .val (.int ((((q1.toUInt32 >>> ((24 : Int32) &&& 31).toUInt32).toInt32) &&& (255 : Int32)).toUInt32.toUInt16.toUInt32.toInt32)), .val (.int ((q2 &&& (255 : Int32)).toUInt32.toUInt16.toUInt32.toInt32)), .val (.ref b9139), .unset, .unset, .unset] [(.int v144)])) t := by
      intro t k
      show Steps p.tables e below (T139.setTop (mkF m 111 #[.val (.int q0), .val (.int q1), .val (.int q2), .val (.int (4 : Int32)), .val (.int ((q1 &&& (255 : Int32)).toUInt32.toUInt16.toUInt32.toInt32)), .val (.int ((((q1.toUInt32 >>> ((8 : Int32) &&& 31).toUInt32).toInt32) &&& (255 : Int32)).toUInt32.toUInt16.toUInt32.toInt32)), .val (.int ((((q1.toUInt32 >>> ((16 : Int32) &&& 31).toUInt32).toInt32) &&& (255 : Int32)).toUInt32.toUInt16.toUInt32.toInt32)), .val (.int ((((q1.toUInt32 >>> ((24 : Int32) &&& 31).toUInt32).toInt32) &&& (255 : Int32)).toUInt32.toUInt16.toUInt32.toInt32)), .val (.int ((q2 &&& (255 : Int32)).toUInt32.toUInt16.toUInt32.toInt32)), .val (.ref b9139), .unset, .unset, .unset] [(.int v144)])) t
      refine XS.istore X139.here hx rfl (hb hby at_111) rfl (l' := #[.val (.int q0), .val (.int q1), .val (.int q2), .val (.int (4 : Int32)), .val (.int ((q1 &&& (255 : Int32)).toUInt32.toUInt16.toUInt32.toInt32)), .val (.int ((((q1.toUInt32 >>> ((8 : Int32) &&& 31).toUInt32).toInt32) &&& (255 : Int32)).toUInt32.toUInt16.toUInt32.toInt32)), .val (.int ((((q1.toUInt32 >>> ((16 : Int32) &&& 31).toUInt32).toInt32) &&& (255 : Int32)).toUInt32.toUInt16.toUInt32.toInt32)), .val (.int ((((q1.toUInt32 >>> ((24 : Int32) &&& 31).toUInt32).toInt32) &&& (255 : Int32)).toUInt32.toUInt16.toUInt32.toInt32)), .val (.int ((q2 &&& (255 : Int32)).toUInt32.toUInt16.toUInt32.toInt32)), .val (.ref b9139), .val (.int v144), .unset, .unset]) rfl ?_
      show Steps p.tables e below (T139.setTop (mkF m 113 #[.val (.int q0), .val (.int q1), .val (.int q2), .val (.int (4 : Int32)), .val (.int ((q1 &&& (255 : Int32)).toUInt32.toUInt16.toUInt32.toInt32)), .val (.int ((((q1.toUInt32 >>> ((8 : Int32) &&& 31).toUInt32).toInt32) &&& (255 : Int32)).toUInt32.toUInt16.toUInt32.toInt32)), .val (.int ((((q1.toUInt32 >>> ((16 : Int32) &&& 31).toUInt32).toInt32) &&& (255 : Int32)).toUInt32.toUInt16.toUInt32.toInt32)), .val (.int ((((q1.toUInt32 >>> ((24 : Int32) &&& 31).toUInt32).toInt32) &&& (255 : Int32)).toUInt32.toUInt16.toUInt32.toInt32)), .val (.int ((q2 &&& (255 : Int32)).toUInt32.toUInt16.toUInt32.toInt32)), .val (.ref b9139), .val (.int v144), .unset, .unset] [])) t
      refine XS.iloadN X139.here hx rfl (hb hby at_113) rfl ?_
      show Steps p.tables e below (T139.setTop (mkF m 114 #[.val (.int q0), .val (.int q1), .val (.int q2), .val (.int (4 : Int32)), .val (.int ((q1 &&& (255 : Int32)).toUInt32.toUInt16.toUInt32.toInt32)), .val (.int ((((q1.toUInt32 >>> ((8 : Int32) &&& 31).toUInt32).toInt32) &&& (255 : Int32)).toUInt32.toUInt16.toUInt32.toInt32)), .val (.int ((((q1.toUInt32 >>> ((16 : Int32) &&& 31).toUInt32).toInt32) &&& (255 : Int32)).toUInt32.toUInt16.toUInt32.toInt32)), .val (.int ((((q1.toUInt32 >>> ((24 : Int32) &&& 31).toUInt32).toInt32) &&& (255 : Int32)).toUInt32.toUInt16.toUInt32.toInt32)), .val (.int ((q2 &&& (255 : Int32)).toUInt32.toUInt16.toUInt32.toInt32)), .val (.ref b9139), .val (.int v144), .unset, .unset] [(.int (4 : Int32))])) t
      refine XS.iconst X139.here hx rfl (hb hby at_114) ?_
      show Steps p.tables e below (T139.setTop (mkF m 115 #[.val (.int q0), .val (.int q1), .val (.int q2), .val (.int (4 : Int32)), .val (.int ((q1 &&& (255 : Int32)).toUInt32.toUInt16.toUInt32.toInt32)), .val (.int ((((q1.toUInt32 >>> ((8 : Int32) &&& 31).toUInt32).toInt32) &&& (255 : Int32)).toUInt32.toUInt16.toUInt32.toInt32)), .val (.int ((((q1.toUInt32 >>> ((16 : Int32) &&& 31).toUInt32).toInt32) &&& (255 : Int32)).toUInt32.toUInt16.toUInt32.toInt32)), .val (.int ((((q1.toUInt32 >>> ((24 : Int32) &&& 31).toUInt32).toInt32) &&& (255 : Int32)).toUInt32.toUInt16.toUInt32.toInt32)), .val (.int ((q2 &&& (255 : Int32)).toUInt32.toUInt16.toUInt32.toInt32)), .val (.ref b9139), .val (.int v144), .unset, .unset] [(.int (1 : Int32)), (.int (4 : Int32))])) t
      refine XS.icmpYes X139.here hx rfl (pc0 := 115) (pc' := 129) rfl (hb hby at_115) rfl (feq (by decide : ¬ ((4 : Int32) = (1 : Int32)))).2 (by decide) (by decide) ?_
      show Steps p.tables e below (T139.setTop (mkF m 129 #[.val (.int q0), .val (.int q1), .val (.int q2), .val (.int (4 : Int32)), .val (.int ((q1 &&& (255 : Int32)).toUInt32.toUInt16.toUInt32.toInt32)), .val (.int ((((q1.toUInt32 >>> ((8 : Int32) &&& 31).toUInt32).toInt32) &&& (255 : Int32)).toUInt32.toUInt16.toUInt32.toInt32)), .val (.int ((((q1.toUInt32 >>> ((16 : Int32) &&& 31).toUInt32).toInt32) &&& (255 : Int32)).toUInt32.toUInt16.toUInt32.toInt32)), .val (.int ((((q1.toUInt32 >>> ((24 : Int32) &&& 31).toUInt32).toInt32) &&& (255 : Int32)).toUInt32.toUInt16.toUInt32.toInt32)), .val (.int ((q2 &&& (255 : Int32)).toUInt32.toUInt16.toUInt32.toInt32)), .val (.ref b9139), .val (.int v144), .unset, .unset] [])) t
      refine XS.iconst X139.here hx rfl (hb hby at_129) ?_
      show Steps p.tables e below (T139.setTop (mkF m 130 #[.val (.int q0), .val (.int q1), .val (.int q2), .val (.int (4 : Int32)), .val (.int ((q1 &&& (255 : Int32)).toUInt32.toUInt16.toUInt32.toInt32)), .val (.int ((((q1.toUInt32 >>> ((8 : Int32) &&& 31).toUInt32).toInt32) &&& (255 : Int32)).toUInt32.toUInt16.toUInt32.toInt32)), .val (.int ((((q1.toUInt32 >>> ((16 : Int32) &&& 31).toUInt32).toInt32) &&& (255 : Int32)).toUInt32.toUInt16.toUInt32.toInt32)), .val (.int ((((q1.toUInt32 >>> ((24 : Int32) &&& 31).toUInt32).toInt32) &&& (255 : Int32)).toUInt32.toUInt16.toUInt32.toInt32)), .val (.int ((q2 &&& (255 : Int32)).toUInt32.toUInt16.toUInt32.toInt32)), .val (.ref b9139), .val (.int v144), .unset, .unset] [(.int (0 : Int32))])) t
      refine XS.istore X139.here hx rfl (hb hby at_130) rfl (l' := #[.val (.int q0), .val (.int q1), .val (.int q2), .val (.int (4 : Int32)), .val (.int ((q1 &&& (255 : Int32)).toUInt32.toUInt16.toUInt32.toInt32)), .val (.int ((((q1.toUInt32 >>> ((8 : Int32) &&& 31).toUInt32).toInt32) &&& (255 : Int32)).toUInt32.toUInt16.toUInt32.toInt32)), .val (.int ((((q1.toUInt32 >>> ((16 : Int32) &&& 31).toUInt32).toInt32) &&& (255 : Int32)).toUInt32.toUInt16.toUInt32.toInt32)), .val (.int ((((q1.toUInt32 >>> ((24 : Int32) &&& 31).toUInt32).toInt32) &&& (255 : Int32)).toUInt32.toUInt16.toUInt32.toInt32)), .val (.int ((q2 &&& (255 : Int32)).toUInt32.toUInt16.toUInt32.toInt32)), .val (.ref b9139), .val (.int v144), .val (.int (0 : Int32)), .unset]) rfl ?_
      show Steps p.tables e below (T139.setTop (mkF m 132 #[.val (.int q0), .val (.int q1), .val (.int q2), .val (.int (4 : Int32)), .val (.int ((q1 &&& (255 : Int32)).toUInt32.toUInt16.toUInt32.toInt32)), .val (.int ((((q1.toUInt32 >>> ((8 : Int32) &&& 31).toUInt32).toInt32) &&& (255 : Int32)).toUInt32.toUInt16.toUInt32.toInt32)), .val (.int ((((q1.toUInt32 >>> ((16 : Int32) &&& 31).toUInt32).toInt32) &&& (255 : Int32)).toUInt32.toUInt16.toUInt32.toInt32)), .val (.int ((((q1.toUInt32 >>> ((24 : Int32) &&& 31).toUInt32).toInt32) &&& (255 : Int32)).toUInt32.toUInt16.toUInt32.toInt32)), .val (.int ((q2 &&& (255 : Int32)).toUInt32.toUInt16.toUInt32.toInt32)), .val (.ref b9139), .val (.int v144), .val (.int (0 : Int32)), .unset] [])) t
      refine XS.iloadN X139.here hx rfl (hb hby at_132) rfl ?_
      show Steps p.tables e below (T139.setTop (mkF m 133 #[.val (.int q0), .val (.int q1), .val (.int q2), .val (.int (4 : Int32)), .val (.int ((q1 &&& (255 : Int32)).toUInt32.toUInt16.toUInt32.toInt32)), .val (.int ((((q1.toUInt32 >>> ((8 : Int32) &&& 31).toUInt32).toInt32) &&& (255 : Int32)).toUInt32.toUInt16.toUInt32.toInt32)), .val (.int ((((q1.toUInt32 >>> ((16 : Int32) &&& 31).toUInt32).toInt32) &&& (255 : Int32)).toUInt32.toUInt16.toUInt32.toInt32)), .val (.int ((((q1.toUInt32 >>> ((24 : Int32) &&& 31).toUInt32).toInt32) &&& (255 : Int32)).toUInt32.toUInt16.toUInt32.toInt32)), .val (.int ((q2 &&& (255 : Int32)).toUInt32.toUInt16.toUInt32.toInt32)), .val (.ref b9139), .val (.int v144), .val (.int (0 : Int32)), .unset] [(.int (4 : Int32))])) t
      refine XS.bipush X139.here hx rfl (hb hby at_133) ?_
      show Steps p.tables e below (T139.setTop (mkF m 135 #[.val (.int q0), .val (.int q1), .val (.int q2), .val (.int (4 : Int32)), .val (.int ((q1 &&& (255 : Int32)).toUInt32.toUInt16.toUInt32.toInt32)), .val (.int ((((q1.toUInt32 >>> ((8 : Int32) &&& 31).toUInt32).toInt32) &&& (255 : Int32)).toUInt32.toUInt16.toUInt32.toInt32)), .val (.int ((((q1.toUInt32 >>> ((16 : Int32) &&& 31).toUInt32).toInt32) &&& (255 : Int32)).toUInt32.toUInt16.toUInt32.toInt32)), .val (.int ((((q1.toUInt32 >>> ((24 : Int32) &&& 31).toUInt32).toInt32) &&& (255 : Int32)).toUInt32.toUInt16.toUInt32.toInt32)), .val (.int ((q2 &&& (255 : Int32)).toUInt32.toUInt16.toUInt32.toInt32)), .val (.ref b9139), .val (.int v144), .val (.int (0 : Int32)), .unset] [(.int (6 : Int32)), (.int (4 : Int32))])) t
      refine XS.icmpNo X139.here hx rfl (hb hby at_135) rfl (feq (by decide : ¬ ((4 : Int32) = (6 : Int32)))).1 ?_
      show Steps p.tables e below (T139.setTop (mkF m 138 #[.val (.int q0), .val (.int q1), .val (.int q2), .val (.int (4 : Int32)), .val (.int ((q1 &&& (255 : Int32)).toUInt32.toUInt16.toUInt32.toInt32)), .val (.int ((((q1.toUInt32 >>> ((8 : Int32) &&& 31).toUInt32).toInt32) &&& (255 : Int32)).toUInt32.toUInt16.toUInt32.toInt32)), .val (.int ((((q1.toUInt32 >>> ((16 : Int32) &&& 31).toUInt32).toInt32) &&& (255 : Int32)).toUInt32.toUInt16.toUInt32.toInt32)), .val (.int ((((q1.toUInt32 >>> ((24 : Int32) &&& 31).toUInt32).toInt32) &&& (255 : Int32)).toUInt32.toUInt16.toUInt32.toInt32)), .val (.int ((q2 &&& (255 : Int32)).toUInt32.toUInt16.toUInt32.toInt32)), .val (.ref b9139), .val (.int v144), .val (.int (0 : Int32)), .unset] [])) t
      refine XS.iload X139.here hx rfl (hb hby at_138) rfl ?_
      exact k
    refine OFinH.go sg149 ?_
    obtain ⟨v148, e_v148⟩ : ∃ z : Int32, z = (if v144 = (0 : Int32) then (0 : Int32) else (1 : Int32)) := ⟨_, rfl⟩
    have sg150 : ∀ t, Steps p.tables e below (T139.setTop (mkF m 153 #[.val (.int q0), .val (.int q1), .val (.int q2), .val (.int (4 : Int32)), .val (.int ((q1 &&& (255 : Int32)).toUInt32.toUInt16.toUInt32.toInt32)), .val (.int ((((q1.toUInt32 >>> ((8 : Int32) &&& 31).toUInt32).toInt32) &&& (255 : Int32)).toUInt32.toUInt16.toUInt32.toInt32)), .val (.int ((((q1.toUInt32 >>> ((16 : Int32) &&& 31).toUInt32).toInt32) &&& (255 : Int32)).toUInt32.toUInt16.toUInt32.toInt32)), .val (.int ((((q1.toUInt32 >>> ((24 : Int32) &&& 31).toUInt32).toInt32) &&& (255 : Int32)).toUInt32.toUInt16.toUInt32.toInt32)), .val (.int ((q2 &&& (255 : Int32)).toUInt32.toUInt16.toUInt32.toInt32)), .val (.ref b9139), .val (.int v144), .val (.int (0 : Int32)), .unset] [(.int v148)])) t → Steps p.tables e below (T139.setTop (mkF m 140 #[.val (.int q0), .val (.int q1), .val (.int q2), .val (.int (4 : Int32)), .val (.int ((q1 &&& (255 : Int32)).toUInt32.toUInt16.toUInt32.toInt32)), .val (.int ((((q1.toUInt32 >>> ((8 : Int32) &&& 31).toUInt32).toInt32) &&& (255 : Int32)).toUInt32.toUInt16.toUInt32.toInt32)), .val (.int ((((q1.toUInt32 >>> ((16 : Int32) &&& 31).toUInt32).toInt32) &&& (255 : Int32)).toUInt32.toUInt16.toUInt32.toInt32)), .val (.int ((((q1.toUInt32 >>> ((24 : Int32) &&& 31).toUInt32).toInt32) &&& (255 : Int32)).toUInt32.toUInt16.toUInt32.toInt32)), .val (.int ((q2 &&& (255 : Int32)).toUInt32.toUInt16.toUInt32.toInt32)), .val (.ref b9139), .val (.int v144), .val (.int (0 : Int32)), .unset] [(.int v144)])) t := by
      intro t k
      by_cases c147 : v144 = (0 : Int32)
      · show Steps p.tables e below (T139.setTop (mkF m 140 #[.val (.int q0), .val (.int q1), .val (.int q2), .val (.int (4 : Int32)), .val (.int ((q1 &&& (255 : Int32)).toUInt32.toUInt16.toUInt32.toInt32)), .val (.int ((((q1.toUInt32 >>> ((8 : Int32) &&& 31).toUInt32).toInt32) &&& (255 : Int32)).toUInt32.toUInt16.toUInt32.toInt32)), .val (.int ((((q1.toUInt32 >>> ((16 : Int32) &&& 31).toUInt32).toInt32) &&& (255 : Int32)).toUInt32.toUInt16.toUInt32.toInt32)), .val (.int ((((q1.toUInt32 >>> ((24 : Int32) &&& 31).toUInt32).toInt32) &&& (255 : Int32)).toUInt32.toUInt16.toUInt32.toInt32)), .val (.int ((q2 &&& (255 : Int32)).toUInt32.toUInt16.toUInt32.toInt32)), .val (.ref b9139), .val (.int v144), .val (.int (0 : Int32)), .unset] [(.int v144)])) t
        refine XS.ifNo X139.here hx rfl (hb hby at_140) rfl ((if0 _ _).trans (teq c147).2) ?_
        show Steps p.tables e below (T139.setTop (mkF m 143 #[.val (.int q0), .val (.int q1), .val (.int q2), .val (.int (4 : Int32)), .val (.int ((q1 &&& (255 : Int32)).toUInt32.toUInt16.toUInt32.toInt32)), .val (.int ((((q1.toUInt32 >>> ((8 : Int32) &&& 31).toUInt32).toInt32) &&& (255 : Int32)).toUInt32.toUInt16.toUInt32.toInt32)), .val (.int ((((q1.toUInt32 >>> ((16 : Int32) &&& 31).toUInt32).toInt32) &&& (255 : Int32)).toUInt32.toUInt16.toUInt32.toInt32)), .val (.int ((((q1.toUInt32 >>> ((24 : Int32) &&& 31).toUInt32).toInt32) &&& (255 : Int32)).toUInt32.toUInt16.toUInt32.toInt32)), .val (.int ((q2 &&& (255 : Int32)).toUInt32.toUInt16.toUInt32.toInt32)), .val (.ref b9139), .val (.int v144), .val (.int (0 : Int32)), .unset] [])) t
        refine XS.iload X139.here hx rfl (hb hby at_143) rfl ?_
        show Steps p.tables e below (T139.setTop (mkF m 145 #[.val (.int q0), .val (.int q1), .val (.int q2), .val (.int (4 : Int32)), .val (.int ((q1 &&& (255 : Int32)).toUInt32.toUInt16.toUInt32.toInt32)), .val (.int ((((q1.toUInt32 >>> ((8 : Int32) &&& 31).toUInt32).toInt32) &&& (255 : Int32)).toUInt32.toUInt16.toUInt32.toInt32)), .val (.int ((((q1.toUInt32 >>> ((16 : Int32) &&& 31).toUInt32).toInt32) &&& (255 : Int32)).toUInt32.toUInt16.toUInt32.toInt32)), .val (.int ((((q1.toUInt32 >>> ((24 : Int32) &&& 31).toUInt32).toInt32) &&& (255 : Int32)).toUInt32.toUInt16.toUInt32.toInt32)), .val (.int ((q2 &&& (255 : Int32)).toUInt32.toUInt16.toUInt32.toInt32)), .val (.ref b9139), .val (.int v144), .val (.int (0 : Int32)), .unset] [(.int (0 : Int32))])) t
        refine XS.ifYes X139.here hx rfl (pc0 := 145) (pc' := 152) rfl (hb hby at_145) rfl ((if0 _ _).trans (teq (by decide : (0 : Int32) = (0 : Int32))).1) (by decide) (by decide) ?_
        show Steps p.tables e below (T139.setTop (mkF m 152 #[.val (.int q0), .val (.int q1), .val (.int q2), .val (.int (4 : Int32)), .val (.int ((q1 &&& (255 : Int32)).toUInt32.toUInt16.toUInt32.toInt32)), .val (.int ((((q1.toUInt32 >>> ((8 : Int32) &&& 31).toUInt32).toInt32) &&& (255 : Int32)).toUInt32.toUInt16.toUInt32.toInt32)), .val (.int ((((q1.toUInt32 >>> ((16 : Int32) &&& 31).toUInt32).toInt32) &&& (255 : Int32)).toUInt32.toUInt16.toUInt32.toInt32)), .val (.int ((((q1.toUInt32 >>> ((24 : Int32) &&& 31).toUInt32).toInt32) &&& (255 : Int32)).toUInt32.toUInt16.toUInt32.toInt32)), .val (.int ((q2 &&& (255 : Int32)).toUInt32.toUInt16.toUInt32.toInt32)), .val (.ref b9139), .val (.int v144), .val (.int (0 : Int32)), .unset] [])) t
        refine XS.iconst X139.here hx rfl (hb hby at_152) ?_
        have e_v148' : v148 = (0 : Int32) := e_v148.trans (if_pos c147)
        rw [e_v148'] at k
        exact k
      · show Steps p.tables e below (T139.setTop (mkF m 140 #[.val (.int q0), .val (.int q1), .val (.int q2), .val (.int (4 : Int32)), .val (.int ((q1 &&& (255 : Int32)).toUInt32.toUInt16.toUInt32.toInt32)), .val (.int ((((q1.toUInt32 >>> ((8 : Int32) &&& 31).toUInt32).toInt32) &&& (255 : Int32)).toUInt32.toUInt16.toUInt32.toInt32)), .val (.int ((((q1.toUInt32 >>> ((16 : Int32) &&& 31).toUInt32).toInt32) &&& (255 : Int32)).toUInt32.toUInt16.toUInt32.toInt32)), .val (.int ((((q1.toUInt32 >>> ((24 : Int32) &&& 31).toUInt32).toInt32) &&& (255 : Int32)).toUInt32.toUInt16.toUInt32.toInt32)), .val (.int ((q2 &&& (255 : Int32)).toUInt32.toUInt16.toUInt32.toInt32)), .val (.ref b9139), .val (.int v144), .val (.int (0 : Int32)), .unset] [(.int v144)])) t
        refine XS.ifYes X139.here hx rfl (pc0 := 140) (pc' := 148) rfl (hb hby at_140) rfl ((if0 _ _).trans (feq c147).2) (by decide) (by decide) ?_
        show Steps p.tables e below (T139.setTop (mkF m 148 #[.val (.int q0), .val (.int q1), .val (.int q2), .val (.int (4 : Int32)), .val (.int ((q1 &&& (255 : Int32)).toUInt32.toUInt16.toUInt32.toInt32)), .val (.int ((((q1.toUInt32 >>> ((8 : Int32) &&& 31).toUInt32).toInt32) &&& (255 : Int32)).toUInt32.toUInt16.toUInt32.toInt32)), .val (.int ((((q1.toUInt32 >>> ((16 : Int32) &&& 31).toUInt32).toInt32) &&& (255 : Int32)).toUInt32.toUInt16.toUInt32.toInt32)), .val (.int ((((q1.toUInt32 >>> ((24 : Int32) &&& 31).toUInt32).toInt32) &&& (255 : Int32)).toUInt32.toUInt16.toUInt32.toInt32)), .val (.int ((q2 &&& (255 : Int32)).toUInt32.toUInt16.toUInt32.toInt32)), .val (.ref b9139), .val (.int v144), .val (.int (0 : Int32)), .unset] [])) t
        refine XS.iconst X139.here hx rfl (hb hby at_148) ?_
        show Steps p.tables e below (T139.setTop (mkF m 149 #[.val (.int q0), .val (.int q1), .val (.int q2), .val (.int (4 : Int32)), .val (.int ((q1 &&& (255 : Int32)).toUInt32.toUInt16.toUInt32.toInt32)), .val (.int ((((q1.toUInt32 >>> ((8 : Int32) &&& 31).toUInt32).toInt32) &&& (255 : Int32)).toUInt32.toUInt16.toUInt32.toInt32)), .val (.int ((((q1.toUInt32 >>> ((16 : Int32) &&& 31).toUInt32).toInt32) &&& (255 : Int32)).toUInt32.toUInt16.toUInt32.toInt32)), .val (.int ((((q1.toUInt32 >>> ((24 : Int32) &&& 31).toUInt32).toInt32) &&& (255 : Int32)).toUInt32.toUInt16.toUInt32.toInt32)), .val (.int ((q2 &&& (255 : Int32)).toUInt32.toUInt16.toUInt32.toInt32)), .val (.ref b9139), .val (.int v144), .val (.int (0 : Int32)), .unset] [(.int (1 : Int32))])) t
        refine XS.goto X139.here hx rfl (pc0 := 149) (pc' := 153) rfl (hb hby at_149) (by decide) (by decide) ?_
        have e_v148' : v148 = (1 : Int32) := e_v148.trans (if_neg c147)
        rw [e_v148'] at k
        exact k
    refine OFinH.go sg150 ?_
    have sg151 : ∀ t, Steps p.tables e below (T139.setTop (mkF m 157 #[.val (.int q0), .val (.int q1), .val (.int q2), .val (.int (4 : Int32)), .val (.int ((q1 &&& (255 : Int32)).toUInt32.toUInt16.toUInt32.toInt32)), .val (.int ((((q1.toUInt32 >>> ((8 : Int32) &&& 31).toUInt32).toInt32) &&& (255 : Int32)).toUInt32.toUInt16.toUInt32.toInt32)), .val (.int ((((q1.toUInt32 >>> ((16 : Int32) &&& 31).toUInt32).toInt32) &&& (255 : Int32)).toUInt32.toUInt16.toUInt32.toInt32)), .val (.int ((((q1.toUInt32 >>> ((24 : Int32) &&& 31).toUInt32).toInt32) &&& (255 : Int32)).toUInt32.toUInt16.toUInt32.toInt32)), .val (.int ((q2 &&& (255 : Int32)).toUInt32.toUInt16.toUInt32.toInt32)), .val (.ref b9139), .val (.int v144), .val (.int (0 : Int32)), .val (.int v148)] [(.ref b9139)])) t → Steps p.tables e below (T139.setTop (mkF m 153 #[.val (.int q0), .val (.int q1), .val (.int q2), .val (.int (4 : Int32)), .val (.int ((q1 &&& (255 : Int32)).toUInt32.toUInt16.toUInt32.toInt32)), .val (.int ((((q1.toUInt32 >>> ((8 : Int32) &&& 31).toUInt32).toInt32) &&& (255 : Int32)).toUInt32.toUInt16.toUInt32.toInt32)), .val (.int ((((q1.toUInt32 >>> ((16 : Int32) &&& 31).toUInt32).toInt32) &&& (255 : Int32)).toUInt32.toUInt16.toUInt32.toInt32)), .val (.int ((((q1.toUInt32 >>> ((24 : Int32) &&& 31).toUInt32).toInt32) &&& (255 : Int32)).toUInt32.toUInt16.toUInt32.toInt32)), .val (.int ((q2 &&& (255 : Int32)).toUInt32.toUInt16.toUInt32.toInt32)), .val (.ref b9139), .val (.int v144), .val (.int (0 : Int32)), .unset] [(.int v148)])) t := by
      intro t k
      show Steps p.tables e below (T139.setTop (mkF m 153 #[.val (.int q0), .val (.int q1), .val (.int q2), .val (.int (4 : Int32)), .val (.int ((q1 &&& (255 : Int32)).toUInt32.toUInt16.toUInt32.toInt32)), .val (.int ((((q1.toUInt32 >>> ((8 : Int32) &&& 31).toUInt32).toInt32) &&& (255 : Int32)).toUInt32.toUInt16.toUInt32.toInt32)), .val (.int ((((q1.toUInt32 >>> ((16 : Int32) &&& 31).toUInt32).toInt32) &&& (255 : Int32)).toUInt32.toUInt16.toUInt32.toInt32)), .val (.int ((((q1.toUInt32 >>> ((24 : Int32) &&& 31).toUInt32).toInt32) &&& (255 : Int32)).toUInt32.toUInt16.toUInt32.toInt32)), .val (.int ((q2 &&& (255 : Int32)).toUInt32.toUInt16.toUInt32.toInt32)), .val (.ref b9139), .val (.int v144), .val (.int (0 : Int32)), .unset] [(.int v148)])) t
      refine XS.istore X139.here hx rfl (hb hby at_153) rfl (l' := #[.val (.int q0), .val (.int q1), .val (.int q2), .val (.int (4 : Int32)), .val (.int ((q1 &&& (255 : Int32)).toUInt32.toUInt16.toUInt32.toInt32)), .val (.int ((((q1.toUInt32 >>> ((8 : Int32) &&& 31).toUInt32).toInt32) &&& (255 : Int32)).toUInt32.toUInt16.toUInt32.toInt32)), .val (.int ((((q1.toUInt32 >>> ((16 : Int32) &&& 31).toUInt32).toInt32) &&& (255 : Int32)).toUInt32.toUInt16.toUInt32.toInt32)), .val (.int ((((q1.toUInt32 >>> ((24 : Int32) &&& 31).toUInt32).toInt32) &&& (255 : Int32)).toUInt32.toUInt16.toUInt32.toInt32)), .val (.int ((q2 &&& (255 : Int32)).toUInt32.toUInt16.toUInt32.toInt32)), .val (.ref b9139), .val (.int v144), .val (.int (0 : Int32)), .val (.int v148)]) rfl ?_
      show Steps p.tables e below (T139.setTop (mkF m 155 #[.val (.int q0), .val (.int q1), .val (.int q2), .val (.int (4 : Int32)), .val (.int ((q1 &&& (255 : Int32)).toUInt32.toUInt16.toUInt32.toInt32)), .val (.int ((((q1.toUInt32 >>> ((8 : Int32) &&& 31).toUInt32).toInt32) &&& (255 : Int32)).toUInt32.toUInt16.toUInt32.toInt32)), .val (.int ((((q1.toUInt32 >>> ((16 : Int32) &&& 31).toUInt32).toInt32) &&& (255 : Int32)).toUInt32.toUInt16.toUInt32.toInt32)), .val (.int ((((q1.toUInt32 >>> ((24 : Int32) &&& 31).toUInt32).toInt32) &&& (255 : Int32)).toUInt32.toUInt16.toUInt32.toInt32)), .val (.int ((q2 &&& (255 : Int32)).toUInt32.toUInt16.toUInt32.toInt32)), .val (.ref b9139), .val (.int v144), .val (.int (0 : Int32)), .val (.int v148)] [])) t
      refine XS.aload X139.here hx rfl (hb hby at_155) rfl rfl ?_
      exact k
    refine OFinH.go sg151 ?_
    have hpc : ∀ c ∈ ([(nar .char ((q1 &&& (255 : Int32)).toUInt32.toUInt16.toUInt32.toInt32)), (nar .char ((((q1.toUInt32 >>> ((8 : Int32) &&& 31).toUInt32).toInt32) &&& (255 : Int32)).toUInt32.toUInt16.toUInt32.toInt32)), (nar .char ((((q1.toUInt32 >>> ((16 : Int32) &&& 31).toUInt32).toInt32) &&& (255 : Int32)).toUInt32.toUInt16.toUInt32.toInt32)), (nar .char ((((q1.toUInt32 >>> ((24 : Int32) &&& 31).toUInt32).toInt32) &&& (255 : Int32)).toUInt32.toUInt16.toUInt32.toInt32))] : List Int32), ¬ c < 0 ∧ ¬ (255 : Int32) < c := (own_allS (own_ch _) (own_allS (own_ch _) (own_allS (own_ch _) (own_allS (own_ch _) own_all0))))
    obtain ⟨_, _, ⟨T152, L152, k152, n152⟩, -, X152, hSn, hgn, ⟨Lc152, hQ152, l152, y152, z152, C152⟩, st152⟩ := callSS X139 hx (y := (⟨"com/example/avvik/avvik/io/XsdValues", "isTrue", "(Ljava/lang/String;)Z"⟩ : MethodName)) hown (mvT hZ (hw _ (List.mem_of_getElem? (i := 27) rfl))) (mvT hZ (hw _ (List.mem_of_getElem? (i := 28) rfl))) (mvT hZ (hw _ (List.mem_of_getElem? (i := 29) rfl))) (mvT hZ (hw _ (List.mem_of_getElem? (i := 30) rfl))) (by decide) (own_back (W := 0) (sf := []) (rm5 l Z aZ hw hEL [] b9139 ([(nar .char ((q1 &&& (255 : Int32)).toUInt32.toUInt16.toUInt32.toInt32)), (nar .char ((((q1.toUInt32 >>> ((8 : Int32) &&& 31).toUInt32).toInt32) &&& (255 : Int32)).toUInt32.toUInt16.toUInt32.toInt32)), (nar .char ((((q1.toUInt32 >>> ((16 : Int32) &&& 31).toUInt32).toInt32) &&& (255 : Int32)).toUInt32.toUInt16.toUInt32.toInt32)), (nar .char ((((q1.toUInt32 >>> ((24 : Int32) &&& 31).toUInt32).toInt32) &&& (255 : Int32)).toUInt32.toUInt16.toUInt32.toInt32))] : List Int32) t9139 k9139 (4 : Int32) ((([(nar .char ((q1 &&& (255 : Int32)).toUInt32.toUInt16.toUInt32.toInt32)), (nar .char ((((q1.toUInt32 >>> ((8 : Int32) &&& 31).toUInt32).toInt32) &&& (255 : Int32)).toUInt32.toUInt16.toUInt32.toInt32)), (nar .char ((((q1.toUInt32 >>> ((16 : Int32) &&& 31).toUInt32).toInt32) &&& (255 : Int32)).toUInt32.toUInt16.toUInt32.toInt32)), (nar .char ((((q1.toUInt32 >>> ((24 : Int32) &&& 31).toUInt32).toInt32) &&& (255 : Int32)).toUInt32.toUInt16.toUInt32.toInt32))] : List Int32).map (fun c => c.toInt8.toInt32)).map Value.int) w1 T139.heap n0 (Nat.le_trans Z0 K139.1) (O0.keep Kq139 all0) P139_0 P139_1 P139_2 P139_3 S1 (StrChars.Road.codOf (n := 4) rfl (fun c hc => (hpc c hc).2)) (own_up _ hpc) (Nat.le_of_ble_eq_true rfl) hcs) hZ (hw _ (List.mem_of_getElem? (i := 30) rfl)) (hw _ (List.mem_of_getElem? (i := 29) rfl)) (by decide) (by decide) hEL HC.1 all0 all0) (g := (mkF m 157 #[.val (.int q0), .val (.int q1), .val (.int q2), .val (.int (4 : Int32)), .val (.int ((q1 &&& (255 : Int32)).toUInt32.toUInt16.toUInt32.toInt32)), .val (.int ((((q1.toUInt32 >>> ((8 : Int32) &&& 31).toUInt32).toInt32) &&& (255 : Int32)).toUInt32.toUInt16.toUInt32.toInt32)), .val (.int ((((q1.toUInt32 >>> ((16 : Int32) &&& 31).toUInt32).toInt32) &&& (255 : Int32)).toUInt32.toUInt16.toUInt32.toInt32)), .val (.int ((((q1.toUInt32 >>> ((24 : Int32) &&& 31).toUInt32).toInt32) &&& (255 : Int32)).toUInt32.toUInt16.toUInt32.toInt32)), .val (.int ((q2 &&& (255 : Int32)).toUInt32.toUInt16.toUInt32.toInt32)), .val (.ref b9139), .val (.int v144), .val (.int (0 : Int32)), .val (.int v148)] [(.ref b9139)])) rfl (by rw [hml]; rfl) (argsL := [(.ref b9139)]) (rest := []) (lenOf pd_4 rfl) rfl (by show 2 * 0 + _ ≤ _; exact Nat.le_of_eq rfl) (hb hby at_157) (fun _ _ => ⟨rfl, rfl, (by decide : 3 + 4 ≤ _), (by decide : 12 + 28 ≤ _)⟩)
    dsimp only [Pt.U, Pt.locs, Pt.cells, Pt.slots] at X152 l152 y152 z152 st152 hQ152 hSn hgn C152
    have X152 : Stand p l e room_1 (s.setVm T152.vm) m #[(.int q0), (.int q1), (.int q2)] below meth c T152 L152 k152 n152 := X152
    have HC := HC.trans C152
    have hk152 := hk
    have hS := State.Since.trans hS hSn (Nat.le_trans hk152 hgn)
    have hk := Nat.le_refl T152.heap.size
    have hown : (s.setVm T152.vm).vm.findClass "com/example/avvik/avvik/io/XsdValuesIsTruePinLaw" = some m.cls := by rw [show (s.setVm T152.vm).vm = T152.vm from rfl, hSn.1.alike.findClass]; exact hown
    have hZ : Z.Warmed39 T152.vm := State.Warmed39.trans hZ hSn.1
    subst l152 y152 z152
    obtain ⟨rfl, N152q, Kq152⟩ := hQ152
    have N152 := Fr.app N139 N152q
    refine OFinH.tr st152 ?_
    have K152 : Keep h0 T152.heap [] := K139.trans Kq152 all0
    have sg154 : ∀ t, Steps p.tables e below (T152.setTop (mkF m 162 #[.val (.int q0), .val (.int q1), .val (.int q2), .val (.int (4 : Int32)), .val (.int ((q1 &&& (255 : Int32)).toUInt32.toUInt16.toUInt32.toInt32)), .val (.int ((((q1.toUInt32 >>> ((8 : Int32) &&& 31).toUInt32).toInt32) &&& (255 : Int32)).toUInt32.toUInt16.toUInt32.toInt32)), .val (.int ((((q1.toUInt32 >>> ((16 : Int32) &&& 31).toUInt32).toInt32) &&& (255 : Int32)).toUInt32.toUInt16.toUInt32.toInt32)), .val (.int ((((q1.toUInt32 >>> ((24 : Int32) &&& 31).toUInt32).toInt32) &&& (255 : Int32)).toUInt32.toUInt16.toUInt32.toInt32)), .val (.int ((q2 &&& (255 : Int32)).toUInt32.toUInt16.toUInt32.toInt32)), .val (.ref b9139), .val (.int v144), .val (.int (0 : Int32)), .val (.int v148)] [(.int v148), (.int (if ([(nar .char ((q1 &&& (255 : Int32)).toUInt32.toUInt16.toUInt32.toInt32)), (nar .char ((((q1.toUInt32 >>> ((8 : Int32) &&& 31).toUInt32).toInt32) &&& (255 : Int32)).toUInt32.toUInt16.toUInt32.toInt32)), (nar .char ((((q1.toUInt32 >>> ((16 : Int32) &&& 31).toUInt32).toInt32) &&& (255 : Int32)).toUInt32.toUInt16.toUInt32.toInt32)), (nar .char ((((q1.toUInt32 >>> ((24 : Int32) &&& 31).toUInt32).toInt32) &&& (255 : Int32)).toUInt32.toUInt16.toUInt32.toInt32))] : List Int32) = ([116, 114, 117, 101] : List Int32) ∨ ([(nar .char ((q1 &&& (255 : Int32)).toUInt32.toUInt16.toUInt32.toInt32)), (nar .char ((((q1.toUInt32 >>> ((8 : Int32) &&& 31).toUInt32).toInt32) &&& (255 : Int32)).toUInt32.toUInt16.toUInt32.toInt32)), (nar .char ((((q1.toUInt32 >>> ((16 : Int32) &&& 31).toUInt32).toInt32) &&& (255 : Int32)).toUInt32.toUInt16.toUInt32.toInt32)), (nar .char ((((q1.toUInt32 >>> ((24 : Int32) &&& 31).toUInt32).toInt32) &&& (255 : Int32)).toUInt32.toUInt16.toUInt32.toInt32))] : List Int32) = ([49] : List Int32) then (1 : Int32) else (0 : Int32)))])) t → Steps p.tables e below (T152.setTop (mkF m 160 #[.val (.int q0), .val (.int q1), .val (.int q2), .val (.int (4 : Int32)), .val (.int ((q1 &&& (255 : Int32)).toUInt32.toUInt16.toUInt32.toInt32)), .val (.int ((((q1.toUInt32 >>> ((8 : Int32) &&& 31).toUInt32).toInt32) &&& (255 : Int32)).toUInt32.toUInt16.toUInt32.toInt32)), .val (.int ((((q1.toUInt32 >>> ((16 : Int32) &&& 31).toUInt32).toInt32) &&& (255 : Int32)).toUInt32.toUInt16.toUInt32.toInt32)), .val (.int ((((q1.toUInt32 >>> ((24 : Int32) &&& 31).toUInt32).toInt32) &&& (255 : Int32)).toUInt32.toUInt16.toUInt32.toInt32)), .val (.int ((q2 &&& (255 : Int32)).toUInt32.toUInt16.toUInt32.toInt32)), .val (.ref b9139), .val (.int v144), .val (.int (0 : Int32)), .val (.int v148)] [(.int (if ([(nar .char ((q1 &&& (255 : Int32)).toUInt32.toUInt16.toUInt32.toInt32)), (nar .char ((((q1.toUInt32 >>> ((8 : Int32) &&& 31).toUInt32).toInt32) &&& (255 : Int32)).toUInt32.toUInt16.toUInt32.toInt32)), (nar .char ((((q1.toUInt32 >>> ((16 : Int32) &&& 31).toUInt32).toInt32) &&& (255 : Int32)).toUInt32.toUInt16.toUInt32.toInt32)), (nar .char ((((q1.toUInt32 >>> ((24 : Int32) &&& 31).toUInt32).toInt32) &&& (255 : Int32)).toUInt32.toUInt16.toUInt32.toInt32))] : List Int32) = ([116, 114, 117, 101] : List Int32) ∨ ([(nar .char ((q1 &&& (255 : Int32)).toUInt32.toUInt16.toUInt32.toInt32)), (nar .char ((((q1.toUInt32 >>> ((8 : Int32) &&& 31).toUInt32).toInt32) &&& (255 : Int32)).toUInt32.toUInt16.toUInt32.toInt32)), (nar .char ((((q1.toUInt32 >>> ((16 : Int32) &&& 31).toUInt32).toInt32) &&& (255 : Int32)).toUInt32.toUInt16.toUInt32.toInt32)), (nar .char ((((q1.toUInt32 >>> ((24 : Int32) &&& 31).toUInt32).toInt32) &&& (255 : Int32)).toUInt32.toUInt16.toUInt32.toInt32))] : List Int32) = ([49] : List Int32) then (1 : Int32) else (0 : Int32)))])) t := by
      intro t k
      show Steps p.tables e below (T152.setTop (mkF m 160 #[.val (.int q0), .val (.int q1), .val (.int q2), .val (.int (4 : Int32)), .val (.int ((q1 &&& (255 : Int32)).toUInt32.toUInt16.toUInt32.toInt32)), .val (.int ((((q1.toUInt32 >>> ((8 : Int32) &&& 31).toUInt32).toInt32) &&& (255 : Int32)).toUInt32.toUInt16.toUInt32.toInt32)), .val (.int ((((q1.toUInt32 >>> ((16 : Int32) &&& 31).toUInt32).toInt32) &&& (255 : Int32)).toUInt32.toUInt16.toUInt32.toInt32)), .val (.int ((((q1.toUInt32 >>> ((24 : Int32) &&& 31).toUInt32).toInt32) &&& (255 : Int32)).toUInt32.toUInt16.toUInt32.toInt32)), .val (.int ((q2 &&& (255 : Int32)).toUInt32.toUInt16.toUInt32.toInt32)), .val (.ref b9139), .val (.int v144), .val (.int (0 : Int32)), .val (.int v148)] [(.int (if ([(nar .char ((q1 &&& (255 : Int32)).toUInt32.toUInt16.toUInt32.toInt32)), (nar .char ((((q1.toUInt32 >>> ((8 : Int32) &&& 31).toUInt32).toInt32) &&& (255 : Int32)).toUInt32.toUInt16.toUInt32.toInt32)), (nar .char ((((q1.toUInt32 >>> ((16 : Int32) &&& 31).toUInt32).toInt32) &&& (255 : Int32)).toUInt32.toUInt16.toUInt32.toInt32)), (nar .char ((((q1.toUInt32 >>> ((24 : Int32) &&& 31).toUInt32).toInt32) &&& (255 : Int32)).toUInt32.toUInt16.toUInt32.toInt32))] : List Int32) = ([116, 114, 117, 101] : List Int32) ∨ ([(nar .char ((q1 &&& (255 : Int32)).toUInt32.toUInt16.toUInt32.toInt32)), (nar .char ((((q1.toUInt32 >>> ((8 : Int32) &&& 31).toUInt32).toInt32) &&& (255 : Int32)).toUInt32.toUInt16.toUInt32.toInt32)), (nar .char ((((q1.toUInt32 >>> ((16 : Int32) &&& 31).toUInt32).toInt32) &&& (255 : Int32)).toUInt32.toUInt16.toUInt32.toInt32)), (nar .char ((((q1.toUInt32 >>> ((24 : Int32) &&& 31).toUInt32).toInt32) &&& (255 : Int32)).toUInt32.toUInt16.toUInt32.toInt32))] : List Int32) = ([49] : List Int32) then (1 : Int32) else (0 : Int32)))])) t
      refine XS.iload X152.here hx rfl (hb hby at_160) rfl ?_
      exact k
    refine OFinH.go sg154 ?_
    have c153 : (if ([(nar .char ((q1 &&& (255 : Int32)).toUInt32.toUInt16.toUInt32.toInt32)), (nar .char ((((q1.toUInt32 >>> ((8 : Int32) &&& 31).toUInt32).toInt32) &&& (255 : Int32)).toUInt32.toUInt16.toUInt32.toInt32)), (nar .char ((((q1.toUInt32 >>> ((16 : Int32) &&& 31).toUInt32).toInt32) &&& (255 : Int32)).toUInt32.toUInt16.toUInt32.toInt32)), (nar .char ((((q1.toUInt32 >>> ((24 : Int32) &&& 31).toUInt32).toInt32) &&& (255 : Int32)).toUInt32.toUInt16.toUInt32.toInt32))] : List Int32) = ([116, 114, 117, 101] : List Int32) ∨ ([(nar .char ((q1 &&& (255 : Int32)).toUInt32.toUInt16.toUInt32.toInt32)), (nar .char ((((q1.toUInt32 >>> ((8 : Int32) &&& 31).toUInt32).toInt32) &&& (255 : Int32)).toUInt32.toUInt16.toUInt32.toInt32)), (nar .char ((((q1.toUInt32 >>> ((16 : Int32) &&& 31).toUInt32).toInt32) &&& (255 : Int32)).toUInt32.toUInt16.toUInt32.toInt32)), (nar .char ((((q1.toUInt32 >>> ((24 : Int32) &&& 31).toUInt32).toInt32) &&& (255 : Int32)).toUInt32.toUInt16.toUInt32.toInt32))] : List Int32) = ([49] : List Int32) then (1 : Int32) else (0 : Int32)) = v148 := (own_e4 _ _ _ _ _ _ _ _ v144 v148 (own_nar _) (own_nar _) (own_nar _) (own_nar _) e_v144 e_v148)
    have sg155 : ∀ t, Steps p.tables e below (T152.setTop (mkF m 170 #[.val (.int q0), .val (.int q1), .val (.int q2), .val (.int (4 : Int32)), .val (.int ((q1 &&& (255 : Int32)).toUInt32.toUInt16.toUInt32.toInt32)), .val (.int ((((q1.toUInt32 >>> ((8 : Int32) &&& 31).toUInt32).toInt32) &&& (255 : Int32)).toUInt32.toUInt16.toUInt32.toInt32)), .val (.int ((((q1.toUInt32 >>> ((16 : Int32) &&& 31).toUInt32).toInt32) &&& (255 : Int32)).toUInt32.toUInt16.toUInt32.toInt32)), .val (.int ((((q1.toUInt32 >>> ((24 : Int32) &&& 31).toUInt32).toInt32) &&& (255 : Int32)).toUInt32.toUInt16.toUInt32.toInt32)), .val (.int ((q2 &&& (255 : Int32)).toUInt32.toUInt16.toUInt32.toInt32)), .val (.ref b9139), .val (.int v144), .val (.int (0 : Int32)), .val (.int v148)] [(.int (1 : Int32))])) t → Steps p.tables e below (T152.setTop (mkF m 162 #[.val (.int q0), .val (.int q1), .val (.int q2), .val (.int (4 : Int32)), .val (.int ((q1 &&& (255 : Int32)).toUInt32.toUInt16.toUInt32.toInt32)), .val (.int ((((q1.toUInt32 >>> ((8 : Int32) &&& 31).toUInt32).toInt32) &&& (255 : Int32)).toUInt32.toUInt16.toUInt32.toInt32)), .val (.int ((((q1.toUInt32 >>> ((16 : Int32) &&& 31).toUInt32).toInt32) &&& (255 : Int32)).toUInt32.toUInt16.toUInt32.toInt32)), .val (.int ((((q1.toUInt32 >>> ((24 : Int32) &&& 31).toUInt32).toInt32) &&& (255 : Int32)).toUInt32.toUInt16.toUInt32.toInt32)), .val (.int ((q2 &&& (255 : Int32)).toUInt32.toUInt16.toUInt32.toInt32)), .val (.ref b9139), .val (.int v144), .val (.int (0 : Int32)), .val (.int v148)] [(.int v148), (.int (if ([(nar .char ((q1 &&& (255 : Int32)).toUInt32.toUInt16.toUInt32.toInt32)), (nar .char ((((q1.toUInt32 >>> ((8 : Int32) &&& 31).toUInt32).toInt32) &&& (255 : Int32)).toUInt32.toUInt16.toUInt32.toInt32)), (nar .char ((((q1.toUInt32 >>> ((16 : Int32) &&& 31).toUInt32).toInt32) &&& (255 : Int32)).toUInt32.toUInt16.toUInt32.toInt32)), (nar .char ((((q1.toUInt32 >>> ((24 : Int32) &&& 31).toUInt32).toInt32) &&& (255 : Int32)).toUInt32.toUInt16.toUInt32.toInt32))] : List Int32) = ([116, 114, 117, 101] : List Int32) ∨ ([(nar .char ((q1 &&& (255 : Int32)).toUInt32.toUInt16.toUInt32.toInt32)), (nar .char ((((q1.toUInt32 >>> ((8 : Int32) &&& 31).toUInt32).toInt32) &&& (255 : Int32)).toUInt32.toUInt16.toUInt32.toInt32)), (nar .char ((((q1.toUInt32 >>> ((16 : Int32) &&& 31).toUInt32).toInt32) &&& (255 : Int32)).toUInt32.toUInt16.toUInt32.toInt32)), (nar .char ((((q1.toUInt32 >>> ((24 : Int32) &&& 31).toUInt32).toInt32) &&& (255 : Int32)).toUInt32.toUInt16.toUInt32.toInt32))] : List Int32) = ([49] : List Int32) then (1 : Int32) else (0 : Int32)))])) t := by
      intro t k
      show Steps p.tables e below (T152.setTop (mkF m 162 #[.val (.int q0), .val (.int q1), .val (.int q2), .val (.int (4 : Int32)), .val (.int ((q1 &&& (255 : Int32)).toUInt32.toUInt16.toUInt32.toInt32)), .val (.int ((((q1.toUInt32 >>> ((8 : Int32) &&& 31).toUInt32).toInt32) &&& (255 : Int32)).toUInt32.toUInt16.toUInt32.toInt32)), .val (.int ((((q1.toUInt32 >>> ((16 : Int32) &&& 31).toUInt32).toInt32) &&& (255 : Int32)).toUInt32.toUInt16.toUInt32.toInt32)), .val (.int ((((q1.toUInt32 >>> ((24 : Int32) &&& 31).toUInt32).toInt32) &&& (255 : Int32)).toUInt32.toUInt16.toUInt32.toInt32)), .val (.int ((q2 &&& (255 : Int32)).toUInt32.toUInt16.toUInt32.toInt32)), .val (.ref b9139), .val (.int v144), .val (.int (0 : Int32)), .val (.int v148)] [(.int v148), (.int (if ([(nar .char ((q1 &&& (255 : Int32)).toUInt32.toUInt16.toUInt32.toInt32)), (nar .char ((((q1.toUInt32 >>> ((8 : Int32) &&& 31).toUInt32).toInt32) &&& (255 : Int32)).toUInt32.toUInt16.toUInt32.toInt32)), (nar .char ((((q1.toUInt32 >>> ((16 : Int32) &&& 31).toUInt32).toInt32) &&& (255 : Int32)).toUInt32.toUInt16.toUInt32.toInt32)), (nar .char ((((q1.toUInt32 >>> ((24 : Int32) &&& 31).toUInt32).toInt32) &&& (255 : Int32)).toUInt32.toUInt16.toUInt32.toInt32))] : List Int32) = ([116, 114, 117, 101] : List Int32) ∨ ([(nar .char ((q1 &&& (255 : Int32)).toUInt32.toUInt16.toUInt32.toInt32)), (nar .char ((((q1.toUInt32 >>> ((8 : Int32) &&& 31).toUInt32).toInt32) &&& (255 : Int32)).toUInt32.toUInt16.toUInt32.toInt32)), (nar .char ((((q1.toUInt32 >>> ((16 : Int32) &&& 31).toUInt32).toInt32) &&& (255 : Int32)).toUInt32.toUInt16.toUInt32.toInt32)), (nar .char ((((q1.toUInt32 >>> ((24 : Int32) &&& 31).toUInt32).toInt32) &&& (255 : Int32)).toUInt32.toUInt16.toUInt32.toInt32))] : List Int32) = ([49] : List Int32) then (1 : Int32) else (0 : Int32)))])) t
      refine XS.icmpNo X152.here hx rfl (hb hby at_162) rfl (teq c153).2 ?_
      show Steps p.tables e below (T152.setTop (mkF m 165 #[.val (.int q0), .val (.int q1), .val (.int q2), .val (.int (4 : Int32)), .val (.int ((q1 &&& (255 : Int32)).toUInt32.toUInt16.toUInt32.toInt32)), .val (.int ((((q1.toUInt32 >>> ((8 : Int32) &&& 31).toUInt32).toInt32) &&& (255 : Int32)).toUInt32.toUInt16.toUInt32.toInt32)), .val (.int ((((q1.toUInt32 >>> ((16 : Int32) &&& 31).toUInt32).toInt32) &&& (255 : Int32)).toUInt32.toUInt16.toUInt32.toInt32)), .val (.int ((((q1.toUInt32 >>> ((24 : Int32) &&& 31).toUInt32).toInt32) &&& (255 : Int32)).toUInt32.toUInt16.toUInt32.toInt32)), .val (.int ((q2 &&& (255 : Int32)).toUInt32.toUInt16.toUInt32.toInt32)), .val (.ref b9139), .val (.int v144), .val (.int (0 : Int32)), .val (.int v148)] [])) t
      refine XS.iconst X152.here hx rfl (hb hby at_165) ?_
      show Steps p.tables e below (T152.setTop (mkF m 166 #[.val (.int q0), .val (.int q1), .val (.int q2), .val (.int (4 : Int32)), .val (.int ((q1 &&& (255 : Int32)).toUInt32.toUInt16.toUInt32.toInt32)), .val (.int ((((q1.toUInt32 >>> ((8 : Int32) &&& 31).toUInt32).toInt32) &&& (255 : Int32)).toUInt32.toUInt16.toUInt32.toInt32)), .val (.int ((((q1.toUInt32 >>> ((16 : Int32) &&& 31).toUInt32).toInt32) &&& (255 : Int32)).toUInt32.toUInt16.toUInt32.toInt32)), .val (.int ((((q1.toUInt32 >>> ((24 : Int32) &&& 31).toUInt32).toInt32) &&& (255 : Int32)).toUInt32.toUInt16.toUInt32.toInt32)), .val (.int ((q2 &&& (255 : Int32)).toUInt32.toUInt16.toUInt32.toInt32)), .val (.ref b9139), .val (.int v144), .val (.int (0 : Int32)), .val (.int v148)] [(.int (1 : Int32))])) t
      refine XS.goto X152.here hx rfl (pc0 := 166) (pc' := 170) rfl (hb hby at_166) (by decide) (by decide) ?_
      exact k
    refine OFinH.go sg155 ?_
    exact OFinH.retN X152 hS hk hZ hEL rfl HC hx hret (by simp) hlk (hb hby at_170) rfl ⟨rfl, N152⟩ (by decide) (by decide)
  · rw [hk7]
    have sg156 : ∀ t, Steps p.tables e below (s₁.setTop (mkF m 68 #[.val (.int q0), .val (.int q1), .val (.int q2), .val (.int (5 : Int32)), .val (.int ((q1 &&& (255 : Int32)).toUInt32.toUInt16.toUInt32.toInt32)), .val (.int ((((q1.toUInt32 >>> ((8 : Int32) &&& 31).toUInt32).toInt32) &&& (255 : Int32)).toUInt32.toUInt16.toUInt32.toInt32)), .val (.int ((((q1.toUInt32 >>> ((16 : Int32) &&& 31).toUInt32).toInt32) &&& (255 : Int32)).toUInt32.toUInt16.toUInt32.toInt32)), .val (.int ((((q1.toUInt32 >>> ((24 : Int32) &&& 31).toUInt32).toInt32) &&& (255 : Int32)).toUInt32.toUInt16.toUInt32.toInt32)), .val (.int ((q2 &&& (255 : Int32)).toUInt32.toUInt16.toUInt32.toInt32)), .unset, .unset, .unset, .unset] [(.int ((q2 &&& (255 : Int32)).toUInt32.toUInt16.toUInt32.toInt32)), (.int ((((q1.toUInt32 >>> ((24 : Int32) &&& 31).toUInt32).toInt32) &&& (255 : Int32)).toUInt32.toUInt16.toUInt32.toInt32)), (.int ((((q1.toUInt32 >>> ((16 : Int32) &&& 31).toUInt32).toInt32) &&& (255 : Int32)).toUInt32.toUInt16.toUInt32.toInt32)), (.int ((((q1.toUInt32 >>> ((8 : Int32) &&& 31).toUInt32).toInt32) &&& (255 : Int32)).toUInt32.toUInt16.toUInt32.toInt32)), (.int ((q1 &&& (255 : Int32)).toUInt32.toUInt16.toUInt32.toInt32)), (.int (5 : Int32))])) t → Steps p.tables e below (s₁.setTop (mkF m 57 #[.val (.int q0), .val (.int q1), .val (.int q2), .val (.int (5 : Int32)), .val (.int ((q1 &&& (255 : Int32)).toUInt32.toUInt16.toUInt32.toInt32)), .val (.int ((((q1.toUInt32 >>> ((8 : Int32) &&& 31).toUInt32).toInt32) &&& (255 : Int32)).toUInt32.toUInt16.toUInt32.toInt32)), .val (.int ((((q1.toUInt32 >>> ((16 : Int32) &&& 31).toUInt32).toInt32) &&& (255 : Int32)).toUInt32.toUInt16.toUInt32.toInt32)), .val (.int ((((q1.toUInt32 >>> ((24 : Int32) &&& 31).toUInt32).toInt32) &&& (255 : Int32)).toUInt32.toUInt16.toUInt32.toInt32)), .val (.int ((q2 &&& (255 : Int32)).toUInt32.toUInt16.toUInt32.toInt32)), .unset, .unset, .unset, .unset] [])) t := by
      intro t k
      show Steps p.tables e below (s₁.setTop (mkF m 57 #[.val (.int q0), .val (.int q1), .val (.int q2), .val (.int (5 : Int32)), .val (.int ((q1 &&& (255 : Int32)).toUInt32.toUInt16.toUInt32.toInt32)), .val (.int ((((q1.toUInt32 >>> ((8 : Int32) &&& 31).toUInt32).toInt32) &&& (255 : Int32)).toUInt32.toUInt16.toUInt32.toInt32)), .val (.int ((((q1.toUInt32 >>> ((16 : Int32) &&& 31).toUInt32).toInt32) &&& (255 : Int32)).toUInt32.toUInt16.toUInt32.toInt32)), .val (.int ((((q1.toUInt32 >>> ((24 : Int32) &&& 31).toUInt32).toInt32) &&& (255 : Int32)).toUInt32.toUInt16.toUInt32.toInt32)), .val (.int ((q2 &&& (255 : Int32)).toUInt32.toUInt16.toUInt32.toInt32)), .unset, .unset, .unset, .unset] [])) t
      refine XS.iloadN X0.here hx rfl (hb hby at_57) rfl ?_
      show Steps p.tables e below (s₁.setTop (mkF m 58 #[.val (.int q0), .val (.int q1), .val (.int q2), .val (.int (5 : Int32)), .val (.int ((q1 &&& (255 : Int32)).toUInt32.toUInt16.toUInt32.toInt32)), .val (.int ((((q1.toUInt32 >>> ((8 : Int32) &&& 31).toUInt32).toInt32) &&& (255 : Int32)).toUInt32.toUInt16.toUInt32.toInt32)), .val (.int ((((q1.toUInt32 >>> ((16 : Int32) &&& 31).toUInt32).toInt32) &&& (255 : Int32)).toUInt32.toUInt16.toUInt32.toInt32)), .val (.int ((((q1.toUInt32 >>> ((24 : Int32) &&& 31).toUInt32).toInt32) &&& (255 : Int32)).toUInt32.toUInt16.toUInt32.toInt32)), .val (.int ((q2 &&& (255 : Int32)).toUInt32.toUInt16.toUInt32.toInt32)), .unset, .unset, .unset, .unset] [(.int (5 : Int32))])) t
      refine XS.iload X0.here hx rfl (hb hby at_58) rfl ?_
      show Steps p.tables e below (s₁.setTop (mkF m 60 #[.val (.int q0), .val (.int q1), .val (.int q2), .val (.int (5 : Int32)), .val (.int ((q1 &&& (255 : Int32)).toUInt32.toUInt16.toUInt32.toInt32)), .val (.int ((((q1.toUInt32 >>> ((8 : Int32) &&& 31).toUInt32).toInt32) &&& (255 : Int32)).toUInt32.toUInt16.toUInt32.toInt32)), .val (.int ((((q1.toUInt32 >>> ((16 : Int32) &&& 31).toUInt32).toInt32) &&& (255 : Int32)).toUInt32.toUInt16.toUInt32.toInt32)), .val (.int ((((q1.toUInt32 >>> ((24 : Int32) &&& 31).toUInt32).toInt32) &&& (255 : Int32)).toUInt32.toUInt16.toUInt32.toInt32)), .val (.int ((q2 &&& (255 : Int32)).toUInt32.toUInt16.toUInt32.toInt32)), .unset, .unset, .unset, .unset] [(.int ((q1 &&& (255 : Int32)).toUInt32.toUInt16.toUInt32.toInt32)), (.int (5 : Int32))])) t
      refine XS.iload X0.here hx rfl (hb hby at_60) rfl ?_
      show Steps p.tables e below (s₁.setTop (mkF m 62 #[.val (.int q0), .val (.int q1), .val (.int q2), .val (.int (5 : Int32)), .val (.int ((q1 &&& (255 : Int32)).toUInt32.toUInt16.toUInt32.toInt32)), .val (.int ((((q1.toUInt32 >>> ((8 : Int32) &&& 31).toUInt32).toInt32) &&& (255 : Int32)).toUInt32.toUInt16.toUInt32.toInt32)), .val (.int ((((q1.toUInt32 >>> ((16 : Int32) &&& 31).toUInt32).toInt32) &&& (255 : Int32)).toUInt32.toUInt16.toUInt32.toInt32)), .val (.int ((((q1.toUInt32 >>> ((24 : Int32) &&& 31).toUInt32).toInt32) &&& (255 : Int32)).toUInt32.toUInt16.toUInt32.toInt32)), .val (.int ((q2 &&& (255 : Int32)).toUInt32.toUInt16.toUInt32.toInt32)), .unset, .unset, .unset, .unset] [(.int ((((q1.toUInt32 >>> ((8 : Int32) &&& 31).toUInt32).toInt32) &&& (255 : Int32)).toUInt32.toUInt16.toUInt32.toInt32)), (.int ((q1 &&& (255 : Int32)).toUInt32.toUInt16.toUInt32.toInt32)), (.int (5 : Int32))])) t
      refine XS.iload X0.here hx rfl (hb hby at_62) rfl ?_
      show Steps p.tables e below (s₁.setTop (mkF m 64 #[.val (.int q0), .val (.int q1), .val (.int q2), .val (.int (5 : Int32)), .val (.int ((q1 &&& (255 : Int32)).toUInt32.toUInt16.toUInt32.toInt32)), .val (.int ((((q1.toUInt32 >>> ((8 : Int32) &&& 31).toUInt32).toInt32) &&& (255 : Int32)).toUInt32.toUInt16.toUInt32.toInt32)), .val (.int ((((q1.toUInt32 >>> ((16 : Int32) &&& 31).toUInt32).toInt32) &&& (255 : Int32)).toUInt32.toUInt16.toUInt32.toInt32)), .val (.int ((((q1.toUInt32 >>> ((24 : Int32) &&& 31).toUInt32).toInt32) &&& (255 : Int32)).toUInt32.toUInt16.toUInt32.toInt32)), .val (.int ((q2 &&& (255 : Int32)).toUInt32.toUInt16.toUInt32.toInt32)), .unset, .unset, .unset, .unset] [(.int ((((q1.toUInt32 >>> ((16 : Int32) &&& 31).toUInt32).toInt32) &&& (255 : Int32)).toUInt32.toUInt16.toUInt32.toInt32)), (.int ((((q1.toUInt32 >>> ((8 : Int32) &&& 31).toUInt32).toInt32) &&& (255 : Int32)).toUInt32.toUInt16.toUInt32.toInt32)), (.int ((q1 &&& (255 : Int32)).toUInt32.toUInt16.toUInt32.toInt32)), (.int (5 : Int32))])) t
      refine XS.iload X0.here hx rfl (hb hby at_64) rfl ?_
      show Steps p.tables e below (s₁.setTop (mkF m 66 #[.val (.int q0), .val (.int q1), .val (.int q2), .val (.int (5 : Int32)), .val (.int ((q1 &&& (255 : Int32)).toUInt32.toUInt16.toUInt32.toInt32)), .val (.int ((((q1.toUInt32 >>> ((8 : Int32) &&& 31).toUInt32).toInt32) &&& (255 : Int32)).toUInt32.toUInt16.toUInt32.toInt32)), .val (.int ((((q1.toUInt32 >>> ((16 : Int32) &&& 31).toUInt32).toInt32) &&& (255 : Int32)).toUInt32.toUInt16.toUInt32.toInt32)), .val (.int ((((q1.toUInt32 >>> ((24 : Int32) &&& 31).toUInt32).toInt32) &&& (255 : Int32)).toUInt32.toUInt16.toUInt32.toInt32)), .val (.int ((q2 &&& (255 : Int32)).toUInt32.toUInt16.toUInt32.toInt32)), .unset, .unset, .unset, .unset] [(.int ((((q1.toUInt32 >>> ((24 : Int32) &&& 31).toUInt32).toInt32) &&& (255 : Int32)).toUInt32.toUInt16.toUInt32.toInt32)), (.int ((((q1.toUInt32 >>> ((16 : Int32) &&& 31).toUInt32).toInt32) &&& (255 : Int32)).toUInt32.toUInt16.toUInt32.toInt32)), (.int ((((q1.toUInt32 >>> ((8 : Int32) &&& 31).toUInt32).toInt32) &&& (255 : Int32)).toUInt32.toUInt16.toUInt32.toInt32)), (.int ((q1 &&& (255 : Int32)).toUInt32.toUInt16.toUInt32.toInt32)), (.int (5 : Int32))])) t
      refine XS.iload X0.here hx rfl (hb hby at_66) rfl ?_
      exact k
    refine OFinH.go sg156 ?_
    obtain ⟨_, _, ⟨T157, L157, k157, n157⟩, -, X157, hSn, hgn, ⟨Lc157, hQ157, l157, y157, z157, C157⟩, st157⟩ := callSS X0 hx (y := (⟨"com/example/avvik/avvik/io/XsdValuesIsTruePinLaw", "make", "(ICCCCC)Ljava/lang/String;"⟩ : MethodName)) hown (mvT hZ (hw _ (List.mem_of_getElem? (i := 1) rfl))) (mvT hZ (hw _ (List.mem_of_getElem? (i := 2) rfl))) (mvT hZ (hw _ (List.mem_of_getElem? (i := 3) rfl))) (mvT hZ (hw _ (List.mem_of_getElem? (i := 4) rfl))) (by decide) (own_back (W := 0) (sf := []) (rm1k5 l Z aZ hw hEL [] ((q1 &&& (255 : Int32)).toUInt32.toUInt16.toUInt32.toInt32) ((((q1.toUInt32 >>> ((8 : Int32) &&& 31).toUInt32).toInt32) &&& (255 : Int32)).toUInt32.toUInt16.toUInt32.toInt32) ((((q1.toUInt32 >>> ((16 : Int32) &&& 31).toUInt32).toInt32) &&& (255 : Int32)).toUInt32.toUInt16.toUInt32.toInt32) ((((q1.toUInt32 >>> ((24 : Int32) &&& 31).toUInt32).toInt32) &&& (255 : Int32)).toUInt32.toUInt16.toUInt32.toInt32) ((q2 &&& (255 : Int32)).toUInt32.toUInt16.toUInt32.toInt32) w1 h0 n0 (Nat.le_trans Z0 K0.1) O0 S1 hcs (own_ch _) (own_ch _) (own_ch _) (own_ch _) (own_ch _)) hZ (hw _ (List.mem_of_getElem? (i := 4) rfl)) (hw _ (List.mem_of_getElem? (i := 3) rfl)) (by decide) (by decide) hEL HC.1 all0 all0) (g := (mkF m 68 #[.val (.int q0), .val (.int q1), .val (.int q2), .val (.int (5 : Int32)), .val (.int ((q1 &&& (255 : Int32)).toUInt32.toUInt16.toUInt32.toInt32)), .val (.int ((((q1.toUInt32 >>> ((8 : Int32) &&& 31).toUInt32).toInt32) &&& (255 : Int32)).toUInt32.toUInt16.toUInt32.toInt32)), .val (.int ((((q1.toUInt32 >>> ((16 : Int32) &&& 31).toUInt32).toInt32) &&& (255 : Int32)).toUInt32.toUInt16.toUInt32.toInt32)), .val (.int ((((q1.toUInt32 >>> ((24 : Int32) &&& 31).toUInt32).toInt32) &&& (255 : Int32)).toUInt32.toUInt16.toUInt32.toInt32)), .val (.int ((q2 &&& (255 : Int32)).toUInt32.toUInt16.toUInt32.toInt32)), .unset, .unset, .unset, .unset] [(.int ((q2 &&& (255 : Int32)).toUInt32.toUInt16.toUInt32.toInt32)), (.int ((((q1.toUInt32 >>> ((24 : Int32) &&& 31).toUInt32).toInt32) &&& (255 : Int32)).toUInt32.toUInt16.toUInt32.toInt32)), (.int ((((q1.toUInt32 >>> ((16 : Int32) &&& 31).toUInt32).toInt32) &&& (255 : Int32)).toUInt32.toUInt16.toUInt32.toInt32)), (.int ((((q1.toUInt32 >>> ((8 : Int32) &&& 31).toUInt32).toInt32) &&& (255 : Int32)).toUInt32.toUInt16.toUInt32.toInt32)), (.int ((q1 &&& (255 : Int32)).toUInt32.toUInt16.toUInt32.toInt32)), (.int (5 : Int32))])) rfl (by rw [hml]; rfl) (argsL := [(.int (5 : Int32)), (.int ((q1 &&& (255 : Int32)).toUInt32.toUInt16.toUInt32.toInt32)), (.int ((((q1.toUInt32 >>> ((8 : Int32) &&& 31).toUInt32).toInt32) &&& (255 : Int32)).toUInt32.toUInt16.toUInt32.toInt32)), (.int ((((q1.toUInt32 >>> ((16 : Int32) &&& 31).toUInt32).toInt32) &&& (255 : Int32)).toUInt32.toUInt16.toUInt32.toInt32)), (.int ((((q1.toUInt32 >>> ((24 : Int32) &&& 31).toUInt32).toInt32) &&& (255 : Int32)).toUInt32.toUInt16.toUInt32.toInt32)), (.int ((q2 &&& (255 : Int32)).toUInt32.toUInt16.toUInt32.toInt32))]) (rest := []) (lenOf pd_3 rfl) rfl (by show 2 * 0 + _ ≤ _; exact Nat.le_of_eq rfl) (hb hby at_68) (fun _ _ => ⟨rfl, e0, (by decide : 0 + 3 ≤ _), (by decide : 0 + 14 ≤ _)⟩)
    dsimp only [Pt.U, Pt.locs, Pt.cells, Pt.slots] at X157 l157 y157 z157 st157 hQ157 hSn hgn C157
    have X157 : Stand p l e room_1 (s.setVm T157.vm) m #[(.int q0), (.int q1), (.int q2)] below meth c T157 L157 k157 n157 := X157
    have HC := HC.trans C157
    have hk157 := hk
    have hS := State.Since.trans hS hSn (Nat.le_trans hk157 (by rw [← e0]; exact hgn))
    have hk := Nat.le_refl T157.heap.size
    have hown : (s.setVm T157.vm).vm.findClass "com/example/avvik/avvik/io/XsdValuesIsTruePinLaw" = some m.cls := by rw [show (s.setVm T157.vm).vm = T157.vm from rfl, hSn.1.alike.findClass]; exact hown
    have hZ : Z.Warmed39 T157.vm := State.Warmed39.trans hZ hSn.1
    subst l157 y157 z157
    obtain ⟨b9157, t9157, k9157, rfl, N157q, Kq157, P157_0, P157_1, P157_2, P157_3⟩ := hQ157
    have N157 := Fr.app N0 N157q
    refine OFinH.tr st157 ?_
    have K157 : Keep h0 T157.heap [] := K0.trans Kq157 all0
    have sg158 : ∀ t, Steps p.tables e below (T157.setTop (mkF m 157 #[.val (.int q0), .val (.int q1), .val (.int q2), .val (.int (5 : Int32)), .val (.int ((q1 &&& (255 : Int32)).toUInt32.toUInt16.toUInt32.toInt32)), .val (.int ((((q1.toUInt32 >>> ((8 : Int32) &&& 31).toUInt32).toInt32) &&& (255 : Int32)).toUInt32.toUInt16.toUInt32.toInt32)), .val (.int ((((q1.toUInt32 >>> ((16 : Int32) &&& 31).toUInt32).toInt32) &&& (255 : Int32)).toUInt32.toUInt16.toUInt32.toInt32)), .val (.int ((((q1.toUInt32 >>> ((24 : Int32) &&& 31).toUInt32).toInt32) &&& (255 : Int32)).toUInt32.toUInt16.toUInt32.toInt32)), .val (.int ((q2 &&& (255 : Int32)).toUInt32.toUInt16.toUInt32.toInt32)), .val (.ref b9157), .val (.int (0 : Int32)), .val (.int (0 : Int32)), .val (.int (0 : Int32))] [(.ref b9157)])) t → Steps p.tables e below (T157.setTop (mkF m 71 #[.val (.int q0), .val (.int q1), .val (.int q2), .val (.int (5 : Int32)), .val (.int ((q1 &&& (255 : Int32)).toUInt32.toUInt16.toUInt32.toInt32)), .val (.int ((((q1.toUInt32 >>> ((8 : Int32) &&& 31).toUInt32).toInt32) &&& (255 : Int32)).toUInt32.toUInt16.toUInt32.toInt32)), .val (.int ((((q1.toUInt32 >>> ((16 : Int32) &&& 31).toUInt32).toInt32) &&& (255 : Int32)).toUInt32.toUInt16.toUInt32.toInt32)), .val (.int ((((q1.toUInt32 >>> ((24 : Int32) &&& 31).toUInt32).toInt32) &&& (255 : Int32)).toUInt32.toUInt16.toUInt32.toInt32)), .val (.int ((q2 &&& (255 : Int32)).toUInt32.toUInt16.toUInt32.toInt32)), .unset, .unset, .unset, .unset] [(.ref b9157)])) t := by
      intro t k
      show Steps p.tables e below (T157.setTop (mkF m 71 #[.val (.int q0), .val (.int q1), .val (.int q2), .val (.int (5 : Int32)), .val (.int ((q1 &&& (255 : Int32)).toUInt32.toUInt16.toUInt32.toInt32)), .val (.int ((((q1.toUInt32 >>> ((8 : Int32) &&& 31).toUInt32).toInt32) &&& (255 : Int32)).toUInt32.toUInt16.toUInt32.toInt32)), .val (.int ((((q1.toUInt32 >>> ((16 : Int32) &&& 31).toUInt32).toInt32) &&& (255 : Int32)).toUInt32.toUInt16.toUInt32.toInt32)), .val (.int ((((q1.toUInt32 >>> ((24 : Int32) &&& 31).toUInt32).toInt32) &&& (255 : Int32)).toUInt32.toUInt16.toUInt32.toInt32)), .val (.int ((q2 &&& (255 : Int32)).toUInt32.toUInt16.toUInt32.toInt32)), .unset, .unset, .unset, .unset] [(.ref b9157)])) t
      refine XS.astore X157.here hx rfl (hb hby at_71) rfl rfl (l' := #[.val (.int q0), .val (.int q1), .val (.int q2), .val (.int (5 : Int32)), .val (.int ((q1 &&& (255 : Int32)).toUInt32.toUInt16.toUInt32.toInt32)), .val (.int ((((q1.toUInt32 >>> ((8 : Int32) &&& 31).toUInt32).toInt32) &&& (255 : Int32)).toUInt32.toUInt16.toUInt32.toInt32)), .val (.int ((((q1.toUInt32 >>> ((16 : Int32) &&& 31).toUInt32).toInt32) &&& (255 : Int32)).toUInt32.toUInt16.toUInt32.toInt32)), .val (.int ((((q1.toUInt32 >>> ((24 : Int32) &&& 31).toUInt32).toInt32) &&& (255 : Int32)).toUInt32.toUInt16.toUInt32.toInt32)), .val (.int ((q2 &&& (255 : Int32)).toUInt32.toUInt16.toUInt32.toInt32)), .val (.ref b9157), .unset, .unset, .unset]) rfl ?_
      show Steps p.tables e below (T157.setTop (mkF m 73 #[.val (.int q0), .val (.int q1), .val (.int q2), .val (.int (5 : Int32)), .val (.int ((q1 &&& (255 : Int32)).toUInt32.toUInt16.toUInt32.toInt32)), .val (.int ((((q1.toUInt32 >>> ((8 : Int32) &&& 31).toUInt32).toInt32) &&& (255 : Int32)).toUInt32.toUInt16.toUInt32.toInt32)), .val (.int ((((q1.toUInt32 >>> ((16 : Int32) &&& 31).toUInt32).toInt32) &&& (255 : Int32)).toUInt32.toUInt16.toUInt32.toInt32)), .val (.int ((((q1.toUInt32 >>> ((24 : Int32) &&& 31).toUInt32).toInt32) &&& (255 : Int32)).toUInt32.toUInt16.toUInt32.toInt32)), .val (.int ((q2 &&& (255 : Int32)).toUInt32.toUInt16.toUInt32.toInt32)), .val (.ref b9157), .unset, .unset, .unset] [])) t
      refine XS.iloadN X157.here hx rfl (hb hby at_73) rfl ?_
      show Steps p.tables e below (T157.setTop (mkF m 74 #[.val (.int q0), .val (.int q1), .val (.int q2), .val (.int (5 : Int32)), .val (.int ((q1 &&& (255 : Int32)).toUInt32.toUInt16.toUInt32.toInt32)), .val (.int ((((q1.toUInt32 >>> ((8 : Int32) &&& 31).toUInt32).toInt32) &&& (255 : Int32)).toUInt32.toUInt16.toUInt32.toInt32)), .val (.int ((((q1.toUInt32 >>> ((16 : Int32) &&& 31).toUInt32).toInt32) &&& (255 : Int32)).toUInt32.toUInt16.toUInt32.toInt32)), .val (.int ((((q1.toUInt32 >>> ((24 : Int32) &&& 31).toUInt32).toInt32) &&& (255 : Int32)).toUInt32.toUInt16.toUInt32.toInt32)), .val (.int ((q2 &&& (255 : Int32)).toUInt32.toUInt16.toUInt32.toInt32)), .val (.ref b9157), .unset, .unset, .unset] [(.int (5 : Int32))])) t
      refine XS.iconst X157.here hx rfl (hb hby at_74) ?_
      show Steps p.tables e below (T157.setTop (mkF m 75 #[.val (.int q0), .val (.int q1), .val (.int q2), .val (.int (5 : Int32)), .val (.int ((q1 &&& (255 : Int32)).toUInt32.toUInt16.toUInt32.toInt32)), .val (.int ((((q1.toUInt32 >>> ((8 : Int32) &&& 31).toUInt32).toInt32) &&& (255 : Int32)).toUInt32.toUInt16.toUInt32.toInt32)), .val (.int ((((q1.toUInt32 >>> ((16 : Int32) &&& 31).toUInt32).toInt32) &&& (255 : Int32)).toUInt32.toUInt16.toUInt32.toInt32)), .val (.int ((((q1.toUInt32 >>> ((24 : Int32) &&& 31).toUInt32).toInt32) &&& (255 : Int32)).toUInt32.toUInt16.toUInt32.toInt32)), .val (.int ((q2 &&& (255 : Int32)).toUInt32.toUInt16.toUInt32.toInt32)), .val (.ref b9157), .unset, .unset, .unset] [(.int (4 : Int32)), (.int (5 : Int32))])) t
      refine XS.icmpYes X157.here hx rfl (pc0 := 75) (pc' := 110) rfl (hb hby at_75) rfl (feq (by decide : ¬ ((5 : Int32) = (4 : Int32)))).2 (by decide) (by decide) ?_
      show Steps p.tables e below (T157.setTop (mkF m 110 #[.val (.int q0), .val (.int q1), .val (.int q2), .val (.int (5 : Int32)), .val (.int ((q1 &&& (255 : Int32)).toUInt32.toUInt16.toUInt32.toInt32)), .val (.int ((((q1.toUInt32 >>> ((8 : Int32) &&& 31).toUInt32).toInt32) &&& (255 : Int32)).toUInt32.toUInt16.toUInt32.toInt32)), .val (.int ((((q1.toUInt32 >>> ((16 : Int32) &&& 31).toUInt32).toInt32) &&& (255 : Int32)).toUInt32.toUInt16.toUInt32.toInt32)), .val (.int ((((q1.toUInt32 >>> ((24 : Int32) &&& 31).toUInt32).toInt32) &&& (255 : Int32)).toUInt32.toUInt16.toUInt32.toInt32)), .val (.int ((q2 &&& (255 : Int32)).toUInt32.toUInt16.toUInt32.toInt32)), .val (.ref b9157), .unset, .unset, .unset] [])) t
      refine XS.iconst X157.here hx rfl (hb hby at_110) ?_
      show Steps p.tables e below (T157.setTop (mkF m 111 #[.val (.int q0), .val (.int q1), .val (.int q2), .val (.int (5 : Int32)), .val (.int ((q1 &&& (255 : Int32)).toUInt32.toUInt16.toUInt32.toInt32)), .val (.int ((((q1.toUInt32 >>> ((8 : Int32) &&& 31).toUInt32).toInt32) &&& (255 : Int32)).toUInt32.toUInt16.toUInt32.toInt32)), .val (.int ((((q1.toUInt32 >>> ((16 : Int32) &&& 31).toUInt32).toInt32) &&& (255 : Int32)).toUInt32.toUInt16.toUInt32.toInt32)), .val (.int ((((q1.toUInt32 >>> ((24 : Int32) &&& 31).toUInt32).toInt32) &&& (255 : Int32)).toUInt32.toUInt16.toUInt32.toInt32)), .val (.int ((q2 &&& (255 : Int32)).toUInt32.toUInt16.toUInt32.toInt32)), .val (.ref b9157), .unset, .unset, .unset] [(.int (0 : Int32))])) t
      refine XS.istore X157.here hx rfl (hb hby at_111) rfl (l' := #[.val (.int q0), .val (.int q1), .val (.int q2), .val (.int (5 : Int32)), .val (.int ((q1 &&& (255 : Int32)).toUInt32.toUInt16.toUInt32.toInt32)), .val (.int ((((q1.toUInt32 >>> ((8 : Int32) &&& 31).toUInt32).toInt32) &&& (255 : Int32)).toUInt32.toUInt16.toUInt32.toInt32)), .val (.int ((((q1.toUInt32 >>> ((16 : Int32) &&& 31).toUInt32).toInt32) &&& (255 : Int32)).toUInt32.toUInt16.toUInt32.toInt32)), .val (.int ((((q1.toUInt32 >>> ((24 : Int32) &&& 31).toUInt32).toInt32) &&& (255 : Int32)).toUInt32.toUInt16.toUInt32.toInt32)), .val (.int ((q2 &&& (255 : Int32)).toUInt32.toUInt16.toUInt32.toInt32)), .val (.ref b9157), .val (.int (0 : Int32)), .unset, .unset]) rfl ?_
      show Steps p.tables e below (T157.setTop (mkF m 113 #[.val (.int q0), .val (.int q1), .val (.int q2), .val (.int (5 : Int32)), .val (.int ((q1 &&& (255 : Int32)).toUInt32.toUInt16.toUInt32.toInt32)), .val (.int ((((q1.toUInt32 >>> ((8 : Int32) &&& 31).toUInt32).toInt32) &&& (255 : Int32)).toUInt32.toUInt16.toUInt32.toInt32)), .val (.int ((((q1.toUInt32 >>> ((16 : Int32) &&& 31).toUInt32).toInt32) &&& (255 : Int32)).toUInt32.toUInt16.toUInt32.toInt32)), .val (.int ((((q1.toUInt32 >>> ((24 : Int32) &&& 31).toUInt32).toInt32) &&& (255 : Int32)).toUInt32.toUInt16.toUInt32.toInt32)), .val (.int ((q2 &&& (255 : Int32)).toUInt32.toUInt16.toUInt32.toInt32)), .val (.ref b9157), .val (.int (0 : Int32)), .unset, .unset] [])) t
      refine XS.iloadN X157.here hx rfl (hb hby at_113) rfl ?_
      show Steps p.tables e below (T157.setTop (mkF m 114 #[.val (.int q0), .val (.int q1), .val (.int q2), .val (.int (5 : Int32)), .val (.int ((q1 &&& (255 : Int32)).toUInt32.toUInt16.toUInt32.toInt32)), .val (.int ((((q1.toUInt32 >>> ((8 : Int32) &&& 31).toUInt32).toInt32) &&& (255 : Int32)).toUInt32.toUInt16.toUInt32.toInt32)), .val (.int ((((q1.toUInt32 >>> ((16 : Int32) &&& 31).toUInt32).toInt32) &&& (255 : Int32)).toUInt32.toUInt16.toUInt32.toInt32)), .val (.int ((((q1.toUInt32 >>> ((24 : Int32) &&& 31).toUInt32).toInt32) &&& (255 : Int32)).toUInt32.toUInt16.toUInt32.toInt32)), .val (.int ((q2 &&& (255 : Int32)).toUInt32.toUInt16.toUInt32.toInt32)), .val (.ref b9157), .val (.int (0 : Int32)), .unset, .unset] [(.int (5 : Int32))])) t
      refine XS.iconst X157.here hx rfl (hb hby at_114) ?_
      show Steps p.tables e below (T157.setTop (mkF m 115 #[.val (.int q0), .val (.int q1), .val (.int q2), .val (.int (5 : Int32)), .val (.int ((q1 &&& (255 : Int32)).toUInt32.toUInt16.toUInt32.toInt32)), .val (.int ((((q1.toUInt32 >>> ((8 : Int32) &&& 31).toUInt32).toInt32) &&& (255 : Int32)).toUInt32.toUInt16.toUInt32.toInt32)), .val (.int ((((q1.toUInt32 >>> ((16 : Int32) &&& 31).toUInt32).toInt32) &&& (255 : Int32)).toUInt32.toUInt16.toUInt32.toInt32)), .val (.int ((((q1.toUInt32 >>> ((24 : Int32) &&& 31).toUInt32).toInt32) &&& (255 : Int32)).toUInt32.toUInt16.toUInt32.toInt32)), .val (.int ((q2 &&& (255 : Int32)).toUInt32.toUInt16.toUInt32.toInt32)), .val (.ref b9157), .val (.int (0 : Int32)), .unset, .unset] [(.int (1 : Int32)), (.int (5 : Int32))])) t
      refine XS.icmpYes X157.here hx rfl (pc0 := 115) (pc' := 129) rfl (hb hby at_115) rfl (feq (by decide : ¬ ((5 : Int32) = (1 : Int32)))).2 (by decide) (by decide) ?_
      show Steps p.tables e below (T157.setTop (mkF m 129 #[.val (.int q0), .val (.int q1), .val (.int q2), .val (.int (5 : Int32)), .val (.int ((q1 &&& (255 : Int32)).toUInt32.toUInt16.toUInt32.toInt32)), .val (.int ((((q1.toUInt32 >>> ((8 : Int32) &&& 31).toUInt32).toInt32) &&& (255 : Int32)).toUInt32.toUInt16.toUInt32.toInt32)), .val (.int ((((q1.toUInt32 >>> ((16 : Int32) &&& 31).toUInt32).toInt32) &&& (255 : Int32)).toUInt32.toUInt16.toUInt32.toInt32)), .val (.int ((((q1.toUInt32 >>> ((24 : Int32) &&& 31).toUInt32).toInt32) &&& (255 : Int32)).toUInt32.toUInt16.toUInt32.toInt32)), .val (.int ((q2 &&& (255 : Int32)).toUInt32.toUInt16.toUInt32.toInt32)), .val (.ref b9157), .val (.int (0 : Int32)), .unset, .unset] [])) t
      refine XS.iconst X157.here hx rfl (hb hby at_129) ?_
      show Steps p.tables e below (T157.setTop (mkF m 130 #[.val (.int q0), .val (.int q1), .val (.int q2), .val (.int (5 : Int32)), .val (.int ((q1 &&& (255 : Int32)).toUInt32.toUInt16.toUInt32.toInt32)), .val (.int ((((q1.toUInt32 >>> ((8 : Int32) &&& 31).toUInt32).toInt32) &&& (255 : Int32)).toUInt32.toUInt16.toUInt32.toInt32)), .val (.int ((((q1.toUInt32 >>> ((16 : Int32) &&& 31).toUInt32).toInt32) &&& (255 : Int32)).toUInt32.toUInt16.toUInt32.toInt32)), .val (.int ((((q1.toUInt32 >>> ((24 : Int32) &&& 31).toUInt32).toInt32) &&& (255 : Int32)).toUInt32.toUInt16.toUInt32.toInt32)), .val (.int ((q2 &&& (255 : Int32)).toUInt32.toUInt16.toUInt32.toInt32)), .val (.ref b9157), .val (.int (0 : Int32)), .unset, .unset] [(.int (0 : Int32))])) t
      refine XS.istore X157.here hx rfl (hb hby at_130) rfl (l' := #[.val (.int q0), .val (.int q1), .val (.int q2), .val (.int (5 : Int32)), .val (.int ((q1 &&& (255 : Int32)).toUInt32.toUInt16.toUInt32.toInt32)), .val (.int ((((q1.toUInt32 >>> ((8 : Int32) &&& 31).toUInt32).toInt32) &&& (255 : Int32)).toUInt32.toUInt16.toUInt32.toInt32)), .val (.int ((((q1.toUInt32 >>> ((16 : Int32) &&& 31).toUInt32).toInt32) &&& (255 : Int32)).toUInt32.toUInt16.toUInt32.toInt32)), .val (.int ((((q1.toUInt32 >>> ((24 : Int32) &&& 31).toUInt32).toInt32) &&& (255 : Int32)).toUInt32.toUInt16.toUInt32.toInt32)), .val (.int ((q2 &&& (255 : Int32)).toUInt32.toUInt16.toUInt32.toInt32)), .val (.ref b9157), .val (.int (0 : Int32)), .val (.int (0 : Int32)), .unset]) rfl ?_
      show Steps p.tables e below (T157.setTop (mkF m 132 #[.val (.int q0), .val (.int q1), .val (.int q2), .val (.int (5 : Int32)), .val (.int ((q1 &&& (255 : Int32)).toUInt32.toUInt16.toUInt32.toInt32)), .val (.int ((((q1.toUInt32 >>> ((8 : Int32) &&& 31).toUInt32).toInt32) &&& (255 : Int32)).toUInt32.toUInt16.toUInt32.toInt32)), .val (.int ((((q1.toUInt32 >>> ((16 : Int32) &&& 31).toUInt32).toInt32) &&& (255 : Int32)).toUInt32.toUInt16.toUInt32.toInt32)), .val (.int ((((q1.toUInt32 >>> ((24 : Int32) &&& 31).toUInt32).toInt32) &&& (255 : Int32)).toUInt32.toUInt16.toUInt32.toInt32)), .val (.int ((q2 &&& (255 : Int32)).toUInt32.toUInt16.toUInt32.toInt32)), .val (.ref b9157), .val (.int (0 : Int32)), .val (.int (0 : Int32)), .unset] [])) t
      refine XS.iloadN X157.here hx rfl (hb hby at_132) rfl ?_
      show Steps p.tables e below (T157.setTop (mkF m 133 #[.val (.int q0), .val (.int q1), .val (.int q2), .val (.int (5 : Int32)), .val (.int ((q1 &&& (255 : Int32)).toUInt32.toUInt16.toUInt32.toInt32)), .val (.int ((((q1.toUInt32 >>> ((8 : Int32) &&& 31).toUInt32).toInt32) &&& (255 : Int32)).toUInt32.toUInt16.toUInt32.toInt32)), .val (.int ((((q1.toUInt32 >>> ((16 : Int32) &&& 31).toUInt32).toInt32) &&& (255 : Int32)).toUInt32.toUInt16.toUInt32.toInt32)), .val (.int ((((q1.toUInt32 >>> ((24 : Int32) &&& 31).toUInt32).toInt32) &&& (255 : Int32)).toUInt32.toUInt16.toUInt32.toInt32)), .val (.int ((q2 &&& (255 : Int32)).toUInt32.toUInt16.toUInt32.toInt32)), .val (.ref b9157), .val (.int (0 : Int32)), .val (.int (0 : Int32)), .unset] [(.int (5 : Int32))])) t
      refine XS.bipush X157.here hx rfl (hb hby at_133) ?_
      show Steps p.tables e below (T157.setTop (mkF m 135 #[.val (.int q0), .val (.int q1), .val (.int q2), .val (.int (5 : Int32)), .val (.int ((q1 &&& (255 : Int32)).toUInt32.toUInt16.toUInt32.toInt32)), .val (.int ((((q1.toUInt32 >>> ((8 : Int32) &&& 31).toUInt32).toInt32) &&& (255 : Int32)).toUInt32.toUInt16.toUInt32.toInt32)), .val (.int ((((q1.toUInt32 >>> ((16 : Int32) &&& 31).toUInt32).toInt32) &&& (255 : Int32)).toUInt32.toUInt16.toUInt32.toInt32)), .val (.int ((((q1.toUInt32 >>> ((24 : Int32) &&& 31).toUInt32).toInt32) &&& (255 : Int32)).toUInt32.toUInt16.toUInt32.toInt32)), .val (.int ((q2 &&& (255 : Int32)).toUInt32.toUInt16.toUInt32.toInt32)), .val (.ref b9157), .val (.int (0 : Int32)), .val (.int (0 : Int32)), .unset] [(.int (6 : Int32)), (.int (5 : Int32))])) t
      refine XS.icmpNo X157.here hx rfl (hb hby at_135) rfl (feq (by decide : ¬ ((5 : Int32) = (6 : Int32)))).1 ?_
      show Steps p.tables e below (T157.setTop (mkF m 138 #[.val (.int q0), .val (.int q1), .val (.int q2), .val (.int (5 : Int32)), .val (.int ((q1 &&& (255 : Int32)).toUInt32.toUInt16.toUInt32.toInt32)), .val (.int ((((q1.toUInt32 >>> ((8 : Int32) &&& 31).toUInt32).toInt32) &&& (255 : Int32)).toUInt32.toUInt16.toUInt32.toInt32)), .val (.int ((((q1.toUInt32 >>> ((16 : Int32) &&& 31).toUInt32).toInt32) &&& (255 : Int32)).toUInt32.toUInt16.toUInt32.toInt32)), .val (.int ((((q1.toUInt32 >>> ((24 : Int32) &&& 31).toUInt32).toInt32) &&& (255 : Int32)).toUInt32.toUInt16.toUInt32.toInt32)), .val (.int ((q2 &&& (255 : Int32)).toUInt32.toUInt16.toUInt32.toInt32)), .val (.ref b9157), .val (.int (0 : Int32)), .val (.int (0 : Int32)), .unset] [])) t
      refine XS.iload X157.here hx rfl (hb hby at_138) rfl ?_
      show Steps p.tables e below (T157.setTop (mkF m 140 #[.val (.int q0), .val (.int q1), .val (.int q2), .val (.int (5 : Int32)), .val (.int ((q1 &&& (255 : Int32)).toUInt32.toUInt16.toUInt32.toInt32)), .val (.int ((((q1.toUInt32 >>> ((8 : Int32) &&& 31).toUInt32).toInt32) &&& (255 : Int32)).toUInt32.toUInt16.toUInt32.toInt32)), .val (.int ((((q1.toUInt32 >>> ((16 : Int32) &&& 31).toUInt32).toInt32) &&& (255 : Int32)).toUInt32.toUInt16.toUInt32.toInt32)), .val (.int ((((q1.toUInt32 >>> ((24 : Int32) &&& 31).toUInt32).toInt32) &&& (255 : Int32)).toUInt32.toUInt16.toUInt32.toInt32)), .val (.int ((q2 &&& (255 : Int32)).toUInt32.toUInt16.toUInt32.toInt32)), .val (.ref b9157), .val (.int (0 : Int32)), .val (.int (0 : Int32)), .unset] [(.int (0 : Int32))])) t
      refine XS.ifNo X157.here hx rfl (hb hby at_140) rfl ((if0 _ _).trans (teq (by decide : (0 : Int32) = (0 : Int32))).2) ?_
      show Steps p.tables e below (T157.setTop (mkF m 143 #[.val (.int q0), .val (.int q1), .val (.int q2), .val (.int (5 : Int32)), .val (.int ((q1 &&& (255 : Int32)).toUInt32.toUInt16.toUInt32.toInt32)), .val (.int ((((q1.toUInt32 >>> ((8 : Int32) &&& 31).toUInt32).toInt32) &&& (255 : Int32)).toUInt32.toUInt16.toUInt32.toInt32)), .val (.int ((((q1.toUInt32 >>> ((16 : Int32) &&& 31).toUInt32).toInt32) &&& (255 : Int32)).toUInt32.toUInt16.toUInt32.toInt32)), .val (.int ((((q1.toUInt32 >>> ((24 : Int32) &&& 31).toUInt32).toInt32) &&& (255 : Int32)).toUInt32.toUInt16.toUInt32.toInt32)), .val (.int ((q2 &&& (255 : Int32)).toUInt32.toUInt16.toUInt32.toInt32)), .val (.ref b9157), .val (.int (0 : Int32)), .val (.int (0 : Int32)), .unset] [])) t
      refine XS.iload X157.here hx rfl (hb hby at_143) rfl ?_
      show Steps p.tables e below (T157.setTop (mkF m 145 #[.val (.int q0), .val (.int q1), .val (.int q2), .val (.int (5 : Int32)), .val (.int ((q1 &&& (255 : Int32)).toUInt32.toUInt16.toUInt32.toInt32)), .val (.int ((((q1.toUInt32 >>> ((8 : Int32) &&& 31).toUInt32).toInt32) &&& (255 : Int32)).toUInt32.toUInt16.toUInt32.toInt32)), .val (.int ((((q1.toUInt32 >>> ((16 : Int32) &&& 31).toUInt32).toInt32) &&& (255 : Int32)).toUInt32.toUInt16.toUInt32.toInt32)), .val (.int ((((q1.toUInt32 >>> ((24 : Int32) &&& 31).toUInt32).toInt32) &&& (255 : Int32)).toUInt32.toUInt16.toUInt32.toInt32)), .val (.int ((q2 &&& (255 : Int32)).toUInt32.toUInt16.toUInt32.toInt32)), .val (.ref b9157), .val (.int (0 : Int32)), .val (.int (0 : Int32)), .unset] [(.int (0 : Int32))])) t
      refine XS.ifYes X157.here hx rfl (pc0 := 145) (pc' := 152) rfl (hb hby at_145) rfl ((if0 _ _).trans (teq (by decide : (0 : Int32) = (0 : Int32))).1) (by decide) (by decide) ?_
      show Steps p.tables e below (T157.setTop (mkF m 152 #[.val (.int q0), .val (.int q1), .val (.int q2), .val (.int (5 : Int32)), .val (.int ((q1 &&& (255 : Int32)).toUInt32.toUInt16.toUInt32.toInt32)), .val (.int ((((q1.toUInt32 >>> ((8 : Int32) &&& 31).toUInt32).toInt32) &&& (255 : Int32)).toUInt32.toUInt16.toUInt32.toInt32)), .val (.int ((((q1.toUInt32 >>> ((16 : Int32) &&& 31).toUInt32).toInt32) &&& (255 : Int32)).toUInt32.toUInt16.toUInt32.toInt32)), .val (.int ((((q1.toUInt32 >>> ((24 : Int32) &&& 31).toUInt32).toInt32) &&& (255 : Int32)).toUInt32.toUInt16.toUInt32.toInt32)), .val (.int ((q2 &&& (255 : Int32)).toUInt32.toUInt16.toUInt32.toInt32)), .val (.ref b9157), .val (.int (0 : Int32)), .val (.int (0 : Int32)), .unset] [])) t
      refine XS.iconst X157.here hx rfl (hb hby at_152) ?_
      show Steps p.tables e below (T157.setTop (mkF m 153 #[.val (.int q0), .val (.int q1), .val (.int q2), .val (.int (5 : Int32)), .val (.int ((q1 &&& (255 : Int32)).toUInt32.toUInt16.toUInt32.toInt32)), .val (.int ((((q1.toUInt32 >>> ((8 : Int32) &&& 31).toUInt32).toInt32) &&& (255 : Int32)).toUInt32.toUInt16.toUInt32.toInt32)), .val (.int ((((q1.toUInt32 >>> ((16 : Int32) &&& 31).toUInt32).toInt32) &&& (255 : Int32)).toUInt32.toUInt16.toUInt32.toInt32)), .val (.int ((((q1.toUInt32 >>> ((24 : Int32) &&& 31).toUInt32).toInt32) &&& (255 : Int32)).toUInt32.toUInt16.toUInt32.toInt32)), .val (.int ((q2 &&& (255 : Int32)).toUInt32.toUInt16.toUInt32.toInt32)), .val (.ref b9157), .val (.int (0 : Int32)), .val (.int (0 : Int32)), .unset] [(.int (0 : Int32))])) t
      refine XS.istore X157.here hx rfl (hb hby at_153) rfl (l' := #[.val (.int q0), .val (.int q1), .val (.int q2), .val (.int (5 : Int32)), .val (.int ((q1 &&& (255 : Int32)).toUInt32.toUInt16.toUInt32.toInt32)), .val (.int ((((q1.toUInt32 >>> ((8 : Int32) &&& 31).toUInt32).toInt32) &&& (255 : Int32)).toUInt32.toUInt16.toUInt32.toInt32)), .val (.int ((((q1.toUInt32 >>> ((16 : Int32) &&& 31).toUInt32).toInt32) &&& (255 : Int32)).toUInt32.toUInt16.toUInt32.toInt32)), .val (.int ((((q1.toUInt32 >>> ((24 : Int32) &&& 31).toUInt32).toInt32) &&& (255 : Int32)).toUInt32.toUInt16.toUInt32.toInt32)), .val (.int ((q2 &&& (255 : Int32)).toUInt32.toUInt16.toUInt32.toInt32)), .val (.ref b9157), .val (.int (0 : Int32)), .val (.int (0 : Int32)), .val (.int (0 : Int32))]) rfl ?_
      show Steps p.tables e below (T157.setTop (mkF m 155 #[.val (.int q0), .val (.int q1), .val (.int q2), .val (.int (5 : Int32)), .val (.int ((q1 &&& (255 : Int32)).toUInt32.toUInt16.toUInt32.toInt32)), .val (.int ((((q1.toUInt32 >>> ((8 : Int32) &&& 31).toUInt32).toInt32) &&& (255 : Int32)).toUInt32.toUInt16.toUInt32.toInt32)), .val (.int ((((q1.toUInt32 >>> ((16 : Int32) &&& 31).toUInt32).toInt32) &&& (255 : Int32)).toUInt32.toUInt16.toUInt32.toInt32)), .val (.int ((((q1.toUInt32 >>> ((24 : Int32) &&& 31).toUInt32).toInt32) &&& (255 : Int32)).toUInt32.toUInt16.toUInt32.toInt32)), .val (.int ((q2 &&& (255 : Int32)).toUInt32.toUInt16.toUInt32.toInt32)), .val (.ref b9157), .val (.int (0 : Int32)), .val (.int (0 : Int32)), .val (.int (0 : Int32))] [])) t
      refine XS.aload X157.here hx rfl (hb hby at_155) rfl rfl ?_
      exact k
    refine OFinH.go sg158 ?_
    have hpc : ∀ c ∈ ([(nar .char ((q1 &&& (255 : Int32)).toUInt32.toUInt16.toUInt32.toInt32)), (nar .char ((((q1.toUInt32 >>> ((8 : Int32) &&& 31).toUInt32).toInt32) &&& (255 : Int32)).toUInt32.toUInt16.toUInt32.toInt32)), (nar .char ((((q1.toUInt32 >>> ((16 : Int32) &&& 31).toUInt32).toInt32) &&& (255 : Int32)).toUInt32.toUInt16.toUInt32.toInt32)), (nar .char ((((q1.toUInt32 >>> ((24 : Int32) &&& 31).toUInt32).toInt32) &&& (255 : Int32)).toUInt32.toUInt16.toUInt32.toInt32)), (nar .char ((q2 &&& (255 : Int32)).toUInt32.toUInt16.toUInt32.toInt32))] : List Int32), ¬ c < 0 ∧ ¬ (255 : Int32) < c := (own_allS (own_ch _) (own_allS (own_ch _) (own_allS (own_ch _) (own_allS (own_ch _) (own_allS (own_ch _) own_all0)))))
    obtain ⟨_, _, ⟨T159, L159, k159, n159⟩, -, X159, hSn, hgn, ⟨Lc159, hQ159, l159, y159, z159, C159⟩, st159⟩ := callSS X157 hx (y := (⟨"com/example/avvik/avvik/io/XsdValues", "isTrue", "(Ljava/lang/String;)Z"⟩ : MethodName)) hown (mvT hZ (hw _ (List.mem_of_getElem? (i := 27) rfl))) (mvT hZ (hw _ (List.mem_of_getElem? (i := 28) rfl))) (mvT hZ (hw _ (List.mem_of_getElem? (i := 29) rfl))) (mvT hZ (hw _ (List.mem_of_getElem? (i := 30) rfl))) (by decide) (own_back (W := 0) (sf := []) (rm5 l Z aZ hw hEL [] b9157 ([(nar .char ((q1 &&& (255 : Int32)).toUInt32.toUInt16.toUInt32.toInt32)), (nar .char ((((q1.toUInt32 >>> ((8 : Int32) &&& 31).toUInt32).toInt32) &&& (255 : Int32)).toUInt32.toUInt16.toUInt32.toInt32)), (nar .char ((((q1.toUInt32 >>> ((16 : Int32) &&& 31).toUInt32).toInt32) &&& (255 : Int32)).toUInt32.toUInt16.toUInt32.toInt32)), (nar .char ((((q1.toUInt32 >>> ((24 : Int32) &&& 31).toUInt32).toInt32) &&& (255 : Int32)).toUInt32.toUInt16.toUInt32.toInt32)), (nar .char ((q2 &&& (255 : Int32)).toUInt32.toUInt16.toUInt32.toInt32))] : List Int32) t9157 k9157 (5 : Int32) ((([(nar .char ((q1 &&& (255 : Int32)).toUInt32.toUInt16.toUInt32.toInt32)), (nar .char ((((q1.toUInt32 >>> ((8 : Int32) &&& 31).toUInt32).toInt32) &&& (255 : Int32)).toUInt32.toUInt16.toUInt32.toInt32)), (nar .char ((((q1.toUInt32 >>> ((16 : Int32) &&& 31).toUInt32).toInt32) &&& (255 : Int32)).toUInt32.toUInt16.toUInt32.toInt32)), (nar .char ((((q1.toUInt32 >>> ((24 : Int32) &&& 31).toUInt32).toInt32) &&& (255 : Int32)).toUInt32.toUInt16.toUInt32.toInt32)), (nar .char ((q2 &&& (255 : Int32)).toUInt32.toUInt16.toUInt32.toInt32))] : List Int32).map (fun c => c.toInt8.toInt32)).map Value.int) w1 T157.heap n0 (Nat.le_trans Z0 K157.1) (O0.keep Kq157 all0) P157_0 P157_1 P157_2 P157_3 S1 (StrChars.Road.codOf (n := 5) rfl (fun c hc => (hpc c hc).2)) (own_up _ hpc) (Nat.le_of_ble_eq_true rfl) hcs) hZ (hw _ (List.mem_of_getElem? (i := 30) rfl)) (hw _ (List.mem_of_getElem? (i := 29) rfl)) (by decide) (by decide) hEL HC.1 all0 all0) (g := (mkF m 157 #[.val (.int q0), .val (.int q1), .val (.int q2), .val (.int (5 : Int32)), .val (.int ((q1 &&& (255 : Int32)).toUInt32.toUInt16.toUInt32.toInt32)), .val (.int ((((q1.toUInt32 >>> ((8 : Int32) &&& 31).toUInt32).toInt32) &&& (255 : Int32)).toUInt32.toUInt16.toUInt32.toInt32)), .val (.int ((((q1.toUInt32 >>> ((16 : Int32) &&& 31).toUInt32).toInt32) &&& (255 : Int32)).toUInt32.toUInt16.toUInt32.toInt32)), .val (.int ((((q1.toUInt32 >>> ((24 : Int32) &&& 31).toUInt32).toInt32) &&& (255 : Int32)).toUInt32.toUInt16.toUInt32.toInt32)), .val (.int ((q2 &&& (255 : Int32)).toUInt32.toUInt16.toUInt32.toInt32)), .val (.ref b9157), .val (.int (0 : Int32)), .val (.int (0 : Int32)), .val (.int (0 : Int32))] [(.ref b9157)])) rfl (by rw [hml]; rfl) (argsL := [(.ref b9157)]) (rest := []) (lenOf pd_4 rfl) rfl (by show 2 * 0 + _ ≤ _; exact Nat.le_of_eq rfl) (hb hby at_157) (fun _ _ => ⟨rfl, rfl, (by decide : 3 + 4 ≤ _), (by decide : 14 + 28 ≤ _)⟩)
    dsimp only [Pt.U, Pt.locs, Pt.cells, Pt.slots] at X159 l159 y159 z159 st159 hQ159 hSn hgn C159
    have X159 : Stand p l e room_1 (s.setVm T159.vm) m #[(.int q0), (.int q1), (.int q2)] below meth c T159 L159 k159 n159 := X159
    have HC := HC.trans C159
    have hk159 := hk
    have hS := State.Since.trans hS hSn (Nat.le_trans hk159 hgn)
    have hk := Nat.le_refl T159.heap.size
    have hown : (s.setVm T159.vm).vm.findClass "com/example/avvik/avvik/io/XsdValuesIsTruePinLaw" = some m.cls := by rw [show (s.setVm T159.vm).vm = T159.vm from rfl, hSn.1.alike.findClass]; exact hown
    have hZ : Z.Warmed39 T159.vm := State.Warmed39.trans hZ hSn.1
    subst l159 y159 z159
    obtain ⟨rfl, N159q, Kq159⟩ := hQ159
    have N159 := Fr.app N157 N159q
    refine OFinH.tr st159 ?_
    have K159 : Keep h0 T159.heap [] := K157.trans Kq159 all0
    have sg161 : ∀ t, Steps p.tables e below (T159.setTop (mkF m 162 #[.val (.int q0), .val (.int q1), .val (.int q2), .val (.int (5 : Int32)), .val (.int ((q1 &&& (255 : Int32)).toUInt32.toUInt16.toUInt32.toInt32)), .val (.int ((((q1.toUInt32 >>> ((8 : Int32) &&& 31).toUInt32).toInt32) &&& (255 : Int32)).toUInt32.toUInt16.toUInt32.toInt32)), .val (.int ((((q1.toUInt32 >>> ((16 : Int32) &&& 31).toUInt32).toInt32) &&& (255 : Int32)).toUInt32.toUInt16.toUInt32.toInt32)), .val (.int ((((q1.toUInt32 >>> ((24 : Int32) &&& 31).toUInt32).toInt32) &&& (255 : Int32)).toUInt32.toUInt16.toUInt32.toInt32)), .val (.int ((q2 &&& (255 : Int32)).toUInt32.toUInt16.toUInt32.toInt32)), .val (.ref b9157), .val (.int (0 : Int32)), .val (.int (0 : Int32)), .val (.int (0 : Int32))] [(.int (0 : Int32)), (.int (if ([(nar .char ((q1 &&& (255 : Int32)).toUInt32.toUInt16.toUInt32.toInt32)), (nar .char ((((q1.toUInt32 >>> ((8 : Int32) &&& 31).toUInt32).toInt32) &&& (255 : Int32)).toUInt32.toUInt16.toUInt32.toInt32)), (nar .char ((((q1.toUInt32 >>> ((16 : Int32) &&& 31).toUInt32).toInt32) &&& (255 : Int32)).toUInt32.toUInt16.toUInt32.toInt32)), (nar .char ((((q1.toUInt32 >>> ((24 : Int32) &&& 31).toUInt32).toInt32) &&& (255 : Int32)).toUInt32.toUInt16.toUInt32.toInt32)), (nar .char ((q2 &&& (255 : Int32)).toUInt32.toUInt16.toUInt32.toInt32))] : List Int32) = ([116, 114, 117, 101] : List Int32) ∨ ([(nar .char ((q1 &&& (255 : Int32)).toUInt32.toUInt16.toUInt32.toInt32)), (nar .char ((((q1.toUInt32 >>> ((8 : Int32) &&& 31).toUInt32).toInt32) &&& (255 : Int32)).toUInt32.toUInt16.toUInt32.toInt32)), (nar .char ((((q1.toUInt32 >>> ((16 : Int32) &&& 31).toUInt32).toInt32) &&& (255 : Int32)).toUInt32.toUInt16.toUInt32.toInt32)), (nar .char ((((q1.toUInt32 >>> ((24 : Int32) &&& 31).toUInt32).toInt32) &&& (255 : Int32)).toUInt32.toUInt16.toUInt32.toInt32)), (nar .char ((q2 &&& (255 : Int32)).toUInt32.toUInt16.toUInt32.toInt32))] : List Int32) = ([49] : List Int32) then (1 : Int32) else (0 : Int32)))])) t → Steps p.tables e below (T159.setTop (mkF m 160 #[.val (.int q0), .val (.int q1), .val (.int q2), .val (.int (5 : Int32)), .val (.int ((q1 &&& (255 : Int32)).toUInt32.toUInt16.toUInt32.toInt32)), .val (.int ((((q1.toUInt32 >>> ((8 : Int32) &&& 31).toUInt32).toInt32) &&& (255 : Int32)).toUInt32.toUInt16.toUInt32.toInt32)), .val (.int ((((q1.toUInt32 >>> ((16 : Int32) &&& 31).toUInt32).toInt32) &&& (255 : Int32)).toUInt32.toUInt16.toUInt32.toInt32)), .val (.int ((((q1.toUInt32 >>> ((24 : Int32) &&& 31).toUInt32).toInt32) &&& (255 : Int32)).toUInt32.toUInt16.toUInt32.toInt32)), .val (.int ((q2 &&& (255 : Int32)).toUInt32.toUInt16.toUInt32.toInt32)), .val (.ref b9157), .val (.int (0 : Int32)), .val (.int (0 : Int32)), .val (.int (0 : Int32))] [(.int (if ([(nar .char ((q1 &&& (255 : Int32)).toUInt32.toUInt16.toUInt32.toInt32)), (nar .char ((((q1.toUInt32 >>> ((8 : Int32) &&& 31).toUInt32).toInt32) &&& (255 : Int32)).toUInt32.toUInt16.toUInt32.toInt32)), (nar .char ((((q1.toUInt32 >>> ((16 : Int32) &&& 31).toUInt32).toInt32) &&& (255 : Int32)).toUInt32.toUInt16.toUInt32.toInt32)), (nar .char ((((q1.toUInt32 >>> ((24 : Int32) &&& 31).toUInt32).toInt32) &&& (255 : Int32)).toUInt32.toUInt16.toUInt32.toInt32)), (nar .char ((q2 &&& (255 : Int32)).toUInt32.toUInt16.toUInt32.toInt32))] : List Int32) = ([116, 114, 117, 101] : List Int32) ∨ ([(nar .char ((q1 &&& (255 : Int32)).toUInt32.toUInt16.toUInt32.toInt32)), (nar .char ((((q1.toUInt32 >>> ((8 : Int32) &&& 31).toUInt32).toInt32) &&& (255 : Int32)).toUInt32.toUInt16.toUInt32.toInt32)), (nar .char ((((q1.toUInt32 >>> ((16 : Int32) &&& 31).toUInt32).toInt32) &&& (255 : Int32)).toUInt32.toUInt16.toUInt32.toInt32)), (nar .char ((((q1.toUInt32 >>> ((24 : Int32) &&& 31).toUInt32).toInt32) &&& (255 : Int32)).toUInt32.toUInt16.toUInt32.toInt32)), (nar .char ((q2 &&& (255 : Int32)).toUInt32.toUInt16.toUInt32.toInt32))] : List Int32) = ([49] : List Int32) then (1 : Int32) else (0 : Int32)))])) t := by
      intro t k
      show Steps p.tables e below (T159.setTop (mkF m 160 #[.val (.int q0), .val (.int q1), .val (.int q2), .val (.int (5 : Int32)), .val (.int ((q1 &&& (255 : Int32)).toUInt32.toUInt16.toUInt32.toInt32)), .val (.int ((((q1.toUInt32 >>> ((8 : Int32) &&& 31).toUInt32).toInt32) &&& (255 : Int32)).toUInt32.toUInt16.toUInt32.toInt32)), .val (.int ((((q1.toUInt32 >>> ((16 : Int32) &&& 31).toUInt32).toInt32) &&& (255 : Int32)).toUInt32.toUInt16.toUInt32.toInt32)), .val (.int ((((q1.toUInt32 >>> ((24 : Int32) &&& 31).toUInt32).toInt32) &&& (255 : Int32)).toUInt32.toUInt16.toUInt32.toInt32)), .val (.int ((q2 &&& (255 : Int32)).toUInt32.toUInt16.toUInt32.toInt32)), .val (.ref b9157), .val (.int (0 : Int32)), .val (.int (0 : Int32)), .val (.int (0 : Int32))] [(.int (if ([(nar .char ((q1 &&& (255 : Int32)).toUInt32.toUInt16.toUInt32.toInt32)), (nar .char ((((q1.toUInt32 >>> ((8 : Int32) &&& 31).toUInt32).toInt32) &&& (255 : Int32)).toUInt32.toUInt16.toUInt32.toInt32)), (nar .char ((((q1.toUInt32 >>> ((16 : Int32) &&& 31).toUInt32).toInt32) &&& (255 : Int32)).toUInt32.toUInt16.toUInt32.toInt32)), (nar .char ((((q1.toUInt32 >>> ((24 : Int32) &&& 31).toUInt32).toInt32) &&& (255 : Int32)).toUInt32.toUInt16.toUInt32.toInt32)), (nar .char ((q2 &&& (255 : Int32)).toUInt32.toUInt16.toUInt32.toInt32))] : List Int32) = ([116, 114, 117, 101] : List Int32) ∨ ([(nar .char ((q1 &&& (255 : Int32)).toUInt32.toUInt16.toUInt32.toInt32)), (nar .char ((((q1.toUInt32 >>> ((8 : Int32) &&& 31).toUInt32).toInt32) &&& (255 : Int32)).toUInt32.toUInt16.toUInt32.toInt32)), (nar .char ((((q1.toUInt32 >>> ((16 : Int32) &&& 31).toUInt32).toInt32) &&& (255 : Int32)).toUInt32.toUInt16.toUInt32.toInt32)), (nar .char ((((q1.toUInt32 >>> ((24 : Int32) &&& 31).toUInt32).toInt32) &&& (255 : Int32)).toUInt32.toUInt16.toUInt32.toInt32)), (nar .char ((q2 &&& (255 : Int32)).toUInt32.toUInt16.toUInt32.toInt32))] : List Int32) = ([49] : List Int32) then (1 : Int32) else (0 : Int32)))])) t
      refine XS.iload X159.here hx rfl (hb hby at_160) rfl ?_
      exact k
    refine OFinH.go sg161 ?_
    have c160 : (if ([(nar .char ((q1 &&& (255 : Int32)).toUInt32.toUInt16.toUInt32.toInt32)), (nar .char ((((q1.toUInt32 >>> ((8 : Int32) &&& 31).toUInt32).toInt32) &&& (255 : Int32)).toUInt32.toUInt16.toUInt32.toInt32)), (nar .char ((((q1.toUInt32 >>> ((16 : Int32) &&& 31).toUInt32).toInt32) &&& (255 : Int32)).toUInt32.toUInt16.toUInt32.toInt32)), (nar .char ((((q1.toUInt32 >>> ((24 : Int32) &&& 31).toUInt32).toInt32) &&& (255 : Int32)).toUInt32.toUInt16.toUInt32.toInt32)), (nar .char ((q2 &&& (255 : Int32)).toUInt32.toUInt16.toUInt32.toInt32))] : List Int32) = ([116, 114, 117, 101] : List Int32) ∨ ([(nar .char ((q1 &&& (255 : Int32)).toUInt32.toUInt16.toUInt32.toInt32)), (nar .char ((((q1.toUInt32 >>> ((8 : Int32) &&& 31).toUInt32).toInt32) &&& (255 : Int32)).toUInt32.toUInt16.toUInt32.toInt32)), (nar .char ((((q1.toUInt32 >>> ((16 : Int32) &&& 31).toUInt32).toInt32) &&& (255 : Int32)).toUInt32.toUInt16.toUInt32.toInt32)), (nar .char ((((q1.toUInt32 >>> ((24 : Int32) &&& 31).toUInt32).toInt32) &&& (255 : Int32)).toUInt32.toUInt16.toUInt32.toInt32)), (nar .char ((q2 &&& (255 : Int32)).toUInt32.toUInt16.toUInt32.toInt32))] : List Int32) = ([49] : List Int32) then (1 : Int32) else (0 : Int32)) = (0 : Int32) := (by simp)
    have sg162 : ∀ t, Steps p.tables e below (T159.setTop (mkF m 170 #[.val (.int q0), .val (.int q1), .val (.int q2), .val (.int (5 : Int32)), .val (.int ((q1 &&& (255 : Int32)).toUInt32.toUInt16.toUInt32.toInt32)), .val (.int ((((q1.toUInt32 >>> ((8 : Int32) &&& 31).toUInt32).toInt32) &&& (255 : Int32)).toUInt32.toUInt16.toUInt32.toInt32)), .val (.int ((((q1.toUInt32 >>> ((16 : Int32) &&& 31).toUInt32).toInt32) &&& (255 : Int32)).toUInt32.toUInt16.toUInt32.toInt32)), .val (.int ((((q1.toUInt32 >>> ((24 : Int32) &&& 31).toUInt32).toInt32) &&& (255 : Int32)).toUInt32.toUInt16.toUInt32.toInt32)), .val (.int ((q2 &&& (255 : Int32)).toUInt32.toUInt16.toUInt32.toInt32)), .val (.ref b9157), .val (.int (0 : Int32)), .val (.int (0 : Int32)), .val (.int (0 : Int32))] [(.int (1 : Int32))])) t → Steps p.tables e below (T159.setTop (mkF m 162 #[.val (.int q0), .val (.int q1), .val (.int q2), .val (.int (5 : Int32)), .val (.int ((q1 &&& (255 : Int32)).toUInt32.toUInt16.toUInt32.toInt32)), .val (.int ((((q1.toUInt32 >>> ((8 : Int32) &&& 31).toUInt32).toInt32) &&& (255 : Int32)).toUInt32.toUInt16.toUInt32.toInt32)), .val (.int ((((q1.toUInt32 >>> ((16 : Int32) &&& 31).toUInt32).toInt32) &&& (255 : Int32)).toUInt32.toUInt16.toUInt32.toInt32)), .val (.int ((((q1.toUInt32 >>> ((24 : Int32) &&& 31).toUInt32).toInt32) &&& (255 : Int32)).toUInt32.toUInt16.toUInt32.toInt32)), .val (.int ((q2 &&& (255 : Int32)).toUInt32.toUInt16.toUInt32.toInt32)), .val (.ref b9157), .val (.int (0 : Int32)), .val (.int (0 : Int32)), .val (.int (0 : Int32))] [(.int (0 : Int32)), (.int (if ([(nar .char ((q1 &&& (255 : Int32)).toUInt32.toUInt16.toUInt32.toInt32)), (nar .char ((((q1.toUInt32 >>> ((8 : Int32) &&& 31).toUInt32).toInt32) &&& (255 : Int32)).toUInt32.toUInt16.toUInt32.toInt32)), (nar .char ((((q1.toUInt32 >>> ((16 : Int32) &&& 31).toUInt32).toInt32) &&& (255 : Int32)).toUInt32.toUInt16.toUInt32.toInt32)), (nar .char ((((q1.toUInt32 >>> ((24 : Int32) &&& 31).toUInt32).toInt32) &&& (255 : Int32)).toUInt32.toUInt16.toUInt32.toInt32)), (nar .char ((q2 &&& (255 : Int32)).toUInt32.toUInt16.toUInt32.toInt32))] : List Int32) = ([116, 114, 117, 101] : List Int32) ∨ ([(nar .char ((q1 &&& (255 : Int32)).toUInt32.toUInt16.toUInt32.toInt32)), (nar .char ((((q1.toUInt32 >>> ((8 : Int32) &&& 31).toUInt32).toInt32) &&& (255 : Int32)).toUInt32.toUInt16.toUInt32.toInt32)), (nar .char ((((q1.toUInt32 >>> ((16 : Int32) &&& 31).toUInt32).toInt32) &&& (255 : Int32)).toUInt32.toUInt16.toUInt32.toInt32)), (nar .char ((((q1.toUInt32 >>> ((24 : Int32) &&& 31).toUInt32).toInt32) &&& (255 : Int32)).toUInt32.toUInt16.toUInt32.toInt32)), (nar .char ((q2 &&& (255 : Int32)).toUInt32.toUInt16.toUInt32.toInt32))] : List Int32) = ([49] : List Int32) then (1 : Int32) else (0 : Int32)))])) t := by
      intro t k
      show Steps p.tables e below (T159.setTop (mkF m 162 #[.val (.int q0), .val (.int q1), .val (.int q2), .val (.int (5 : Int32)), .val (.int ((q1 &&& (255 : Int32)).toUInt32.toUInt16.toUInt32.toInt32)), .val (.int ((((q1.toUInt32 >>> ((8 : Int32) &&& 31).toUInt32).toInt32) &&& (255 : Int32)).toUInt32.toUInt16.toUInt32.toInt32)), .val (.int ((((q1.toUInt32 >>> ((16 : Int32) &&& 31).toUInt32).toInt32) &&& (255 : Int32)).toUInt32.toUInt16.toUInt32.toInt32)), .val (.int ((((q1.toUInt32 >>> ((24 : Int32) &&& 31).toUInt32).toInt32) &&& (255 : Int32)).toUInt32.toUInt16.toUInt32.toInt32)), .val (.int ((q2 &&& (255 : Int32)).toUInt32.toUInt16.toUInt32.toInt32)), .val (.ref b9157), .val (.int (0 : Int32)), .val (.int (0 : Int32)), .val (.int (0 : Int32))] [(.int (0 : Int32)), (.int (if ([(nar .char ((q1 &&& (255 : Int32)).toUInt32.toUInt16.toUInt32.toInt32)), (nar .char ((((q1.toUInt32 >>> ((8 : Int32) &&& 31).toUInt32).toInt32) &&& (255 : Int32)).toUInt32.toUInt16.toUInt32.toInt32)), (nar .char ((((q1.toUInt32 >>> ((16 : Int32) &&& 31).toUInt32).toInt32) &&& (255 : Int32)).toUInt32.toUInt16.toUInt32.toInt32)), (nar .char ((((q1.toUInt32 >>> ((24 : Int32) &&& 31).toUInt32).toInt32) &&& (255 : Int32)).toUInt32.toUInt16.toUInt32.toInt32)), (nar .char ((q2 &&& (255 : Int32)).toUInt32.toUInt16.toUInt32.toInt32))] : List Int32) = ([116, 114, 117, 101] : List Int32) ∨ ([(nar .char ((q1 &&& (255 : Int32)).toUInt32.toUInt16.toUInt32.toInt32)), (nar .char ((((q1.toUInt32 >>> ((8 : Int32) &&& 31).toUInt32).toInt32) &&& (255 : Int32)).toUInt32.toUInt16.toUInt32.toInt32)), (nar .char ((((q1.toUInt32 >>> ((16 : Int32) &&& 31).toUInt32).toInt32) &&& (255 : Int32)).toUInt32.toUInt16.toUInt32.toInt32)), (nar .char ((((q1.toUInt32 >>> ((24 : Int32) &&& 31).toUInt32).toInt32) &&& (255 : Int32)).toUInt32.toUInt16.toUInt32.toInt32)), (nar .char ((q2 &&& (255 : Int32)).toUInt32.toUInt16.toUInt32.toInt32))] : List Int32) = ([49] : List Int32) then (1 : Int32) else (0 : Int32)))])) t
      refine XS.icmpNo X159.here hx rfl (hb hby at_162) rfl (teq c160).2 ?_
      show Steps p.tables e below (T159.setTop (mkF m 165 #[.val (.int q0), .val (.int q1), .val (.int q2), .val (.int (5 : Int32)), .val (.int ((q1 &&& (255 : Int32)).toUInt32.toUInt16.toUInt32.toInt32)), .val (.int ((((q1.toUInt32 >>> ((8 : Int32) &&& 31).toUInt32).toInt32) &&& (255 : Int32)).toUInt32.toUInt16.toUInt32.toInt32)), .val (.int ((((q1.toUInt32 >>> ((16 : Int32) &&& 31).toUInt32).toInt32) &&& (255 : Int32)).toUInt32.toUInt16.toUInt32.toInt32)), .val (.int ((((q1.toUInt32 >>> ((24 : Int32) &&& 31).toUInt32).toInt32) &&& (255 : Int32)).toUInt32.toUInt16.toUInt32.toInt32)), .val (.int ((q2 &&& (255 : Int32)).toUInt32.toUInt16.toUInt32.toInt32)), .val (.ref b9157), .val (.int (0 : Int32)), .val (.int (0 : Int32)), .val (.int (0 : Int32))] [])) t
      refine XS.iconst X159.here hx rfl (hb hby at_165) ?_
      show Steps p.tables e below (T159.setTop (mkF m 166 #[.val (.int q0), .val (.int q1), .val (.int q2), .val (.int (5 : Int32)), .val (.int ((q1 &&& (255 : Int32)).toUInt32.toUInt16.toUInt32.toInt32)), .val (.int ((((q1.toUInt32 >>> ((8 : Int32) &&& 31).toUInt32).toInt32) &&& (255 : Int32)).toUInt32.toUInt16.toUInt32.toInt32)), .val (.int ((((q1.toUInt32 >>> ((16 : Int32) &&& 31).toUInt32).toInt32) &&& (255 : Int32)).toUInt32.toUInt16.toUInt32.toInt32)), .val (.int ((((q1.toUInt32 >>> ((24 : Int32) &&& 31).toUInt32).toInt32) &&& (255 : Int32)).toUInt32.toUInt16.toUInt32.toInt32)), .val (.int ((q2 &&& (255 : Int32)).toUInt32.toUInt16.toUInt32.toInt32)), .val (.ref b9157), .val (.int (0 : Int32)), .val (.int (0 : Int32)), .val (.int (0 : Int32))] [(.int (1 : Int32))])) t
      refine XS.goto X159.here hx rfl (pc0 := 166) (pc' := 170) rfl (hb hby at_166) (by decide) (by decide) ?_
      exact k
    refine OFinH.go sg162 ?_
    exact OFinH.retN X159 hS hk hZ hEL rfl HC hx hret (by simp) hlk (hb hby at_170) rfl ⟨rfl, N159⟩ (by decide) (by decide)
  · rw [hk7]
    have sg163 : ∀ t, Steps p.tables e below (s₁.setTop (mkF m 68 #[.val (.int q0), .val (.int q1), .val (.int q2), .val (.int (6 : Int32)), .val (.int ((q1 &&& (255 : Int32)).toUInt32.toUInt16.toUInt32.toInt32)), .val (.int ((((q1.toUInt32 >>> ((8 : Int32) &&& 31).toUInt32).toInt32) &&& (255 : Int32)).toUInt32.toUInt16.toUInt32.toInt32)), .val (.int ((((q1.toUInt32 >>> ((16 : Int32) &&& 31).toUInt32).toInt32) &&& (255 : Int32)).toUInt32.toUInt16.toUInt32.toInt32)), .val (.int ((((q1.toUInt32 >>> ((24 : Int32) &&& 31).toUInt32).toInt32) &&& (255 : Int32)).toUInt32.toUInt16.toUInt32.toInt32)), .val (.int ((q2 &&& (255 : Int32)).toUInt32.toUInt16.toUInt32.toInt32)), .unset, .unset, .unset, .unset] [(.int ((q2 &&& (255 : Int32)).toUInt32.toUInt16.toUInt32.toInt32)), (.int ((((q1.toUInt32 >>> ((24 : Int32) &&& 31).toUInt32).toInt32) &&& (255 : Int32)).toUInt32.toUInt16.toUInt32.toInt32)), (.int ((((q1.toUInt32 >>> ((16 : Int32) &&& 31).toUInt32).toInt32) &&& (255 : Int32)).toUInt32.toUInt16.toUInt32.toInt32)), (.int ((((q1.toUInt32 >>> ((8 : Int32) &&& 31).toUInt32).toInt32) &&& (255 : Int32)).toUInt32.toUInt16.toUInt32.toInt32)), (.int ((q1 &&& (255 : Int32)).toUInt32.toUInt16.toUInt32.toInt32)), (.int (6 : Int32))])) t → Steps p.tables e below (s₁.setTop (mkF m 57 #[.val (.int q0), .val (.int q1), .val (.int q2), .val (.int (6 : Int32)), .val (.int ((q1 &&& (255 : Int32)).toUInt32.toUInt16.toUInt32.toInt32)), .val (.int ((((q1.toUInt32 >>> ((8 : Int32) &&& 31).toUInt32).toInt32) &&& (255 : Int32)).toUInt32.toUInt16.toUInt32.toInt32)), .val (.int ((((q1.toUInt32 >>> ((16 : Int32) &&& 31).toUInt32).toInt32) &&& (255 : Int32)).toUInt32.toUInt16.toUInt32.toInt32)), .val (.int ((((q1.toUInt32 >>> ((24 : Int32) &&& 31).toUInt32).toInt32) &&& (255 : Int32)).toUInt32.toUInt16.toUInt32.toInt32)), .val (.int ((q2 &&& (255 : Int32)).toUInt32.toUInt16.toUInt32.toInt32)), .unset, .unset, .unset, .unset] [])) t := by
      intro t k
      show Steps p.tables e below (s₁.setTop (mkF m 57 #[.val (.int q0), .val (.int q1), .val (.int q2), .val (.int (6 : Int32)), .val (.int ((q1 &&& (255 : Int32)).toUInt32.toUInt16.toUInt32.toInt32)), .val (.int ((((q1.toUInt32 >>> ((8 : Int32) &&& 31).toUInt32).toInt32) &&& (255 : Int32)).toUInt32.toUInt16.toUInt32.toInt32)), .val (.int ((((q1.toUInt32 >>> ((16 : Int32) &&& 31).toUInt32).toInt32) &&& (255 : Int32)).toUInt32.toUInt16.toUInt32.toInt32)), .val (.int ((((q1.toUInt32 >>> ((24 : Int32) &&& 31).toUInt32).toInt32) &&& (255 : Int32)).toUInt32.toUInt16.toUInt32.toInt32)), .val (.int ((q2 &&& (255 : Int32)).toUInt32.toUInt16.toUInt32.toInt32)), .unset, .unset, .unset, .unset] [])) t
      refine XS.iloadN X0.here hx rfl (hb hby at_57) rfl ?_
      show Steps p.tables e below (s₁.setTop (mkF m 58 #[.val (.int q0), .val (.int q1), .val (.int q2), .val (.int (6 : Int32)), .val (.int ((q1 &&& (255 : Int32)).toUInt32.toUInt16.toUInt32.toInt32)), .val (.int ((((q1.toUInt32 >>> ((8 : Int32) &&& 31).toUInt32).toInt32) &&& (255 : Int32)).toUInt32.toUInt16.toUInt32.toInt32)), .val (.int ((((q1.toUInt32 >>> ((16 : Int32) &&& 31).toUInt32).toInt32) &&& (255 : Int32)).toUInt32.toUInt16.toUInt32.toInt32)), .val (.int ((((q1.toUInt32 >>> ((24 : Int32) &&& 31).toUInt32).toInt32) &&& (255 : Int32)).toUInt32.toUInt16.toUInt32.toInt32)), .val (.int ((q2 &&& (255 : Int32)).toUInt32.toUInt16.toUInt32.toInt32)), .unset, .unset, .unset, .unset] [(.int (6 : Int32))])) t
      refine XS.iload X0.here hx rfl (hb hby at_58) rfl ?_
      show Steps p.tables e below (s₁.setTop (mkF m 60 #[.val (.int q0), .val (.int q1), .val (.int q2), .val (.int (6 : Int32)), .val (.int ((q1 &&& (255 : Int32)).toUInt32.toUInt16.toUInt32.toInt32)), .val (.int ((((q1.toUInt32 >>> ((8 : Int32) &&& 31).toUInt32).toInt32) &&& (255 : Int32)).toUInt32.toUInt16.toUInt32.toInt32)), .val (.int ((((q1.toUInt32 >>> ((16 : Int32) &&& 31).toUInt32).toInt32) &&& (255 : Int32)).toUInt32.toUInt16.toUInt32.toInt32)), .val (.int ((((q1.toUInt32 >>> ((24 : Int32) &&& 31).toUInt32).toInt32) &&& (255 : Int32)).toUInt32.toUInt16.toUInt32.toInt32)), .val (.int ((q2 &&& (255 : Int32)).toUInt32.toUInt16.toUInt32.toInt32)), .unset, .unset, .unset, .unset] [(.int ((q1 &&& (255 : Int32)).toUInt32.toUInt16.toUInt32.toInt32)), (.int (6 : Int32))])) t
      refine XS.iload X0.here hx rfl (hb hby at_60) rfl ?_
      show Steps p.tables e below (s₁.setTop (mkF m 62 #[.val (.int q0), .val (.int q1), .val (.int q2), .val (.int (6 : Int32)), .val (.int ((q1 &&& (255 : Int32)).toUInt32.toUInt16.toUInt32.toInt32)), .val (.int ((((q1.toUInt32 >>> ((8 : Int32) &&& 31).toUInt32).toInt32) &&& (255 : Int32)).toUInt32.toUInt16.toUInt32.toInt32)), .val (.int ((((q1.toUInt32 >>> ((16 : Int32) &&& 31).toUInt32).toInt32) &&& (255 : Int32)).toUInt32.toUInt16.toUInt32.toInt32)), .val (.int ((((q1.toUInt32 >>> ((24 : Int32) &&& 31).toUInt32).toInt32) &&& (255 : Int32)).toUInt32.toUInt16.toUInt32.toInt32)), .val (.int ((q2 &&& (255 : Int32)).toUInt32.toUInt16.toUInt32.toInt32)), .unset, .unset, .unset, .unset] [(.int ((((q1.toUInt32 >>> ((8 : Int32) &&& 31).toUInt32).toInt32) &&& (255 : Int32)).toUInt32.toUInt16.toUInt32.toInt32)), (.int ((q1 &&& (255 : Int32)).toUInt32.toUInt16.toUInt32.toInt32)), (.int (6 : Int32))])) t
      refine XS.iload X0.here hx rfl (hb hby at_62) rfl ?_
      show Steps p.tables e below (s₁.setTop (mkF m 64 #[.val (.int q0), .val (.int q1), .val (.int q2), .val (.int (6 : Int32)), .val (.int ((q1 &&& (255 : Int32)).toUInt32.toUInt16.toUInt32.toInt32)), .val (.int ((((q1.toUInt32 >>> ((8 : Int32) &&& 31).toUInt32).toInt32) &&& (255 : Int32)).toUInt32.toUInt16.toUInt32.toInt32)), .val (.int ((((q1.toUInt32 >>> ((16 : Int32) &&& 31).toUInt32).toInt32) &&& (255 : Int32)).toUInt32.toUInt16.toUInt32.toInt32)), .val (.int ((((q1.toUInt32 >>> ((24 : Int32) &&& 31).toUInt32).toInt32) &&& (255 : Int32)).toUInt32.toUInt16.toUInt32.toInt32)), .val (.int ((q2 &&& (255 : Int32)).toUInt32.toUInt16.toUInt32.toInt32)), .unset, .unset, .unset, .unset] [(.int ((((q1.toUInt32 >>> ((16 : Int32) &&& 31).toUInt32).toInt32) &&& (255 : Int32)).toUInt32.toUInt16.toUInt32.toInt32)), (.int ((((q1.toUInt32 >>> ((8 : Int32) &&& 31).toUInt32).toInt32) &&& (255 : Int32)).toUInt32.toUInt16.toUInt32.toInt32)), (.int ((q1 &&& (255 : Int32)).toUInt32.toUInt16.toUInt32.toInt32)), (.int (6 : Int32))])) t
      refine XS.iload X0.here hx rfl (hb hby at_64) rfl ?_
      show Steps p.tables e below (s₁.setTop (mkF m 66 #[.val (.int q0), .val (.int q1), .val (.int q2), .val (.int (6 : Int32)), .val (.int ((q1 &&& (255 : Int32)).toUInt32.toUInt16.toUInt32.toInt32)), .val (.int ((((q1.toUInt32 >>> ((8 : Int32) &&& 31).toUInt32).toInt32) &&& (255 : Int32)).toUInt32.toUInt16.toUInt32.toInt32)), .val (.int ((((q1.toUInt32 >>> ((16 : Int32) &&& 31).toUInt32).toInt32) &&& (255 : Int32)).toUInt32.toUInt16.toUInt32.toInt32)), .val (.int ((((q1.toUInt32 >>> ((24 : Int32) &&& 31).toUInt32).toInt32) &&& (255 : Int32)).toUInt32.toUInt16.toUInt32.toInt32)), .val (.int ((q2 &&& (255 : Int32)).toUInt32.toUInt16.toUInt32.toInt32)), .unset, .unset, .unset, .unset] [(.int ((((q1.toUInt32 >>> ((24 : Int32) &&& 31).toUInt32).toInt32) &&& (255 : Int32)).toUInt32.toUInt16.toUInt32.toInt32)), (.int ((((q1.toUInt32 >>> ((16 : Int32) &&& 31).toUInt32).toInt32) &&& (255 : Int32)).toUInt32.toUInt16.toUInt32.toInt32)), (.int ((((q1.toUInt32 >>> ((8 : Int32) &&& 31).toUInt32).toInt32) &&& (255 : Int32)).toUInt32.toUInt16.toUInt32.toInt32)), (.int ((q1 &&& (255 : Int32)).toUInt32.toUInt16.toUInt32.toInt32)), (.int (6 : Int32))])) t
      refine XS.iload X0.here hx rfl (hb hby at_66) rfl ?_
      exact k
    refine OFinH.go sg163 ?_
    obtain ⟨_, _, ⟨T164, L164, k164, n164⟩, -, X164, hSn, hgn, ⟨Lc164, hQ164, l164, y164, z164, C164⟩, st164⟩ := callSS X0 hx (y := (⟨"com/example/avvik/avvik/io/XsdValuesIsTruePinLaw", "make", "(ICCCCC)Ljava/lang/String;"⟩ : MethodName)) hown (mvT hZ (hw _ (List.mem_of_getElem? (i := 1) rfl))) (mvT hZ (hw _ (List.mem_of_getElem? (i := 2) rfl))) (mvT hZ (hw _ (List.mem_of_getElem? (i := 3) rfl))) (mvT hZ (hw _ (List.mem_of_getElem? (i := 4) rfl))) (by decide) (own_back (W := 0) (sf := []) (rm1k6 l Z aZ hw hEL [] ((q1 &&& (255 : Int32)).toUInt32.toUInt16.toUInt32.toInt32) ((((q1.toUInt32 >>> ((8 : Int32) &&& 31).toUInt32).toInt32) &&& (255 : Int32)).toUInt32.toUInt16.toUInt32.toInt32) ((((q1.toUInt32 >>> ((16 : Int32) &&& 31).toUInt32).toInt32) &&& (255 : Int32)).toUInt32.toUInt16.toUInt32.toInt32) ((((q1.toUInt32 >>> ((24 : Int32) &&& 31).toUInt32).toInt32) &&& (255 : Int32)).toUInt32.toUInt16.toUInt32.toInt32) ((q2 &&& (255 : Int32)).toUInt32.toUInt16.toUInt32.toInt32) h0 n0 (Nat.le_trans Z0 K0.1) ) hZ (hw _ (List.mem_of_getElem? (i := 4) rfl)) (hw _ (List.mem_of_getElem? (i := 3) rfl)) (by decide) (by decide) hEL HC.1 all0 all0) (g := (mkF m 68 #[.val (.int q0), .val (.int q1), .val (.int q2), .val (.int (6 : Int32)), .val (.int ((q1 &&& (255 : Int32)).toUInt32.toUInt16.toUInt32.toInt32)), .val (.int ((((q1.toUInt32 >>> ((8 : Int32) &&& 31).toUInt32).toInt32) &&& (255 : Int32)).toUInt32.toUInt16.toUInt32.toInt32)), .val (.int ((((q1.toUInt32 >>> ((16 : Int32) &&& 31).toUInt32).toInt32) &&& (255 : Int32)).toUInt32.toUInt16.toUInt32.toInt32)), .val (.int ((((q1.toUInt32 >>> ((24 : Int32) &&& 31).toUInt32).toInt32) &&& (255 : Int32)).toUInt32.toUInt16.toUInt32.toInt32)), .val (.int ((q2 &&& (255 : Int32)).toUInt32.toUInt16.toUInt32.toInt32)), .unset, .unset, .unset, .unset] [(.int ((q2 &&& (255 : Int32)).toUInt32.toUInt16.toUInt32.toInt32)), (.int ((((q1.toUInt32 >>> ((24 : Int32) &&& 31).toUInt32).toInt32) &&& (255 : Int32)).toUInt32.toUInt16.toUInt32.toInt32)), (.int ((((q1.toUInt32 >>> ((16 : Int32) &&& 31).toUInt32).toInt32) &&& (255 : Int32)).toUInt32.toUInt16.toUInt32.toInt32)), (.int ((((q1.toUInt32 >>> ((8 : Int32) &&& 31).toUInt32).toInt32) &&& (255 : Int32)).toUInt32.toUInt16.toUInt32.toInt32)), (.int ((q1 &&& (255 : Int32)).toUInt32.toUInt16.toUInt32.toInt32)), (.int (6 : Int32))])) rfl (by rw [hml]; rfl) (argsL := [(.int (6 : Int32)), (.int ((q1 &&& (255 : Int32)).toUInt32.toUInt16.toUInt32.toInt32)), (.int ((((q1.toUInt32 >>> ((8 : Int32) &&& 31).toUInt32).toInt32) &&& (255 : Int32)).toUInt32.toUInt16.toUInt32.toInt32)), (.int ((((q1.toUInt32 >>> ((16 : Int32) &&& 31).toUInt32).toInt32) &&& (255 : Int32)).toUInt32.toUInt16.toUInt32.toInt32)), (.int ((((q1.toUInt32 >>> ((24 : Int32) &&& 31).toUInt32).toInt32) &&& (255 : Int32)).toUInt32.toUInt16.toUInt32.toInt32)), (.int ((q2 &&& (255 : Int32)).toUInt32.toUInt16.toUInt32.toInt32))]) (rest := []) (lenOf pd_3 rfl) rfl (by show 2 * 0 + _ ≤ _; exact Nat.le_of_eq rfl) (hb hby at_68) (fun _ _ => ⟨rfl, e0, (by decide : 0 + 0 ≤ _), (by decide : 0 + 0 ≤ _)⟩)
    dsimp only [Pt.U, Pt.locs, Pt.cells, Pt.slots] at X164 l164 y164 z164 st164 hQ164 hSn hgn C164
    have X164 : Stand p l e room_1 (s.setVm T164.vm) m #[(.int q0), (.int q1), (.int q2)] below meth c T164 L164 k164 n164 := X164
    have HC := HC.trans C164
    have hk164 := hk
    have hS := State.Since.trans hS hSn (Nat.le_trans hk164 (by rw [← e0]; exact hgn))
    have hk := Nat.le_refl T164.heap.size
    have hown : (s.setVm T164.vm).vm.findClass "com/example/avvik/avvik/io/XsdValuesIsTruePinLaw" = some m.cls := by rw [show (s.setVm T164.vm).vm = T164.vm from rfl, hSn.1.alike.findClass]; exact hown
    have hZ : Z.Warmed39 T164.vm := State.Warmed39.trans hZ hSn.1
    subst l164 y164 z164
    obtain ⟨rfl, N164q, Kq164⟩ := hQ164
    have N164 := Fr.app N0 N164q
    refine OFinH.tr st164 ?_
    have K164 : Keep h0 T164.heap [] := K0.trans Kq164 all0
    have sg165 : ∀ t, Steps p.tables e below (T164.setTop (mkF m 157 #[.val (.int q0), .val (.int q1), .val (.int q2), .val (.int (6 : Int32)), .val (.int ((q1 &&& (255 : Int32)).toUInt32.toUInt16.toUInt32.toInt32)), .val (.int ((((q1.toUInt32 >>> ((8 : Int32) &&& 31).toUInt32).toInt32) &&& (255 : Int32)).toUInt32.toUInt16.toUInt32.toInt32)), .val (.int ((((q1.toUInt32 >>> ((16 : Int32) &&& 31).toUInt32).toInt32) &&& (255 : Int32)).toUInt32.toUInt16.toUInt32.toInt32)), .val (.int ((((q1.toUInt32 >>> ((24 : Int32) &&& 31).toUInt32).toInt32) &&& (255 : Int32)).toUInt32.toUInt16.toUInt32.toInt32)), .val (.int ((q2 &&& (255 : Int32)).toUInt32.toUInt16.toUInt32.toInt32)), .val .null, .val (.int (0 : Int32)), .val (.int (0 : Int32)), .val (.int (0 : Int32))] [.null])) t → Steps p.tables e below (T164.setTop (mkF m 71 #[.val (.int q0), .val (.int q1), .val (.int q2), .val (.int (6 : Int32)), .val (.int ((q1 &&& (255 : Int32)).toUInt32.toUInt16.toUInt32.toInt32)), .val (.int ((((q1.toUInt32 >>> ((8 : Int32) &&& 31).toUInt32).toInt32) &&& (255 : Int32)).toUInt32.toUInt16.toUInt32.toInt32)), .val (.int ((((q1.toUInt32 >>> ((16 : Int32) &&& 31).toUInt32).toInt32) &&& (255 : Int32)).toUInt32.toUInt16.toUInt32.toInt32)), .val (.int ((((q1.toUInt32 >>> ((24 : Int32) &&& 31).toUInt32).toInt32) &&& (255 : Int32)).toUInt32.toUInt16.toUInt32.toInt32)), .val (.int ((q2 &&& (255 : Int32)).toUInt32.toUInt16.toUInt32.toInt32)), .unset, .unset, .unset, .unset] [.null])) t := by
      intro t k
      show Steps p.tables e below (T164.setTop (mkF m 71 #[.val (.int q0), .val (.int q1), .val (.int q2), .val (.int (6 : Int32)), .val (.int ((q1 &&& (255 : Int32)).toUInt32.toUInt16.toUInt32.toInt32)), .val (.int ((((q1.toUInt32 >>> ((8 : Int32) &&& 31).toUInt32).toInt32) &&& (255 : Int32)).toUInt32.toUInt16.toUInt32.toInt32)), .val (.int ((((q1.toUInt32 >>> ((16 : Int32) &&& 31).toUInt32).toInt32) &&& (255 : Int32)).toUInt32.toUInt16.toUInt32.toInt32)), .val (.int ((((q1.toUInt32 >>> ((24 : Int32) &&& 31).toUInt32).toInt32) &&& (255 : Int32)).toUInt32.toUInt16.toUInt32.toInt32)), .val (.int ((q2 &&& (255 : Int32)).toUInt32.toUInt16.toUInt32.toInt32)), .unset, .unset, .unset, .unset] [.null])) t
      refine XS.astore X164.here hx rfl (hb hby at_71) rfl rfl (l' := #[.val (.int q0), .val (.int q1), .val (.int q2), .val (.int (6 : Int32)), .val (.int ((q1 &&& (255 : Int32)).toUInt32.toUInt16.toUInt32.toInt32)), .val (.int ((((q1.toUInt32 >>> ((8 : Int32) &&& 31).toUInt32).toInt32) &&& (255 : Int32)).toUInt32.toUInt16.toUInt32.toInt32)), .val (.int ((((q1.toUInt32 >>> ((16 : Int32) &&& 31).toUInt32).toInt32) &&& (255 : Int32)).toUInt32.toUInt16.toUInt32.toInt32)), .val (.int ((((q1.toUInt32 >>> ((24 : Int32) &&& 31).toUInt32).toInt32) &&& (255 : Int32)).toUInt32.toUInt16.toUInt32.toInt32)), .val (.int ((q2 &&& (255 : Int32)).toUInt32.toUInt16.toUInt32.toInt32)), .val .null, .unset, .unset, .unset]) rfl ?_
      show Steps p.tables e below (T164.setTop (mkF m 73 #[.val (.int q0), .val (.int q1), .val (.int q2), .val (.int (6 : Int32)), .val (.int ((q1 &&& (255 : Int32)).toUInt32.toUInt16.toUInt32.toInt32)), .val (.int ((((q1.toUInt32 >>> ((8 : Int32) &&& 31).toUInt32).toInt32) &&& (255 : Int32)).toUInt32.toUInt16.toUInt32.toInt32)), .val (.int ((((q1.toUInt32 >>> ((16 : Int32) &&& 31).toUInt32).toInt32) &&& (255 : Int32)).toUInt32.toUInt16.toUInt32.toInt32)), .val (.int ((((q1.toUInt32 >>> ((24 : Int32) &&& 31).toUInt32).toInt32) &&& (255 : Int32)).toUInt32.toUInt16.toUInt32.toInt32)), .val (.int ((q2 &&& (255 : Int32)).toUInt32.toUInt16.toUInt32.toInt32)), .val .null, .unset, .unset, .unset] [])) t
      refine XS.iloadN X164.here hx rfl (hb hby at_73) rfl ?_
      show Steps p.tables e below (T164.setTop (mkF m 74 #[.val (.int q0), .val (.int q1), .val (.int q2), .val (.int (6 : Int32)), .val (.int ((q1 &&& (255 : Int32)).toUInt32.toUInt16.toUInt32.toInt32)), .val (.int ((((q1.toUInt32 >>> ((8 : Int32) &&& 31).toUInt32).toInt32) &&& (255 : Int32)).toUInt32.toUInt16.toUInt32.toInt32)), .val (.int ((((q1.toUInt32 >>> ((16 : Int32) &&& 31).toUInt32).toInt32) &&& (255 : Int32)).toUInt32.toUInt16.toUInt32.toInt32)), .val (.int ((((q1.toUInt32 >>> ((24 : Int32) &&& 31).toUInt32).toInt32) &&& (255 : Int32)).toUInt32.toUInt16.toUInt32.toInt32)), .val (.int ((q2 &&& (255 : Int32)).toUInt32.toUInt16.toUInt32.toInt32)), .val .null, .unset, .unset, .unset] [(.int (6 : Int32))])) t
      refine XS.iconst X164.here hx rfl (hb hby at_74) ?_
      show Steps p.tables e below (T164.setTop (mkF m 75 #[.val (.int q0), .val (.int q1), .val (.int q2), .val (.int (6 : Int32)), .val (.int ((q1 &&& (255 : Int32)).toUInt32.toUInt16.toUInt32.toInt32)), .val (.int ((((q1.toUInt32 >>> ((8 : Int32) &&& 31).toUInt32).toInt32) &&& (255 : Int32)).toUInt32.toUInt16.toUInt32.toInt32)), .val (.int ((((q1.toUInt32 >>> ((16 : Int32) &&& 31).toUInt32).toInt32) &&& (255 : Int32)).toUInt32.toUInt16.toUInt32.toInt32)), .val (.int ((((q1.toUInt32 >>> ((24 : Int32) &&& 31).toUInt32).toInt32) &&& (255 : Int32)).toUInt32.toUInt16.toUInt32.toInt32)), .val (.int ((q2 &&& (255 : Int32)).toUInt32.toUInt16.toUInt32.toInt32)), .val .null, .unset, .unset, .unset] [(.int (4 : Int32)), (.int (6 : Int32))])) t
      refine XS.icmpYes X164.here hx rfl (pc0 := 75) (pc' := 110) rfl (hb hby at_75) rfl (feq (by decide : ¬ ((6 : Int32) = (4 : Int32)))).2 (by decide) (by decide) ?_
      show Steps p.tables e below (T164.setTop (mkF m 110 #[.val (.int q0), .val (.int q1), .val (.int q2), .val (.int (6 : Int32)), .val (.int ((q1 &&& (255 : Int32)).toUInt32.toUInt16.toUInt32.toInt32)), .val (.int ((((q1.toUInt32 >>> ((8 : Int32) &&& 31).toUInt32).toInt32) &&& (255 : Int32)).toUInt32.toUInt16.toUInt32.toInt32)), .val (.int ((((q1.toUInt32 >>> ((16 : Int32) &&& 31).toUInt32).toInt32) &&& (255 : Int32)).toUInt32.toUInt16.toUInt32.toInt32)), .val (.int ((((q1.toUInt32 >>> ((24 : Int32) &&& 31).toUInt32).toInt32) &&& (255 : Int32)).toUInt32.toUInt16.toUInt32.toInt32)), .val (.int ((q2 &&& (255 : Int32)).toUInt32.toUInt16.toUInt32.toInt32)), .val .null, .unset, .unset, .unset] [])) t
      refine XS.iconst X164.here hx rfl (hb hby at_110) ?_
      show Steps p.tables e below (T164.setTop (mkF m 111 #[.val (.int q0), .val (.int q1), .val (.int q2), .val (.int (6 : Int32)), .val (.int ((q1 &&& (255 : Int32)).toUInt32.toUInt16.toUInt32.toInt32)), .val (.int ((((q1.toUInt32 >>> ((8 : Int32) &&& 31).toUInt32).toInt32) &&& (255 : Int32)).toUInt32.toUInt16.toUInt32.toInt32)), .val (.int ((((q1.toUInt32 >>> ((16 : Int32) &&& 31).toUInt32).toInt32) &&& (255 : Int32)).toUInt32.toUInt16.toUInt32.toInt32)), .val (.int ((((q1.toUInt32 >>> ((24 : Int32) &&& 31).toUInt32).toInt32) &&& (255 : Int32)).toUInt32.toUInt16.toUInt32.toInt32)), .val (.int ((q2 &&& (255 : Int32)).toUInt32.toUInt16.toUInt32.toInt32)), .val .null, .unset, .unset, .unset] [(.int (0 : Int32))])) t
      refine XS.istore X164.here hx rfl (hb hby at_111) rfl (l' := #[.val (.int q0), .val (.int q1), .val (.int q2), .val (.int (6 : Int32)), .val (.int ((q1 &&& (255 : Int32)).toUInt32.toUInt16.toUInt32.toInt32)), .val (.int ((((q1.toUInt32 >>> ((8 : Int32) &&& 31).toUInt32).toInt32) &&& (255 : Int32)).toUInt32.toUInt16.toUInt32.toInt32)), .val (.int ((((q1.toUInt32 >>> ((16 : Int32) &&& 31).toUInt32).toInt32) &&& (255 : Int32)).toUInt32.toUInt16.toUInt32.toInt32)), .val (.int ((((q1.toUInt32 >>> ((24 : Int32) &&& 31).toUInt32).toInt32) &&& (255 : Int32)).toUInt32.toUInt16.toUInt32.toInt32)), .val (.int ((q2 &&& (255 : Int32)).toUInt32.toUInt16.toUInt32.toInt32)), .val .null, .val (.int (0 : Int32)), .unset, .unset]) rfl ?_
      show Steps p.tables e below (T164.setTop (mkF m 113 #[.val (.int q0), .val (.int q1), .val (.int q2), .val (.int (6 : Int32)), .val (.int ((q1 &&& (255 : Int32)).toUInt32.toUInt16.toUInt32.toInt32)), .val (.int ((((q1.toUInt32 >>> ((8 : Int32) &&& 31).toUInt32).toInt32) &&& (255 : Int32)).toUInt32.toUInt16.toUInt32.toInt32)), .val (.int ((((q1.toUInt32 >>> ((16 : Int32) &&& 31).toUInt32).toInt32) &&& (255 : Int32)).toUInt32.toUInt16.toUInt32.toInt32)), .val (.int ((((q1.toUInt32 >>> ((24 : Int32) &&& 31).toUInt32).toInt32) &&& (255 : Int32)).toUInt32.toUInt16.toUInt32.toInt32)), .val (.int ((q2 &&& (255 : Int32)).toUInt32.toUInt16.toUInt32.toInt32)), .val .null, .val (.int (0 : Int32)), .unset, .unset] [])) t
      refine XS.iloadN X164.here hx rfl (hb hby at_113) rfl ?_
      show Steps p.tables e below (T164.setTop (mkF m 114 #[.val (.int q0), .val (.int q1), .val (.int q2), .val (.int (6 : Int32)), .val (.int ((q1 &&& (255 : Int32)).toUInt32.toUInt16.toUInt32.toInt32)), .val (.int ((((q1.toUInt32 >>> ((8 : Int32) &&& 31).toUInt32).toInt32) &&& (255 : Int32)).toUInt32.toUInt16.toUInt32.toInt32)), .val (.int ((((q1.toUInt32 >>> ((16 : Int32) &&& 31).toUInt32).toInt32) &&& (255 : Int32)).toUInt32.toUInt16.toUInt32.toInt32)), .val (.int ((((q1.toUInt32 >>> ((24 : Int32) &&& 31).toUInt32).toInt32) &&& (255 : Int32)).toUInt32.toUInt16.toUInt32.toInt32)), .val (.int ((q2 &&& (255 : Int32)).toUInt32.toUInt16.toUInt32.toInt32)), .val .null, .val (.int (0 : Int32)), .unset, .unset] [(.int (6 : Int32))])) t
      refine XS.iconst X164.here hx rfl (hb hby at_114) ?_
      show Steps p.tables e below (T164.setTop (mkF m 115 #[.val (.int q0), .val (.int q1), .val (.int q2), .val (.int (6 : Int32)), .val (.int ((q1 &&& (255 : Int32)).toUInt32.toUInt16.toUInt32.toInt32)), .val (.int ((((q1.toUInt32 >>> ((8 : Int32) &&& 31).toUInt32).toInt32) &&& (255 : Int32)).toUInt32.toUInt16.toUInt32.toInt32)), .val (.int ((((q1.toUInt32 >>> ((16 : Int32) &&& 31).toUInt32).toInt32) &&& (255 : Int32)).toUInt32.toUInt16.toUInt32.toInt32)), .val (.int ((((q1.toUInt32 >>> ((24 : Int32) &&& 31).toUInt32).toInt32) &&& (255 : Int32)).toUInt32.toUInt16.toUInt32.toInt32)), .val (.int ((q2 &&& (255 : Int32)).toUInt32.toUInt16.toUInt32.toInt32)), .val .null, .val (.int (0 : Int32)), .unset, .unset] [(.int (1 : Int32)), (.int (6 : Int32))])) t
      refine XS.icmpYes X164.here hx rfl (pc0 := 115) (pc' := 129) rfl (hb hby at_115) rfl (feq (by decide : ¬ ((6 : Int32) = (1 : Int32)))).2 (by decide) (by decide) ?_
      show Steps p.tables e below (T164.setTop (mkF m 129 #[.val (.int q0), .val (.int q1), .val (.int q2), .val (.int (6 : Int32)), .val (.int ((q1 &&& (255 : Int32)).toUInt32.toUInt16.toUInt32.toInt32)), .val (.int ((((q1.toUInt32 >>> ((8 : Int32) &&& 31).toUInt32).toInt32) &&& (255 : Int32)).toUInt32.toUInt16.toUInt32.toInt32)), .val (.int ((((q1.toUInt32 >>> ((16 : Int32) &&& 31).toUInt32).toInt32) &&& (255 : Int32)).toUInt32.toUInt16.toUInt32.toInt32)), .val (.int ((((q1.toUInt32 >>> ((24 : Int32) &&& 31).toUInt32).toInt32) &&& (255 : Int32)).toUInt32.toUInt16.toUInt32.toInt32)), .val (.int ((q2 &&& (255 : Int32)).toUInt32.toUInt16.toUInt32.toInt32)), .val .null, .val (.int (0 : Int32)), .unset, .unset] [])) t
      refine XS.iconst X164.here hx rfl (hb hby at_129) ?_
      show Steps p.tables e below (T164.setTop (mkF m 130 #[.val (.int q0), .val (.int q1), .val (.int q2), .val (.int (6 : Int32)), .val (.int ((q1 &&& (255 : Int32)).toUInt32.toUInt16.toUInt32.toInt32)), .val (.int ((((q1.toUInt32 >>> ((8 : Int32) &&& 31).toUInt32).toInt32) &&& (255 : Int32)).toUInt32.toUInt16.toUInt32.toInt32)), .val (.int ((((q1.toUInt32 >>> ((16 : Int32) &&& 31).toUInt32).toInt32) &&& (255 : Int32)).toUInt32.toUInt16.toUInt32.toInt32)), .val (.int ((((q1.toUInt32 >>> ((24 : Int32) &&& 31).toUInt32).toInt32) &&& (255 : Int32)).toUInt32.toUInt16.toUInt32.toInt32)), .val (.int ((q2 &&& (255 : Int32)).toUInt32.toUInt16.toUInt32.toInt32)), .val .null, .val (.int (0 : Int32)), .unset, .unset] [(.int (0 : Int32))])) t
      refine XS.istore X164.here hx rfl (hb hby at_130) rfl (l' := #[.val (.int q0), .val (.int q1), .val (.int q2), .val (.int (6 : Int32)), .val (.int ((q1 &&& (255 : Int32)).toUInt32.toUInt16.toUInt32.toInt32)), .val (.int ((((q1.toUInt32 >>> ((8 : Int32) &&& 31).toUInt32).toInt32) &&& (255 : Int32)).toUInt32.toUInt16.toUInt32.toInt32)), .val (.int ((((q1.toUInt32 >>> ((16 : Int32) &&& 31).toUInt32).toInt32) &&& (255 : Int32)).toUInt32.toUInt16.toUInt32.toInt32)), .val (.int ((((q1.toUInt32 >>> ((24 : Int32) &&& 31).toUInt32).toInt32) &&& (255 : Int32)).toUInt32.toUInt16.toUInt32.toInt32)), .val (.int ((q2 &&& (255 : Int32)).toUInt32.toUInt16.toUInt32.toInt32)), .val .null, .val (.int (0 : Int32)), .val (.int (0 : Int32)), .unset]) rfl ?_
      show Steps p.tables e below (T164.setTop (mkF m 132 #[.val (.int q0), .val (.int q1), .val (.int q2), .val (.int (6 : Int32)), .val (.int ((q1 &&& (255 : Int32)).toUInt32.toUInt16.toUInt32.toInt32)), .val (.int ((((q1.toUInt32 >>> ((8 : Int32) &&& 31).toUInt32).toInt32) &&& (255 : Int32)).toUInt32.toUInt16.toUInt32.toInt32)), .val (.int ((((q1.toUInt32 >>> ((16 : Int32) &&& 31).toUInt32).toInt32) &&& (255 : Int32)).toUInt32.toUInt16.toUInt32.toInt32)), .val (.int ((((q1.toUInt32 >>> ((24 : Int32) &&& 31).toUInt32).toInt32) &&& (255 : Int32)).toUInt32.toUInt16.toUInt32.toInt32)), .val (.int ((q2 &&& (255 : Int32)).toUInt32.toUInt16.toUInt32.toInt32)), .val .null, .val (.int (0 : Int32)), .val (.int (0 : Int32)), .unset] [])) t
      refine XS.iloadN X164.here hx rfl (hb hby at_132) rfl ?_
      show Steps p.tables e below (T164.setTop (mkF m 133 #[.val (.int q0), .val (.int q1), .val (.int q2), .val (.int (6 : Int32)), .val (.int ((q1 &&& (255 : Int32)).toUInt32.toUInt16.toUInt32.toInt32)), .val (.int ((((q1.toUInt32 >>> ((8 : Int32) &&& 31).toUInt32).toInt32) &&& (255 : Int32)).toUInt32.toUInt16.toUInt32.toInt32)), .val (.int ((((q1.toUInt32 >>> ((16 : Int32) &&& 31).toUInt32).toInt32) &&& (255 : Int32)).toUInt32.toUInt16.toUInt32.toInt32)), .val (.int ((((q1.toUInt32 >>> ((24 : Int32) &&& 31).toUInt32).toInt32) &&& (255 : Int32)).toUInt32.toUInt16.toUInt32.toInt32)), .val (.int ((q2 &&& (255 : Int32)).toUInt32.toUInt16.toUInt32.toInt32)), .val .null, .val (.int (0 : Int32)), .val (.int (0 : Int32)), .unset] [(.int (6 : Int32))])) t
      refine XS.bipush X164.here hx rfl (hb hby at_133) ?_
      show Steps p.tables e below (T164.setTop (mkF m 135 #[.val (.int q0), .val (.int q1), .val (.int q2), .val (.int (6 : Int32)), .val (.int ((q1 &&& (255 : Int32)).toUInt32.toUInt16.toUInt32.toInt32)), .val (.int ((((q1.toUInt32 >>> ((8 : Int32) &&& 31).toUInt32).toInt32) &&& (255 : Int32)).toUInt32.toUInt16.toUInt32.toInt32)), .val (.int ((((q1.toUInt32 >>> ((16 : Int32) &&& 31).toUInt32).toInt32) &&& (255 : Int32)).toUInt32.toUInt16.toUInt32.toInt32)), .val (.int ((((q1.toUInt32 >>> ((24 : Int32) &&& 31).toUInt32).toInt32) &&& (255 : Int32)).toUInt32.toUInt16.toUInt32.toInt32)), .val (.int ((q2 &&& (255 : Int32)).toUInt32.toUInt16.toUInt32.toInt32)), .val .null, .val (.int (0 : Int32)), .val (.int (0 : Int32)), .unset] [(.int (6 : Int32)), (.int (6 : Int32))])) t
      refine XS.icmpYes X164.here hx rfl (pc0 := 135) (pc' := 152) rfl (hb hby at_135) rfl (teq (by decide : (6 : Int32) = (6 : Int32))).1 (by decide) (by decide) ?_
      show Steps p.tables e below (T164.setTop (mkF m 152 #[.val (.int q0), .val (.int q1), .val (.int q2), .val (.int (6 : Int32)), .val (.int ((q1 &&& (255 : Int32)).toUInt32.toUInt16.toUInt32.toInt32)), .val (.int ((((q1.toUInt32 >>> ((8 : Int32) &&& 31).toUInt32).toInt32) &&& (255 : Int32)).toUInt32.toUInt16.toUInt32.toInt32)), .val (.int ((((q1.toUInt32 >>> ((16 : Int32) &&& 31).toUInt32).toInt32) &&& (255 : Int32)).toUInt32.toUInt16.toUInt32.toInt32)), .val (.int ((((q1.toUInt32 >>> ((24 : Int32) &&& 31).toUInt32).toInt32) &&& (255 : Int32)).toUInt32.toUInt16.toUInt32.toInt32)), .val (.int ((q2 &&& (255 : Int32)).toUInt32.toUInt16.toUInt32.toInt32)), .val .null, .val (.int (0 : Int32)), .val (.int (0 : Int32)), .unset] [])) t
      refine XS.iconst X164.here hx rfl (hb hby at_152) ?_
      show Steps p.tables e below (T164.setTop (mkF m 153 #[.val (.int q0), .val (.int q1), .val (.int q2), .val (.int (6 : Int32)), .val (.int ((q1 &&& (255 : Int32)).toUInt32.toUInt16.toUInt32.toInt32)), .val (.int ((((q1.toUInt32 >>> ((8 : Int32) &&& 31).toUInt32).toInt32) &&& (255 : Int32)).toUInt32.toUInt16.toUInt32.toInt32)), .val (.int ((((q1.toUInt32 >>> ((16 : Int32) &&& 31).toUInt32).toInt32) &&& (255 : Int32)).toUInt32.toUInt16.toUInt32.toInt32)), .val (.int ((((q1.toUInt32 >>> ((24 : Int32) &&& 31).toUInt32).toInt32) &&& (255 : Int32)).toUInt32.toUInt16.toUInt32.toInt32)), .val (.int ((q2 &&& (255 : Int32)).toUInt32.toUInt16.toUInt32.toInt32)), .val .null, .val (.int (0 : Int32)), .val (.int (0 : Int32)), .unset] [(.int (0 : Int32))])) t
      refine XS.istore X164.here hx rfl (hb hby at_153) rfl (l' := #[.val (.int q0), .val (.int q1), .val (.int q2), .val (.int (6 : Int32)), .val (.int ((q1 &&& (255 : Int32)).toUInt32.toUInt16.toUInt32.toInt32)), .val (.int ((((q1.toUInt32 >>> ((8 : Int32) &&& 31).toUInt32).toInt32) &&& (255 : Int32)).toUInt32.toUInt16.toUInt32.toInt32)), .val (.int ((((q1.toUInt32 >>> ((16 : Int32) &&& 31).toUInt32).toInt32) &&& (255 : Int32)).toUInt32.toUInt16.toUInt32.toInt32)), .val (.int ((((q1.toUInt32 >>> ((24 : Int32) &&& 31).toUInt32).toInt32) &&& (255 : Int32)).toUInt32.toUInt16.toUInt32.toInt32)), .val (.int ((q2 &&& (255 : Int32)).toUInt32.toUInt16.toUInt32.toInt32)), .val .null, .val (.int (0 : Int32)), .val (.int (0 : Int32)), .val (.int (0 : Int32))]) rfl ?_
      show Steps p.tables e below (T164.setTop (mkF m 155 #[.val (.int q0), .val (.int q1), .val (.int q2), .val (.int (6 : Int32)), .val (.int ((q1 &&& (255 : Int32)).toUInt32.toUInt16.toUInt32.toInt32)), .val (.int ((((q1.toUInt32 >>> ((8 : Int32) &&& 31).toUInt32).toInt32) &&& (255 : Int32)).toUInt32.toUInt16.toUInt32.toInt32)), .val (.int ((((q1.toUInt32 >>> ((16 : Int32) &&& 31).toUInt32).toInt32) &&& (255 : Int32)).toUInt32.toUInt16.toUInt32.toInt32)), .val (.int ((((q1.toUInt32 >>> ((24 : Int32) &&& 31).toUInt32).toInt32) &&& (255 : Int32)).toUInt32.toUInt16.toUInt32.toInt32)), .val (.int ((q2 &&& (255 : Int32)).toUInt32.toUInt16.toUInt32.toInt32)), .val .null, .val (.int (0 : Int32)), .val (.int (0 : Int32)), .val (.int (0 : Int32))] [])) t
      refine XS.aload X164.here hx rfl (hb hby at_155) rfl rfl ?_
      exact k
    refine OFinH.go sg165 ?_
    obtain ⟨_, _, ⟨T166, L166, k166, n166⟩, -, X166, hSn, hgn, ⟨Lc166, hQ166, l166, y166, z166, C166⟩, st166⟩ := callSS X164 hx (y := (⟨"com/example/avvik/avvik/io/XsdValues", "isTrue", "(Ljava/lang/String;)Z"⟩ : MethodName)) hown (mvT hZ (hw _ (List.mem_of_getElem? (i := 27) rfl))) (mvT hZ (hw _ (List.mem_of_getElem? (i := 28) rfl))) (mvT hZ (hw _ (List.mem_of_getElem? (i := 29) rfl))) (mvT hZ (hw _ (List.mem_of_getElem? (i := 30) rfl))) (by decide) (own_back (W := 0) (sf := []) (rm5n l Z aZ hw hEL []  T164.heap n0 (Nat.le_trans Z0 K164.1) ) hZ (hw _ (List.mem_of_getElem? (i := 30) rfl)) (hw _ (List.mem_of_getElem? (i := 29) rfl)) (by decide) (by decide) hEL HC.1 all0 all0) (g := (mkF m 157 #[.val (.int q0), .val (.int q1), .val (.int q2), .val (.int (6 : Int32)), .val (.int ((q1 &&& (255 : Int32)).toUInt32.toUInt16.toUInt32.toInt32)), .val (.int ((((q1.toUInt32 >>> ((8 : Int32) &&& 31).toUInt32).toInt32) &&& (255 : Int32)).toUInt32.toUInt16.toUInt32.toInt32)), .val (.int ((((q1.toUInt32 >>> ((16 : Int32) &&& 31).toUInt32).toInt32) &&& (255 : Int32)).toUInt32.toUInt16.toUInt32.toInt32)), .val (.int ((((q1.toUInt32 >>> ((24 : Int32) &&& 31).toUInt32).toInt32) &&& (255 : Int32)).toUInt32.toUInt16.toUInt32.toInt32)), .val (.int ((q2 &&& (255 : Int32)).toUInt32.toUInt16.toUInt32.toInt32)), .val .null, .val (.int (0 : Int32)), .val (.int (0 : Int32)), .val (.int (0 : Int32))] [.null])) rfl (by rw [hml]; rfl) (argsL := [.null]) (rest := []) (lenOf pd_4 rfl) rfl (by show 2 * 0 + _ ≤ _; exact Nat.le_of_eq rfl) (hb hby at_157) (fun _ _ => ⟨rfl, rfl, (by decide : 0 + 4 ≤ _), (by decide : 0 + 28 ≤ _)⟩)
    dsimp only [Pt.U, Pt.locs, Pt.cells, Pt.slots] at X166 l166 y166 z166 st166 hQ166 hSn hgn C166
    have X166 : Stand p l e room_1 (s.setVm T166.vm) m #[(.int q0), (.int q1), (.int q2)] below meth c T166 L166 k166 n166 := X166
    have HC := HC.trans C166
    have hk166 := hk
    have hS := State.Since.trans hS hSn (Nat.le_trans hk166 hgn)
    have hk := Nat.le_refl T166.heap.size
    have hown : (s.setVm T166.vm).vm.findClass "com/example/avvik/avvik/io/XsdValuesIsTruePinLaw" = some m.cls := by rw [show (s.setVm T166.vm).vm = T166.vm from rfl, hSn.1.alike.findClass]; exact hown
    have hZ : Z.Warmed39 T166.vm := State.Warmed39.trans hZ hSn.1
    subst l166 y166 z166
    obtain ⟨rfl, N166q, Kq166⟩ := hQ166
    have N166 := Fr.app N164 N166q
    refine OFinH.tr st166 ?_
    have K166 : Keep h0 T166.heap [] := K164.trans Kq166 all0
    have sg167 : ∀ t, Steps p.tables e below (T166.setTop (mkF m 170 #[.val (.int q0), .val (.int q1), .val (.int q2), .val (.int (6 : Int32)), .val (.int ((q1 &&& (255 : Int32)).toUInt32.toUInt16.toUInt32.toInt32)), .val (.int ((((q1.toUInt32 >>> ((8 : Int32) &&& 31).toUInt32).toInt32) &&& (255 : Int32)).toUInt32.toUInt16.toUInt32.toInt32)), .val (.int ((((q1.toUInt32 >>> ((16 : Int32) &&& 31).toUInt32).toInt32) &&& (255 : Int32)).toUInt32.toUInt16.toUInt32.toInt32)), .val (.int ((((q1.toUInt32 >>> ((24 : Int32) &&& 31).toUInt32).toInt32) &&& (255 : Int32)).toUInt32.toUInt16.toUInt32.toInt32)), .val (.int ((q2 &&& (255 : Int32)).toUInt32.toUInt16.toUInt32.toInt32)), .val .null, .val (.int (0 : Int32)), .val (.int (0 : Int32)), .val (.int (0 : Int32))] [(.int (1 : Int32))])) t → Steps p.tables e below (T166.setTop (mkF m 160 #[.val (.int q0), .val (.int q1), .val (.int q2), .val (.int (6 : Int32)), .val (.int ((q1 &&& (255 : Int32)).toUInt32.toUInt16.toUInt32.toInt32)), .val (.int ((((q1.toUInt32 >>> ((8 : Int32) &&& 31).toUInt32).toInt32) &&& (255 : Int32)).toUInt32.toUInt16.toUInt32.toInt32)), .val (.int ((((q1.toUInt32 >>> ((16 : Int32) &&& 31).toUInt32).toInt32) &&& (255 : Int32)).toUInt32.toUInt16.toUInt32.toInt32)), .val (.int ((((q1.toUInt32 >>> ((24 : Int32) &&& 31).toUInt32).toInt32) &&& (255 : Int32)).toUInt32.toUInt16.toUInt32.toInt32)), .val (.int ((q2 &&& (255 : Int32)).toUInt32.toUInt16.toUInt32.toInt32)), .val .null, .val (.int (0 : Int32)), .val (.int (0 : Int32)), .val (.int (0 : Int32))] [(.int (0 : Int32))])) t := by
      intro t k
      show Steps p.tables e below (T166.setTop (mkF m 160 #[.val (.int q0), .val (.int q1), .val (.int q2), .val (.int (6 : Int32)), .val (.int ((q1 &&& (255 : Int32)).toUInt32.toUInt16.toUInt32.toInt32)), .val (.int ((((q1.toUInt32 >>> ((8 : Int32) &&& 31).toUInt32).toInt32) &&& (255 : Int32)).toUInt32.toUInt16.toUInt32.toInt32)), .val (.int ((((q1.toUInt32 >>> ((16 : Int32) &&& 31).toUInt32).toInt32) &&& (255 : Int32)).toUInt32.toUInt16.toUInt32.toInt32)), .val (.int ((((q1.toUInt32 >>> ((24 : Int32) &&& 31).toUInt32).toInt32) &&& (255 : Int32)).toUInt32.toUInt16.toUInt32.toInt32)), .val (.int ((q2 &&& (255 : Int32)).toUInt32.toUInt16.toUInt32.toInt32)), .val .null, .val (.int (0 : Int32)), .val (.int (0 : Int32)), .val (.int (0 : Int32))] [(.int (0 : Int32))])) t
      refine XS.iload X166.here hx rfl (hb hby at_160) rfl ?_
      show Steps p.tables e below (T166.setTop (mkF m 162 #[.val (.int q0), .val (.int q1), .val (.int q2), .val (.int (6 : Int32)), .val (.int ((q1 &&& (255 : Int32)).toUInt32.toUInt16.toUInt32.toInt32)), .val (.int ((((q1.toUInt32 >>> ((8 : Int32) &&& 31).toUInt32).toInt32) &&& (255 : Int32)).toUInt32.toUInt16.toUInt32.toInt32)), .val (.int ((((q1.toUInt32 >>> ((16 : Int32) &&& 31).toUInt32).toInt32) &&& (255 : Int32)).toUInt32.toUInt16.toUInt32.toInt32)), .val (.int ((((q1.toUInt32 >>> ((24 : Int32) &&& 31).toUInt32).toInt32) &&& (255 : Int32)).toUInt32.toUInt16.toUInt32.toInt32)), .val (.int ((q2 &&& (255 : Int32)).toUInt32.toUInt16.toUInt32.toInt32)), .val .null, .val (.int (0 : Int32)), .val (.int (0 : Int32)), .val (.int (0 : Int32))] [(.int (0 : Int32)), (.int (0 : Int32))])) t
      refine XS.icmpNo X166.here hx rfl (hb hby at_162) rfl (teq (by decide : (0 : Int32) = (0 : Int32))).2 ?_
      show Steps p.tables e below (T166.setTop (mkF m 165 #[.val (.int q0), .val (.int q1), .val (.int q2), .val (.int (6 : Int32)), .val (.int ((q1 &&& (255 : Int32)).toUInt32.toUInt16.toUInt32.toInt32)), .val (.int ((((q1.toUInt32 >>> ((8 : Int32) &&& 31).toUInt32).toInt32) &&& (255 : Int32)).toUInt32.toUInt16.toUInt32.toInt32)), .val (.int ((((q1.toUInt32 >>> ((16 : Int32) &&& 31).toUInt32).toInt32) &&& (255 : Int32)).toUInt32.toUInt16.toUInt32.toInt32)), .val (.int ((((q1.toUInt32 >>> ((24 : Int32) &&& 31).toUInt32).toInt32) &&& (255 : Int32)).toUInt32.toUInt16.toUInt32.toInt32)), .val (.int ((q2 &&& (255 : Int32)).toUInt32.toUInt16.toUInt32.toInt32)), .val .null, .val (.int (0 : Int32)), .val (.int (0 : Int32)), .val (.int (0 : Int32))] [])) t
      refine XS.iconst X166.here hx rfl (hb hby at_165) ?_
      show Steps p.tables e below (T166.setTop (mkF m 166 #[.val (.int q0), .val (.int q1), .val (.int q2), .val (.int (6 : Int32)), .val (.int ((q1 &&& (255 : Int32)).toUInt32.toUInt16.toUInt32.toInt32)), .val (.int ((((q1.toUInt32 >>> ((8 : Int32) &&& 31).toUInt32).toInt32) &&& (255 : Int32)).toUInt32.toUInt16.toUInt32.toInt32)), .val (.int ((((q1.toUInt32 >>> ((16 : Int32) &&& 31).toUInt32).toInt32) &&& (255 : Int32)).toUInt32.toUInt16.toUInt32.toInt32)), .val (.int ((((q1.toUInt32 >>> ((24 : Int32) &&& 31).toUInt32).toInt32) &&& (255 : Int32)).toUInt32.toUInt16.toUInt32.toInt32)), .val (.int ((q2 &&& (255 : Int32)).toUInt32.toUInt16.toUInt32.toInt32)), .val .null, .val (.int (0 : Int32)), .val (.int (0 : Int32)), .val (.int (0 : Int32))] [(.int (1 : Int32))])) t
      refine XS.goto X166.here hx rfl (pc0 := 166) (pc' := 170) rfl (hb hby at_166) (by decide) (by decide) ?_
      exact k
    refine OFinH.go sg167 ?_
    exact OFinH.retN X166 hS hk hZ hEL rfl HC hx hret (by simp) hlk (hb hby at_170) rfl ⟨rfl, N166⟩ (by decide) (by decide)
set_option maxHeartbeats 40000000 in
theorem comes_1 {Post : Tables → Env → Array Value → State → Outcome → State → Prop} (hpost : ∀ tb e args s v u, (limb_1_1.after args s (.returned v) u = true ∧ limb_1_2.after args s (.returned v) u = true ∧ True) → ReturnedEndW s (.returned v) u (Jvm.fieldLocs frame_1_writes args s ++ Jvm.arrayLocs frame_1_arrays args s ++ Jvm.staticLocs frame_1_statics s) 24 3200 → Post tb e args s (.returned v) u) :
    ArmFor flags0 classFile x code maxLocals ret World_1 tables_1 room_1 Calls_1 rest_1 Pre_1 Post := by
  intro l hfl _ _ p e ha hc hk s m args below hf hA hF happ hP
  obtain ⟨hcalls, hrest, hpre⟩ := hP
  obtain ⟨-, -, -, hnamed, -, -, -, hat⟩ := (Spec.applies_iff hf).mp happ
  obtain ⟨hg, hn⟩ := and_e (Cond.before_iff.mp (show (Jvm.Cond.and given_1 narrow_1).before args s = true from hpre))
  obtain ⟨gg1, gg2⟩ := and_e hg
  obtain ⟨gg3, gg4⟩ := and_e gg2
  obtain ⟨gg5, gg6⟩ := and_e gg4
  obtain ⟨w0, w1, w2, rfl⟩ : ∃ w0 w1 w2 : Value, args = #[w0, w1, w2] := by
    have hs : args.size = 3 := by simpa [Cond.value, given_1] using gg1
    obtain ⟨L⟩ := args
    match L, hs with
    | [w0, w1, w2], _ => exact ⟨w0, w1, w2, rfl⟩
  have hw := fun d (hd : d ∈ tables_1) => atoms_spec (ws := Jvm.Cond.code x code maxLocals ret :: tables_1) hat d (List.mem_cons_of_mem _ hd)
  have hfit : Fit s := fun {y c} hc i hi => by
    obtain ⟨ha, rfl⟩ := Array.getElem?_eq_some_iff.mp hc
    have q := List.all_eq_true.mp ((Array.all_eq_true_iff_forall_mem.mp hF) _ (Array.getElem_mem ha)) i (List.mem_range.mpr hi)
    simpa [Array.getElem?_eq_getElem hi] using q
  obtain ⟨hsets, hown0⟩ := atoms_of _ (rest_1_c_eq ▸ (show rest_1_c.before _ s = true from hrest))
  have hr0 := Cond.before_iff.mp hown0
  obtain ⟨i0, ei0⟩ := is_v gg3
  obtain rfl : w0 = (.int i0) := Option.some.inj ei0
  obtain ⟨i1, ei1⟩ := is_v gg5
  obtain rfl : w1 = (.int i1) := Option.some.inj ei1
  obtain ⟨i2, ei2⟩ := is_v gg6
  obtain rfl : w2 = (.int i2) := Option.some.inj ei2
  have n5 := not_v (Cond.before_iff.mp (hsets _ (List.mem_of_getElem? (i := 2) rfl)))
  obtain ⟨w1, e10⟩ := is_v (Cond.before_iff.mp (hsets _ (List.mem_of_getElem? (i := 1) rfl)))
  have S1 : Sta s s.heap "java/lang/String" "COMPACT_STRINGS" "Z" (.int w1) := Sta.start e10 (Or.inl (hsets _ (List.mem_of_getElem? (i := 0) rfl)))
  have hcs : ¬ (w1 = (0 : Int32)) := gotF (Cond.eq_ints e10 (Term.int_eval (0))) n5
  have hEL := own_EW hw
  have Hc : CHv s consts_1 s.vm s.heap := CHv.start hEL hcalls.1 (hsets _ (List.mem_of_getElem? (i := 2) rfl)) (hw _ (List.mem_of_getElem? (i := 20) rfl)) (hw _ (List.mem_of_getElem? (i := 6) rfl))
  obtain ⟨n, o, h1, h2, h3, _, L, rfl, ⟨rfl, N⟩, -, hq⟩ := rm0 l s _ hw hEL tables_1 i0 i1 i2 w1 s.heap s.heap.size (Nat.le_refl _) (Old.start s) S1 hcs p e ha hc hk s m _ below hf ((Spec.applies_iff_loose hf).mp happ).1 ⟨rfl, State.Warmed39.refl s, rfl, Hc, fun x q => nomatch q⟩ trivial
  refine ⟨n, _, h1, h2, h3, hpost _ _ _ _ _ _ ⟨Cond.after_iff.mpr rfl, Cond.after_iff.mpr (eq_i res_at (Term.int_eval (1)) rfl), trivial⟩ ⟨hq.1, hq.2.1, hq.2.2.1, (hq.2.2.2.sift fun y hy => Or.inr (N y hy)).mono (by decide) (by decide)⟩⟩
theorem main_1_1 : Claimed_1_1 := comes_1 fun _ _ _ _ _ _ h hF => ⟨h.1, hF⟩
theorem main_1_2 : Claimed_1_2 := comes_1 fun _ _ _ _ _ _ h hF => ⟨h.2.1, hF⟩
end Jvm.Pilot.@@N@@
namespace Jvm.Pilot.@@N@@
open Jvm Jvm.ClassFile Sem Op Lib Jvm.Free Jvm.Stand Jvm.Pilot.@@N@@.Jvm.D
/-! MADE BY PROGRAM (witnessworld.py) out of the Statement's table words and the real class files: 20 classes; the members and pool entries that the words name. The judged class is class 1, her method 2. -/
namespace start1
open Jvm.ClassFile
def u (s : String) : CpInfo := .utf8 (stringToUtf16 s)
/-- a pool by its gaps: so many unusable entries, then the entry; so many at the end -/
def gap : Nat → List CpInfo → List CpInfo
  | 0, r => r
  | n + 1, r => .unusable :: gap n r
def poolList (es : List (Nat × CpInfo)) (last : Nat) : List CpInfo := es.foldr (fun e r => gap e.1 (e.2 :: r)) (gap last [])
def pool (es : List (Nat × CpInfo)) (last : Nat) : Array CpInfo := ⟨poolList es last⟩
def fileOf (pool : Array CpInfo) (this : Nat) (attrs : Array Attribute := #[]) (ms : Array MethodInfo := #[]) (fl : Nat := 33) (sup : Nat := 0) (ifs : Array Nat := #[]) (fds : Array FieldInfo := #[]) : ClassFile where
  minorVersion := 0
  majorVersion := 65
  constantPool := pool
  accessFlags := fl
  thisClass := this
  superClass := sup
  interfaces := ifs
  fields := fds
  methods := ms
  attributes := attrs
def plain (name : String) (sup : Option ClassId) : Class where
  name := name
  kind := .ordinary
  loader := none
  accessFlags := 33
  super := sup
  interfaces := #[]
  cf := none
  fields := #[]
  methods := #[]
  instanceTypes := #[]
  staticTypes := #[]
  resolved := #[]
  callSites := []
  init := .initialized
  statics := none
  mirror := none

def pool0 : Array CpInfo := pool [(5, u "<init>"), (0, u "()V"), (1, .class_ 10), (1, u "java/lang/Object")] 113

def k0c0 : Code := { maxStack := 0, maxLocals := 1, code := object_method_1_code, exceptionTable := #[], attributes := #[] }
def k0m0 : Method := { name := "<init>", desc := "()V", sig := { parameters := [], returnType := none }, accessFlags := 1, code := some k0c0 }
/-- java/lang/Object -/
def k0 : Class := { plain "java/lang/Object" none with
  accessFlags := 33
  interfaces := #[]
  cf := some (fileOf pool0 8 #[] #[{ accessFlags := 1, nameIndex := 5, descriptorIndex := 6, attributes := #[] }] 33 0 #[] #[])
  fields := #[]
  methods := #[k0m0]
  instanceTypes := #[]
  staticTypes := #[]
  resolved := Array.replicate 124 none
  statics := none }

def pool1 : Array CpInfo := pool [(2, .class_ 4), (1, u "java/lang/Object"), (0, u "<init>"), (0, u "()V"), (0, .class_ 8), (0, u "java/lang/String"), (0, .methodref 7 10), (0, .nameAndType 5 11), (0, u "([C)V"), (0, .integer 2147483647), (0, .methodref 14 15), (0, .class_ 16), (0, .nameAndType 17 18), (0, u "com/example/avvik/avvik/io/XsdValuesIsTruePinLaw"), (0, u "make"), (0, u "(ICCCCC)Ljava/lang/String;"), (0, .methodref 20 21), (0, .class_ 22), (0, .nameAndType 23 24), (0, u "com/example/avvik/avvik/io/XsdValues"), (0, u "isTrue"), (0, u "(Ljava/lang/String;)Z"), (3, u "law"), (0, u "(III)Z")] 2

def k1m0 : Method := { name := "<init>", desc := "()V", sig := { parameters := [], returnType := none }, accessFlags := 2, code := none }
def k1c1 : Code := { maxStack := 6, maxLocals := 6, code := method_2_code, exceptionTable := #[], attributes := #[] }
def k1m1 : Method := { name := "make", desc := "(ICCCCC)Ljava/lang/String;", sig := { parameters := [.int, .char, .char, .char, .char, .char], returnType := some (.object "java/lang/String") }, accessFlags := 10, code := some k1c1 }
def k1c2 : Code := { maxStack := 6, maxLocals := 13, code := code, exceptionTable := #[], attributes := #[] }
def k1m2 : Method := { name := "law", desc := "(III)Z", sig := { parameters := [.int, .int, .int], returnType := some .boolean }, accessFlags := 9, code := some k1c2 }
/-- com/example/avvik/avvik/io/XsdValuesIsTruePinLaw -/
def k1 : Class := { plain "com/example/avvik/avvik/io/XsdValuesIsTruePinLaw" (some 0) with
  accessFlags := 49
  interfaces := #[]
  cf := some (fileOf pool1 14 #[] #[{ accessFlags := 2, nameIndex := 5, descriptorIndex := 6, attributes := #[] }, { accessFlags := 10, nameIndex := 17, descriptorIndex := 18, attributes := #[] }, { accessFlags := 9, nameIndex := 28, descriptorIndex := 29, attributes := #[] }] 49 2 #[] #[])
  fields := #[]
  methods := #[k1m0, k1m1, k1m2]
  instanceTypes := #[]
  staticTypes := #[]
  resolved := Array.replicate 32 none
  statics := none }

def pool2 : Array CpInfo := pool [(1, .class_ 2), (0, u "java/io/Serializable"), (0, .class_ 4), (0, u "java/lang/Object")] 2

/-- java/io/Serializable -/
def k2 : Class := { plain "java/io/Serializable" (some 0) with
  accessFlags := 1537
  interfaces := #[]
  cf := some (fileOf pool2 1 #[] #[] 1537 3 #[] #[])
  fields := #[]
  methods := #[]
  instanceTypes := #[]
  staticTypes := #[]
  resolved := Array.replicate 7 none
  statics := none }

def pool3 : Array CpInfo := pool [(1, .class_ 2), (0, u "java/lang/Comparable"), (0, .class_ 4), (0, u "java/lang/Object")] 7

/-- java/lang/Comparable -/
def k3 : Class := { plain "java/lang/Comparable" (some 0) with
  accessFlags := 1537
  interfaces := #[]
  cf := some (fileOf pool3 1 #[] #[] 1537 3 #[] #[])
  fields := #[]
  methods := #[]
  instanceTypes := #[]
  staticTypes := #[]
  resolved := Array.replicate 12 none
  statics := none }

def pool4 : Array CpInfo := pool [(2, .class_ 4), (1, u "java/lang/CharSequence"), (42, .class_ 48), (0, u "java/lang/CharSequence$1CodePointIterator"), (10, .class_ 60), (0, u "java/lang/CharSequence$1CharIterator"), (5, .class_ 67), (0, u "java/lang/Object")] 63

/-- java/lang/CharSequence -/
def k4 : Class := { plain "java/lang/CharSequence" (some 0) with
  accessFlags := 1537
  interfaces := #[]
  cf := some (fileOf pool4 2 #[.nestMembers #[47, 59]] #[] 1537 66 #[] #[])
  fields := #[]
  methods := #[]
  instanceTypes := #[]
  staticTypes := #[]
  resolved := Array.replicate 131 none
  statics := none }

def pool5 : Array CpInfo := pool [(1, .class_ 2), (0, u "java/lang/constant/Constable"), (0, .class_ 4), (0, u "java/lang/Object")] 6

/-- java/lang/constant/Constable -/
def k5 : Class := { plain "java/lang/constant/Constable" (some 0) with
  accessFlags := 1537
  interfaces := #[]
  cf := some (fileOf pool5 1 #[] #[] 1537 3 #[] #[])
  fields := #[]
  methods := #[]
  instanceTypes := #[]
  staticTypes := #[]
  resolved := Array.replicate 11 none
  statics := none }

def pool6 : Array CpInfo := pool [(1, .class_ 2), (0, u "java/lang/constant/ConstantDesc"), (0, .class_ 4), (0, u "java/lang/Object")] 32

/-- java/lang/constant/ConstantDesc -/
def k6 : Class := { plain "java/lang/constant/ConstantDesc" (some 0) with
  accessFlags := 1537
  interfaces := #[]
  cf := some (fileOf pool6 1 #[] #[] 1537 3 #[] #[])
  fields := #[]
  methods := #[]
  instanceTypes := #[]
  staticTypes := #[]
  resolved := Array.replicate 37 none
  statics := none }

def pool7 : Array CpInfo := pool [(1, .methodref 2 3), (0, .class_ 4), (0, .nameAndType 5 6), (0, u "java/lang/Object"), (0, u "<init>"), (0, u "()V"), (0, .string 8), (0, u ""), (0, .fieldref 10 11), (0, .class_ 12), (0, .nameAndType 13 14), (0, u "java/lang/String"), (0, u "value"), (0, u "[B"), (0, .fieldref 10 16), (0, .nameAndType 17 18), (0, u "coder"), (0, u "B"), (2, u "hash"), (0, u "I"), (2, u "hashIsZero"), (0, u "Z"), (0, .methodref 10 28), (0, .nameAndType 5 29), (0, u "([CIILjava/lang/Void;)V"), (8, .fieldref 10 39), (0, .nameAndType 40 26), (0, u "COMPACT_STRINGS"), (1, .class_ 44), (1, u "java/lang/StringUTF16"), (0, u "compress"), (1, .methodref 42 48), (0, .nameAndType 49 50), (0, u "coderFromArrayLen"), (0, u "([BI)B"), (56, .class_ 109), (1, u "java/lang/StringLatin1"), (67, .methodref 42 178), (0, .nameAndType 45 179), (0, u "([CII)[B"), (361, .methodref 107 542), (0, .nameAndType 543 544), (0, u "equals"), (0, u "([B[B)Z"), (28, u "(Ljava/lang/Object;)Z"), (1, .class_ 576), (0, u "java/lang/CharSequence"), (22, u "CASE_INSENSITIVE_ORDER"), (0, u "Ljava/util/Comparator;"), (409, u "([C)V"), (90, u "serialPersistentFields"), (0, u "[Ljava/io/ObjectStreamField;"), (0, .class_ 1104), (0, u "java/lang/String$CaseInsensitiveComparator"), (1, .class_ 1107), (0, u "java/io/Serializable"), (0, .class_ 1109), (0, u "java/lang/Comparable"), (0, .class_ 1111), (0, u "java/lang/constant/Constable"), (0, .class_ 1113), (0, u "java/lang/constant/ConstantDesc"), (2, u "serialVersionUID"), (0, u "J"), (3, u "REPL"), (0, u "C"), (2, u "LATIN1"), (1, u "UTF16")] 323

def k7m0 : Method := { name := "<init>", desc := "()V", sig := { parameters := [], returnType := none }, accessFlags := 1, code := none }
def k7c1 : Code := { maxStack := 5, maxLocals := 2, code := jdk_42_method_3_code, exceptionTable := #[], attributes := #[] }
def k7m1 : Method := { name := "<init>", desc := "([C)V", sig := { parameters := [(.array .char)], returnType := none }, accessFlags := 1, code := some k7c1 }
def k7c2 : Code := { maxStack := 2, maxLocals := 3, code := jdk_42_method_66_code, exceptionTable := #[], attributes := #[] }
def k7m2 : Method := { name := "equals", desc := "(Ljava/lang/Object;)Z", sig := { parameters := [(.object "java/lang/Object")], returnType := some .boolean }, accessFlags := 1, code := some k7c2 }
def k7c3 : Code := { maxStack := 4, maxLocals := 6, code := jdk_42_method_149_code, exceptionTable := #[], attributes := #[] }
def k7m3 : Method := { name := "<init>", desc := "([CIILjava/lang/Void;)V", sig := { parameters := [(.array .char), .int, .int, (.object "java/lang/Void")], returnType := none }, accessFlags := 2, code := some k7c3 }
/-- java/lang/String -/
def k7 : Class := { plain "java/lang/String" (some 0) with
  accessFlags := 49
  interfaces := #[2, 3, 4, 5, 6]
  cf := some (fileOf pool7 10 #[.nestMembers #[1103]] #[{ accessFlags := 1, nameIndex := 5, descriptorIndex := 6, attributes := #[] }, { accessFlags := 1, nameIndex := 5, descriptorIndex := 1010, attributes := #[] }, { accessFlags := 1, nameIndex := 543, descriptorIndex := 573, attributes := #[] }, { accessFlags := 2, nameIndex := 5, descriptorIndex := 29, attributes := #[] }] 49 2 #[1106, 1108, 575, 1110, 1112] #[{ accessFlags := 18, nameIndex := 13, descriptorIndex := 14, attributes := #[] }, { accessFlags := 18, nameIndex := 17, descriptorIndex := 18, attributes := #[] }, { accessFlags := 2, nameIndex := 21, descriptorIndex := 22, attributes := #[] }, { accessFlags := 2, nameIndex := 25, descriptorIndex := 26, attributes := #[] }, { accessFlags := 26, nameIndex := 1116, descriptorIndex := 1117, attributes := #[] }, { accessFlags := 24, nameIndex := 40, descriptorIndex := 26, attributes := #[] }, { accessFlags := 26, nameIndex := 1101, descriptorIndex := 1102, attributes := #[] }, { accessFlags := 26, nameIndex := 1121, descriptorIndex := 1122, attributes := #[] }, { accessFlags := 25, nameIndex := 599, descriptorIndex := 600, attributes := #[] }, { accessFlags := 24, nameIndex := 1125, descriptorIndex := 18, attributes := #[] }, { accessFlags := 24, nameIndex := 1127, descriptorIndex := 18, attributes := #[] }])
  fields := #[{ name := "value", type := (.array .byte), accessFlags := 18, slot := 0, constantValue := 0 }, { name := "coder", type := .byte, accessFlags := 18, slot := 1, constantValue := 0 }, { name := "hash", type := .int, accessFlags := 2, slot := 2, constantValue := 0 }, { name := "hashIsZero", type := .boolean, accessFlags := 2, slot := 3, constantValue := 0 }, { name := "serialVersionUID", type := .long, accessFlags := 26, slot := 0, constantValue := 0 }, { name := "COMPACT_STRINGS", type := .boolean, accessFlags := 24, slot := 1, constantValue := 0 }, { name := "serialPersistentFields", type := (.array (.object "java/io/ObjectStreamField")), accessFlags := 26, slot := 2, constantValue := 0 }, { name := "REPL", type := .char, accessFlags := 26, slot := 3, constantValue := 0 }, { name := "CASE_INSENSITIVE_ORDER", type := (.object "java/util/Comparator"), accessFlags := 25, slot := 4, constantValue := 0 }, { name := "LATIN1", type := .byte, accessFlags := 24, slot := 5, constantValue := 0 }, { name := "UTF16", type := .byte, accessFlags := 24, slot := 6, constantValue := 0 }]
  methods := #[k7m0, k7m1, k7m2, k7m3]
  instanceTypes := #[(.array .byte), .byte, .int, .boolean]
  staticTypes := #[.long, .boolean, (.array (.object "java/io/ObjectStreamField")), .char, (.object "java/util/Comparator"), .byte, .byte]
  resolved := Array.replicate 1451 none
  statics := some 0 }

def pool8 : Array CpInfo := pool [(2, .class_ 4), (1, u "java/lang/Object"), (0, u "<init>"), (0, u "()V"), (0, .string 8), (0, u "true"), (0, .methodref 10 11), (0, .class_ 12), (0, .nameAndType 13 14), (0, u "java/lang/String"), (0, u "equals"), (0, u "(Ljava/lang/Object;)Z"), (0, .string 16), (0, u "1"), (1, .class_ 20), (1, u "com/example/avvik/avvik/io/XsdValues"), (0, u "isTrue"), (0, u "(Ljava/lang/String;)Z"), (43, u "NAME_TOKEN"), (0, u "Ljava/util/regex/Pattern;"), (14, u "LANGUAGE"), (36, .class_ 121), (1, u "com/example/avvik/avvik/io/XsdValues$UriReference"), (9, u "MAX_PORT"), (0, u "Ljava/lang/String;"), (31, u "DATE_TIME"), (43, u "PORTABLE_DIGITS"), (0, u "I"), (2, u "MAX_OFFSET_HOURS"), (1, u "ESCAPED"), (0, u "MAX_IP_LITERAL_PORT")] 43

def k8m0 : Method := { name := "<init>", desc := "()V", sig := { parameters := [], returnType := none }, accessFlags := 2, code := none }
def k8c1 : Code := { maxStack := 2, maxLocals := 1, code := prog_24_method_2_code, exceptionTable := #[], attributes := #[] }
def k8m1 : Method := { name := "isTrue", desc := "(Ljava/lang/String;)Z", sig := { parameters := [(.object "java/lang/String")], returnType := some .boolean }, accessFlags := 9, code := some k8c1 }
/-- com/example/avvik/avvik/io/XsdValues -/
def k8 : Class := { plain "com/example/avvik/avvik/io/XsdValues" (some 0) with
  accessFlags := 49
  interfaces := #[]
  cf := some (fileOf pool8 18 #[.nestMembers #[119]] #[{ accessFlags := 2, nameIndex := 5, descriptorIndex := 6, attributes := #[] }, { accessFlags := 9, nameIndex := 21, descriptorIndex := 22, attributes := #[] }] 49 2 #[] #[{ accessFlags := 26, nameIndex := 208, descriptorIndex := 209, attributes := #[] }, { accessFlags := 26, nameIndex := 66, descriptorIndex := 67, attributes := #[] }, { accessFlags := 26, nameIndex := 82, descriptorIndex := 67, attributes := #[] }, { accessFlags := 26, nameIndex := 164, descriptorIndex := 67, attributes := #[] }, { accessFlags := 26, nameIndex := 212, descriptorIndex := 209, attributes := #[] }, { accessFlags := 26, nameIndex := 214, descriptorIndex := 132, attributes := #[] }, { accessFlags := 26, nameIndex := 131, descriptorIndex := 132, attributes := #[] }, { accessFlags := 26, nameIndex := 215, descriptorIndex := 132, attributes := #[] }])
  fields := #[{ name := "PORTABLE_DIGITS", type := .int, accessFlags := 26, slot := 0, constantValue := 0 }, { name := "NAME_TOKEN", type := (.object "java/util/regex/Pattern"), accessFlags := 26, slot := 1, constantValue := 0 }, { name := "LANGUAGE", type := (.object "java/util/regex/Pattern"), accessFlags := 26, slot := 2, constantValue := 0 }, { name := "DATE_TIME", type := (.object "java/util/regex/Pattern"), accessFlags := 26, slot := 3, constantValue := 0 }, { name := "MAX_OFFSET_HOURS", type := .int, accessFlags := 26, slot := 4, constantValue := 0 }, { name := "ESCAPED", type := (.object "java/lang/String"), accessFlags := 26, slot := 5, constantValue := 0 }, { name := "MAX_PORT", type := (.object "java/lang/String"), accessFlags := 26, slot := 6, constantValue := 0 }, { name := "MAX_IP_LITERAL_PORT", type := (.object "java/lang/String"), accessFlags := 26, slot := 7, constantValue := 0 }]
  methods := #[k8m0, k8m1]
  instanceTypes := #[]
  staticTypes := #[.int, (.object "java/util/regex/Pattern"), (.object "java/util/regex/Pattern"), (.object "java/util/regex/Pattern"), .int, (.object "java/lang/String"), (.object "java/lang/String"), (.object "java/lang/String")]
  resolved := Array.replicate 259 none
  statics := none }

def pool9 : Array CpInfo := pool [(4, .class_ 6), (1, u "java/lang/Object"), (0, u "<init>"), (0, u "()V"), (5, .class_ 16), (1, u "java/lang/StringLatin1"), (104, u "$assertionsDisabled"), (0, u "Z"), (98, .class_ 223), (1, u "java/lang/StringLatin1$LinesSpliterator"), (57, u "equals"), (0, u "([B[B)Z"), (107, .class_ 391), (0, u "java/lang/StringLatin1$CharsSpliterator")] 3

def k9m0 : Method := { name := "<init>", desc := "()V", sig := { parameters := [], returnType := none }, accessFlags := 0, code := none }
def k9c1 : Code := { maxStack := 3, maxLocals := 3, code := jdk_43_method_13_code, exceptionTable := #[], attributes := #[] }
def k9m1 : Method := { name := "equals", desc := "([B[B)Z", sig := { parameters := [(.array .byte), (.array .byte)], returnType := some .boolean }, accessFlags := 9, code := some k9c1 }
/-- java/lang/StringLatin1 -/
def k9 : Class := { plain "java/lang/StringLatin1" (some 0) with
  accessFlags := 48
  interfaces := #[]
  cf := some (fileOf pool9 14 #[.nestMembers #[390, 221]] #[{ accessFlags := 0, nameIndex := 7, descriptorIndex := 8, attributes := #[] }, { accessFlags := 9, nameIndex := 281, descriptorIndex := 282, attributes := #[] }] 48 4 #[] #[{ accessFlags := 4120, nameIndex := 121, descriptorIndex := 122, attributes := #[] }])
  fields := #[{ name := "$assertionsDisabled", type := .boolean, accessFlags := 4120, slot := 0, constantValue := 0 }]
  methods := #[k9m0, k9m1]
  instanceTypes := #[]
  staticTypes := #[.boolean]
  resolved := Array.replicate 395 none
  statics := none }

def pool10 : Array CpInfo := pool [(6, .class_ 8), (1, u "java/lang/Object"), (0, u "<init>"), (0, u "()V"), (1, .class_ 14), (1, u "java/lang/StringUTF16"), (31, u "$assertionsDisabled"), (0, u "Z"), (13, u "HI_BYTE_SHIFT"), (0, u "I"), (2, u "LO_BYTE_SHIFT"), (49, .methodref 12 116), (0, .nameAndType 117 118), (0, u "compress"), (0, u "([CI[BII)I"), (3, u "([CII)[B"), (138, u "coderFromArrayLen"), (0, u "([BI)B"), (106, .class_ 371), (1, u "java/lang/StringUTF16$LinesSpliterator"), (58, u "MAX_LENGTH"), (196, .class_ 628), (0, u "java/lang/StringUTF16$CodePointsSpliterator"), (0, .class_ 630), (0, u "java/lang/StringUTF16$CharsSpliterator")] 4

def k10m0 : Method := { name := "<init>", desc := "()V", sig := { parameters := [], returnType := none }, accessFlags := 0, code := none }
def k10c1 : Code := { maxStack := 2, maxLocals := 2, code := jdk_52_method_15_code, exceptionTable := #[], attributes := #[] }
def k10m1 : Method := { name := "coderFromArrayLen", desc := "([BI)B", sig := { parameters := [(.array .byte), .int], returnType := some .byte }, accessFlags := 8, code := some k10c1 }
def k10c2 : Code := { maxStack := 5, maxLocals := 6, code := jdk_52_method_16_code, exceptionTable := #[], attributes := #[] }
def k10m2 : Method := { name := "compress", desc := "([CII)[B", sig := { parameters := [(.array .char), .int, .int], returnType := some (.array .byte) }, accessFlags := 9, code := some k10c2 }
def k10c3 : Code := { maxStack := 3, maxLocals := 7, code := jdk_52_method_21_code, exceptionTable := #[], attributes := #[] }
def k10m3 : Method := { name := "compress", desc := "([CI[BII)I", sig := { parameters := [(.array .char), .int, (.array .byte), .int, .int], returnType := some .int }, accessFlags := 9, code := some k10c3 }
/-- java/lang/StringUTF16 -/
def k10 : Class := { plain "java/lang/StringUTF16" (some 0) with
  accessFlags := 48
  interfaces := #[]
  cf := some (fileOf pool10 12 #[.nestMembers #[627, 629, 369]] #[{ accessFlags := 0, nameIndex := 9, descriptorIndex := 10, attributes := #[] }, { accessFlags := 8, nameIndex := 261, descriptorIndex := 262, attributes := #[] }, { accessFlags := 9, nameIndex := 117, descriptorIndex := 122, attributes := #[] }, { accessFlags := 9, nameIndex := 117, descriptorIndex := 118, attributes := #[] }] 48 6 #[] #[{ accessFlags := 26, nameIndex := 61, descriptorIndex := 62, attributes := #[] }, { accessFlags := 26, nameIndex := 65, descriptorIndex := 62, attributes := #[] }, { accessFlags := 24, nameIndex := 430, descriptorIndex := 62, attributes := #[] }, { accessFlags := 4120, nameIndex := 46, descriptorIndex := 47, attributes := #[] }])
  fields := #[{ name := "HI_BYTE_SHIFT", type := .int, accessFlags := 26, slot := 0, constantValue := 0 }, { name := "LO_BYTE_SHIFT", type := .int, accessFlags := 26, slot := 1, constantValue := 0 }, { name := "MAX_LENGTH", type := .int, accessFlags := 24, slot := 2, constantValue := 0 }, { name := "$assertionsDisabled", type := .boolean, accessFlags := 4120, slot := 3, constantValue := 0 }]
  methods := #[k10m0, k10m1, k10m2, k10m3]
  instanceTypes := #[]
  staticTypes := #[.int, .int, .int, .boolean]
  resolved := Array.replicate 635 none
  statics := none }

def pool11 : Array CpInfo := pool [(2, .class_ 4), (1, u "java/lang/Object"), (0, u "<init>"), (0, u "()V"), (17, .class_ 26), (1, u "jdk/internal/util/Preconditions"), (28, .class_ 56), (0, u "jdk/internal/util/Preconditions$4"), (57, .class_ 115), (0, u "jdk/internal/util/Preconditions$1"), (7, u "SIOOBE_FORMATTER"), (0, u "Ljava/util/function/BiFunction;"), (0, .class_ 126), (0, u "jdk/internal/util/Preconditions$2"), (3, u "AIOOBE_FORMATTER"), (0, .class_ 132), (0, u "jdk/internal/util/Preconditions$3"), (3, u "IOOBE_FORMATTER")] 57

def k11m0 : Method := { name := "<init>", desc := "()V", sig := { parameters := [], returnType := none }, accessFlags := 1, code := none }
/-- jdk/internal/util/Preconditions -/
def k11 : Class := { plain "jdk/internal/util/Preconditions" (some 0) with
  accessFlags := 33
  interfaces := #[]
  cf := some (fileOf pool11 24 #[.nestMembers #[55, 131, 125, 114]] #[{ accessFlags := 1, nameIndex := 5, descriptorIndex := 6, attributes := #[] }] 33 2 #[] #[{ accessFlags := 25, nameIndex := 123, descriptorIndex := 124, attributes := #[] }, { accessFlags := 25, nameIndex := 130, descriptorIndex := 124, attributes := #[] }, { accessFlags := 25, nameIndex := 136, descriptorIndex := 124, attributes := #[] }])
  fields := #[{ name := "SIOOBE_FORMATTER", type := (.object "java/util/function/BiFunction"), accessFlags := 25, slot := 0, constantValue := 0 }, { name := "AIOOBE_FORMATTER", type := (.object "java/util/function/BiFunction"), accessFlags := 25, slot := 1, constantValue := 0 }, { name := "IOOBE_FORMATTER", type := (.object "java/util/function/BiFunction"), accessFlags := 25, slot := 2, constantValue := 0 }]
  methods := #[k11m0]
  instanceTypes := #[]
  staticTypes := #[(.object "java/util/function/BiFunction"), (.object "java/util/function/BiFunction"), (.object "java/util/function/BiFunction")]
  resolved := Array.replicate 194 none
  statics := some 1 }

def pool12 : Array CpInfo := pool [(9, u "<init>"), (6, .class_ 18), (1, u "java/lang/Object"), (0, u "()V"), (1, .class_ 23), (1, u "jdk/internal/util/ArraysSupport"), (0, u "LOG2_ARRAY_LONG_INDEX_SCALE"), (0, u "I"), (2, u "U"), (0, u "Ljdk/internal/misc/Unsafe;"), (8, u "BIG_ENDIAN"), (0, u "Z"), (8, u "LOG2_BYTE_BIT_SIZE"), (4, u "LOG2_ARRAY_INT_INDEX_SCALE"), (54, u "JLA"), (0, u "Ljdk/internal/access/JavaLangAccess;"), (11, u "LOG2_ARRAY_BOOLEAN_INDEX_SCALE"), (9, u "LOG2_ARRAY_BYTE_INDEX_SCALE"), (5, u "LOG2_ARRAY_CHAR_INDEX_SCALE"), (5, u "LOG2_ARRAY_SHORT_INDEX_SCALE"), (18, u "LOG2_ARRAY_FLOAT_INDEX_SCALE"), (24, u "LOG2_ARRAY_DOUBLE_INDEX_SCALE"), (89, u "T_BOOLEAN"), (2, u "T_CHAR"), (1, u "T_FLOAT"), (1, u "T_DOUBLE"), (1, u "T_BYTE"), (1, u "T_SHORT"), (1, u "T_INT"), (1, u "T_LONG"), (1, u "SOFT_MAX_ARRAY_LENGTH")] 83

def k12m0 : Method := { name := "<init>", desc := "()V", sig := { parameters := [], returnType := none }, accessFlags := 2, code := none }
/-- jdk/internal/util/ArraysSupport -/
def k12 : Class := { plain "jdk/internal/util/ArraysSupport" (some 0) with
  accessFlags := 33
  interfaces := #[]
  cf := some (fileOf pool12 21 #[] #[{ accessFlags := 2, nameIndex := 9, descriptorIndex := 19, attributes := #[] }] 33 16 #[] #[{ accessFlags := 24, nameIndex := 28, descriptorIndex := 29, attributes := #[] }, { accessFlags := 26, nameIndex := 38, descriptorIndex := 39, attributes := #[] }, { accessFlags := 25, nameIndex := 121, descriptorIndex := 25, attributes := #[] }, { accessFlags := 25, nameIndex := 131, descriptorIndex := 25, attributes := #[] }, { accessFlags := 25, nameIndex := 137, descriptorIndex := 25, attributes := #[] }, { accessFlags := 25, nameIndex := 143, descriptorIndex := 25, attributes := #[] }, { accessFlags := 25, nameIndex := 53, descriptorIndex := 25, attributes := #[] }, { accessFlags := 25, nameIndex := 24, descriptorIndex := 25, attributes := #[] }, { accessFlags := 25, nameIndex := 162, descriptorIndex := 25, attributes := #[] }, { accessFlags := 25, nameIndex := 187, descriptorIndex := 25, attributes := #[] }, { accessFlags := 26, nameIndex := 48, descriptorIndex := 25, attributes := #[] }, { accessFlags := 25, nameIndex := 277, descriptorIndex := 25, attributes := #[] }, { accessFlags := 25, nameIndex := 280, descriptorIndex := 25, attributes := #[] }, { accessFlags := 25, nameIndex := 282, descriptorIndex := 25, attributes := #[] }, { accessFlags := 25, nameIndex := 284, descriptorIndex := 25, attributes := #[] }, { accessFlags := 25, nameIndex := 286, descriptorIndex := 25, attributes := #[] }, { accessFlags := 25, nameIndex := 288, descriptorIndex := 25, attributes := #[] }, { accessFlags := 25, nameIndex := 290, descriptorIndex := 25, attributes := #[] }, { accessFlags := 25, nameIndex := 292, descriptorIndex := 25, attributes := #[] }, { accessFlags := 26, nameIndex := 108, descriptorIndex := 109, attributes := #[] }, { accessFlags := 25, nameIndex := 294, descriptorIndex := 25, attributes := #[] }])
  fields := #[{ name := "U", type := (.object "jdk/internal/misc/Unsafe"), accessFlags := 24, slot := 0, constantValue := 0 }, { name := "BIG_ENDIAN", type := .boolean, accessFlags := 26, slot := 1, constantValue := 0 }, { name := "LOG2_ARRAY_BOOLEAN_INDEX_SCALE", type := .int, accessFlags := 25, slot := 2, constantValue := 0 }, { name := "LOG2_ARRAY_BYTE_INDEX_SCALE", type := .int, accessFlags := 25, slot := 3, constantValue := 0 }, { name := "LOG2_ARRAY_CHAR_INDEX_SCALE", type := .int, accessFlags := 25, slot := 4, constantValue := 0 }, { name := "LOG2_ARRAY_SHORT_INDEX_SCALE", type := .int, accessFlags := 25, slot := 5, constantValue := 0 }, { name := "LOG2_ARRAY_INT_INDEX_SCALE", type := .int, accessFlags := 25, slot := 6, constantValue := 0 }, { name := "LOG2_ARRAY_LONG_INDEX_SCALE", type := .int, accessFlags := 25, slot := 7, constantValue := 0 }, { name := "LOG2_ARRAY_FLOAT_INDEX_SCALE", type := .int, accessFlags := 25, slot := 8, constantValue := 0 }, { name := "LOG2_ARRAY_DOUBLE_INDEX_SCALE", type := .int, accessFlags := 25, slot := 9, constantValue := 0 }, { name := "LOG2_BYTE_BIT_SIZE", type := .int, accessFlags := 26, slot := 10, constantValue := 0 }, { name := "T_BOOLEAN", type := .int, accessFlags := 25, slot := 11, constantValue := 0 }, { name := "T_CHAR", type := .int, accessFlags := 25, slot := 12, constantValue := 0 }, { name := "T_FLOAT", type := .int, accessFlags := 25, slot := 13, constantValue := 0 }, { name := "T_DOUBLE", type := .int, accessFlags := 25, slot := 14, constantValue := 0 }, { name := "T_BYTE", type := .int, accessFlags := 25, slot := 15, constantValue := 0 }, { name := "T_SHORT", type := .int, accessFlags := 25, slot := 16, constantValue := 0 }, { name := "T_INT", type := .int, accessFlags := 25, slot := 17, constantValue := 0 }, { name := "T_LONG", type := .int, accessFlags := 25, slot := 18, constantValue := 0 }, { name := "JLA", type := (.object "jdk/internal/access/JavaLangAccess"), accessFlags := 26, slot := 19, constantValue := 0 }, { name := "SOFT_MAX_ARRAY_LENGTH", type := .int, accessFlags := 25, slot := 20, constantValue := 0 }]
  methods := #[k12m0]
  instanceTypes := #[]
  staticTypes := #[(.object "jdk/internal/misc/Unsafe"), .boolean, .int, .int, .int, .int, .int, .int, .int, .int, .int, .int, .int, .int, .int, .int, .int, .int, .int, (.object "jdk/internal/access/JavaLangAccess"), .int]
  resolved := Array.replicate 378 none
  statics := none }

def pool13 : Array CpInfo := pool [(1, u "java/lang/Cloneable"), (0, .class_ 1), (0, u "java/lang/Object"), (0, .class_ 3)] 3

/-- java/lang/Cloneable -/
def k13 : Class := { plain "java/lang/Cloneable" (some 0) with
  accessFlags := 1537
  interfaces := #[]
  cf := some (fileOf pool13 2 #[] #[] 1537 4 #[] #[])
  fields := #[]
  methods := #[]
  instanceTypes := #[]
  staticTypes := #[]
  resolved := Array.replicate 8 none
  statics := none }

/-- the primitive byte -/
def k14 : Class := { plain "byte" none with kind := .primitive 'B', accessFlags := 0x411 }
/-- [B -/
def k15 : Class := { plain "[B" (some 0) with kind := .array 14 .byte, interfaces := #[13, 2], accessFlags := 1041 }

/-- the primitive char -/
def k16 : Class := { plain "char" none with kind := .primitive 'C', accessFlags := 0x411 }
/-- [C -/
def k17 : Class := { plain "[C" (some 0) with kind := .array 16 .char, interfaces := #[13, 2], accessFlags := 1041 }

/-- the primitive int -/
def k18 : Class := { plain "int" none with kind := .primitive 'I', accessFlags := 0x411 }
/-- [I -/
def k19 : Class := { plain "[I" (some 0) with kind := .array 18 .int, interfaces := #[13, 2], accessFlags := 1041 }

def heap : Heap := #[{ cls := 7, slots := #[.long 0, .int 1, .null, .int 0, .null, .int 0, .int 0], vm := .statics 7 },
  { cls := 11, slots := #[.null, .null, .null], vm := .statics 11 }]
def classes : Array Class := #[k0, k1, k2, k3, k4, k5, k6, k7, k8, k9, k10, k11, k12, k13, k14, k15, k16, k17, k18, k19]
def interned : List (Array UInt16 × Addr) := []
def slotsUsed : Nat := 10
def theMethod : MethodId := ⟨1, 2⟩
def args0 : Array Value := #[.int 5, .int 3, .int 7]
def aboutOver (below : List Frame) : State where
  vm := { classes := classes, interned := interned.toArray }
  heap := heap
  slotsUsed := slotsUsed
  threads := #[{ frames := .invoking theMethod args0 :: below }]
def below0 : List Frame := [.native { method := ⟨0, 0⟩, args := #[] }]
def about1 : State := aboutOver below0
def p0 : Program := .bare "" "" ""
def e0 : Env := launch0.env 0 0 0
theorem w_frames : about1.frames = Frame.invoking theMethod args0 :: below0 := rfl
set_option maxRecDepth 65536 in
theorem w_args : argsFit about1.vm theMethod args0 = true := by decide +kernel
set_option maxRecDepth 65536 in
theorem w_heap : heapFits about1 = true := by decide +kernel
set_option maxRecDepth 65536 in
theorem w_runnable : about1.curStatus? = some .runnable := by decide +kernel
set_option maxRecDepth 65536 in
theorem w_alone : about1.alone = true := by decide +kernel
set_option maxRecDepth 65536 in
theorem w_named : about1.methodNamed? x = some theMethod := by decide +kernel
set_option maxRecDepth 65536 in
theorem w_hears : about1.hears theMethod below0 = true := by decide +kernel
set_option maxRecDepth 65536 in
theorem w_ripe : about1.ripe theMethod args0 below0 = true := by decide +kernel
theorem w_running : about1.status = .running := rfl
set_option maxRecDepth 65536 in
theorem w_room : about1.hasRoom e0.platform room_1 = true :=
  launch0.hasRoom_least _ room_1 (by decide +kernel) (by decide +kernel) (by decide +kernel) (by decide +kernel) (by decide +kernel) (by decide +kernel)
theorem allAtoms_all (ts : List Jvm.Cond) (a : Array Jvm.Value) (st : Jvm.State) : (allAtoms ts).before a st = ts.all (fun c => c.before a st) := by
  induction ts with
  | nil => rfl
  | cons c t ih =>
    show (Jvm.Cond.and c (allAtoms t)).before a st = _
    rw [Jvm.Cond.before_and, ih, List.all_cons]
def words1 : List Jvm.Cond := Jvm.Cond.code x code maxLocals ret :: tables_1
/-- a 'code' word, met by the world's own term for the bytes: nothing is compared byte by byte -/
theorem code_word {y : MethodName} {bytes : ByteArray} {mx : Nat} {rt : Option FieldType} {a : Array Value} {s : State} {m : MethodId} {meth : Method} {c : Code} (h1 : s.methodNamed? y = some m) (h2 : s.vm.method? m = some meth) (h3 : meth.code = some c) (h4 : c.code = bytes)
    (h5 : (c.maxLocals == mx && c.exceptionTable.isEmpty && decide (c.maxStack ≤ mostOperands) && decide (meth.sig.returnType = rt) && !meth.locks && decide (parseMethodDescriptor y.desc = some meth.sig)) = true) : (Jvm.Cond.code y bytes mx rt).before a s = true := by
  simp only [Bool.and_eq_true, beq_iff_eq, Bool.not_eq_true', decide_eq_true_eq] at h5
  obtain ⟨⟨⟨⟨⟨g1, g2⟩, g3⟩, g4⟩, g5⟩, g6⟩ := h5
  simp [Cond.before, Cond.holds, Cond.value, h1, h2, h3, h4, g1, g2, g3, g4, g5, g6]
def isCode : Jvm.Cond → Bool
  | .code _ _ _ _ => true
  | _ => false
theorem all_split {L : List Jvm.Cond} {P : Jvm.Cond → Bool} (h1 : L.all (fun c => isCode c || P c) = true) (h2 : ∀ c ∈ L.filter isCode, P c = true) : L.all P = true := by
  refine List.all_eq_true.mpr fun c hc => ?_
  have h := List.all_eq_true.mp h1 c hc
  rcases Bool.eq_false_or_eq_true (isCode c) with hi | hi
  · exact h2 c (List.mem_filter.mpr ⟨hc, hi⟩)
  · simpa [hi] using h
set_option maxRecDepth 65536 in
theorem w_c0 : (Jvm.Cond.code x code maxLocals ret).before args0 about1 = true := code_word (m := ⟨1, 2⟩) (meth := k1m2) (c := k1c2) (by decide +kernel) rfl rfl rfl (by decide +kernel)
set_option maxRecDepth 65536 in
theorem w_c1 : (Jvm.Cond.code ({ cls := "com/example/avvik/avvik/io/XsdValuesIsTruePinLaw", name := "make", desc := "(ICCCCC)Ljava/lang/String;" } : Jvm.MethodName) method_2_code (6 : Nat) (Option.some (Jvm.ClassFile.FieldType.object "java/lang/String"))).before args0 about1 = true := code_word (m := ⟨1, 1⟩) (meth := k1m1) (c := k1c1) (by decide +kernel) rfl rfl rfl (by decide +kernel)
set_option maxRecDepth 65536 in
theorem w_c2 : (Jvm.Cond.code ({ cls := "java/lang/String", name := "<init>", desc := "([C)V" } : Jvm.MethodName) jdk_42_method_3_code (2 : Nat) (Option.none : Option Jvm.ClassFile.FieldType)).before args0 about1 = true := code_word (m := ⟨7, 1⟩) (meth := k7m1) (c := k7c1) (by decide +kernel) rfl rfl rfl (by decide +kernel)
set_option maxRecDepth 65536 in
theorem w_c3 : (Jvm.Cond.code ({ cls := "java/lang/String", name := "<init>", desc := "([CIILjava/lang/Void;)V" } : Jvm.MethodName) jdk_42_method_149_code (6 : Nat) (Option.none : Option Jvm.ClassFile.FieldType)).before args0 about1 = true := code_word (m := ⟨7, 3⟩) (meth := k7m3) (c := k7c3) (by decide +kernel) rfl rfl rfl (by decide +kernel)
set_option maxRecDepth 65536 in
theorem w_c4 : (Jvm.Cond.code ({ cls := "java/lang/Object", name := "<init>", desc := "()V" } : Jvm.MethodName) object_method_1_code (1 : Nat) (Option.none : Option Jvm.ClassFile.FieldType)).before args0 about1 = true := code_word (m := ⟨0, 0⟩) (meth := k0m0) (c := k0c0) (by decide +kernel) rfl rfl rfl (by decide +kernel)
set_option maxRecDepth 65536 in
theorem w_c5 : (Jvm.Cond.code ({ cls := "com/example/avvik/avvik/io/XsdValues", name := "isTrue", desc := "(Ljava/lang/String;)Z" } : Jvm.MethodName) prog_24_method_2_code (1 : Nat) (Option.some Jvm.ClassFile.FieldType.boolean)).before args0 about1 = true := code_word (m := ⟨8, 1⟩) (meth := k8m1) (c := k8c1) (by decide +kernel) rfl rfl rfl (by decide +kernel)
set_option maxRecDepth 65536 in
theorem w_c6 : (Jvm.Cond.code ({ cls := "java/lang/String", name := "equals", desc := "(Ljava/lang/Object;)Z" } : Jvm.MethodName) jdk_42_method_66_code (3 : Nat) (Option.some Jvm.ClassFile.FieldType.boolean)).before args0 about1 = true := code_word (m := ⟨7, 2⟩) (meth := k7m2) (c := k7c2) (by decide +kernel) rfl rfl rfl (by decide +kernel)
set_option maxRecDepth 65536 in
theorem w_c7 : (Jvm.Cond.code ({ cls := "java/lang/StringLatin1", name := "equals", desc := "([B[B)Z" } : Jvm.MethodName) jdk_43_method_13_code (3 : Nat) (Option.some Jvm.ClassFile.FieldType.boolean)).before args0 about1 = true := code_word (m := ⟨9, 1⟩) (meth := k9m1) (c := k9c1) (by decide +kernel) rfl rfl rfl (by decide +kernel)
set_option maxRecDepth 65536 in
theorem w_c8 : (Jvm.Cond.code ({ cls := "java/lang/StringUTF16", name := "compress", desc := "([CII)[B" } : Jvm.MethodName) jdk_52_method_16_code (6 : Nat) (Option.some (Jvm.ClassFile.FieldType.array Jvm.ClassFile.FieldType.byte))).before args0 about1 = true := code_word (m := ⟨10, 2⟩) (meth := k10m2) (c := k10c2) (by decide +kernel) rfl rfl rfl (by decide +kernel)
set_option maxRecDepth 65536 in
theorem w_c9 : (Jvm.Cond.code ({ cls := "java/lang/StringUTF16", name := "compress", desc := "([CI[BII)I" } : Jvm.MethodName) jdk_52_method_21_code (7 : Nat) (Option.some Jvm.ClassFile.FieldType.int)).before args0 about1 = true := code_word (m := ⟨10, 3⟩) (meth := k10m3) (c := k10c3) (by decide +kernel) rfl rfl rfl (by decide +kernel)
set_option maxRecDepth 65536 in
theorem w_c10 : (Jvm.Cond.code ({ cls := "java/lang/StringUTF16", name := "coderFromArrayLen", desc := "([BI)B" } : Jvm.MethodName) jdk_52_method_15_code (2 : Nat) (Option.some Jvm.ClassFile.FieldType.byte)).before args0 about1 = true := code_word (m := ⟨10, 1⟩) (meth := k10m1) (c := k10c1) (by decide +kernel) rfl rfl rfl (by decide +kernel)
def codes1 : List Jvm.Cond := [Jvm.Cond.code x code maxLocals ret, Jvm.Cond.code ({ cls := "com/example/avvik/avvik/io/XsdValuesIsTruePinLaw", name := "make", desc := "(ICCCCC)Ljava/lang/String;" } : Jvm.MethodName) method_2_code (6 : Nat) (Option.some (Jvm.ClassFile.FieldType.object "java/lang/String")), Jvm.Cond.code ({ cls := "java/lang/String", name := "<init>", desc := "([C)V" } : Jvm.MethodName) jdk_42_method_3_code (2 : Nat) (Option.none : Option Jvm.ClassFile.FieldType), Jvm.Cond.code ({ cls := "java/lang/String", name := "<init>", desc := "([CIILjava/lang/Void;)V" } : Jvm.MethodName) jdk_42_method_149_code (6 : Nat) (Option.none : Option Jvm.ClassFile.FieldType), Jvm.Cond.code ({ cls := "java/lang/Object", name := "<init>", desc := "()V" } : Jvm.MethodName) object_method_1_code (1 : Nat) (Option.none : Option Jvm.ClassFile.FieldType), Jvm.Cond.code ({ cls := "com/example/avvik/avvik/io/XsdValues", name := "isTrue", desc := "(Ljava/lang/String;)Z" } : Jvm.MethodName) prog_24_method_2_code (1 : Nat) (Option.some Jvm.ClassFile.FieldType.boolean), Jvm.Cond.code ({ cls := "java/lang/String", name := "equals", desc := "(Ljava/lang/Object;)Z" } : Jvm.MethodName) jdk_42_method_66_code (3 : Nat) (Option.some Jvm.ClassFile.FieldType.boolean), Jvm.Cond.code ({ cls := "java/lang/StringLatin1", name := "equals", desc := "([B[B)Z" } : Jvm.MethodName) jdk_43_method_13_code (3 : Nat) (Option.some Jvm.ClassFile.FieldType.boolean), Jvm.Cond.code ({ cls := "java/lang/StringUTF16", name := "compress", desc := "([CII)[B" } : Jvm.MethodName) jdk_52_method_16_code (6 : Nat) (Option.some (Jvm.ClassFile.FieldType.array Jvm.ClassFile.FieldType.byte)), Jvm.Cond.code ({ cls := "java/lang/StringUTF16", name := "compress", desc := "([CI[BII)I" } : Jvm.MethodName) jdk_52_method_21_code (7 : Nat) (Option.some Jvm.ClassFile.FieldType.int), Jvm.Cond.code ({ cls := "java/lang/StringUTF16", name := "coderFromArrayLen", desc := "([BI)B" } : Jvm.MethodName) jdk_52_method_15_code (2 : Nat) (Option.some Jvm.ClassFile.FieldType.byte)]
set_option maxRecDepth 65536 in
theorem codes_eq : words1.filter isCode = codes1 := rfl
theorem w_codes : ∀ c ∈ words1.filter isCode, c.before args0 about1 = true := by
  rw [codes_eq]
  intro c hc
  simp only [codes1, List.mem_cons, List.not_mem_nil, or_false] at hc
  rcases hc with rfl | rfl | rfl | rfl | rfl | rfl | rfl | rfl | rfl | rfl | rfl
  · exact w_c0
  · exact w_c1
  · exact w_c2
  · exact w_c3
  · exact w_c4
  · exact w_c5
  · exact w_c6
  · exact w_c7
  · exact w_c8
  · exact w_c9
  · exact w_c10
set_option maxRecDepth 65536 in
theorem w_t1 : (words1.take 24).all (fun c => isCode c || c.before args0 about1) = true := by decide +kernel
set_option maxRecDepth 65536 in
theorem w_t2 : ((words1.drop 24).take 24).all (fun c => isCode c || c.before args0 about1) = true := by decide +kernel
set_option maxRecDepth 65536 in
theorem w_t3 : ((words1.drop 24).drop 24).all (fun c => isCode c || c.before args0 about1) = true := by decide +kernel
theorem w_tables : (allAtoms (Jvm.Cond.code x code maxLocals ret :: tables_1)).before args0 about1 = true := by
  rw [allAtoms_all]
  show words1.all (fun c => c.before args0 about1) = true
  refine all_split ?_ w_codes
  rw [← List.take_append_drop 24 words1, List.all_append, w_t1, ← List.take_append_drop 24 (words1.drop 24), List.all_append, w_t2, w_t3]
  rfl
set_option maxRecDepth 65536 in
theorem w_rest : rest_1_c.before args0 about1 = true := by decide +kernel
set_option maxRecDepth 65536 in
theorem w_case : (Jvm.Cond.and given_1 narrow_1).before args0 about1 = true := by decide +kernel
set_option maxRecDepth 65536 in
theorem w_consts : constsHeld consts_1 about1 := Jvm.Lit.constsHeldB_iff.mp (by decide +kernel)
theorem w_applies : (headSpec (Jvm.Cond.code x code maxLocals ret :: tables_1) room_1).applies x e0.platform about1 = true :=
  (Spec.applies_iff w_frames).mpr ⟨w_running, w_runnable, w_alone, w_named, w_hears, w_ripe, w_room, w_tables⟩
theorem atStart : AtStart classFile x code maxLocals ret World_1 tables_1 room_1 Calls_1 rest_1 Pre_1 launch0 p0 e0 about1 theMethod args0 below0 :=
  ⟨lists_1, trivial, launch0.admits_env _ _ _, launch0.least_env, fairChoices_fair.cas, fairChoices_fair.clock, w_frames, w_args, w_heap, w_applies, ⟨w_consts, trivial⟩, w_rest, w_case⟩
end start1
theorem witness_1 : WitnessClaimed_1 := ⟨start1.p0, start1.e0, start1.about1, start1.theMethod, start1.args0, start1.below0, start1.atStart⟩
end Jvm.Pilot.@@N@@
