import JvmDerived
import JvmDerived.Pilot.@@N@@Statement
import JvmDerived.Pilot.@@N@@Code
set_option linter.unusedVariables false
set_option linter.unusedSimpArgs false
set_option maxRecDepth 65536
namespace Jvm.Pilot.@@N@@
open Jvm Jvm.ClassFile Sem Op Lib Jvm.Free Jvm.Stand Jvm.LawKit Jvm.RoadKit Bundle Jvm.Pilot.@@N@@.Jvm.D
abbrev zs (p : Program) (e : Env) (b : List Frame) (T : State) (m : MethodId) (pc : Nat) (L : Array Slot) (S : List Value) (t : State) : Prop := Steps p.tables e b (T.setTop (mkF m pc L S)) t
abbrev zg (p : Program) (e : Env) (b : List Frame) (T : State) (m : MethodId) (pc : Nat) (L : Array Slot) (S : List Value) (pc' : Nat) (L' : Array Slot) (S' : List Value) : Prop := ∀ t, zs p e b T m pc L S t → zs p e b T m pc' L' S' t
abbrev zh (x k : Int32) : Int32 := ((x.toUInt32 >>> (k &&& 31).toUInt32).toInt32)
abbrev zR (a : Addr) : Slot := .val (.ref a)
abbrev zI (a : Int32) : Slot := .val (.int a)
abbrev zJ (a : Int64) : Slot := .val (.long a)
theorem zt {a b c : Nat} (h : a ≤ b) (k : b ≤ c) : a ≤ c := Nat.le_trans h k
theorem zl {a b c : Nat} (h : a < b) (k : b ≤ c) : a < c := Nat.lt_of_lt_of_le h k
theorem ze {a b : Nat} (h : a = b) : a ≤ b := Nat.le_of_eq h
theorem zn {a b : Nat} (h : a < b) : a ≠ b := Nat.ne_of_lt h
theorem zw {tb : List Cond} {aZ : Array Value} {Z : State} (hw : ∀ d ∈ tb, d.before aZ Z = true) (i : Nat) {d : Cond} (h : tb[i]? = some d) : d.before aZ Z = true := hw d (List.mem_of_getElem? h)
abbrev z0 (x0 x1 : Int32) : Array Slot := #[zI x0, zI x1]
abbrev z1 (x0 x1 : Addr) (x2 x3 x4 : Int32) (x5 : Int64) (x7 : Int32) : Array Slot := #[zR x0, zR x1, zI x2, zI x3, zI x4, zJ x5, .second, zI x7]
abbrev z2 (x0 x1 x2 : Addr) (x3 : Int32) (x4 : Addr) (x5 x7 : Int64) (x9 : Int32) : Array Slot := #[zR x0, zR x1, zR x2, zI x3, zR x4, zJ x5, .second, zJ x7, .second, zI x9, .unset, .unset, .unset, .unset, .unset, .unset]
abbrev z3 (x0 x1 x2 : Addr) (x3 : Int32) (x4 : Addr) (x5 x7 : Int64) (x9 : Addr) : Array Slot := #[zR x0, zR x1, zR x2, zI x3, zR x4, zJ x5, .second, zJ x7, .second, zR x9, .unset, .unset, .unset, .unset, .unset, .unset]
abbrev z4 (x0 x2 x4 : Int64) (x6 x7 x8 : Int32) (x9 x11 x13 x15 : Int64) (x17 x18 x19 : Int32) (x20 x21 x22 x23 x24 : Addr) (x25 : Int32) (x26 x28 x30 : Int64) (x32 : Int32) (x33 : Addr) (x34 x35 x36 : Int32) : Array Slot := #[zJ x0, .second, zJ x2, .second, zJ x4, .second, zI x6, zI x7, zI x8, zJ x9, .second, zJ x11, .second, zJ x13, .second, zJ x15, .second, zI x17, zI x18, zI x19, zR x20, zR x21, zR x22, zR x23, zR x24, zI x25, zJ x26, .second, zJ x28, .second, zJ x30, .second, zI x32, zR x33, zI x34, zI x35, zI x36]
abbrev z5 (x0 x1 : Addr) (x2 : Int32) (x3 x5 : Int64) (x7 : Int32) : Array Slot := #[zR x0, zR x1, zI x2, zJ x3, .second, zJ x5, .second, zI x7]
abbrev z6 (x0 : Addr) (x1 : Int32) : Array Slot := #[zR x0, zI x1]
abbrev z7 (x0 x1 x2 : Addr) : Array Slot := #[zR x0, zR x1, zR x2, .unset, .unset, .unset, .unset, .unset, .unset, .unset, .unset, .unset, .unset, .unset, .unset, .unset]
abbrev z8 (x0 x2 x4 : Int64) (x6 x7 x8 : Int32) (x9 x11 x13 x15 : Int64) (x17 x18 x19 : Int32) (x20 x21 x22 x23 x24 : Addr) (x25 : Int32) (x26 x28 x30 : Int64) (x32 : Int32) (x33 : Addr) (x34 x35 : Int32) : Array Slot := #[zJ x0, .second, zJ x2, .second, zJ x4, .second, zI x6, zI x7, zI x8, zJ x9, .second, zJ x11, .second, zJ x13, .second, zJ x15, .second, zI x17, zI x18, zI x19, zR x20, zR x21, zR x22, zR x23, zR x24, zI x25, zJ x26, .second, zJ x28, .second, zJ x30, .second, zI x32, zR x33, zI x34, zI x35, .unset]
abbrev z9 (x0 x2 x4 : Int64) (x6 x7 x8 : Int32) (x9 x11 x13 x15 : Int64) (x17 x18 x19 : Int32) (x20 x21 x22 x23 : Addr) : Array Slot := #[zJ x0, .second, zJ x2, .second, zJ x4, .second, zI x6, zI x7, zI x8, zJ x9, .second, zJ x11, .second, zJ x13, .second, zJ x15, .second, zI x17, zI x18, zI x19, zR x20, zR x21, zR x22, zR x23, .unset, .unset, .unset, .unset, .unset, .unset, .unset, .unset, .unset, .unset, .unset, .unset, .unset]
abbrev z10 (x0 x1 x2 : Addr) (x3 : Int32) (x4 : Addr) (x5 : Int32) : Array Slot := #[zR x0, zR x1, zR x2, zI x3, zR x4, zI x5]
abbrev z11 (x0 x2 x4 : Int64) (x6 x7 x8 : Int32) (x9 x11 x13 x15 : Int64) (x17 x18 x19 : Int32) (x20 x21 x22 x23 x24 : Addr) (x25 : Int32) (x26 x28 x30 : Int64) (x32 : Int32) (x33 : Addr) : Array Slot := #[zJ x0, .second, zJ x2, .second, zJ x4, .second, zI x6, zI x7, zI x8, zJ x9, .second, zJ x11, .second, zJ x13, .second, zJ x15, .second, zI x17, zI x18, zI x19, zR x20, zR x21, zR x22, zR x23, zR x24, zI x25, zJ x26, .second, zJ x28, .second, zJ x30, .second, zI x32, zR x33, .unset, .unset, .unset]
abbrev z12 (x0 : Int64) (x2 : Int32) : Array Slot := #[zJ x0, .second, zI x2]
abbrev z13 (x0 x1 x2 : Addr) : Array Slot := #[zR x0, zR x1, zR x2, .unset, .unset, .unset]
abbrev z14 (x0 x1 : Addr) (x2 x3 : Int32) : Array Slot := #[zR x0, zR x1, zI x2, zI x3, .unset, .unset, .unset, .unset]
abbrev z15 (x0 x2 : Int64) : Array Slot := #[zJ x0, .second, zJ x2, .second]
abbrev z16 (x0 x1 : Addr) (x2 : Int32) (x3 : Int64) : Array Slot := #[zR x0, zR x1, zI x2, zJ x3, .second, .unset, .unset, .unset]
abbrev z17 (x0 x1 x2 : Addr) (x3 : Int32) : Array Slot := #[zR x0, zR x1, zR x2, zI x3]
abbrev z18 (x0 : Int64) : Array Slot := #[zJ x0, .second]
abbrev z19 (x0 x2 x4 : Int64) (x6 x7 x8 : Int32) (x9 x11 x13 x15 : Int64) (x17 x18 x19 : Int32) (x20 x21 x22 x23 x24 : Addr) (x25 : Int32) : Array Slot := #[zJ x0, .second, zJ x2, .second, zJ x4, .second, zI x6, zI x7, zI x8, zJ x9, .second, zJ x11, .second, zJ x13, .second, zJ x15, .second, zI x17, zI x18, zI x19, zR x20, zR x21, zR x22, zR x23, zR x24, zI x25, .unset, .unset, .unset, .unset, .unset, .unset, .unset, .unset, .unset, .unset, .unset]
abbrev z20 (x0 x2 x4 : Int64) (x6 x7 x8 : Int32) (x9 x11 x13 x15 : Int64) (x17 x18 x19 : Int32) (x20 x21 x22 x23 x24 : Addr) (x25 : Int32) (x26 : Int64) : Array Slot := #[zJ x0, .second, zJ x2, .second, zJ x4, .second, zI x6, zI x7, zI x8, zJ x9, .second, zJ x11, .second, zJ x13, .second, zJ x15, .second, zI x17, zI x18, zI x19, zR x20, zR x21, zR x22, zR x23, zR x24, zI x25, zJ x26, .second, .unset, .unset, .unset, .unset, .unset, .unset, .unset, .unset, .unset]
abbrev z21 (x0 x1 : Addr) : Array Slot := #[zR x0, zR x1]
abbrev z22 (x0 : Addr) (x1 x2 : Int32) : Array Slot := #[zR x0, zI x1, zI x2, .unset]
abbrev z23 (x0 x1 x2 : Addr) (x3 : Int32) : Array Slot := #[zR x0, zR x1, zR x2, zI x3, .unset, .unset]
abbrev z24 (x0 x1 x2 : Addr) (x3 : Int32) (x4 : Addr) : Array Slot := #[zR x0, zR x1, zR x2, zI x3, zR x4, .unset]
abbrev z25 (x0 x1 : Addr) (x2 : Int32) (x3 x5 : Int64) : Array Slot := #[zR x0, zR x1, zI x2, zJ x3, .second, zJ x5, .second, .unset]
abbrev z26 (x0 x1 : Addr) (x2 : Int32) : Array Slot := #[zR x0, zR x1, zI x2, .unset, .unset, .unset, .unset, .unset]
abbrev z27 (x0 x2 x4 : Int64) (x6 x7 x8 : Int32) (x9 x11 x13 x15 : Int64) (x17 x18 x19 : Int32) (x20 x21 x22 x23 x24 : Addr) (x25 : Int32) (x26 x28 : Int64) : Array Slot := #[zJ x0, .second, zJ x2, .second, zJ x4, .second, zI x6, zI x7, zI x8, zJ x9, .second, zJ x11, .second, zJ x13, .second, zJ x15, .second, zI x17, zI x18, zI x19, zR x20, zR x21, zR x22, zR x23, zR x24, zI x25, zJ x26, .second, zJ x28, .second, .unset, .unset, .unset, .unset, .unset, .unset, .unset]
abbrev z28 (x0 : Addr) (x1 x3 : Int64) : Array Slot := #[zR x0, zJ x1, .second, zJ x3, .second]
abbrev z29 (x0 : Int32) : Array Slot := #[zI x0, .unset]
abbrev z30 (x0 x1 x2 : Addr) (x3 : Int32) : Array Slot := #[zR x0, zR x1, zR x2, zI x3, .unset, .unset, .unset, .unset, .unset, .unset, .unset, .unset, .unset, .unset, .unset, .unset]
abbrev z31 (x0 x2 x4 : Int64) (x6 x7 x8 : Int32) (x9 x11 x13 x15 : Int64) (x17 x18 x19 : Int32) (x20 x21 x22 x23 x24 : Addr) (x25 : Int32) (x26 x28 x30 : Int64) (x32 : Int32) (x33 : Addr) (x34 : Int32) : Array Slot := #[zJ x0, .second, zJ x2, .second, zJ x4, .second, zI x6, zI x7, zI x8, zJ x9, .second, zJ x11, .second, zJ x13, .second, zJ x15, .second, zI x17, zI x18, zI x19, zR x20, zR x21, zR x22, zR x23, zR x24, zI x25, zJ x26, .second, zJ x28, .second, zJ x30, .second, zI x32, zR x33, zI x34, .unset, .unset]
abbrev z32 (x0 : Addr) (x1 : Int32) (x2 x3 : Addr) : Array Slot := #[zR x0, zI x1, zR x2, zR x3]
abbrev z33 (x0 x2 x4 : Int64) (x6 x7 x8 : Int32) (x9 x11 x13 x15 : Int64) (x17 x18 x19 : Int32) (x20 x21 x22 x23 x24 : Addr) : Array Slot := #[zJ x0, .second, zJ x2, .second, zJ x4, .second, zI x6, zI x7, zI x8, zJ x9, .second, zJ x11, .second, zJ x13, .second, zJ x15, .second, zI x17, zI x18, zI x19, zR x20, zR x21, zR x22, zR x23, zR x24, .unset, .unset, .unset, .unset, .unset, .unset, .unset, .unset, .unset, .unset, .unset, .unset]
abbrev z34 (x0 x2 x4 : Int64) (x6 x7 x8 : Int32) (x9 x11 x13 x15 : Int64) (x17 x18 x19 : Int32) (x20 x21 x22 x23 x24 : Addr) (x25 : Int32) (x26 x28 x30 : Int64) : Array Slot := #[zJ x0, .second, zJ x2, .second, zJ x4, .second, zI x6, zI x7, zI x8, zJ x9, .second, zJ x11, .second, zJ x13, .second, zJ x15, .second, zI x17, zI x18, zI x19, zR x20, zR x21, zR x22, zR x23, zR x24, zI x25, zJ x26, .second, zJ x28, .second, zJ x30, .second, .unset, .unset, .unset, .unset, .unset]
abbrev z35 (x0 x2 x4 : Int64) (x6 x7 x8 : Int32) (x9 x11 x13 x15 : Int64) (x17 x18 x19 : Int32) : Array Slot := #[zJ x0, .second, zJ x2, .second, zJ x4, .second, zI x6, zI x7, zI x8, zJ x9, .second, zJ x11, .second, zJ x13, .second, zJ x15, .second, zI x17, zI x18, zI x19, .unset, .unset, .unset, .unset, .unset, .unset, .unset, .unset, .unset, .unset, .unset, .unset, .unset, .unset, .unset, .unset, .unset]
abbrev z36 (x0 x2 x4 : Int64) (x6 x7 x8 : Int32) (x9 x11 x13 x15 : Int64) (x17 x18 x19 : Int32) (x20 : Addr) : Array Slot := #[zJ x0, .second, zJ x2, .second, zJ x4, .second, zI x6, zI x7, zI x8, zJ x9, .second, zJ x11, .second, zJ x13, .second, zJ x15, .second, zI x17, zI x18, zI x19, zR x20, .unset, .unset, .unset, .unset, .unset, .unset, .unset, .unset, .unset, .unset, .unset, .unset, .unset, .unset, .unset, .unset]
abbrev z37 (x0 x2 x4 : Int64) (x6 x7 x8 : Int32) (x9 x11 x13 x15 : Int64) : Array Slot := #[zJ x0, .second, zJ x2, .second, zJ x4, .second, zI x6, zI x7, zI x8, zJ x9, .second, zJ x11, .second, zJ x13, .second, zJ x15, .second, .unset, .unset, .unset, .unset, .unset, .unset, .unset, .unset, .unset, .unset, .unset, .unset, .unset, .unset, .unset, .unset, .unset, .unset, .unset, .unset]
abbrev z38 (x0 x2 x4 : Int64) (x6 x7 x8 : Int32) (x9 x11 x13 x15 : Int64) (x17 : Int32) : Array Slot := #[zJ x0, .second, zJ x2, .second, zJ x4, .second, zI x6, zI x7, zI x8, zJ x9, .second, zJ x11, .second, zJ x13, .second, zJ x15, .second, zI x17, .unset, .unset, .unset, .unset, .unset, .unset, .unset, .unset, .unset, .unset, .unset, .unset, .unset, .unset, .unset, .unset, .unset, .unset, .unset]
abbrev z39 (x0 x2 x4 : Int64) (x6 x7 x8 : Int32) (x9 x11 x13 x15 : Int64) (x17 x18 : Int32) : Array Slot := #[zJ x0, .second, zJ x2, .second, zJ x4, .second, zI x6, zI x7, zI x8, zJ x9, .second, zJ x11, .second, zJ x13, .second, zJ x15, .second, zI x17, zI x18, .unset, .unset, .unset, .unset, .unset, .unset, .unset, .unset, .unset, .unset, .unset, .unset, .unset, .unset, .unset, .unset, .unset, .unset]
abbrev z40 (x0 x1 x2 : Addr) : Array Slot := #[zR x0, zR x1, zR x2]
abbrev z41 (x0 : Addr) (x1 : Int32) (x2 : Addr) : Array Slot := #[zR x0, zI x1, zR x2, .unset]
abbrev z42 (x0 x1 : Addr) : Array Slot := #[zR x0, zR x1, .unset, .unset, .unset, .unset]
abbrev z43 (x0 x2 x4 : Int64) (x6 x7 x8 : Int32) (x9 x11 x13 x15 : Int64) (x17 x18 x19 : Int32) (x20 x21 x22 x23 x24 : Addr) (x25 : Int32) (x26 x28 x30 : Int64) (x32 : Int32) : Array Slot := #[zJ x0, .second, zJ x2, .second, zJ x4, .second, zI x6, zI x7, zI x8, zJ x9, .second, zJ x11, .second, zJ x13, .second, zJ x15, .second, zI x17, zI x18, zI x19, zR x20, zR x21, zR x22, zR x23, zR x24, zI x25, zJ x26, .second, zJ x28, .second, zJ x30, .second, zI x32, .unset, .unset, .unset, .unset]
abbrev z44 (x0 x1 x2 : Addr) (x3 : Int32) (x4 : Addr) (x5 x7 : Int64) : Array Slot := #[zR x0, zR x1, zR x2, zI x3, zR x4, zJ x5, .second, zJ x7, .second, .unset, .unset, .unset, .unset, .unset, .unset, .unset]
abbrev z45 (x0 x2 x4 : Int64) (x6 x7 x8 : Int32) (x9 x11 x13 : Int64) : Array Slot := #[zJ x0, .second, zJ x2, .second, zJ x4, .second, zI x6, zI x7, zI x8, zJ x9, .second, zJ x11, .second, zJ x13, .second, .unset, .unset, .unset, .unset, .unset, .unset, .unset, .unset, .unset, .unset, .unset, .unset, .unset, .unset, .unset, .unset, .unset, .unset, .unset, .unset, .unset, .unset]
abbrev z46 (x0 x2 x4 : Int64) (x6 x7 x8 : Int32) (x9 x11 : Int64) : Array Slot := #[zJ x0, .second, zJ x2, .second, zJ x4, .second, zI x6, zI x7, zI x8, zJ x9, .second, zJ x11, .second, .unset, .unset, .unset, .unset, .unset, .unset, .unset, .unset, .unset, .unset, .unset, .unset, .unset, .unset, .unset, .unset, .unset, .unset, .unset, .unset, .unset, .unset, .unset, .unset]
abbrev z47 (x0 : Addr) (x1 : Int32) : Array Slot := #[zR x0, zI x1, .unset, .unset]
abbrev z48 (x0 x2 x4 : Int64) (x6 x7 x8 : Int32) (x9 x11 x13 x15 : Int64) (x17 x18 x19 : Int32) (x20 x21 : Addr) : Array Slot := #[zJ x0, .second, zJ x2, .second, zJ x4, .second, zI x6, zI x7, zI x8, zJ x9, .second, zJ x11, .second, zJ x13, .second, zJ x15, .second, zI x17, zI x18, zI x19, zR x20, zR x21, .unset, .unset, .unset, .unset, .unset, .unset, .unset, .unset, .unset, .unset, .unset, .unset, .unset, .unset, .unset]
abbrev z49 (x0 x2 x4 : Int64) (x6 x7 x8 : Int32) (x9 x11 x13 x15 : Int64) (x17 x18 x19 : Int32) (x20 x21 x22 : Addr) : Array Slot := #[zJ x0, .second, zJ x2, .second, zJ x4, .second, zI x6, zI x7, zI x8, zJ x9, .second, zJ x11, .second, zJ x13, .second, zJ x15, .second, zI x17, zI x18, zI x19, zR x20, zR x21, zR x22, .unset, .unset, .unset, .unset, .unset, .unset, .unset, .unset, .unset, .unset, .unset, .unset, .unset, .unset]
abbrev z50 (x0 : Int64) : Array Slot := #[zJ x0, .second, .unset]
abbrev z51 (x0 x1 : Addr) (x2 x3 x4 : Int32) : Array Slot := #[zR x0, zR x1, zI x2, zI x3, zI x4, .unset, .unset, .unset]
abbrev z52 (x0 x1 : Addr) (x2 x3 x4 : Int32) (x5 : Int64) : Array Slot := #[zR x0, zR x1, zI x2, zI x3, zI x4, zJ x5, .second, .unset]
abbrev z53 (x0 x2 x4 : Int64) (x6 x7 x8 : Int32) : Array Slot := #[zJ x0, .second, zJ x2, .second, zJ x4, .second, zI x6, zI x7, zI x8, .unset, .unset, .unset, .unset, .unset, .unset, .unset, .unset, .unset, .unset, .unset, .unset, .unset, .unset, .unset, .unset, .unset, .unset, .unset, .unset, .unset, .unset, .unset, .unset, .unset, .unset, .unset, .unset]
abbrev z54 (x0 x2 x4 : Int64) (x6 x7 x8 : Int32) (x9 : Int64) : Array Slot := #[zJ x0, .second, zJ x2, .second, zJ x4, .second, zI x6, zI x7, zI x8, zJ x9, .second, .unset, .unset, .unset, .unset, .unset, .unset, .unset, .unset, .unset, .unset, .unset, .unset, .unset, .unset, .unset, .unset, .unset, .unset, .unset, .unset, .unset, .unset, .unset, .unset, .unset, .unset]
/-- the run goes on from S to a return that Q says, within so many new cells and slots -/
def OFin (p : Program) (e : Env) (below : List Frame) (s : State) (Q : Option Value → Heap → List Loc → Prop) (cells slots : Nat) (S : State) : Prop :=
  ∃ s₂ o, Steps p.tables e below S s₂ ∧ s₂.status = .running ∧ Ended s₂ below o ∧ ∃ v L, o = .returned v ∧ Q v s₂.heap L ∧ FrameEnd s o s₂ L cells slots
section Own
variable {p : Program} {l : Launch} {e : Env} {R : Room} {s : State} {m : MethodId} {args : Array Value} {below : List Frame} {meth : Method} {c : Code} {T S S' : State} {locs : List Loc} {cells slots k n : Nat} {Q : Option Value → Heap → List Loc → Prop} {pc : Nat} {Ls : Array Slot} {rest : List Value}
theorem OFin.go (st : ∀ t, Steps p.tables e below S' t → Steps p.tables e below S t) (F : OFin p e below s Q cells slots S') : OFin p e below s Q cells slots S := by
  obtain ⟨s₂, o, h, r⟩ := F
  exact ⟨s₂, o, st _ h, r⟩
theorem OFin.tr (st : Steps p.tables e below S S') (F : OFin p e below s Q cells slots S') : OFin p e below s Q cells slots S := by
  obtain ⟨s₂, o, h, r⟩ := F
  exact ⟨s₂, o, st.trans h, r⟩
theorem OFin.ends (X : Stand p l e R s m args below meth c T locs k n) {v : Option Value} (hv : meth.sig.returnType = none → v = none) (hlk : meth.locks = false) (hq : Q v T.heap locs) (hk : k ≤ cells) (hn : n ≤ slots)
    (st : ∀ fs, (∀ (f : JFrame) (acts : List Action), f.method = m → f.locked = none → f.entered = [] → (doReturn e (T.setTop f) acts v).1 = T.setFrames fs) → Steps p.tables e below S (T.setFrames fs)) : OFin p e below s Q cells slots S := by
  obtain ⟨fs, hr, hrun, hended, hW, hsame⟩ := X.leave (v := v) hv hlk
  exact ⟨_, _, st fs hr, hrun, hended, _, _, rfl, hq, ⟨_, rfl⟩, hW, hsame.mono hk hn⟩
theorem OFin.retN (X : Stand p l e R s m args below meth c T locs k n) (hx : p.tables.exec = Jvm.exec) {z w : Int32} {t : FieldType} (hret : meth.sig.returnType = some t) (ht : t = .boolean ∨ t = .byte ∨ t = .char ∨ t = .short) (hlk : meth.locks = false)
    (hd : decode c.code pc = .ok (.ireturn, 1)) (hz : nar t z = w) (hq : Q (some (.int w)) T.heap locs) (hk : k ≤ cells) (hn : n ≤ slots) : OFin p e below s Q cells slots (T.setTop (mkF m pc Ls (.int z :: rest))) :=
  OFin.ends X (v := some (.int w)) (fun h => by rw [hret] at h; cases h) hlk hq hk hn fun fs hr => Jvm.RoadKit.retN X hx hret ht hd (by rw [hz]; exact hr)
theorem OFin.retI (X : Stand p l e R s m args below meth c T locs k n) (hx : p.tables.exec = Jvm.exec) {z : Int32} (hret : meth.sig.returnType = some .int) (hlk : meth.locks = false)
    (hd : decode c.code pc = .ok (.ireturn, 1)) (hq : Q (some (.int z)) T.heap locs) (hk : k ≤ cells) (hn : n ≤ slots) : OFin p e below s Q cells slots (T.setTop (mkF m pc Ls (.int z :: rest))) :=
  OFin.ends X (v := some (.int z)) (fun h => by rw [hret] at h; cases h) hlk hq hk hn fun fs hr => retOut X hx hret rfl (Or.inl ⟨rfl, Or.inl rfl, z, rfl⟩) hd hr
theorem OFin.retL (X : Stand p l e R s m args below meth c T locs k n) (hx : p.tables.exec = Jvm.exec) {z : Int64} (hret : meth.sig.returnType = some .long) (hlk : meth.locks = false)
    (hd : decode c.code pc = .ok (.lreturn, 1)) (hq : Q (some (.long z)) T.heap locs) (hk : k ≤ cells) (hn : n ≤ slots) : OFin p e below s Q cells slots (T.setTop (mkF m pc Ls (.long z :: rest))) :=
  OFin.ends X (v := some (.long z)) (fun h => by rw [hret] at h; cases h) hlk hq hk hn fun fs hr => retOut X hx hret rfl (Or.inr (Or.inl ⟨rfl, rfl, z, rfl⟩)) hd hr
theorem OFin.retA (X : Stand p l e R s m args below meth c T locs k n) (hx : p.tables.exec = Jvm.exec) {w : Value} {t : FieldType} (hret : meth.sig.returnType = some t) (ht : t.isReference = true) (hw : w.isRef = true) (hnr : narrow t w = w) (hlk : meth.locks = false)
    (hd : decode c.code pc = .ok (.areturn, 1)) (hq : Q (some w) T.heap locs) (hk : k ≤ cells) (hn : n ≤ slots) : OFin p e below s Q cells slots (T.setTop (mkF m pc Ls (w :: rest))) :=
  OFin.ends X (v := some w) (fun h => by rw [hret] at h; cases h) hlk hq hk hn fun fs hr => retOut X hx hret hnr (Or.inr (Or.inr (Or.inr (Or.inr ⟨rfl, ht, hw⟩)))) hd hr
theorem OFin.retV (X : Stand p l e R s m args below meth c T locs k n) (hx : p.tables.exec = Jvm.exec) (hret : meth.sig.returnType = none) (hlk : meth.locks = false)
    (hd : decode c.code pc = .ok (.return_, 1)) (hq : Q none T.heap locs) (hk : k ≤ cells) (hn : n ≤ slots) : OFin p e below s Q cells slots (T.setTop (mkF m pc Ls [])) :=
  OFin.ends X (v := none) (fun _ => rfl) hlk hq hk hn fun fs hr => X.returnOut hx hret hd hr
end Own
/-- the same, for a walk that may intern String constants -/
def OFinW (p : Program) (e : Env) (below : List Frame) (s : State) (Q : Option Value → Heap → List Loc → Prop) (cells slots : Nat) (S : State) : Prop :=
  ∃ s₂ o, Steps p.tables e below S s₂ ∧ s₂.status = .running ∧ Ended s₂ below o ∧ ∃ v L, o = .returned v ∧ Q v s₂.heap L ∧ ReturnedEndW s o s₂ L cells slots
section OwnW
variable {p : Program} {l : Launch} {e : Env} {R : Room} {s : State} {vm0 : Vm} {k0 : Nat} {m : MethodId} {args : Array Value} {below : List Frame} {meth : Method} {c : Code} {T S S' : State} {locs : List Loc} {cells slots k n : Nat} {Q : Option Value → Heap → List Loc → Prop} {pc : Nat} {Ls : Array Slot} {rest : List Value}
theorem OFinW.go (st : ∀ t, Steps p.tables e below S' t → Steps p.tables e below S t) (F : OFinW p e below s Q cells slots S') : OFinW p e below s Q cells slots S := by
  obtain ⟨s₂, o, h, r⟩ := F
  exact ⟨s₂, o, st _ h, r⟩
theorem OFinW.tr (st : Steps p.tables e below S S') (F : OFinW p e below s Q cells slots S') : OFinW p e below s Q cells slots S := by
  obtain ⟨s₂, o, h, r⟩ := F
  exact ⟨s₂, o, st.trans h, r⟩
theorem own_sbn {s t : State} {L : List Loc} {a b a' b' : Nat} (h : s.sameButNew t L a b) (ha : a ≤ a') (hb : b ≤ b') : s.sameButNew t L a' b' := h.mono ha hb
theorem OFinW.ends (X : Stand p l e R (s.setVm vm0) m args below meth c T locs k n) (hS : s.Since vm0 k0) (hk0 : k0 ≤ T.heap.size) {v : Option Value} (hv : meth.sig.returnType = none → v = none) (hlk : meth.locks = false) (hq : Q v T.heap locs) (hk : k ≤ cells) (hn : n ≤ slots)
    (st : ∀ fs, (∀ (f : JFrame) (acts : List Action), f.method = m → f.locked = none → f.entered = [] → (doReturn e (T.setTop f) acts v).1 = T.setFrames fs) → Steps p.tables e below S (T.setFrames fs)) : OFinW p e below s Q cells slots S := by
  obtain ⟨fs, hr, hrun, hended, h1, h2, h3, hsame⟩ := Jvm.Stand.leaveW X hS hk0 (v := v) hv hlk
  exact ⟨_, _, st fs hr, hrun, hended, _, _, rfl, hq, h1, h2, h3, hsame.mono hk hn⟩
theorem OFinW.retN (X : Stand p l e R (s.setVm vm0) m args below meth c T locs k n) (hS : s.Since vm0 k0) (hk0 : k0 ≤ T.heap.size) (hx : p.tables.exec = Jvm.exec) {z w : Int32} {t : FieldType} (hret : meth.sig.returnType = some t) (ht : t = .boolean ∨ t = .byte ∨ t = .char ∨ t = .short) (hlk : meth.locks = false)
    (hd : decode c.code pc = .ok (.ireturn, 1)) (hz : nar t z = w) (hq : Q (some (.int w)) T.heap locs) (hk : k ≤ cells) (hn : n ≤ slots) : OFinW p e below s Q cells slots (T.setTop (mkF m pc Ls (.int z :: rest))) :=
  OFinW.ends X hS hk0 (v := some (.int w)) (fun h => by rw [hret] at h; cases h) hlk hq hk hn fun fs hr => Jvm.RoadKit.retN X hx hret ht hd (by rw [hz]; exact hr)
theorem OFinW.retV (X : Stand p l e R (s.setVm vm0) m args below meth c T locs k n) (hS : s.Since vm0 k0) (hk0 : k0 ≤ T.heap.size) (hx : p.tables.exec = Jvm.exec) (hret : meth.sig.returnType = none) (hlk : meth.locks = false)
    (hd : decode c.code pc = .ok (.return_, 1)) (hq : Q none T.heap locs) (hk : k ≤ cells) (hn : n ≤ slots) : OFinW p e below s Q cells slots (T.setTop (mkF m pc Ls [])) :=
  OFinW.ends X hS hk0 (v := none) (fun _ => rfl) hlk hq hk hn fun fs hr => X.returnOut hx hret hd hr
end OwnW

theorem d1_0 : decode jdk_29_method_70_code 0 = .ok (.lload_n 0, 1) := by decide +kernel
theorem d1_1 : decode jdk_29_method_70_code 1 = .ok (.lload_n 2, 1) := by decide +kernel
theorem d1_2 : decode jdk_29_method_70_code 2 = .ok (.lcmp, 1) := by decide +kernel
theorem d1_3 : decode jdk_29_method_70_code 3 = .ok (.ifCond .gt 7, 3) := by decide +kernel
theorem d1_6 : decode jdk_29_method_70_code 6 = .ok (.lload_n 0, 1) := by decide +kernel
theorem d1_7 : decode jdk_29_method_70_code 7 = .ok (.goto 4, 3) := by decide +kernel
theorem d1_10 : decode jdk_29_method_70_code 10 = .ok (.lload_n 2, 1) := by decide +kernel
theorem d1_11 : decode jdk_29_method_70_code 11 = .ok (.lreturn, 1) := by decide +kernel
theorem ef_1 (m : MethodId) (x0 : Int64) (x1 : Int64) : entryFrame m #[(.long x0), (.long x1)] 4 = mkF m 0 #[.val (.long x0), .second, .val (.long x1), .second] [] := by first | (simp [entryFrame, mkF, argsToLocals, Value.category]; done) | rfl
def own_f1 (q0 : Int64) (q1 : Int64) : Int64 := (if q1 < q0 then q1 else q0)
def Q1 (Z : State) (q0 : Int64) (q1 : Int64) (h0 : Heap) (n0 : Nat) (v : Option Value) (h : Heap) (L : List Loc) : Prop := v = some (.long (own_f1 q0 q1)) ∧ Fr n0 L ∧ h = h0
set_option maxHeartbeats 40000000 in
theorem rm1 (l : Launch) (Z : State) (aZ : Array Value) (hw : ∀ d ∈ tables_1, d.before aZ Z = true) (ws : List Jvm.Cond) (q0 : Int64) (q1 : Int64) (h0 : Heap) (n0 : Nat) (Z0 : n0 ≤ h0.size) :
  MetFree l (⟨"java/lang/Math", "min", "(JJ)J"⟩ : MethodName) (head1 (Jvm.Cond.code (⟨"java/lang/Math", "min", "(JJ)J"⟩ : MethodName) jdk_29_method_70_code 4 (some .long) :: ws) ({ frames := 0, cells := 0, slots := 0, locals := 0 } : Room)) (fun a U => a = #[.long q0, .long q1] ∧ Z.Warmed39 U.vm ∧ U.heap = h0) (fun _ _ _ _ _ => True) (fun _ U o U' => ∃ v L, o = .returned v ∧ Q1 Z q0 q1 h0 n0 v U'.heap L ∧ FrameEnd U o U' L ({ frames := 0, cells := 0, slots := 0, locals := 0 } : Room).cells ({ frames := 0, cells := 0, slots := 0, locals := 0 } : Room).slots) := by
 refine MetFree.of_bodySF (Jvm.Free.JP.mathPlain rfl (by decide +kernel)) hisR ?_
 intro p e s m args below meth c s₁ Bd hml0 hP hK
 obtain ⟨rfl, hZ, hh⟩ := hP
 have hx := Bd.exec
 have hby := Bd.bytes
 have hret := Bd.returns
 have hlk : meth.locks = false := BodyLoose.notSynchronized Bd
 have hml : c.maxLocals = 4 := hml0
 have hown : s.vm.findClass "java/lang/Math" = some m.cls := findClass_of_methodNamed Bd.named
 have hnm := (name_of_methodNamed Bd.named Bd.method).1
 have X0 : Stand p l e ({ frames := 0, cells := 0, slots := 0, locals := 0 } : Room) s m #[.long q0, .long q1] below meth c s₁ [] 0 0 := Stand.of_body Bd
 have e0 : s₁.heap = h0 := by rw [← hh, Bd.state]; rfl
 have N0 := Fr.nil n0
 have K0 : Keep h0 h0 [] := Keep.refl _ _
 have pre0 : ∀ t, zs p e below s₁ m 0 (z15 q0 q1) [] t → Steps p.tables e below (s₁.setTop (entryFrame m #[.long q0, .long q1] 4)) t := fun t k => castTop (ef_1 m q0 q1) k
 show OFin p e below s (Q1 Z q0 q1 h0 n0) ({ frames := 0, cells := 0, slots := 0, locals := 0 } : Room).cells ({ frames := 0, cells := 0, slots := 0, locals := 0 } : Room).slots _
 refine OFin.go pre0 ?_
 have sg101 : zg p e below s₁ m 3 (z15 q0 q1) [.int (lcmpW q0 q1)] 0 (z15 q0 q1) [] := by
  intro t k
  refine XS.lloadN X0.here hx rfl (hb hby d1_0) rfl ?_
  show zs p e below s₁ m 1 (z15 q0 q1) [.long q0] t
  refine XS.lloadN X0.here hx rfl (hb hby d1_1) rfl ?_
  show zs p e below s₁ m 2 (z15 q0 q1) [.long q1, .long q0] t
  refine XS.lcmp X0.here hx rfl (hb hby d1_2) rfl ?_
  exact k
 refine OFin.go sg101 ?_
 by_cases c102 : q1 < q0
 ·have sg103 : zg p e below s₁ m 11 (z15 q0 q1) [.long q1] 3 (z15 q0 q1) [.int (lcmpW q0 q1)] := by
   intro t k
   refine XS.ifYes X0.here hx rfl (pc0 := 3) (pc' := 10) rfl (hb hby d1_3) rfl ((if0 _ _).trans (tlt ((lw_gt _ _).mpr c102)).2.2.1) (by decide) (by decide) ?_
   show zs p e below s₁ m 10 (z15 q0 q1) [] t
   refine XS.lloadN X0.here hx rfl (hb hby d1_10) rfl ?_
   exact k
  refine OFin.go sg103 ?_
  exact OFin.retL X0 hx hret hlk (hb hby d1_11) (by rw [e0]; exact ⟨(congrArg (fun z => some (Value.long z)) (show q1 = own_f1 q0 q1 from (by rw [own_f1, if_pos c102]))), N0, rfl⟩) (by decide) (by decide)
 ·have sg104 : zg p e below s₁ m 11 (z15 q0 q1) [.long q0] 3 (z15 q0 q1) [.int (lcmpW q0 q1)] := by
   intro t k
   refine XS.ifNo X0.here hx rfl (hb hby d1_3) rfl ((if0 _ _).trans (flt (mt (lw_gt _ _).mp c102)).2.2.1) ?_
   show zs p e below s₁ m 6 (z15 q0 q1) [] t
   refine XS.lloadN X0.here hx rfl (hb hby d1_6) rfl ?_
   show zs p e below s₁ m 7 (z15 q0 q1) [.long q0] t
   refine XS.goto X0.here hx rfl (pc0 := 7) (pc' := 11) rfl (hb hby d1_7) (by decide) (by decide) ?_
   exact k
  refine OFin.go sg104 ?_
  exact OFin.retL X0 hx hret hlk (hb hby d1_11) (by rw [e0]; exact ⟨(congrArg (fun z => some (Value.long z)) (show q0 = own_f1 q0 q1 from (by rw [own_f1, if_neg c102]))), N0, rfl⟩) (by decide) (by decide)
theorem d2_0 : decode jdk_29_method_66_code 0 = .ok (.lload_n 0, 1) := by decide +kernel
theorem d2_1 : decode jdk_29_method_66_code 1 = .ok (.lload_n 2, 1) := by decide +kernel
theorem d2_2 : decode jdk_29_method_66_code 2 = .ok (.lcmp, 1) := by decide +kernel
theorem d2_3 : decode jdk_29_method_66_code 3 = .ok (.ifCond .lt 7, 3) := by decide +kernel
theorem d2_6 : decode jdk_29_method_66_code 6 = .ok (.lload_n 0, 1) := by decide +kernel
theorem d2_7 : decode jdk_29_method_66_code 7 = .ok (.goto 4, 3) := by decide +kernel
theorem d2_10 : decode jdk_29_method_66_code 10 = .ok (.lload_n 2, 1) := by decide +kernel
theorem d2_11 : decode jdk_29_method_66_code 11 = .ok (.lreturn, 1) := by decide +kernel
theorem ef_2 (m : MethodId) (x0 : Int64) (x1 : Int64) : entryFrame m #[(.long x0), (.long x1)] 4 = mkF m 0 #[.val (.long x0), .second, .val (.long x1), .second] [] := by first | (simp [entryFrame, mkF, argsToLocals, Value.category]; done) | rfl
def own_f2 (q0 : Int64) (q1 : Int64) : Int64 := (if q0 < q1 then q1 else q0)
def Q2 (Z : State) (q0 : Int64) (q1 : Int64) (h0 : Heap) (n0 : Nat) (v : Option Value) (h : Heap) (L : List Loc) : Prop := v = some (.long (own_f2 q0 q1)) ∧ Fr n0 L ∧ h = h0
set_option maxHeartbeats 40000000 in
theorem rm2 (l : Launch) (Z : State) (aZ : Array Value) (hw : ∀ d ∈ tables_1, d.before aZ Z = true) (ws : List Jvm.Cond) (q0 : Int64) (q1 : Int64) (h0 : Heap) (n0 : Nat) (Z0 : n0 ≤ h0.size) :
  MetFree l (⟨"java/lang/Math", "max", "(JJ)J"⟩ : MethodName) (head1 (Jvm.Cond.code (⟨"java/lang/Math", "max", "(JJ)J"⟩ : MethodName) jdk_29_method_66_code 4 (some .long) :: ws) ({ frames := 0, cells := 0, slots := 0, locals := 0 } : Room)) (fun a U => a = #[.long q0, .long q1] ∧ Z.Warmed39 U.vm ∧ U.heap = h0) (fun _ _ _ _ _ => True) (fun _ U o U' => ∃ v L, o = .returned v ∧ Q2 Z q0 q1 h0 n0 v U'.heap L ∧ FrameEnd U o U' L ({ frames := 0, cells := 0, slots := 0, locals := 0 } : Room).cells ({ frames := 0, cells := 0, slots := 0, locals := 0 } : Room).slots) := by
 refine MetFree.of_bodySF (Jvm.Free.JP.mathPlain rfl (by decide +kernel)) hisR ?_
 intro p e s m args below meth c s₁ Bd hml0 hP hK
 obtain ⟨rfl, hZ, hh⟩ := hP
 have hx := Bd.exec
 have hby := Bd.bytes
 have hret := Bd.returns
 have hlk : meth.locks = false := BodyLoose.notSynchronized Bd
 have hml : c.maxLocals = 4 := hml0
 have hown : s.vm.findClass "java/lang/Math" = some m.cls := findClass_of_methodNamed Bd.named
 have hnm := (name_of_methodNamed Bd.named Bd.method).1
 have X0 : Stand p l e ({ frames := 0, cells := 0, slots := 0, locals := 0 } : Room) s m #[.long q0, .long q1] below meth c s₁ [] 0 0 := Stand.of_body Bd
 have e0 : s₁.heap = h0 := by rw [← hh, Bd.state]; rfl
 have N0 := Fr.nil n0
 have K0 : Keep h0 h0 [] := Keep.refl _ _
 have pre0 : ∀ t, zs p e below s₁ m 0 (z15 q0 q1) [] t → Steps p.tables e below (s₁.setTop (entryFrame m #[.long q0, .long q1] 4)) t := fun t k => castTop (ef_2 m q0 q1) k
 show OFin p e below s (Q2 Z q0 q1 h0 n0) ({ frames := 0, cells := 0, slots := 0, locals := 0 } : Room).cells ({ frames := 0, cells := 0, slots := 0, locals := 0 } : Room).slots _
 refine OFin.go pre0 ?_
 have sg101 : zg p e below s₁ m 3 (z15 q0 q1) [.int (lcmpW q0 q1)] 0 (z15 q0 q1) [] := by
  intro t k
  refine XS.lloadN X0.here hx rfl (hb hby d2_0) rfl ?_
  show zs p e below s₁ m 1 (z15 q0 q1) [.long q0] t
  refine XS.lloadN X0.here hx rfl (hb hby d2_1) rfl ?_
  show zs p e below s₁ m 2 (z15 q0 q1) [.long q1, .long q0] t
  refine XS.lcmp X0.here hx rfl (hb hby d2_2) rfl ?_
  exact k
 refine OFin.go sg101 ?_
 by_cases c102 : q0 < q1
 ·have sg103 : zg p e below s₁ m 11 (z15 q0 q1) [.long q1] 3 (z15 q0 q1) [.int (lcmpW q0 q1)] := by
   intro t k
   refine XS.ifYes X0.here hx rfl (pc0 := 3) (pc' := 10) rfl (hb hby d2_3) rfl ((if0 _ _).trans (tlt ((lw_lt _ _).mpr c102)).1) (by decide) (by decide) ?_
   show zs p e below s₁ m 10 (z15 q0 q1) [] t
   refine XS.lloadN X0.here hx rfl (hb hby d2_10) rfl ?_
   exact k
  refine OFin.go sg103 ?_
  exact OFin.retL X0 hx hret hlk (hb hby d2_11) (by rw [e0]; exact ⟨(congrArg (fun z => some (Value.long z)) (show q1 = own_f2 q0 q1 from (by rw [own_f2, if_pos c102]))), N0, rfl⟩) (by decide) (by decide)
 ·have sg104 : zg p e below s₁ m 11 (z15 q0 q1) [.long q0] 3 (z15 q0 q1) [.int (lcmpW q0 q1)] := by
   intro t k
   refine XS.ifNo X0.here hx rfl (hb hby d2_3) rfl ((if0 _ _).trans (flt (mt (lw_lt _ _).mp c102)).1) ?_
   show zs p e below s₁ m 6 (z15 q0 q1) [] t
   refine XS.lloadN X0.here hx rfl (hb hby d2_6) rfl ?_
   show zs p e below s₁ m 7 (z15 q0 q1) [.long q0] t
   refine XS.goto X0.here hx rfl (pc0 := 7) (pc' := 11) rfl (hb hby d2_7) (by decide) (by decide) ?_
   exact k
  refine OFin.go sg104 ?_
  exact OFin.retL X0 hx hret hlk (hb hby d2_11) (by rw [e0]; exact ⟨(congrArg (fun z => some (Value.long z)) (show q0 = own_f2 q0 q1 from (by rw [own_f2, if_neg c102]))), N0, rfl⟩) (by decide) (by decide)
theorem d22_0 : decode jdk_29_method_69_code 0 = .ok (.iload_n 0, 1) := by decide +kernel
theorem d22_1 : decode jdk_29_method_69_code 1 = .ok (.iload_n 1, 1) := by decide +kernel
theorem d22_2 : decode jdk_29_method_69_code 2 = .ok (.if_icmp .gt 7, 3) := by decide +kernel
theorem d22_5 : decode jdk_29_method_69_code 5 = .ok (.iload_n 0, 1) := by decide +kernel
theorem d22_6 : decode jdk_29_method_69_code 6 = .ok (.goto 4, 3) := by decide +kernel
theorem d22_9 : decode jdk_29_method_69_code 9 = .ok (.iload_n 1, 1) := by decide +kernel
theorem d22_10 : decode jdk_29_method_69_code 10 = .ok (.ireturn, 1) := by decide +kernel
theorem ef_22 (m : MethodId) (x0 : Int32) (x1 : Int32) : entryFrame m #[(.int x0), (.int x1)] 2 = mkF m 0 #[.val (.int x0), .val (.int x1)] [] := by first | (simp [entryFrame, mkF, argsToLocals, Value.category]; done) | rfl
def own_f22 (q0 : Int32) (q1 : Int32) : Int32 := (if q1 < q0 then q1 else q0)
def Q22 (Z : State) (q0 : Int32) (q1 : Int32) (h0 : Heap) (n0 : Nat) (v : Option Value) (h : Heap) (L : List Loc) : Prop := v = some (.int (own_f22 q0 q1)) ∧ Fr n0 L ∧ h = h0
set_option maxHeartbeats 40000000 in
theorem rm22 (l : Launch) (Z : State) (aZ : Array Value) (hw : ∀ d ∈ tables_1, d.before aZ Z = true) (ws : List Jvm.Cond) (q0 : Int32) (q1 : Int32) (h0 : Heap) (n0 : Nat) (Z0 : n0 ≤ h0.size) :
  MetFree l (⟨"java/lang/Math", "min", "(II)I"⟩ : MethodName) (head1 (Jvm.Cond.code (⟨"java/lang/Math", "min", "(II)I"⟩ : MethodName) jdk_29_method_69_code 2 (some .int) :: ws) ({ frames := 0, cells := 0, slots := 0, locals := 0 } : Room)) (fun a U => a = #[.int q0, .int q1] ∧ Z.Warmed39 U.vm ∧ U.heap = h0) (fun _ _ _ _ _ => True) (fun _ U o U' => ∃ v L, o = .returned v ∧ Q22 Z q0 q1 h0 n0 v U'.heap L ∧ FrameEnd U o U' L ({ frames := 0, cells := 0, slots := 0, locals := 0 } : Room).cells ({ frames := 0, cells := 0, slots := 0, locals := 0 } : Room).slots) := by
 refine MetFree.of_bodySF (Jvm.Free.JP.mathPlain rfl (by decide +kernel)) hisR ?_
 intro p e s m args below meth c s₁ Bd hml0 hP hK
 obtain ⟨rfl, hZ, hh⟩ := hP
 have hx := Bd.exec
 have hby := Bd.bytes
 have hret := Bd.returns
 have hlk : meth.locks = false := BodyLoose.notSynchronized Bd
 have hml : c.maxLocals = 2 := hml0
 have hown : s.vm.findClass "java/lang/Math" = some m.cls := findClass_of_methodNamed Bd.named
 have hnm := (name_of_methodNamed Bd.named Bd.method).1
 have X0 : Stand p l e ({ frames := 0, cells := 0, slots := 0, locals := 0 } : Room) s m #[.int q0, .int q1] below meth c s₁ [] 0 0 := Stand.of_body Bd
 have e0 : s₁.heap = h0 := by rw [← hh, Bd.state]; rfl
 have N0 := Fr.nil n0
 have K0 : Keep h0 h0 [] := Keep.refl _ _
 have pre0 : ∀ t, zs p e below s₁ m 0 (z0 q0 q1) [] t → Steps p.tables e below (s₁.setTop (entryFrame m #[.int q0, .int q1] 2)) t := fun t k => castTop (ef_22 m q0 q1) k
 show OFin p e below s (Q22 Z q0 q1 h0 n0) ({ frames := 0, cells := 0, slots := 0, locals := 0 } : Room).cells ({ frames := 0, cells := 0, slots := 0, locals := 0 } : Room).slots _
 refine OFin.go pre0 ?_
 have sg101 : zg p e below s₁ m 2 (z0 q0 q1) [.int q1, .int q0] 0 (z0 q0 q1) [] := by
  intro t k
  refine XS.iloadN X0.here hx rfl (hb hby d22_0) rfl ?_
  show zs p e below s₁ m 1 (z0 q0 q1) [.int q0] t
  refine XS.iloadN X0.here hx rfl (hb hby d22_1) rfl ?_
  exact k
 refine OFin.go sg101 ?_
 by_cases c102 : q1 < q0
 ·have sg103 : zg p e below s₁ m 10 (z0 q0 q1) [.int q1] 2 (z0 q0 q1) [.int q1, .int q0] := by
   intro t k
   refine XS.icmpYes X0.here hx rfl (pc0 := 2) (pc' := 9) rfl (hb hby d22_2) rfl (tlt c102).2.2.1 (by decide) (by decide) ?_
   show zs p e below s₁ m 9 (z0 q0 q1) [] t
   refine XS.iloadN X0.here hx rfl (hb hby d22_9) rfl ?_
   exact k
  refine OFin.go sg103 ?_
  exact OFin.retI X0 hx hret hlk (hb hby d22_10) (by rw [e0]; exact ⟨(congrArg (fun z => some (Value.int z)) (show q1 = own_f22 q0 q1 from (by rw [own_f22, if_pos c102]))), N0, rfl⟩) (by decide) (by decide)
 ·have sg104 : zg p e below s₁ m 10 (z0 q0 q1) [.int q0] 2 (z0 q0 q1) [.int q1, .int q0] := by
   intro t k
   refine XS.icmpNo X0.here hx rfl (hb hby d22_2) rfl (flt c102).2.2.1 ?_
   show zs p e below s₁ m 5 (z0 q0 q1) [] t
   refine XS.iloadN X0.here hx rfl (hb hby d22_5) rfl ?_
   show zs p e below s₁ m 6 (z0 q0 q1) [.int q0] t
   refine XS.goto X0.here hx rfl (pc0 := 6) (pc' := 10) rfl (hb hby d22_6) (by decide) (by decide) ?_
   exact k
  refine OFin.go sg104 ?_
  exact OFin.retI X0 hx hret hlk (hb hby d22_10) (by rw [e0]; exact ⟨(congrArg (fun z => some (Value.int z)) (show q0 = own_f22 q0 q1 from (by rw [own_f22, if_neg c102]))), N0, rfl⟩) (by decide) (by decide)
theorem d14_0 : decode jdk_29_method_65_code 0 = .ok (.iload_n 0, 1) := by decide +kernel
theorem d14_1 : decode jdk_29_method_65_code 1 = .ok (.iload_n 1, 1) := by decide +kernel
theorem d14_2 : decode jdk_29_method_65_code 2 = .ok (.if_icmp .lt 7, 3) := by decide +kernel
theorem d14_5 : decode jdk_29_method_65_code 5 = .ok (.iload_n 0, 1) := by decide +kernel
theorem d14_6 : decode jdk_29_method_65_code 6 = .ok (.goto 4, 3) := by decide +kernel
theorem d14_9 : decode jdk_29_method_65_code 9 = .ok (.iload_n 1, 1) := by decide +kernel
theorem d14_10 : decode jdk_29_method_65_code 10 = .ok (.ireturn, 1) := by decide +kernel
theorem ef_14 (m : MethodId) (x0 : Int32) (x1 : Int32) : entryFrame m #[(.int x0), (.int x1)] 2 = mkF m 0 #[.val (.int x0), .val (.int x1)] [] := by first | (simp [entryFrame, mkF, argsToLocals, Value.category]; done) | rfl
def own_f14 (q0 : Int32) (q1 : Int32) : Int32 := (if q0 < q1 then q1 else q0)
def Q14 (Z : State) (q0 : Int32) (q1 : Int32) (h0 : Heap) (n0 : Nat) (v : Option Value) (h : Heap) (L : List Loc) : Prop := v = some (.int (own_f14 q0 q1)) ∧ Fr n0 L ∧ h = h0
set_option maxHeartbeats 40000000 in
theorem rm14 (l : Launch) (Z : State) (aZ : Array Value) (hw : ∀ d ∈ tables_1, d.before aZ Z = true) (ws : List Jvm.Cond) (q0 : Int32) (q1 : Int32) (h0 : Heap) (n0 : Nat) (Z0 : n0 ≤ h0.size) :
  MetFree l (⟨"java/lang/Math", "max", "(II)I"⟩ : MethodName) (head1 (Jvm.Cond.code (⟨"java/lang/Math", "max", "(II)I"⟩ : MethodName) jdk_29_method_65_code 2 (some .int) :: ws) ({ frames := 0, cells := 0, slots := 0, locals := 0 } : Room)) (fun a U => a = #[.int q0, .int q1] ∧ Z.Warmed39 U.vm ∧ U.heap = h0) (fun _ _ _ _ _ => True) (fun _ U o U' => ∃ v L, o = .returned v ∧ Q14 Z q0 q1 h0 n0 v U'.heap L ∧ FrameEnd U o U' L ({ frames := 0, cells := 0, slots := 0, locals := 0 } : Room).cells ({ frames := 0, cells := 0, slots := 0, locals := 0 } : Room).slots) := by
 refine MetFree.of_bodySF (Jvm.Free.JP.mathPlain rfl (by decide +kernel)) hisR ?_
 intro p e s m args below meth c s₁ Bd hml0 hP hK
 obtain ⟨rfl, hZ, hh⟩ := hP
 have hx := Bd.exec
 have hby := Bd.bytes
 have hret := Bd.returns
 have hlk : meth.locks = false := BodyLoose.notSynchronized Bd
 have hml : c.maxLocals = 2 := hml0
 have hown : s.vm.findClass "java/lang/Math" = some m.cls := findClass_of_methodNamed Bd.named
 have hnm := (name_of_methodNamed Bd.named Bd.method).1
 have X0 : Stand p l e ({ frames := 0, cells := 0, slots := 0, locals := 0 } : Room) s m #[.int q0, .int q1] below meth c s₁ [] 0 0 := Stand.of_body Bd
 have e0 : s₁.heap = h0 := by rw [← hh, Bd.state]; rfl
 have N0 := Fr.nil n0
 have K0 : Keep h0 h0 [] := Keep.refl _ _
 have pre0 : ∀ t, zs p e below s₁ m 0 (z0 q0 q1) [] t → Steps p.tables e below (s₁.setTop (entryFrame m #[.int q0, .int q1] 2)) t := fun t k => castTop (ef_14 m q0 q1) k
 show OFin p e below s (Q14 Z q0 q1 h0 n0) ({ frames := 0, cells := 0, slots := 0, locals := 0 } : Room).cells ({ frames := 0, cells := 0, slots := 0, locals := 0 } : Room).slots _
 refine OFin.go pre0 ?_
 have sg101 : zg p e below s₁ m 2 (z0 q0 q1) [.int q1, .int q0] 0 (z0 q0 q1) [] := by
  intro t k
  refine XS.iloadN X0.here hx rfl (hb hby d14_0) rfl ?_
  show zs p e below s₁ m 1 (z0 q0 q1) [.int q0] t
  refine XS.iloadN X0.here hx rfl (hb hby d14_1) rfl ?_
  exact k
 refine OFin.go sg101 ?_
 by_cases c102 : q0 < q1
 ·have sg103 : zg p e below s₁ m 10 (z0 q0 q1) [.int q1] 2 (z0 q0 q1) [.int q1, .int q0] := by
   intro t k
   refine XS.icmpYes X0.here hx rfl (pc0 := 2) (pc' := 9) rfl (hb hby d14_2) rfl (tlt c102).1 (by decide) (by decide) ?_
   show zs p e below s₁ m 9 (z0 q0 q1) [] t
   refine XS.iloadN X0.here hx rfl (hb hby d14_9) rfl ?_
   exact k
  refine OFin.go sg103 ?_
  exact OFin.retI X0 hx hret hlk (hb hby d14_10) (by rw [e0]; exact ⟨(congrArg (fun z => some (Value.int z)) (show q1 = own_f14 q0 q1 from (by rw [own_f14, if_pos c102]))), N0, rfl⟩) (by decide) (by decide)
 ·have sg104 : zg p e below s₁ m 10 (z0 q0 q1) [.int q0] 2 (z0 q0 q1) [.int q1, .int q0] := by
   intro t k
   refine XS.icmpNo X0.here hx rfl (hb hby d14_2) rfl (flt c102).1 ?_
   show zs p e below s₁ m 5 (z0 q0 q1) [] t
   refine XS.iloadN X0.here hx rfl (hb hby d14_5) rfl ?_
   show zs p e below s₁ m 6 (z0 q0 q1) [.int q0] t
   refine XS.goto X0.here hx rfl (pc0 := 6) (pc' := 10) rfl (hb hby d14_6) (by decide) (by decide) ?_
   exact k
  refine OFin.go sg104 ?_
  exact OFin.retI X0 hx hret hlk (hb hby d14_10) (by rw [e0]; exact ⟨(congrArg (fun z => some (Value.int z)) (show q0 = own_f14 q0 q1 from (by rw [own_f14, if_neg c102]))), N0, rfl⟩) (by decide) (by decide)
theorem d32_0 : decode jdk_33_method_47_code 0 = .ok (.iload_n 0, 1) := by decide +kernel
theorem d32_1 : decode jdk_33_method_47_code 1 = .ok (.ifCond .gt 14, 3) := by decide +kernel
theorem d32_4 : decode jdk_33_method_47_code 4 = .ok (.iload_n 0, 1) := by decide +kernel
theorem d32_5 : decode jdk_33_method_47_code 5 = .ok (.ifCond .ne 8, 3) := by decide +kernel
theorem d32_8 : decode jdk_33_method_47_code 8 = .ok (.bipush 32, 2) := by decide +kernel
theorem d32_10 : decode jdk_33_method_47_code 10 = .ok (.goto 4, 3) := by decide +kernel
theorem d32_13 : decode jdk_33_method_47_code 13 = .ok (.iconst 0, 1) := by decide +kernel
theorem d32_14 : decode jdk_33_method_47_code 14 = .ok (.ireturn, 1) := by decide +kernel
theorem d32_15 : decode jdk_33_method_47_code 15 = .ok (.bipush 31, 2) := by decide +kernel
theorem d32_17 : decode jdk_33_method_47_code 17 = .ok (.istore_n 1, 1) := by decide +kernel
theorem d32_18 : decode jdk_33_method_47_code 18 = .ok (.iload_n 0, 1) := by decide +kernel
theorem d32_19 : decode jdk_33_method_47_code 19 = .ok (.ldc_w 264, 3) := by decide +kernel
theorem d32_22 : decode jdk_33_method_47_code 22 = .ok (.if_icmp .lt 11, 3) := by decide +kernel
theorem d32_25 : decode jdk_33_method_47_code 25 = .ok (.iinc 1 (-16), 3) := by decide +kernel
theorem d32_28 : decode jdk_33_method_47_code 28 = .ok (.iload_n 0, 1) := by decide +kernel
theorem d32_29 : decode jdk_33_method_47_code 29 = .ok (.bipush 16, 2) := by decide +kernel
theorem d32_31 : decode jdk_33_method_47_code 31 = .ok (.iushr, 1) := by decide +kernel
theorem d32_32 : decode jdk_33_method_47_code 32 = .ok (.istore_n 0, 1) := by decide +kernel
theorem d32_33 : decode jdk_33_method_47_code 33 = .ok (.iload_n 0, 1) := by decide +kernel
theorem d32_34 : decode jdk_33_method_47_code 34 = .ok (.sipush 256, 3) := by decide +kernel
theorem d32_37 : decode jdk_33_method_47_code 37 = .ok (.if_icmp .lt 11, 3) := by decide +kernel
theorem d32_40 : decode jdk_33_method_47_code 40 = .ok (.iinc 1 (-8), 3) := by decide +kernel
theorem d32_43 : decode jdk_33_method_47_code 43 = .ok (.iload_n 0, 1) := by decide +kernel
theorem d32_44 : decode jdk_33_method_47_code 44 = .ok (.bipush 8, 2) := by decide +kernel
theorem d32_46 : decode jdk_33_method_47_code 46 = .ok (.iushr, 1) := by decide +kernel
theorem d32_47 : decode jdk_33_method_47_code 47 = .ok (.istore_n 0, 1) := by decide +kernel
theorem d32_48 : decode jdk_33_method_47_code 48 = .ok (.iload_n 0, 1) := by decide +kernel
theorem d32_49 : decode jdk_33_method_47_code 49 = .ok (.bipush 16, 2) := by decide +kernel
theorem d32_51 : decode jdk_33_method_47_code 51 = .ok (.if_icmp .lt 10, 3) := by decide +kernel
theorem d32_54 : decode jdk_33_method_47_code 54 = .ok (.iinc 1 (-4), 3) := by decide +kernel
theorem d32_57 : decode jdk_33_method_47_code 57 = .ok (.iload_n 0, 1) := by decide +kernel
theorem d32_58 : decode jdk_33_method_47_code 58 = .ok (.iconst 4, 1) := by decide +kernel
theorem d32_59 : decode jdk_33_method_47_code 59 = .ok (.iushr, 1) := by decide +kernel
theorem d32_60 : decode jdk_33_method_47_code 60 = .ok (.istore_n 0, 1) := by decide +kernel
theorem d32_61 : decode jdk_33_method_47_code 61 = .ok (.iload_n 0, 1) := by decide +kernel
theorem d32_62 : decode jdk_33_method_47_code 62 = .ok (.iconst 4, 1) := by decide +kernel
theorem d32_63 : decode jdk_33_method_47_code 63 = .ok (.if_icmp .lt 10, 3) := by decide +kernel
theorem d32_66 : decode jdk_33_method_47_code 66 = .ok (.iinc 1 (-2), 3) := by decide +kernel
theorem d32_69 : decode jdk_33_method_47_code 69 = .ok (.iload_n 0, 1) := by decide +kernel
theorem d32_70 : decode jdk_33_method_47_code 70 = .ok (.iconst 2, 1) := by decide +kernel
theorem d32_71 : decode jdk_33_method_47_code 71 = .ok (.iushr, 1) := by decide +kernel
theorem d32_72 : decode jdk_33_method_47_code 72 = .ok (.istore_n 0, 1) := by decide +kernel
theorem d32_73 : decode jdk_33_method_47_code 73 = .ok (.iload_n 1, 1) := by decide +kernel
theorem d32_74 : decode jdk_33_method_47_code 74 = .ok (.iload_n 0, 1) := by decide +kernel
theorem d32_75 : decode jdk_33_method_47_code 75 = .ok (.iconst 1, 1) := by decide +kernel
theorem d32_76 : decode jdk_33_method_47_code 76 = .ok (.iushr, 1) := by decide +kernel
theorem d32_77 : decode jdk_33_method_47_code 77 = .ok (.isub, 1) := by decide +kernel
theorem d32_78 : decode jdk_33_method_47_code 78 = .ok (.ireturn, 1) := by decide +kernel
theorem pn_0 : plainName "java/lang/Integer" = true := by first | (simp [plainName, overriddenIn]; done) | decide +kernel
theorem ef_32 (m : MethodId) (x0 : Int32) : entryFrame m #[(.int x0)] 2 = mkF m 0 #[.val (.int x0), .unset] [] := by first | (simp [entryFrame, mkF, argsToLocals, Value.category]; done) | rfl
def own_f32 (q0 : Int32) : Int32 := (if (0 : Int32) < q0 then (if q0 < (65536 : Int32) then (if q0 < (256 : Int32) then (if q0 < (16 : Int32) then (if q0 < (4 : Int32) then ((31 : Int32) - ((q0.toUInt32 >>> ((1 : Int32) &&& 31).toUInt32).toInt32)) else (((31 : Int32) + (-2 : Int32)) - ((((q0.toUInt32 >>> ((2 : Int32) &&& 31).toUInt32).toInt32).toUInt32 >>> ((1 : Int32) &&& 31).toUInt32).toInt32))) else (if ((q0.toUInt32 >>> ((4 : Int32) &&& 31).toUInt32).toInt32) < (4 : Int32) then (((31 : Int32) + (-4 : Int32)) - ((((q0.toUInt32 >>> ((4 : Int32) &&& 31).toUInt32).toInt32).toUInt32 >>> ((1 : Int32) &&& 31).toUInt32).toInt32)) else ((((31 : Int32) + (-4 : Int32)) + (-2 : Int32)) - ((((((q0.toUInt32 >>> ((4 : Int32) &&& 31).toUInt32).toInt32).toUInt32 >>> ((2 : Int32) &&& 31).toUInt32).toInt32).toUInt32 >>> ((1 : Int32) &&& 31).toUInt32).toInt32)))) else (if ((q0.toUInt32 >>> ((8 : Int32) &&& 31).toUInt32).toInt32) < (16 : Int32) then (if ((q0.toUInt32 >>> ((8 : Int32) &&& 31).toUInt32).toInt32) < (4 : Int32) then (((31 : Int32) + (-8 : Int32)) - ((((q0.toUInt32 >>> ((8 : Int32) &&& 31).toUInt32).toInt32).toUInt32 >>> ((1 : Int32) &&& 31).toUInt32).toInt32)) else ((((31 : Int32) + (-8 : Int32)) + (-2 : Int32)) - ((((((q0.toUInt32 >>> ((8 : Int32) &&& 31).toUInt32).toInt32).toUInt32 >>> ((2 : Int32) &&& 31).toUInt32).toInt32).toUInt32 >>> ((1 : Int32) &&& 31).toUInt32).toInt32))) else (if ((((q0.toUInt32 >>> ((8 : Int32) &&& 31).toUInt32).toInt32).toUInt32 >>> ((4 : Int32) &&& 31).toUInt32).toInt32) < (4 : Int32) then ((((31 : Int32) + (-8 : Int32)) + (-4 : Int32)) - ((((((q0.toUInt32 >>> ((8 : Int32) &&& 31).toUInt32).toInt32).toUInt32 >>> ((4 : Int32) &&& 31).toUInt32).toInt32).toUInt32 >>> ((1 : Int32) &&& 31).toUInt32).toInt32)) else (((((31 : Int32) + (-8 : Int32)) + (-4 : Int32)) + (-2 : Int32)) - ((((((((q0.toUInt32 >>> ((8 : Int32) &&& 31).toUInt32).toInt32).toUInt32 >>> ((4 : Int32) &&& 31).toUInt32).toInt32).toUInt32 >>> ((2 : Int32) &&& 31).toUInt32).toInt32).toUInt32 >>> ((1 : Int32) &&& 31).toUInt32).toInt32))))) else (if ((q0.toUInt32 >>> ((16 : Int32) &&& 31).toUInt32).toInt32) < (256 : Int32) then (if ((q0.toUInt32 >>> ((16 : Int32) &&& 31).toUInt32).toInt32) < (16 : Int32) then (if ((q0.toUInt32 >>> ((16 : Int32) &&& 31).toUInt32).toInt32) < (4 : Int32) then (((31 : Int32) + (-16 : Int32)) - ((((q0.toUInt32 >>> ((16 : Int32) &&& 31).toUInt32).toInt32).toUInt32 >>> ((1 : Int32) &&& 31).toUInt32).toInt32)) else ((((31 : Int32) + (-16 : Int32)) + (-2 : Int32)) - ((((((q0.toUInt32 >>> ((16 : Int32) &&& 31).toUInt32).toInt32).toUInt32 >>> ((2 : Int32) &&& 31).toUInt32).toInt32).toUInt32 >>> ((1 : Int32) &&& 31).toUInt32).toInt32))) else (if ((((q0.toUInt32 >>> ((16 : Int32) &&& 31).toUInt32).toInt32).toUInt32 >>> ((4 : Int32) &&& 31).toUInt32).toInt32) < (4 : Int32) then ((((31 : Int32) + (-16 : Int32)) + (-4 : Int32)) - ((((((q0.toUInt32 >>> ((16 : Int32) &&& 31).toUInt32).toInt32).toUInt32 >>> ((4 : Int32) &&& 31).toUInt32).toInt32).toUInt32 >>> ((1 : Int32) &&& 31).toUInt32).toInt32)) else (((((31 : Int32) + (-16 : Int32)) + (-4 : Int32)) + (-2 : Int32)) - ((((((((q0.toUInt32 >>> ((16 : Int32) &&& 31).toUInt32).toInt32).toUInt32 >>> ((4 : Int32) &&& 31).toUInt32).toInt32).toUInt32 >>> ((2 : Int32) &&& 31).toUInt32).toInt32).toUInt32 >>> ((1 : Int32) &&& 31).toUInt32).toInt32)))) else (if ((((q0.toUInt32 >>> ((16 : Int32) &&& 31).toUInt32).toInt32).toUInt32 >>> ((8 : Int32) &&& 31).toUInt32).toInt32) < (16 : Int32) then (if ((((q0.toUInt32 >>> ((16 : Int32) &&& 31).toUInt32).toInt32).toUInt32 >>> ((8 : Int32) &&& 31).toUInt32).toInt32) < (4 : Int32) then ((((31 : Int32) + (-16 : Int32)) + (-8 : Int32)) - ((((((q0.toUInt32 >>> ((16 : Int32) &&& 31).toUInt32).toInt32).toUInt32 >>> ((8 : Int32) &&& 31).toUInt32).toInt32).toUInt32 >>> ((1 : Int32) &&& 31).toUInt32).toInt32)) else (((((31 : Int32) + (-16 : Int32)) + (-8 : Int32)) + (-2 : Int32)) - ((((((((q0.toUInt32 >>> ((16 : Int32) &&& 31).toUInt32).toInt32).toUInt32 >>> ((8 : Int32) &&& 31).toUInt32).toInt32).toUInt32 >>> ((2 : Int32) &&& 31).toUInt32).toInt32).toUInt32 >>> ((1 : Int32) &&& 31).toUInt32).toInt32))) else (if ((((((q0.toUInt32 >>> ((16 : Int32) &&& 31).toUInt32).toInt32).toUInt32 >>> ((8 : Int32) &&& 31).toUInt32).toInt32).toUInt32 >>> ((4 : Int32) &&& 31).toUInt32).toInt32) < (4 : Int32) then (((((31 : Int32) + (-16 : Int32)) + (-8 : Int32)) + (-4 : Int32)) - ((((((((q0.toUInt32 >>> ((16 : Int32) &&& 31).toUInt32).toInt32).toUInt32 >>> ((8 : Int32) &&& 31).toUInt32).toInt32).toUInt32 >>> ((4 : Int32) &&& 31).toUInt32).toInt32).toUInt32 >>> ((1 : Int32) &&& 31).toUInt32).toInt32)) else ((((((31 : Int32) + (-16 : Int32)) + (-8 : Int32)) + (-4 : Int32)) + (-2 : Int32)) - ((((((((((q0.toUInt32 >>> ((16 : Int32) &&& 31).toUInt32).toInt32).toUInt32 >>> ((8 : Int32) &&& 31).toUInt32).toInt32).toUInt32 >>> ((4 : Int32) &&& 31).toUInt32).toInt32).toUInt32 >>> ((2 : Int32) &&& 31).toUInt32).toInt32).toUInt32 >>> ((1 : Int32) &&& 31).toUInt32).toInt32)))))) else (if q0 = (0 : Int32) then (32 : Int32) else (0 : Int32)))
def Q32 (Z : State) (q0 : Int32) (h0 : Heap) (n0 : Nat) (v : Option Value) (h : Heap) (L : List Loc) : Prop := v = some (.int (own_f32 q0)) ∧ Fr n0 L ∧ h = h0
set_option maxHeartbeats 40000000 in
theorem rm32 (l : Launch) (Z : State) (aZ : Array Value) (hw : ∀ d ∈ tables_1, d.before aZ Z = true) (ws : List Jvm.Cond) (q0 : Int32) (h0 : Heap) (n0 : Nat) (Z0 : n0 ≤ h0.size) :
  MetFree l (⟨"java/lang/Integer", "numberOfLeadingZeros", "(I)I"⟩ : MethodName) (head1 (Jvm.Cond.code (⟨"java/lang/Integer", "numberOfLeadingZeros", "(I)I"⟩ : MethodName) jdk_33_method_47_code 2 (some .int) :: ws) ({ frames := 0, cells := 0, slots := 0, locals := 0 } : Room)) (fun a U => a = #[.int q0] ∧ Z.Warmed39 U.vm ∧ U.heap = h0) (fun _ _ _ _ _ => True) (fun _ U o U' => ∃ v L, o = .returned v ∧ Q32 Z q0 h0 n0 v U'.heap L ∧ FrameEnd U o U' L ({ frames := 0, cells := 0, slots := 0, locals := 0 } : Room).cells ({ frames := 0, cells := 0, slots := 0, locals := 0 } : Room).slots) := by
 refine MetFree.of_bodySF (plainFor_of_name pn_0) hisR ?_
 intro p e s m args below meth c s₁ Bd hml0 hP hK
 obtain ⟨rfl, hZ, hh⟩ := hP
 have hx := Bd.exec
 have hby := Bd.bytes
 have hret := Bd.returns
 have hlk : meth.locks = false := BodyLoose.notSynchronized Bd
 have hml : c.maxLocals = 2 := hml0
 have hown : s.vm.findClass "java/lang/Integer" = some m.cls := findClass_of_methodNamed Bd.named
 have hnm := (name_of_methodNamed Bd.named Bd.method).1
 have X0 : Stand p l e ({ frames := 0, cells := 0, slots := 0, locals := 0 } : Room) s m #[.int q0] below meth c s₁ [] 0 0 := Stand.of_body Bd
 have e0 : s₁.heap = h0 := by rw [← hh, Bd.state]; rfl
 have N0 := Fr.nil n0
 have K0 : Keep h0 h0 [] := Keep.refl _ _
 have pre0 : ∀ t, zs p e below s₁ m 0 (z29 q0) [] t → Steps p.tables e below (s₁.setTop (entryFrame m #[.int q0] 2)) t := fun t k => castTop (ef_32 m q0) k
 show OFin p e below s (Q32 Z q0 h0 n0) ({ frames := 0, cells := 0, slots := 0, locals := 0 } : Room).cells ({ frames := 0, cells := 0, slots := 0, locals := 0 } : Room).slots _
 refine OFin.go pre0 ?_
 have sg101 : zg p e below s₁ m 1 (z29 q0) [.int q0] 0 (z29 q0) [] := by
  intro t k
  refine XS.iloadN X0.here hx rfl (hb hby d32_0) rfl ?_
  exact k
 refine OFin.go sg101 ?_
 by_cases c102 : (0 : Int32) < q0
 ·have sg103 : zg p e below s₁ m 22 (z0 q0 31) [.int 65536, .int q0] 1 (z29 q0) [.int q0] := by
   intro t k
   refine XS.ifYes X0.here hx rfl (pc0 := 1) (pc' := 15) rfl (hb hby d32_1) rfl ((if0 _ _).trans (tlt c102).2.2.1) (by decide) (by decide) ?_
   show zs p e below s₁ m 15 (z29 q0) [] t
   refine XS.bipush X0.here hx rfl (hb hby d32_15) ?_
   show zs p e below s₁ m 17 (z29 q0) [.int 31] t
   refine XS.istoreN X0.here hx rfl (hb hby d32_17) rfl (l' := (z0 q0 31)) rfl ?_
   show zs p e below s₁ m 18 (z0 q0 31) [] t
   refine XS.iloadN X0.here hx rfl (hb hby d32_18) rfl ?_
   show zs p e below s₁ m 19 (z0 q0 31) [.int q0] t
   refine X0.ldcwInt hx hown (mvT hZ (zw hw 240 rfl)) (g := (mkF m 19 (z0 q0 31) [.int q0])) rfl (hb hby d32_19) _ ?_
   exact k
  refine OFin.go sg103 ?_
  by_cases c104 : q0 < (65536 : Int32)
  ·have sg105 : zg p e below s₁ m 37 (z0 q0 31) [.int 256, .int q0] 22 (z0 q0 31) [.int 65536, .int q0] := by
    intro t k
    refine XS.icmpYes X0.here hx rfl (pc0 := 22) (pc' := 33) rfl (hb hby d32_22) rfl (tlt c104).1 (by decide) (by decide) ?_
    show zs p e below s₁ m 33 (z0 q0 31) [] t
    refine XS.iloadN X0.here hx rfl (hb hby d32_33) rfl ?_
    show zs p e below s₁ m 34 (z0 q0 31) [.int q0] t
    refine XS.sipush X0.here hx rfl (hb hby d32_34) ?_
    exact k
   refine OFin.go sg105 ?_
   by_cases c106 : q0 < (256 : Int32)
   ·have sg107 : zg p e below s₁ m 51 (z0 q0 31) [.int 16, .int q0] 37 (z0 q0 31) [.int 256, .int q0] := by
     intro t k
     refine XS.icmpYes X0.here hx rfl (pc0 := 37) (pc' := 48) rfl (hb hby d32_37) rfl (tlt c106).1 (by decide) (by decide) ?_
     show zs p e below s₁ m 48 (z0 q0 31) [] t
     refine XS.iloadN X0.here hx rfl (hb hby d32_48) rfl ?_
     show zs p e below s₁ m 49 (z0 q0 31) [.int q0] t
     refine XS.bipush X0.here hx rfl (hb hby d32_49) ?_
     exact k
    refine OFin.go sg107 ?_
    by_cases c108 : q0 < (16 : Int32)
    ·have sg109 : zg p e below s₁ m 63 (z0 q0 31) [.int 4, .int q0] 51 (z0 q0 31) [.int 16, .int q0] := by
      intro t k
      refine XS.icmpYes X0.here hx rfl (pc0 := 51) (pc' := 61) rfl (hb hby d32_51) rfl (tlt c108).1 (by decide) (by decide) ?_
      show zs p e below s₁ m 61 (z0 q0 31) [] t
      refine XS.iloadN X0.here hx rfl (hb hby d32_61) rfl ?_
      show zs p e below s₁ m 62 (z0 q0 31) [.int q0] t
      refine XS.iconst X0.here hx rfl (hb hby d32_62) ?_
      exact k
     refine OFin.go sg109 ?_
     by_cases c110 : q0 < (4 : Int32)
     ·have sg111 : zg p e below s₁ m 78 (z0 q0 31) [.int ((31 : Int32) - (zh q0 1))] 63 (z0 q0 31) [.int 4, .int q0] := by
       intro t k
       refine XS.icmpYes X0.here hx rfl (pc0 := 63) (pc' := 73) rfl (hb hby d32_63) rfl (tlt c110).1 (by decide) (by decide) ?_
       show zs p e below s₁ m 73 (z0 q0 31) [] t
       refine XS.iloadN X0.here hx rfl (hb hby d32_73) rfl ?_
       show zs p e below s₁ m 74 (z0 q0 31) [.int 31] t
       refine XS.iloadN X0.here hx rfl (hb hby d32_74) rfl ?_
       show zs p e below s₁ m 75 (z0 q0 31) [.int q0, .int 31] t
       refine XS.iconst X0.here hx rfl (hb hby d32_75) ?_
       show zs p e below s₁ m 76 (z0 q0 31) [.int 1, .int q0, .int 31] t
       refine XS.iushr X0.here hx rfl (hb hby d32_76) rfl ?_
       show zs p e below s₁ m 77 (z0 q0 31) [.int (zh q0 1), .int 31] t
       refine XS.isub X0.here hx rfl (hb hby d32_77) rfl ?_
       exact k
      refine OFin.go sg111 ?_
      exact OFin.retI X0 hx hret hlk (hb hby d32_78) (by rw [e0]; exact ⟨(congrArg (fun z => some (Value.int z)) (show ((31 : Int32) - ((q0.toUInt32 >>> ((1 : Int32) &&& 31).toUInt32).toInt32)) = own_f32 q0 from (by rw [own_f32, if_pos c102, if_pos c104, if_pos c106, if_pos c108, if_pos c110]))), N0, rfl⟩) (by decide) (by decide)
     ·have sg112 : zg p e below s₁ m 78 (z0 (zh q0 2) ((31 : Int32) + (-2 : Int32))) [.int (((31 : Int32) + (-2 : Int32)) - (zh (zh q0 2) 1))] 63 (z0 q0 31) [.int 4, .int q0] := by
       intro t k
       refine XS.icmpNo X0.here hx rfl (hb hby d32_63) rfl (flt c110).1 ?_
       show zs p e below s₁ m 66 (z0 q0 31) [] t
       refine XS.iinc X0.here hx rfl (hb hby d32_66) rfl (l' := (z0 q0 ((31 : Int32) + (-2 : Int32)))) rfl ?_
       show zs p e below s₁ m 69 (z0 q0 ((31 : Int32) + (-2 : Int32))) [] t
       refine XS.iloadN X0.here hx rfl (hb hby d32_69) rfl ?_
       show zs p e below s₁ m 70 (z0 q0 ((31 : Int32) + (-2 : Int32))) [.int q0] t
       refine XS.iconst X0.here hx rfl (hb hby d32_70) ?_
       show zs p e below s₁ m 71 (z0 q0 ((31 : Int32) + (-2 : Int32))) [.int 2, .int q0] t
       refine XS.iushr X0.here hx rfl (hb hby d32_71) rfl ?_
       show zs p e below s₁ m 72 (z0 q0 ((31 : Int32) + (-2 : Int32))) [.int (zh q0 2)] t
       refine XS.istoreN X0.here hx rfl (hb hby d32_72) rfl (l' := (z0 ((q0.toUInt32 >>> ((2 : Int32) &&& 31).toUInt32).toInt32) ((31 : Int32) + (-2 : Int32)))) rfl ?_
       show zs p e below s₁ m 73 (z0 (zh q0 2) ((31 : Int32) + (-2 : Int32))) [] t
       refine XS.iloadN X0.here hx rfl (hb hby d32_73) rfl ?_
       show zs p e below s₁ m 74 (z0 (zh q0 2) ((31 : Int32) + (-2 : Int32))) [.int ((31 : Int32) + (-2 : Int32))] t
       refine XS.iloadN X0.here hx rfl (hb hby d32_74) rfl ?_
       show zs p e below s₁ m 75 (z0 (zh q0 2) ((31 : Int32) + (-2 : Int32))) [.int (zh q0 2), .int ((31 : Int32) + (-2 : Int32))] t
       refine XS.iconst X0.here hx rfl (hb hby d32_75) ?_
       show zs p e below s₁ m 76 (z0 (zh q0 2) ((31 : Int32) + (-2 : Int32))) [.int 1, .int (zh q0 2), .int ((31 : Int32) + (-2 : Int32))] t
       refine XS.iushr X0.here hx rfl (hb hby d32_76) rfl ?_
       show zs p e below s₁ m 77 (z0 (zh q0 2) ((31 : Int32) + (-2 : Int32))) [.int (zh (zh q0 2) 1), .int ((31 : Int32) + (-2 : Int32))] t
       refine XS.isub X0.here hx rfl (hb hby d32_77) rfl ?_
       exact k
      refine OFin.go sg112 ?_
      exact OFin.retI X0 hx hret hlk (hb hby d32_78) (by rw [e0]; exact ⟨(congrArg (fun z => some (Value.int z)) (show (((31 : Int32) + (-2 : Int32)) - ((((q0.toUInt32 >>> ((2 : Int32) &&& 31).toUInt32).toInt32).toUInt32 >>> ((1 : Int32) &&& 31).toUInt32).toInt32)) = own_f32 q0 from (by rw [own_f32, if_pos c102, if_pos c104, if_pos c106, if_pos c108, if_neg c110]))), N0, rfl⟩) (by decide) (by decide)
    ·have sg113 : zg p e below s₁ m 63 (z0 (zh q0 4) ((31 : Int32) + (-4 : Int32))) [.int 4, .int (zh q0 4)] 51 (z0 q0 31) [.int 16, .int q0] := by
      intro t k
      refine XS.icmpNo X0.here hx rfl (hb hby d32_51) rfl (flt c108).1 ?_
      show zs p e below s₁ m 54 (z0 q0 31) [] t
      refine XS.iinc X0.here hx rfl (hb hby d32_54) rfl (l' := (z0 q0 ((31 : Int32) + (-4 : Int32)))) rfl ?_
      show zs p e below s₁ m 57 (z0 q0 ((31 : Int32) + (-4 : Int32))) [] t
      refine XS.iloadN X0.here hx rfl (hb hby d32_57) rfl ?_
      show zs p e below s₁ m 58 (z0 q0 ((31 : Int32) + (-4 : Int32))) [.int q0] t
      refine XS.iconst X0.here hx rfl (hb hby d32_58) ?_
      show zs p e below s₁ m 59 (z0 q0 ((31 : Int32) + (-4 : Int32))) [.int 4, .int q0] t
      refine XS.iushr X0.here hx rfl (hb hby d32_59) rfl ?_
      show zs p e below s₁ m 60 (z0 q0 ((31 : Int32) + (-4 : Int32))) [.int (zh q0 4)] t
      refine XS.istoreN X0.here hx rfl (hb hby d32_60) rfl (l' := (z0 ((q0.toUInt32 >>> ((4 : Int32) &&& 31).toUInt32).toInt32) ((31 : Int32) + (-4 : Int32)))) rfl ?_
      show zs p e below s₁ m 61 (z0 (zh q0 4) ((31 : Int32) + (-4 : Int32))) [] t
      refine XS.iloadN X0.here hx rfl (hb hby d32_61) rfl ?_
      show zs p e below s₁ m 62 (z0 (zh q0 4) ((31 : Int32) + (-4 : Int32))) [.int (zh q0 4)] t
      refine XS.iconst X0.here hx rfl (hb hby d32_62) ?_
      exact k
     refine OFin.go sg113 ?_
     by_cases c114 : ((q0.toUInt32 >>> ((4 : Int32) &&& 31).toUInt32).toInt32) < (4 : Int32)
     ·have sg115 : zg p e below s₁ m 78 (z0 (zh q0 4) ((31 : Int32) + (-4 : Int32))) [.int (((31 : Int32) + (-4 : Int32)) - (zh (zh q0 4) 1))] 63 (z0 (zh q0 4) ((31 : Int32) + (-4 : Int32))) [.int 4, .int (zh q0 4)] := by
       intro t k
       refine XS.icmpYes X0.here hx rfl (pc0 := 63) (pc' := 73) rfl (hb hby d32_63) rfl (tlt c114).1 (by decide) (by decide) ?_
       show zs p e below s₁ m 73 (z0 (zh q0 4) ((31 : Int32) + (-4 : Int32))) [] t
       refine XS.iloadN X0.here hx rfl (hb hby d32_73) rfl ?_
       show zs p e below s₁ m 74 (z0 (zh q0 4) ((31 : Int32) + (-4 : Int32))) [.int ((31 : Int32) + (-4 : Int32))] t
       refine XS.iloadN X0.here hx rfl (hb hby d32_74) rfl ?_
       show zs p e below s₁ m 75 (z0 (zh q0 4) ((31 : Int32) + (-4 : Int32))) [.int (zh q0 4), .int ((31 : Int32) + (-4 : Int32))] t
       refine XS.iconst X0.here hx rfl (hb hby d32_75) ?_
       show zs p e below s₁ m 76 (z0 (zh q0 4) ((31 : Int32) + (-4 : Int32))) [.int 1, .int (zh q0 4), .int ((31 : Int32) + (-4 : Int32))] t
       refine XS.iushr X0.here hx rfl (hb hby d32_76) rfl ?_
       show zs p e below s₁ m 77 (z0 (zh q0 4) ((31 : Int32) + (-4 : Int32))) [.int (zh (zh q0 4) 1), .int ((31 : Int32) + (-4 : Int32))] t
       refine XS.isub X0.here hx rfl (hb hby d32_77) rfl ?_
       exact k
      refine OFin.go sg115 ?_
      exact OFin.retI X0 hx hret hlk (hb hby d32_78) (by rw [e0]; exact ⟨(congrArg (fun z => some (Value.int z)) (show (((31 : Int32) + (-4 : Int32)) - ((((q0.toUInt32 >>> ((4 : Int32) &&& 31).toUInt32).toInt32).toUInt32 >>> ((1 : Int32) &&& 31).toUInt32).toInt32)) = own_f32 q0 from (by rw [own_f32, if_pos c102, if_pos c104, if_pos c106, if_neg c108, if_pos c114]))), N0, rfl⟩) (by decide) (by decide)
     ·have sg116 : zg p e below s₁ m 78 (z0 (zh (zh q0 4) 2) (((31 : Int32) + (-4 : Int32)) + (-2 : Int32))) [.int ((((31 : Int32) + (-4 : Int32)) + (-2 : Int32)) - (zh (zh (zh q0 4) 2) 1))] 63 (z0 (zh q0 4) ((31 : Int32) + (-4 : Int32))) [.int 4, .int (zh q0 4)] := by
       intro t k
       refine XS.icmpNo X0.here hx rfl (hb hby d32_63) rfl (flt c114).1 ?_
       show zs p e below s₁ m 66 (z0 (zh q0 4) ((31 : Int32) + (-4 : Int32))) [] t
       refine XS.iinc X0.here hx rfl (hb hby d32_66) rfl (l' := (z0 ((q0.toUInt32 >>> ((4 : Int32) &&& 31).toUInt32).toInt32) (((31 : Int32) + (-4 : Int32)) + (-2 : Int32)))) rfl ?_
       show zs p e below s₁ m 69 (z0 (zh q0 4) (((31 : Int32) + (-4 : Int32)) + (-2 : Int32))) [] t
       refine XS.iloadN X0.here hx rfl (hb hby d32_69) rfl ?_
       show zs p e below s₁ m 70 (z0 (zh q0 4) (((31 : Int32) + (-4 : Int32)) + (-2 : Int32))) [.int (zh q0 4)] t
       refine XS.iconst X0.here hx rfl (hb hby d32_70) ?_
       show zs p e below s₁ m 71 (z0 (zh q0 4) (((31 : Int32) + (-4 : Int32)) + (-2 : Int32))) [.int 2, .int (zh q0 4)] t
       refine XS.iushr X0.here hx rfl (hb hby d32_71) rfl ?_
       show zs p e below s₁ m 72 (z0 (zh q0 4) (((31 : Int32) + (-4 : Int32)) + (-2 : Int32))) [.int (zh (zh q0 4) 2)] t
       refine XS.istoreN X0.here hx rfl (hb hby d32_72) rfl (l' := (z0 ((((q0.toUInt32 >>> ((4 : Int32) &&& 31).toUInt32).toInt32).toUInt32 >>> ((2 : Int32) &&& 31).toUInt32).toInt32) (((31 : Int32) + (-4 : Int32)) + (-2 : Int32)))) rfl ?_
       show zs p e below s₁ m 73 (z0 (zh (zh q0 4) 2) (((31 : Int32) + (-4 : Int32)) + (-2 : Int32))) [] t
       refine XS.iloadN X0.here hx rfl (hb hby d32_73) rfl ?_
       show zs p e below s₁ m 74 (z0 (zh (zh q0 4) 2) (((31 : Int32) + (-4 : Int32)) + (-2 : Int32))) [.int (((31 : Int32) + (-4 : Int32)) + (-2 : Int32))] t
       refine XS.iloadN X0.here hx rfl (hb hby d32_74) rfl ?_
       show zs p e below s₁ m 75 (z0 (zh (zh q0 4) 2) (((31 : Int32) + (-4 : Int32)) + (-2 : Int32))) [.int (zh (zh q0 4) 2), .int (((31 : Int32) + (-4 : Int32)) + (-2 : Int32))] t
       refine XS.iconst X0.here hx rfl (hb hby d32_75) ?_
       show zs p e below s₁ m 76 (z0 (zh (zh q0 4) 2) (((31 : Int32) + (-4 : Int32)) + (-2 : Int32))) [.int 1, .int (zh (zh q0 4) 2), .int (((31 : Int32) + (-4 : Int32)) + (-2 : Int32))] t
       refine XS.iushr X0.here hx rfl (hb hby d32_76) rfl ?_
       show zs p e below s₁ m 77 (z0 (zh (zh q0 4) 2) (((31 : Int32) + (-4 : Int32)) + (-2 : Int32))) [.int (zh (zh (zh q0 4) 2) 1), .int (((31 : Int32) + (-4 : Int32)) + (-2 : Int32))] t
       refine XS.isub X0.here hx rfl (hb hby d32_77) rfl ?_
       exact k
      refine OFin.go sg116 ?_
      exact OFin.retI X0 hx hret hlk (hb hby d32_78) (by rw [e0]; exact ⟨(congrArg (fun z => some (Value.int z)) (show ((((31 : Int32) + (-4 : Int32)) + (-2 : Int32)) - ((((((q0.toUInt32 >>> ((4 : Int32) &&& 31).toUInt32).toInt32).toUInt32 >>> ((2 : Int32) &&& 31).toUInt32).toInt32).toUInt32 >>> ((1 : Int32) &&& 31).toUInt32).toInt32)) = own_f32 q0 from (by rw [own_f32, if_pos c102, if_pos c104, if_pos c106, if_neg c108, if_neg c114]))), N0, rfl⟩) (by decide) (by decide)
   ·have sg117 : zg p e below s₁ m 51 (z0 (zh q0 8) ((31 : Int32) + (-8 : Int32))) [.int 16, .int (zh q0 8)] 37 (z0 q0 31) [.int 256, .int q0] := by
     intro t k
     refine XS.icmpNo X0.here hx rfl (hb hby d32_37) rfl (flt c106).1 ?_
     show zs p e below s₁ m 40 (z0 q0 31) [] t
     refine XS.iinc X0.here hx rfl (hb hby d32_40) rfl (l' := (z0 q0 ((31 : Int32) + (-8 : Int32)))) rfl ?_
     show zs p e below s₁ m 43 (z0 q0 ((31 : Int32) + (-8 : Int32))) [] t
     refine XS.iloadN X0.here hx rfl (hb hby d32_43) rfl ?_
     show zs p e below s₁ m 44 (z0 q0 ((31 : Int32) + (-8 : Int32))) [.int q0] t
     refine XS.bipush X0.here hx rfl (hb hby d32_44) ?_
     show zs p e below s₁ m 46 (z0 q0 ((31 : Int32) + (-8 : Int32))) [.int 8, .int q0] t
     refine XS.iushr X0.here hx rfl (hb hby d32_46) rfl ?_
     show zs p e below s₁ m 47 (z0 q0 ((31 : Int32) + (-8 : Int32))) [.int (zh q0 8)] t
     refine XS.istoreN X0.here hx rfl (hb hby d32_47) rfl (l' := (z0 ((q0.toUInt32 >>> ((8 : Int32) &&& 31).toUInt32).toInt32) ((31 : Int32) + (-8 : Int32)))) rfl ?_
     show zs p e below s₁ m 48 (z0 (zh q0 8) ((31 : Int32) + (-8 : Int32))) [] t
     refine XS.iloadN X0.here hx rfl (hb hby d32_48) rfl ?_
     show zs p e below s₁ m 49 (z0 (zh q0 8) ((31 : Int32) + (-8 : Int32))) [.int (zh q0 8)] t
     refine XS.bipush X0.here hx rfl (hb hby d32_49) ?_
     exact k
    refine OFin.go sg117 ?_
    by_cases c118 : ((q0.toUInt32 >>> ((8 : Int32) &&& 31).toUInt32).toInt32) < (16 : Int32)
    ·have sg119 : zg p e below s₁ m 63 (z0 (zh q0 8) ((31 : Int32) + (-8 : Int32))) [.int 4, .int (zh q0 8)] 51 (z0 (zh q0 8) ((31 : Int32) + (-8 : Int32))) [.int 16, .int (zh q0 8)] := by
      intro t k
      refine XS.icmpYes X0.here hx rfl (pc0 := 51) (pc' := 61) rfl (hb hby d32_51) rfl (tlt c118).1 (by decide) (by decide) ?_
      show zs p e below s₁ m 61 (z0 (zh q0 8) ((31 : Int32) + (-8 : Int32))) [] t
      refine XS.iloadN X0.here hx rfl (hb hby d32_61) rfl ?_
      show zs p e below s₁ m 62 (z0 (zh q0 8) ((31 : Int32) + (-8 : Int32))) [.int (zh q0 8)] t
      refine XS.iconst X0.here hx rfl (hb hby d32_62) ?_
      exact k
     refine OFin.go sg119 ?_
     by_cases c120 : ((q0.toUInt32 >>> ((8 : Int32) &&& 31).toUInt32).toInt32) < (4 : Int32)
     ·have sg121 : zg p e below s₁ m 78 (z0 (zh q0 8) ((31 : Int32) + (-8 : Int32))) [.int (((31 : Int32) + (-8 : Int32)) - (zh (zh q0 8) 1))] 63 (z0 (zh q0 8) ((31 : Int32) + (-8 : Int32))) [.int 4, .int (zh q0 8)] := by
       intro t k
       refine XS.icmpYes X0.here hx rfl (pc0 := 63) (pc' := 73) rfl (hb hby d32_63) rfl (tlt c120).1 (by decide) (by decide) ?_
       show zs p e below s₁ m 73 (z0 (zh q0 8) ((31 : Int32) + (-8 : Int32))) [] t
       refine XS.iloadN X0.here hx rfl (hb hby d32_73) rfl ?_
       show zs p e below s₁ m 74 (z0 (zh q0 8) ((31 : Int32) + (-8 : Int32))) [.int ((31 : Int32) + (-8 : Int32))] t
       refine XS.iloadN X0.here hx rfl (hb hby d32_74) rfl ?_
       show zs p e below s₁ m 75 (z0 (zh q0 8) ((31 : Int32) + (-8 : Int32))) [.int (zh q0 8), .int ((31 : Int32) + (-8 : Int32))] t
       refine XS.iconst X0.here hx rfl (hb hby d32_75) ?_
       show zs p e below s₁ m 76 (z0 (zh q0 8) ((31 : Int32) + (-8 : Int32))) [.int 1, .int (zh q0 8), .int ((31 : Int32) + (-8 : Int32))] t
       refine XS.iushr X0.here hx rfl (hb hby d32_76) rfl ?_
       show zs p e below s₁ m 77 (z0 (zh q0 8) ((31 : Int32) + (-8 : Int32))) [.int (zh (zh q0 8) 1), .int ((31 : Int32) + (-8 : Int32))] t
       refine XS.isub X0.here hx rfl (hb hby d32_77) rfl ?_
       exact k
      refine OFin.go sg121 ?_
      exact OFin.retI X0 hx hret hlk (hb hby d32_78) (by rw [e0]; exact ⟨(congrArg (fun z => some (Value.int z)) (show (((31 : Int32) + (-8 : Int32)) - ((((q0.toUInt32 >>> ((8 : Int32) &&& 31).toUInt32).toInt32).toUInt32 >>> ((1 : Int32) &&& 31).toUInt32).toInt32)) = own_f32 q0 from (by rw [own_f32, if_pos c102, if_pos c104, if_neg c106, if_pos c118, if_pos c120]))), N0, rfl⟩) (by decide) (by decide)
     ·have sg122 : zg p e below s₁ m 78 (z0 (zh (zh q0 8) 2) (((31 : Int32) + (-8 : Int32)) + (-2 : Int32))) [.int ((((31 : Int32) + (-8 : Int32)) + (-2 : Int32)) - (zh (zh (zh q0 8) 2) 1))] 63 (z0 (zh q0 8) ((31 : Int32) + (-8 : Int32))) [.int 4, .int (zh q0 8)] := by
       intro t k
       refine XS.icmpNo X0.here hx rfl (hb hby d32_63) rfl (flt c120).1 ?_
       show zs p e below s₁ m 66 (z0 (zh q0 8) ((31 : Int32) + (-8 : Int32))) [] t
       refine XS.iinc X0.here hx rfl (hb hby d32_66) rfl (l' := (z0 ((q0.toUInt32 >>> ((8 : Int32) &&& 31).toUInt32).toInt32) (((31 : Int32) + (-8 : Int32)) + (-2 : Int32)))) rfl ?_
       show zs p e below s₁ m 69 (z0 (zh q0 8) (((31 : Int32) + (-8 : Int32)) + (-2 : Int32))) [] t
       refine XS.iloadN X0.here hx rfl (hb hby d32_69) rfl ?_
       show zs p e below s₁ m 70 (z0 (zh q0 8) (((31 : Int32) + (-8 : Int32)) + (-2 : Int32))) [.int (zh q0 8)] t
       refine XS.iconst X0.here hx rfl (hb hby d32_70) ?_
       show zs p e below s₁ m 71 (z0 (zh q0 8) (((31 : Int32) + (-8 : Int32)) + (-2 : Int32))) [.int 2, .int (zh q0 8)] t
       refine XS.iushr X0.here hx rfl (hb hby d32_71) rfl ?_
       show zs p e below s₁ m 72 (z0 (zh q0 8) (((31 : Int32) + (-8 : Int32)) + (-2 : Int32))) [.int (zh (zh q0 8) 2)] t
       refine XS.istoreN X0.here hx rfl (hb hby d32_72) rfl (l' := (z0 ((((q0.toUInt32 >>> ((8 : Int32) &&& 31).toUInt32).toInt32).toUInt32 >>> ((2 : Int32) &&& 31).toUInt32).toInt32) (((31 : Int32) + (-8 : Int32)) + (-2 : Int32)))) rfl ?_
       show zs p e below s₁ m 73 (z0 (zh (zh q0 8) 2) (((31 : Int32) + (-8 : Int32)) + (-2 : Int32))) [] t
       refine XS.iloadN X0.here hx rfl (hb hby d32_73) rfl ?_
       show zs p e below s₁ m 74 (z0 (zh (zh q0 8) 2) (((31 : Int32) + (-8 : Int32)) + (-2 : Int32))) [.int (((31 : Int32) + (-8 : Int32)) + (-2 : Int32))] t
       refine XS.iloadN X0.here hx rfl (hb hby d32_74) rfl ?_
       show zs p e below s₁ m 75 (z0 (zh (zh q0 8) 2) (((31 : Int32) + (-8 : Int32)) + (-2 : Int32))) [.int (zh (zh q0 8) 2), .int (((31 : Int32) + (-8 : Int32)) + (-2 : Int32))] t
       refine XS.iconst X0.here hx rfl (hb hby d32_75) ?_
       show zs p e below s₁ m 76 (z0 (zh (zh q0 8) 2) (((31 : Int32) + (-8 : Int32)) + (-2 : Int32))) [.int 1, .int (zh (zh q0 8) 2), .int (((31 : Int32) + (-8 : Int32)) + (-2 : Int32))] t
       refine XS.iushr X0.here hx rfl (hb hby d32_76) rfl ?_
       show zs p e below s₁ m 77 (z0 (zh (zh q0 8) 2) (((31 : Int32) + (-8 : Int32)) + (-2 : Int32))) [.int (zh (zh (zh q0 8) 2) 1), .int (((31 : Int32) + (-8 : Int32)) + (-2 : Int32))] t
       refine XS.isub X0.here hx rfl (hb hby d32_77) rfl ?_
       exact k
      refine OFin.go sg122 ?_
      exact OFin.retI X0 hx hret hlk (hb hby d32_78) (by rw [e0]; exact ⟨(congrArg (fun z => some (Value.int z)) (show ((((31 : Int32) + (-8 : Int32)) + (-2 : Int32)) - ((((((q0.toUInt32 >>> ((8 : Int32) &&& 31).toUInt32).toInt32).toUInt32 >>> ((2 : Int32) &&& 31).toUInt32).toInt32).toUInt32 >>> ((1 : Int32) &&& 31).toUInt32).toInt32)) = own_f32 q0 from (by rw [own_f32, if_pos c102, if_pos c104, if_neg c106, if_pos c118, if_neg c120]))), N0, rfl⟩) (by decide) (by decide)
    ·have sg123 : zg p e below s₁ m 63 (z0 (zh (zh q0 8) 4) (((31 : Int32) + (-8 : Int32)) + (-4 : Int32))) [.int 4, .int (zh (zh q0 8) 4)] 51 (z0 (zh q0 8) ((31 : Int32) + (-8 : Int32))) [.int 16, .int (zh q0 8)] := by
      intro t k
      refine XS.icmpNo X0.here hx rfl (hb hby d32_51) rfl (flt c118).1 ?_
      show zs p e below s₁ m 54 (z0 (zh q0 8) ((31 : Int32) + (-8 : Int32))) [] t
      refine XS.iinc X0.here hx rfl (hb hby d32_54) rfl (l' := (z0 ((q0.toUInt32 >>> ((8 : Int32) &&& 31).toUInt32).toInt32) (((31 : Int32) + (-8 : Int32)) + (-4 : Int32)))) rfl ?_
      show zs p e below s₁ m 57 (z0 (zh q0 8) (((31 : Int32) + (-8 : Int32)) + (-4 : Int32))) [] t
      refine XS.iloadN X0.here hx rfl (hb hby d32_57) rfl ?_
      show zs p e below s₁ m 58 (z0 (zh q0 8) (((31 : Int32) + (-8 : Int32)) + (-4 : Int32))) [.int (zh q0 8)] t
      refine XS.iconst X0.here hx rfl (hb hby d32_58) ?_
      show zs p e below s₁ m 59 (z0 (zh q0 8) (((31 : Int32) + (-8 : Int32)) + (-4 : Int32))) [.int 4, .int (zh q0 8)] t
      refine XS.iushr X0.here hx rfl (hb hby d32_59) rfl ?_
      show zs p e below s₁ m 60 (z0 (zh q0 8) (((31 : Int32) + (-8 : Int32)) + (-4 : Int32))) [.int (zh (zh q0 8) 4)] t
      refine XS.istoreN X0.here hx rfl (hb hby d32_60) rfl (l' := (z0 ((((q0.toUInt32 >>> ((8 : Int32) &&& 31).toUInt32).toInt32).toUInt32 >>> ((4 : Int32) &&& 31).toUInt32).toInt32) (((31 : Int32) + (-8 : Int32)) + (-4 : Int32)))) rfl ?_
      show zs p e below s₁ m 61 (z0 (zh (zh q0 8) 4) (((31 : Int32) + (-8 : Int32)) + (-4 : Int32))) [] t
      refine XS.iloadN X0.here hx rfl (hb hby d32_61) rfl ?_
      show zs p e below s₁ m 62 (z0 (zh (zh q0 8) 4) (((31 : Int32) + (-8 : Int32)) + (-4 : Int32))) [.int (zh (zh q0 8) 4)] t
      refine XS.iconst X0.here hx rfl (hb hby d32_62) ?_
      exact k
     refine OFin.go sg123 ?_
     by_cases c124 : ((((q0.toUInt32 >>> ((8 : Int32) &&& 31).toUInt32).toInt32).toUInt32 >>> ((4 : Int32) &&& 31).toUInt32).toInt32) < (4 : Int32)
     ·have sg125 : zg p e below s₁ m 78 (z0 (zh (zh q0 8) 4) (((31 : Int32) + (-8 : Int32)) + (-4 : Int32))) [.int ((((31 : Int32) + (-8 : Int32)) + (-4 : Int32)) - (zh (zh (zh q0 8) 4) 1))] 63 (z0 (zh (zh q0 8) 4) (((31 : Int32) + (-8 : Int32)) + (-4 : Int32))) [.int 4, .int (zh (zh q0 8) 4)] := by
       intro t k
       refine XS.icmpYes X0.here hx rfl (pc0 := 63) (pc' := 73) rfl (hb hby d32_63) rfl (tlt c124).1 (by decide) (by decide) ?_
       show zs p e below s₁ m 73 (z0 (zh (zh q0 8) 4) (((31 : Int32) + (-8 : Int32)) + (-4 : Int32))) [] t
       refine XS.iloadN X0.here hx rfl (hb hby d32_73) rfl ?_
       show zs p e below s₁ m 74 (z0 (zh (zh q0 8) 4) (((31 : Int32) + (-8 : Int32)) + (-4 : Int32))) [.int (((31 : Int32) + (-8 : Int32)) + (-4 : Int32))] t
       refine XS.iloadN X0.here hx rfl (hb hby d32_74) rfl ?_
       show zs p e below s₁ m 75 (z0 (zh (zh q0 8) 4) (((31 : Int32) + (-8 : Int32)) + (-4 : Int32))) [.int (zh (zh q0 8) 4), .int (((31 : Int32) + (-8 : Int32)) + (-4 : Int32))] t
       refine XS.iconst X0.here hx rfl (hb hby d32_75) ?_
       show zs p e below s₁ m 76 (z0 (zh (zh q0 8) 4) (((31 : Int32) + (-8 : Int32)) + (-4 : Int32))) [.int 1, .int (zh (zh q0 8) 4), .int (((31 : Int32) + (-8 : Int32)) + (-4 : Int32))] t
       refine XS.iushr X0.here hx rfl (hb hby d32_76) rfl ?_
       show zs p e below s₁ m 77 (z0 (zh (zh q0 8) 4) (((31 : Int32) + (-8 : Int32)) + (-4 : Int32))) [.int (zh (zh (zh q0 8) 4) 1), .int (((31 : Int32) + (-8 : Int32)) + (-4 : Int32))] t
       refine XS.isub X0.here hx rfl (hb hby d32_77) rfl ?_
       exact k
      refine OFin.go sg125 ?_
      exact OFin.retI X0 hx hret hlk (hb hby d32_78) (by rw [e0]; exact ⟨(congrArg (fun z => some (Value.int z)) (show ((((31 : Int32) + (-8 : Int32)) + (-4 : Int32)) - ((((((q0.toUInt32 >>> ((8 : Int32) &&& 31).toUInt32).toInt32).toUInt32 >>> ((4 : Int32) &&& 31).toUInt32).toInt32).toUInt32 >>> ((1 : Int32) &&& 31).toUInt32).toInt32)) = own_f32 q0 from (by rw [own_f32, if_pos c102, if_pos c104, if_neg c106, if_neg c118, if_pos c124]))), N0, rfl⟩) (by decide) (by decide)
     ·have sg126 : zg p e below s₁ m 78 (z0 (zh (zh (zh q0 8) 4) 2) ((((31 : Int32) + (-8 : Int32)) + (-4 : Int32)) + (-2 : Int32))) [.int (((((31 : Int32) + (-8 : Int32)) + (-4 : Int32)) + (-2 : Int32)) - (zh (zh (zh (zh q0 8) 4) 2) 1))] 63 (z0 (zh (zh q0 8) 4) (((31 : Int32) + (-8 : Int32)) + (-4 : Int32))) [.int 4, .int (zh (zh q0 8) 4)] := by
       intro t k
       refine XS.icmpNo X0.here hx rfl (hb hby d32_63) rfl (flt c124).1 ?_
       show zs p e below s₁ m 66 (z0 (zh (zh q0 8) 4) (((31 : Int32) + (-8 : Int32)) + (-4 : Int32))) [] t
       refine XS.iinc X0.here hx rfl (hb hby d32_66) rfl (l' := (z0 ((((q0.toUInt32 >>> ((8 : Int32) &&& 31).toUInt32).toInt32).toUInt32 >>> ((4 : Int32) &&& 31).toUInt32).toInt32) ((((31 : Int32) + (-8 : Int32)) + (-4 : Int32)) + (-2 : Int32)))) rfl ?_
       show zs p e below s₁ m 69 (z0 (zh (zh q0 8) 4) ((((31 : Int32) + (-8 : Int32)) + (-4 : Int32)) + (-2 : Int32))) [] t
       refine XS.iloadN X0.here hx rfl (hb hby d32_69) rfl ?_
       show zs p e below s₁ m 70 (z0 (zh (zh q0 8) 4) ((((31 : Int32) + (-8 : Int32)) + (-4 : Int32)) + (-2 : Int32))) [.int (zh (zh q0 8) 4)] t
       refine XS.iconst X0.here hx rfl (hb hby d32_70) ?_
       show zs p e below s₁ m 71 (z0 (zh (zh q0 8) 4) ((((31 : Int32) + (-8 : Int32)) + (-4 : Int32)) + (-2 : Int32))) [.int 2, .int (zh (zh q0 8) 4)] t
       refine XS.iushr X0.here hx rfl (hb hby d32_71) rfl ?_
       show zs p e below s₁ m 72 (z0 (zh (zh q0 8) 4) ((((31 : Int32) + (-8 : Int32)) + (-4 : Int32)) + (-2 : Int32))) [.int (zh (zh (zh q0 8) 4) 2)] t
       refine XS.istoreN X0.here hx rfl (hb hby d32_72) rfl (l' := (z0 ((((((q0.toUInt32 >>> ((8 : Int32) &&& 31).toUInt32).toInt32).toUInt32 >>> ((4 : Int32) &&& 31).toUInt32).toInt32).toUInt32 >>> ((2 : Int32) &&& 31).toUInt32).toInt32) ((((31 : Int32) + (-8 : Int32)) + (-4 : Int32)) + (-2 : Int32)))) rfl ?_
       show zs p e below s₁ m 73 (z0 (zh (zh (zh q0 8) 4) 2) ((((31 : Int32) + (-8 : Int32)) + (-4 : Int32)) + (-2 : Int32))) [] t
       refine XS.iloadN X0.here hx rfl (hb hby d32_73) rfl ?_
       show zs p e below s₁ m 74 (z0 (zh (zh (zh q0 8) 4) 2) ((((31 : Int32) + (-8 : Int32)) + (-4 : Int32)) + (-2 : Int32))) [.int ((((31 : Int32) + (-8 : Int32)) + (-4 : Int32)) + (-2 : Int32))] t
       refine XS.iloadN X0.here hx rfl (hb hby d32_74) rfl ?_
       show zs p e below s₁ m 75 (z0 (zh (zh (zh q0 8) 4) 2) ((((31 : Int32) + (-8 : Int32)) + (-4 : Int32)) + (-2 : Int32))) [.int (zh (zh (zh q0 8) 4) 2), .int ((((31 : Int32) + (-8 : Int32)) + (-4 : Int32)) + (-2 : Int32))] t
       refine XS.iconst X0.here hx rfl (hb hby d32_75) ?_
       show zs p e below s₁ m 76 (z0 (zh (zh (zh q0 8) 4) 2) ((((31 : Int32) + (-8 : Int32)) + (-4 : Int32)) + (-2 : Int32))) [.int 1, .int (zh (zh (zh q0 8) 4) 2), .int ((((31 : Int32) + (-8 : Int32)) + (-4 : Int32)) + (-2 : Int32))] t
       refine XS.iushr X0.here hx rfl (hb hby d32_76) rfl ?_
       show zs p e below s₁ m 77 (z0 (zh (zh (zh q0 8) 4) 2) ((((31 : Int32) + (-8 : Int32)) + (-4 : Int32)) + (-2 : Int32))) [.int (zh (zh (zh (zh q0 8) 4) 2) 1), .int ((((31 : Int32) + (-8 : Int32)) + (-4 : Int32)) + (-2 : Int32))] t
       refine XS.isub X0.here hx rfl (hb hby d32_77) rfl ?_
       exact k
      refine OFin.go sg126 ?_
      exact OFin.retI X0 hx hret hlk (hb hby d32_78) (by rw [e0]; exact ⟨(congrArg (fun z => some (Value.int z)) (show (((((31 : Int32) + (-8 : Int32)) + (-4 : Int32)) + (-2 : Int32)) - ((((((((q0.toUInt32 >>> ((8 : Int32) &&& 31).toUInt32).toInt32).toUInt32 >>> ((4 : Int32) &&& 31).toUInt32).toInt32).toUInt32 >>> ((2 : Int32) &&& 31).toUInt32).toInt32).toUInt32 >>> ((1 : Int32) &&& 31).toUInt32).toInt32)) = own_f32 q0 from (by rw [own_f32, if_pos c102, if_pos c104, if_neg c106, if_neg c118, if_neg c124]))), N0, rfl⟩) (by decide) (by decide)
  ·have sg127 : zg p e below s₁ m 37 (z0 (zh q0 16) ((31 : Int32) + (-16 : Int32))) [.int 256, .int (zh q0 16)] 22 (z0 q0 31) [.int 65536, .int q0] := by
    intro t k
    refine XS.icmpNo X0.here hx rfl (hb hby d32_22) rfl (flt c104).1 ?_
    show zs p e below s₁ m 25 (z0 q0 31) [] t
    refine XS.iinc X0.here hx rfl (hb hby d32_25) rfl (l' := (z0 q0 ((31 : Int32) + (-16 : Int32)))) rfl ?_
    show zs p e below s₁ m 28 (z0 q0 ((31 : Int32) + (-16 : Int32))) [] t
    refine XS.iloadN X0.here hx rfl (hb hby d32_28) rfl ?_
    show zs p e below s₁ m 29 (z0 q0 ((31 : Int32) + (-16 : Int32))) [.int q0] t
    refine XS.bipush X0.here hx rfl (hb hby d32_29) ?_
    show zs p e below s₁ m 31 (z0 q0 ((31 : Int32) + (-16 : Int32))) [.int 16, .int q0] t
    refine XS.iushr X0.here hx rfl (hb hby d32_31) rfl ?_
    show zs p e below s₁ m 32 (z0 q0 ((31 : Int32) + (-16 : Int32))) [.int (zh q0 16)] t
    refine XS.istoreN X0.here hx rfl (hb hby d32_32) rfl (l' := (z0 ((q0.toUInt32 >>> ((16 : Int32) &&& 31).toUInt32).toInt32) ((31 : Int32) + (-16 : Int32)))) rfl ?_
    show zs p e below s₁ m 33 (z0 (zh q0 16) ((31 : Int32) + (-16 : Int32))) [] t
    refine XS.iloadN X0.here hx rfl (hb hby d32_33) rfl ?_
    show zs p e below s₁ m 34 (z0 (zh q0 16) ((31 : Int32) + (-16 : Int32))) [.int (zh q0 16)] t
    refine XS.sipush X0.here hx rfl (hb hby d32_34) ?_
    exact k
   refine OFin.go sg127 ?_
   by_cases c128 : ((q0.toUInt32 >>> ((16 : Int32) &&& 31).toUInt32).toInt32) < (256 : Int32)
   ·have sg129 : zg p e below s₁ m 51 (z0 (zh q0 16) ((31 : Int32) + (-16 : Int32))) [.int 16, .int (zh q0 16)] 37 (z0 (zh q0 16) ((31 : Int32) + (-16 : Int32))) [.int 256, .int (zh q0 16)] := by
     intro t k
     refine XS.icmpYes X0.here hx rfl (pc0 := 37) (pc' := 48) rfl (hb hby d32_37) rfl (tlt c128).1 (by decide) (by decide) ?_
     show zs p e below s₁ m 48 (z0 (zh q0 16) ((31 : Int32) + (-16 : Int32))) [] t
     refine XS.iloadN X0.here hx rfl (hb hby d32_48) rfl ?_
     show zs p e below s₁ m 49 (z0 (zh q0 16) ((31 : Int32) + (-16 : Int32))) [.int (zh q0 16)] t
     refine XS.bipush X0.here hx rfl (hb hby d32_49) ?_
     exact k
    refine OFin.go sg129 ?_
    by_cases c130 : ((q0.toUInt32 >>> ((16 : Int32) &&& 31).toUInt32).toInt32) < (16 : Int32)
    ·have sg131 : zg p e below s₁ m 63 (z0 (zh q0 16) ((31 : Int32) + (-16 : Int32))) [.int 4, .int (zh q0 16)] 51 (z0 (zh q0 16) ((31 : Int32) + (-16 : Int32))) [.int 16, .int (zh q0 16)] := by
      intro t k
      refine XS.icmpYes X0.here hx rfl (pc0 := 51) (pc' := 61) rfl (hb hby d32_51) rfl (tlt c130).1 (by decide) (by decide) ?_
      show zs p e below s₁ m 61 (z0 (zh q0 16) ((31 : Int32) + (-16 : Int32))) [] t
      refine XS.iloadN X0.here hx rfl (hb hby d32_61) rfl ?_
      show zs p e below s₁ m 62 (z0 (zh q0 16) ((31 : Int32) + (-16 : Int32))) [.int (zh q0 16)] t
      refine XS.iconst X0.here hx rfl (hb hby d32_62) ?_
      exact k
     refine OFin.go sg131 ?_
     by_cases c132 : ((q0.toUInt32 >>> ((16 : Int32) &&& 31).toUInt32).toInt32) < (4 : Int32)
     ·have sg133 : zg p e below s₁ m 78 (z0 (zh q0 16) ((31 : Int32) + (-16 : Int32))) [.int (((31 : Int32) + (-16 : Int32)) - (zh (zh q0 16) 1))] 63 (z0 (zh q0 16) ((31 : Int32) + (-16 : Int32))) [.int 4, .int (zh q0 16)] := by
       intro t k
       refine XS.icmpYes X0.here hx rfl (pc0 := 63) (pc' := 73) rfl (hb hby d32_63) rfl (tlt c132).1 (by decide) (by decide) ?_
       show zs p e below s₁ m 73 (z0 (zh q0 16) ((31 : Int32) + (-16 : Int32))) [] t
       refine XS.iloadN X0.here hx rfl (hb hby d32_73) rfl ?_
       show zs p e below s₁ m 74 (z0 (zh q0 16) ((31 : Int32) + (-16 : Int32))) [.int ((31 : Int32) + (-16 : Int32))] t
       refine XS.iloadN X0.here hx rfl (hb hby d32_74) rfl ?_
       show zs p e below s₁ m 75 (z0 (zh q0 16) ((31 : Int32) + (-16 : Int32))) [.int (zh q0 16), .int ((31 : Int32) + (-16 : Int32))] t
       refine XS.iconst X0.here hx rfl (hb hby d32_75) ?_
       show zs p e below s₁ m 76 (z0 (zh q0 16) ((31 : Int32) + (-16 : Int32))) [.int 1, .int (zh q0 16), .int ((31 : Int32) + (-16 : Int32))] t
       refine XS.iushr X0.here hx rfl (hb hby d32_76) rfl ?_
       show zs p e below s₁ m 77 (z0 (zh q0 16) ((31 : Int32) + (-16 : Int32))) [.int (zh (zh q0 16) 1), .int ((31 : Int32) + (-16 : Int32))] t
       refine XS.isub X0.here hx rfl (hb hby d32_77) rfl ?_
       exact k
      refine OFin.go sg133 ?_
      exact OFin.retI X0 hx hret hlk (hb hby d32_78) (by rw [e0]; exact ⟨(congrArg (fun z => some (Value.int z)) (show (((31 : Int32) + (-16 : Int32)) - ((((q0.toUInt32 >>> ((16 : Int32) &&& 31).toUInt32).toInt32).toUInt32 >>> ((1 : Int32) &&& 31).toUInt32).toInt32)) = own_f32 q0 from (by rw [own_f32, if_pos c102, if_neg c104, if_pos c128, if_pos c130, if_pos c132]))), N0, rfl⟩) (by decide) (by decide)
     ·have sg134 : zg p e below s₁ m 78 (z0 (zh (zh q0 16) 2) (((31 : Int32) + (-16 : Int32)) + (-2 : Int32))) [.int ((((31 : Int32) + (-16 : Int32)) + (-2 : Int32)) - (zh (zh (zh q0 16) 2) 1))] 63 (z0 (zh q0 16) ((31 : Int32) + (-16 : Int32))) [.int 4, .int (zh q0 16)] := by
       intro t k
       refine XS.icmpNo X0.here hx rfl (hb hby d32_63) rfl (flt c132).1 ?_
       show zs p e below s₁ m 66 (z0 (zh q0 16) ((31 : Int32) + (-16 : Int32))) [] t
       refine XS.iinc X0.here hx rfl (hb hby d32_66) rfl (l' := (z0 ((q0.toUInt32 >>> ((16 : Int32) &&& 31).toUInt32).toInt32) (((31 : Int32) + (-16 : Int32)) + (-2 : Int32)))) rfl ?_
       show zs p e below s₁ m 69 (z0 (zh q0 16) (((31 : Int32) + (-16 : Int32)) + (-2 : Int32))) [] t
       refine XS.iloadN X0.here hx rfl (hb hby d32_69) rfl ?_
       show zs p e below s₁ m 70 (z0 (zh q0 16) (((31 : Int32) + (-16 : Int32)) + (-2 : Int32))) [.int (zh q0 16)] t
       refine XS.iconst X0.here hx rfl (hb hby d32_70) ?_
       show zs p e below s₁ m 71 (z0 (zh q0 16) (((31 : Int32) + (-16 : Int32)) + (-2 : Int32))) [.int 2, .int (zh q0 16)] t
       refine XS.iushr X0.here hx rfl (hb hby d32_71) rfl ?_
       show zs p e below s₁ m 72 (z0 (zh q0 16) (((31 : Int32) + (-16 : Int32)) + (-2 : Int32))) [.int (zh (zh q0 16) 2)] t
       refine XS.istoreN X0.here hx rfl (hb hby d32_72) rfl (l' := (z0 ((((q0.toUInt32 >>> ((16 : Int32) &&& 31).toUInt32).toInt32).toUInt32 >>> ((2 : Int32) &&& 31).toUInt32).toInt32) (((31 : Int32) + (-16 : Int32)) + (-2 : Int32)))) rfl ?_
       show zs p e below s₁ m 73 (z0 (zh (zh q0 16) 2) (((31 : Int32) + (-16 : Int32)) + (-2 : Int32))) [] t
       refine XS.iloadN X0.here hx rfl (hb hby d32_73) rfl ?_
       show zs p e below s₁ m 74 (z0 (zh (zh q0 16) 2) (((31 : Int32) + (-16 : Int32)) + (-2 : Int32))) [.int (((31 : Int32) + (-16 : Int32)) + (-2 : Int32))] t
       refine XS.iloadN X0.here hx rfl (hb hby d32_74) rfl ?_
       show zs p e below s₁ m 75 (z0 (zh (zh q0 16) 2) (((31 : Int32) + (-16 : Int32)) + (-2 : Int32))) [.int (zh (zh q0 16) 2), .int (((31 : Int32) + (-16 : Int32)) + (-2 : Int32))] t
       refine XS.iconst X0.here hx rfl (hb hby d32_75) ?_
       show zs p e below s₁ m 76 (z0 (zh (zh q0 16) 2) (((31 : Int32) + (-16 : Int32)) + (-2 : Int32))) [.int 1, .int (zh (zh q0 16) 2), .int (((31 : Int32) + (-16 : Int32)) + (-2 : Int32))] t
       refine XS.iushr X0.here hx rfl (hb hby d32_76) rfl ?_
       show zs p e below s₁ m 77 (z0 (zh (zh q0 16) 2) (((31 : Int32) + (-16 : Int32)) + (-2 : Int32))) [.int (zh (zh (zh q0 16) 2) 1), .int (((31 : Int32) + (-16 : Int32)) + (-2 : Int32))] t
       refine XS.isub X0.here hx rfl (hb hby d32_77) rfl ?_
       exact k
      refine OFin.go sg134 ?_
      exact OFin.retI X0 hx hret hlk (hb hby d32_78) (by rw [e0]; exact ⟨(congrArg (fun z => some (Value.int z)) (show ((((31 : Int32) + (-16 : Int32)) + (-2 : Int32)) - ((((((q0.toUInt32 >>> ((16 : Int32) &&& 31).toUInt32).toInt32).toUInt32 >>> ((2 : Int32) &&& 31).toUInt32).toInt32).toUInt32 >>> ((1 : Int32) &&& 31).toUInt32).toInt32)) = own_f32 q0 from (by rw [own_f32, if_pos c102, if_neg c104, if_pos c128, if_pos c130, if_neg c132]))), N0, rfl⟩) (by decide) (by decide)
    ·have sg135 : zg p e below s₁ m 63 (z0 (zh (zh q0 16) 4) (((31 : Int32) + (-16 : Int32)) + (-4 : Int32))) [.int 4, .int (zh (zh q0 16) 4)] 51 (z0 (zh q0 16) ((31 : Int32) + (-16 : Int32))) [.int 16, .int (zh q0 16)] := by
      intro t k
      refine XS.icmpNo X0.here hx rfl (hb hby d32_51) rfl (flt c130).1 ?_
      show zs p e below s₁ m 54 (z0 (zh q0 16) ((31 : Int32) + (-16 : Int32))) [] t
      refine XS.iinc X0.here hx rfl (hb hby d32_54) rfl (l' := (z0 ((q0.toUInt32 >>> ((16 : Int32) &&& 31).toUInt32).toInt32) (((31 : Int32) + (-16 : Int32)) + (-4 : Int32)))) rfl ?_
      show zs p e below s₁ m 57 (z0 (zh q0 16) (((31 : Int32) + (-16 : Int32)) + (-4 : Int32))) [] t
      refine XS.iloadN X0.here hx rfl (hb hby d32_57) rfl ?_
      show zs p e below s₁ m 58 (z0 (zh q0 16) (((31 : Int32) + (-16 : Int32)) + (-4 : Int32))) [.int (zh q0 16)] t
      refine XS.iconst X0.here hx rfl (hb hby d32_58) ?_
      show zs p e below s₁ m 59 (z0 (zh q0 16) (((31 : Int32) + (-16 : Int32)) + (-4 : Int32))) [.int 4, .int (zh q0 16)] t
      refine XS.iushr X0.here hx rfl (hb hby d32_59) rfl ?_
      show zs p e below s₁ m 60 (z0 (zh q0 16) (((31 : Int32) + (-16 : Int32)) + (-4 : Int32))) [.int (zh (zh q0 16) 4)] t
      refine XS.istoreN X0.here hx rfl (hb hby d32_60) rfl (l' := (z0 ((((q0.toUInt32 >>> ((16 : Int32) &&& 31).toUInt32).toInt32).toUInt32 >>> ((4 : Int32) &&& 31).toUInt32).toInt32) (((31 : Int32) + (-16 : Int32)) + (-4 : Int32)))) rfl ?_
      show zs p e below s₁ m 61 (z0 (zh (zh q0 16) 4) (((31 : Int32) + (-16 : Int32)) + (-4 : Int32))) [] t
      refine XS.iloadN X0.here hx rfl (hb hby d32_61) rfl ?_
      show zs p e below s₁ m 62 (z0 (zh (zh q0 16) 4) (((31 : Int32) + (-16 : Int32)) + (-4 : Int32))) [.int (zh (zh q0 16) 4)] t
      refine XS.iconst X0.here hx rfl (hb hby d32_62) ?_
      exact k
     refine OFin.go sg135 ?_
     by_cases c136 : ((((q0.toUInt32 >>> ((16 : Int32) &&& 31).toUInt32).toInt32).toUInt32 >>> ((4 : Int32) &&& 31).toUInt32).toInt32) < (4 : Int32)
     ·have sg137 : zg p e below s₁ m 78 (z0 (zh (zh q0 16) 4) (((31 : Int32) + (-16 : Int32)) + (-4 : Int32))) [.int ((((31 : Int32) + (-16 : Int32)) + (-4 : Int32)) - (zh (zh (zh q0 16) 4) 1))] 63 (z0 (zh (zh q0 16) 4) (((31 : Int32) + (-16 : Int32)) + (-4 : Int32))) [.int 4, .int (zh (zh q0 16) 4)] := by
       intro t k
       refine XS.icmpYes X0.here hx rfl (pc0 := 63) (pc' := 73) rfl (hb hby d32_63) rfl (tlt c136).1 (by decide) (by decide) ?_
       show zs p e below s₁ m 73 (z0 (zh (zh q0 16) 4) (((31 : Int32) + (-16 : Int32)) + (-4 : Int32))) [] t
       refine XS.iloadN X0.here hx rfl (hb hby d32_73) rfl ?_
       show zs p e below s₁ m 74 (z0 (zh (zh q0 16) 4) (((31 : Int32) + (-16 : Int32)) + (-4 : Int32))) [.int (((31 : Int32) + (-16 : Int32)) + (-4 : Int32))] t
       refine XS.iloadN X0.here hx rfl (hb hby d32_74) rfl ?_
       show zs p e below s₁ m 75 (z0 (zh (zh q0 16) 4) (((31 : Int32) + (-16 : Int32)) + (-4 : Int32))) [.int (zh (zh q0 16) 4), .int (((31 : Int32) + (-16 : Int32)) + (-4 : Int32))] t
       refine XS.iconst X0.here hx rfl (hb hby d32_75) ?_
       show zs p e below s₁ m 76 (z0 (zh (zh q0 16) 4) (((31 : Int32) + (-16 : Int32)) + (-4 : Int32))) [.int 1, .int (zh (zh q0 16) 4), .int (((31 : Int32) + (-16 : Int32)) + (-4 : Int32))] t
       refine XS.iushr X0.here hx rfl (hb hby d32_76) rfl ?_
       show zs p e below s₁ m 77 (z0 (zh (zh q0 16) 4) (((31 : Int32) + (-16 : Int32)) + (-4 : Int32))) [.int (zh (zh (zh q0 16) 4) 1), .int (((31 : Int32) + (-16 : Int32)) + (-4 : Int32))] t
       refine XS.isub X0.here hx rfl (hb hby d32_77) rfl ?_
       exact k
      refine OFin.go sg137 ?_
      exact OFin.retI X0 hx hret hlk (hb hby d32_78) (by rw [e0]; exact ⟨(congrArg (fun z => some (Value.int z)) (show ((((31 : Int32) + (-16 : Int32)) + (-4 : Int32)) - ((((((q0.toUInt32 >>> ((16 : Int32) &&& 31).toUInt32).toInt32).toUInt32 >>> ((4 : Int32) &&& 31).toUInt32).toInt32).toUInt32 >>> ((1 : Int32) &&& 31).toUInt32).toInt32)) = own_f32 q0 from (by rw [own_f32, if_pos c102, if_neg c104, if_pos c128, if_neg c130, if_pos c136]))), N0, rfl⟩) (by decide) (by decide)
     ·have sg138 : zg p e below s₁ m 78 (z0 (zh (zh (zh q0 16) 4) 2) ((((31 : Int32) + (-16 : Int32)) + (-4 : Int32)) + (-2 : Int32))) [.int (((((31 : Int32) + (-16 : Int32)) + (-4 : Int32)) + (-2 : Int32)) - (zh (zh (zh (zh q0 16) 4) 2) 1))] 63 (z0 (zh (zh q0 16) 4) (((31 : Int32) + (-16 : Int32)) + (-4 : Int32))) [.int 4, .int (zh (zh q0 16) 4)] := by
       intro t k
       refine XS.icmpNo X0.here hx rfl (hb hby d32_63) rfl (flt c136).1 ?_
       show zs p e below s₁ m 66 (z0 (zh (zh q0 16) 4) (((31 : Int32) + (-16 : Int32)) + (-4 : Int32))) [] t
       refine XS.iinc X0.here hx rfl (hb hby d32_66) rfl (l' := (z0 ((((q0.toUInt32 >>> ((16 : Int32) &&& 31).toUInt32).toInt32).toUInt32 >>> ((4 : Int32) &&& 31).toUInt32).toInt32) ((((31 : Int32) + (-16 : Int32)) + (-4 : Int32)) + (-2 : Int32)))) rfl ?_
       show zs p e below s₁ m 69 (z0 (zh (zh q0 16) 4) ((((31 : Int32) + (-16 : Int32)) + (-4 : Int32)) + (-2 : Int32))) [] t
       refine XS.iloadN X0.here hx rfl (hb hby d32_69) rfl ?_
       show zs p e below s₁ m 70 (z0 (zh (zh q0 16) 4) ((((31 : Int32) + (-16 : Int32)) + (-4 : Int32)) + (-2 : Int32))) [.int (zh (zh q0 16) 4)] t
       refine XS.iconst X0.here hx rfl (hb hby d32_70) ?_
       show zs p e below s₁ m 71 (z0 (zh (zh q0 16) 4) ((((31 : Int32) + (-16 : Int32)) + (-4 : Int32)) + (-2 : Int32))) [.int 2, .int (zh (zh q0 16) 4)] t
       refine XS.iushr X0.here hx rfl (hb hby d32_71) rfl ?_
       show zs p e below s₁ m 72 (z0 (zh (zh q0 16) 4) ((((31 : Int32) + (-16 : Int32)) + (-4 : Int32)) + (-2 : Int32))) [.int (zh (zh (zh q0 16) 4) 2)] t
       refine XS.istoreN X0.here hx rfl (hb hby d32_72) rfl (l' := (z0 ((((((q0.toUInt32 >>> ((16 : Int32) &&& 31).toUInt32).toInt32).toUInt32 >>> ((4 : Int32) &&& 31).toUInt32).toInt32).toUInt32 >>> ((2 : Int32) &&& 31).toUInt32).toInt32) ((((31 : Int32) + (-16 : Int32)) + (-4 : Int32)) + (-2 : Int32)))) rfl ?_
       show zs p e below s₁ m 73 (z0 (zh (zh (zh q0 16) 4) 2) ((((31 : Int32) + (-16 : Int32)) + (-4 : Int32)) + (-2 : Int32))) [] t
       refine XS.iloadN X0.here hx rfl (hb hby d32_73) rfl ?_
       show zs p e below s₁ m 74 (z0 (zh (zh (zh q0 16) 4) 2) ((((31 : Int32) + (-16 : Int32)) + (-4 : Int32)) + (-2 : Int32))) [.int ((((31 : Int32) + (-16 : Int32)) + (-4 : Int32)) + (-2 : Int32))] t
       refine XS.iloadN X0.here hx rfl (hb hby d32_74) rfl ?_
       show zs p e below s₁ m 75 (z0 (zh (zh (zh q0 16) 4) 2) ((((31 : Int32) + (-16 : Int32)) + (-4 : Int32)) + (-2 : Int32))) [.int (zh (zh (zh q0 16) 4) 2), .int ((((31 : Int32) + (-16 : Int32)) + (-4 : Int32)) + (-2 : Int32))] t
       refine XS.iconst X0.here hx rfl (hb hby d32_75) ?_
       show zs p e below s₁ m 76 (z0 (zh (zh (zh q0 16) 4) 2) ((((31 : Int32) + (-16 : Int32)) + (-4 : Int32)) + (-2 : Int32))) [.int 1, .int (zh (zh (zh q0 16) 4) 2), .int ((((31 : Int32) + (-16 : Int32)) + (-4 : Int32)) + (-2 : Int32))] t
       refine XS.iushr X0.here hx rfl (hb hby d32_76) rfl ?_
       show zs p e below s₁ m 77 (z0 (zh (zh (zh q0 16) 4) 2) ((((31 : Int32) + (-16 : Int32)) + (-4 : Int32)) + (-2 : Int32))) [.int (zh (zh (zh (zh q0 16) 4) 2) 1), .int ((((31 : Int32) + (-16 : Int32)) + (-4 : Int32)) + (-2 : Int32))] t
       refine XS.isub X0.here hx rfl (hb hby d32_77) rfl ?_
       exact k
      refine OFin.go sg138 ?_
      exact OFin.retI X0 hx hret hlk (hb hby d32_78) (by rw [e0]; exact ⟨(congrArg (fun z => some (Value.int z)) (show (((((31 : Int32) + (-16 : Int32)) + (-4 : Int32)) + (-2 : Int32)) - ((((((((q0.toUInt32 >>> ((16 : Int32) &&& 31).toUInt32).toInt32).toUInt32 >>> ((4 : Int32) &&& 31).toUInt32).toInt32).toUInt32 >>> ((2 : Int32) &&& 31).toUInt32).toInt32).toUInt32 >>> ((1 : Int32) &&& 31).toUInt32).toInt32)) = own_f32 q0 from (by rw [own_f32, if_pos c102, if_neg c104, if_pos c128, if_neg c130, if_neg c136]))), N0, rfl⟩) (by decide) (by decide)
   ·have sg139 : zg p e below s₁ m 51 (z0 (zh (zh q0 16) 8) (((31 : Int32) + (-16 : Int32)) + (-8 : Int32))) [.int 16, .int (zh (zh q0 16) 8)] 37 (z0 (zh q0 16) ((31 : Int32) + (-16 : Int32))) [.int 256, .int (zh q0 16)] := by
     intro t k
     refine XS.icmpNo X0.here hx rfl (hb hby d32_37) rfl (flt c128).1 ?_
     show zs p e below s₁ m 40 (z0 (zh q0 16) ((31 : Int32) + (-16 : Int32))) [] t
     refine XS.iinc X0.here hx rfl (hb hby d32_40) rfl (l' := (z0 ((q0.toUInt32 >>> ((16 : Int32) &&& 31).toUInt32).toInt32) (((31 : Int32) + (-16 : Int32)) + (-8 : Int32)))) rfl ?_
     show zs p e below s₁ m 43 (z0 (zh q0 16) (((31 : Int32) + (-16 : Int32)) + (-8 : Int32))) [] t
     refine XS.iloadN X0.here hx rfl (hb hby d32_43) rfl ?_
     show zs p e below s₁ m 44 (z0 (zh q0 16) (((31 : Int32) + (-16 : Int32)) + (-8 : Int32))) [.int (zh q0 16)] t
     refine XS.bipush X0.here hx rfl (hb hby d32_44) ?_
     show zs p e below s₁ m 46 (z0 (zh q0 16) (((31 : Int32) + (-16 : Int32)) + (-8 : Int32))) [.int 8, .int (zh q0 16)] t
     refine XS.iushr X0.here hx rfl (hb hby d32_46) rfl ?_
     show zs p e below s₁ m 47 (z0 (zh q0 16) (((31 : Int32) + (-16 : Int32)) + (-8 : Int32))) [.int (zh (zh q0 16) 8)] t
     refine XS.istoreN X0.here hx rfl (hb hby d32_47) rfl (l' := (z0 ((((q0.toUInt32 >>> ((16 : Int32) &&& 31).toUInt32).toInt32).toUInt32 >>> ((8 : Int32) &&& 31).toUInt32).toInt32) (((31 : Int32) + (-16 : Int32)) + (-8 : Int32)))) rfl ?_
     show zs p e below s₁ m 48 (z0 (zh (zh q0 16) 8) (((31 : Int32) + (-16 : Int32)) + (-8 : Int32))) [] t
     refine XS.iloadN X0.here hx rfl (hb hby d32_48) rfl ?_
     show zs p e below s₁ m 49 (z0 (zh (zh q0 16) 8) (((31 : Int32) + (-16 : Int32)) + (-8 : Int32))) [.int (zh (zh q0 16) 8)] t
     refine XS.bipush X0.here hx rfl (hb hby d32_49) ?_
     exact k
    refine OFin.go sg139 ?_
    by_cases c140 : ((((q0.toUInt32 >>> ((16 : Int32) &&& 31).toUInt32).toInt32).toUInt32 >>> ((8 : Int32) &&& 31).toUInt32).toInt32) < (16 : Int32)
    ·have sg141 : zg p e below s₁ m 63 (z0 (zh (zh q0 16) 8) (((31 : Int32) + (-16 : Int32)) + (-8 : Int32))) [.int 4, .int (zh (zh q0 16) 8)] 51 (z0 (zh (zh q0 16) 8) (((31 : Int32) + (-16 : Int32)) + (-8 : Int32))) [.int 16, .int (zh (zh q0 16) 8)] := by
      intro t k
      refine XS.icmpYes X0.here hx rfl (pc0 := 51) (pc' := 61) rfl (hb hby d32_51) rfl (tlt c140).1 (by decide) (by decide) ?_
      show zs p e below s₁ m 61 (z0 (zh (zh q0 16) 8) (((31 : Int32) + (-16 : Int32)) + (-8 : Int32))) [] t
      refine XS.iloadN X0.here hx rfl (hb hby d32_61) rfl ?_
      show zs p e below s₁ m 62 (z0 (zh (zh q0 16) 8) (((31 : Int32) + (-16 : Int32)) + (-8 : Int32))) [.int (zh (zh q0 16) 8)] t
      refine XS.iconst X0.here hx rfl (hb hby d32_62) ?_
      exact k
     refine OFin.go sg141 ?_
     by_cases c142 : ((((q0.toUInt32 >>> ((16 : Int32) &&& 31).toUInt32).toInt32).toUInt32 >>> ((8 : Int32) &&& 31).toUInt32).toInt32) < (4 : Int32)
     ·have sg143 : zg p e below s₁ m 78 (z0 (zh (zh q0 16) 8) (((31 : Int32) + (-16 : Int32)) + (-8 : Int32))) [.int ((((31 : Int32) + (-16 : Int32)) + (-8 : Int32)) - (zh (zh (zh q0 16) 8) 1))] 63 (z0 (zh (zh q0 16) 8) (((31 : Int32) + (-16 : Int32)) + (-8 : Int32))) [.int 4, .int (zh (zh q0 16) 8)] := by
       intro t k
       refine XS.icmpYes X0.here hx rfl (pc0 := 63) (pc' := 73) rfl (hb hby d32_63) rfl (tlt c142).1 (by decide) (by decide) ?_
       show zs p e below s₁ m 73 (z0 (zh (zh q0 16) 8) (((31 : Int32) + (-16 : Int32)) + (-8 : Int32))) [] t
       refine XS.iloadN X0.here hx rfl (hb hby d32_73) rfl ?_
       show zs p e below s₁ m 74 (z0 (zh (zh q0 16) 8) (((31 : Int32) + (-16 : Int32)) + (-8 : Int32))) [.int (((31 : Int32) + (-16 : Int32)) + (-8 : Int32))] t
       refine XS.iloadN X0.here hx rfl (hb hby d32_74) rfl ?_
       show zs p e below s₁ m 75 (z0 (zh (zh q0 16) 8) (((31 : Int32) + (-16 : Int32)) + (-8 : Int32))) [.int (zh (zh q0 16) 8), .int (((31 : Int32) + (-16 : Int32)) + (-8 : Int32))] t
       refine XS.iconst X0.here hx rfl (hb hby d32_75) ?_
       show zs p e below s₁ m 76 (z0 (zh (zh q0 16) 8) (((31 : Int32) + (-16 : Int32)) + (-8 : Int32))) [.int 1, .int (zh (zh q0 16) 8), .int (((31 : Int32) + (-16 : Int32)) + (-8 : Int32))] t
       refine XS.iushr X0.here hx rfl (hb hby d32_76) rfl ?_
       show zs p e below s₁ m 77 (z0 (zh (zh q0 16) 8) (((31 : Int32) + (-16 : Int32)) + (-8 : Int32))) [.int (zh (zh (zh q0 16) 8) 1), .int (((31 : Int32) + (-16 : Int32)) + (-8 : Int32))] t
       refine XS.isub X0.here hx rfl (hb hby d32_77) rfl ?_
       exact k
      refine OFin.go sg143 ?_
      exact OFin.retI X0 hx hret hlk (hb hby d32_78) (by rw [e0]; exact ⟨(congrArg (fun z => some (Value.int z)) (show ((((31 : Int32) + (-16 : Int32)) + (-8 : Int32)) - ((((((q0.toUInt32 >>> ((16 : Int32) &&& 31).toUInt32).toInt32).toUInt32 >>> ((8 : Int32) &&& 31).toUInt32).toInt32).toUInt32 >>> ((1 : Int32) &&& 31).toUInt32).toInt32)) = own_f32 q0 from (by rw [own_f32, if_pos c102, if_neg c104, if_neg c128, if_pos c140, if_pos c142]))), N0, rfl⟩) (by decide) (by decide)
     ·have sg144 : zg p e below s₁ m 78 (z0 (zh (zh (zh q0 16) 8) 2) ((((31 : Int32) + (-16 : Int32)) + (-8 : Int32)) + (-2 : Int32))) [.int (((((31 : Int32) + (-16 : Int32)) + (-8 : Int32)) + (-2 : Int32)) - (zh (zh (zh (zh q0 16) 8) 2) 1))] 63 (z0 (zh (zh q0 16) 8) (((31 : Int32) + (-16 : Int32)) + (-8 : Int32))) [.int 4, .int (zh (zh q0 16) 8)] := by
       intro t k
       refine XS.icmpNo X0.here hx rfl (hb hby d32_63) rfl (flt c142).1 ?_
       show zs p e below s₁ m 66 (z0 (zh (zh q0 16) 8) (((31 : Int32) + (-16 : Int32)) + (-8 : Int32))) [] t
       refine XS.iinc X0.here hx rfl (hb hby d32_66) rfl (l' := (z0 ((((q0.toUInt32 >>> ((16 : Int32) &&& 31).toUInt32).toInt32).toUInt32 >>> ((8 : Int32) &&& 31).toUInt32).toInt32) ((((31 : Int32) + (-16 : Int32)) + (-8 : Int32)) + (-2 : Int32)))) rfl ?_
       show zs p e below s₁ m 69 (z0 (zh (zh q0 16) 8) ((((31 : Int32) + (-16 : Int32)) + (-8 : Int32)) + (-2 : Int32))) [] t
       refine XS.iloadN X0.here hx rfl (hb hby d32_69) rfl ?_
       show zs p e below s₁ m 70 (z0 (zh (zh q0 16) 8) ((((31 : Int32) + (-16 : Int32)) + (-8 : Int32)) + (-2 : Int32))) [.int (zh (zh q0 16) 8)] t
       refine XS.iconst X0.here hx rfl (hb hby d32_70) ?_
       show zs p e below s₁ m 71 (z0 (zh (zh q0 16) 8) ((((31 : Int32) + (-16 : Int32)) + (-8 : Int32)) + (-2 : Int32))) [.int 2, .int (zh (zh q0 16) 8)] t
       refine XS.iushr X0.here hx rfl (hb hby d32_71) rfl ?_
       show zs p e below s₁ m 72 (z0 (zh (zh q0 16) 8) ((((31 : Int32) + (-16 : Int32)) + (-8 : Int32)) + (-2 : Int32))) [.int (zh (zh (zh q0 16) 8) 2)] t
       refine XS.istoreN X0.here hx rfl (hb hby d32_72) rfl (l' := (z0 ((((((q0.toUInt32 >>> ((16 : Int32) &&& 31).toUInt32).toInt32).toUInt32 >>> ((8 : Int32) &&& 31).toUInt32).toInt32).toUInt32 >>> ((2 : Int32) &&& 31).toUInt32).toInt32) ((((31 : Int32) + (-16 : Int32)) + (-8 : Int32)) + (-2 : Int32)))) rfl ?_
       show zs p e below s₁ m 73 (z0 (zh (zh (zh q0 16) 8) 2) ((((31 : Int32) + (-16 : Int32)) + (-8 : Int32)) + (-2 : Int32))) [] t
       refine XS.iloadN X0.here hx rfl (hb hby d32_73) rfl ?_
       show zs p e below s₁ m 74 (z0 (zh (zh (zh q0 16) 8) 2) ((((31 : Int32) + (-16 : Int32)) + (-8 : Int32)) + (-2 : Int32))) [.int ((((31 : Int32) + (-16 : Int32)) + (-8 : Int32)) + (-2 : Int32))] t
       refine XS.iloadN X0.here hx rfl (hb hby d32_74) rfl ?_
       show zs p e below s₁ m 75 (z0 (zh (zh (zh q0 16) 8) 2) ((((31 : Int32) + (-16 : Int32)) + (-8 : Int32)) + (-2 : Int32))) [.int (zh (zh (zh q0 16) 8) 2), .int ((((31 : Int32) + (-16 : Int32)) + (-8 : Int32)) + (-2 : Int32))] t
       refine XS.iconst X0.here hx rfl (hb hby d32_75) ?_
       show zs p e below s₁ m 76 (z0 (zh (zh (zh q0 16) 8) 2) ((((31 : Int32) + (-16 : Int32)) + (-8 : Int32)) + (-2 : Int32))) [.int 1, .int (zh (zh (zh q0 16) 8) 2), .int ((((31 : Int32) + (-16 : Int32)) + (-8 : Int32)) + (-2 : Int32))] t
       refine XS.iushr X0.here hx rfl (hb hby d32_76) rfl ?_
       show zs p e below s₁ m 77 (z0 (zh (zh (zh q0 16) 8) 2) ((((31 : Int32) + (-16 : Int32)) + (-8 : Int32)) + (-2 : Int32))) [.int (zh (zh (zh (zh q0 16) 8) 2) 1), .int ((((31 : Int32) + (-16 : Int32)) + (-8 : Int32)) + (-2 : Int32))] t
       refine XS.isub X0.here hx rfl (hb hby d32_77) rfl ?_
       exact k
      refine OFin.go sg144 ?_
      exact OFin.retI X0 hx hret hlk (hb hby d32_78) (by rw [e0]; exact ⟨(congrArg (fun z => some (Value.int z)) (show (((((31 : Int32) + (-16 : Int32)) + (-8 : Int32)) + (-2 : Int32)) - ((((((((q0.toUInt32 >>> ((16 : Int32) &&& 31).toUInt32).toInt32).toUInt32 >>> ((8 : Int32) &&& 31).toUInt32).toInt32).toUInt32 >>> ((2 : Int32) &&& 31).toUInt32).toInt32).toUInt32 >>> ((1 : Int32) &&& 31).toUInt32).toInt32)) = own_f32 q0 from (by rw [own_f32, if_pos c102, if_neg c104, if_neg c128, if_pos c140, if_neg c142]))), N0, rfl⟩) (by decide) (by decide)
    ·have sg145 : zg p e below s₁ m 63 (z0 (zh (zh (zh q0 16) 8) 4) ((((31 : Int32) + (-16 : Int32)) + (-8 : Int32)) + (-4 : Int32))) [.int 4, .int (zh (zh (zh q0 16) 8) 4)] 51 (z0 (zh (zh q0 16) 8) (((31 : Int32) + (-16 : Int32)) + (-8 : Int32))) [.int 16, .int (zh (zh q0 16) 8)] := by
      intro t k
      refine XS.icmpNo X0.here hx rfl (hb hby d32_51) rfl (flt c140).1 ?_
      show zs p e below s₁ m 54 (z0 (zh (zh q0 16) 8) (((31 : Int32) + (-16 : Int32)) + (-8 : Int32))) [] t
      refine XS.iinc X0.here hx rfl (hb hby d32_54) rfl (l' := (z0 ((((q0.toUInt32 >>> ((16 : Int32) &&& 31).toUInt32).toInt32).toUInt32 >>> ((8 : Int32) &&& 31).toUInt32).toInt32) ((((31 : Int32) + (-16 : Int32)) + (-8 : Int32)) + (-4 : Int32)))) rfl ?_
      show zs p e below s₁ m 57 (z0 (zh (zh q0 16) 8) ((((31 : Int32) + (-16 : Int32)) + (-8 : Int32)) + (-4 : Int32))) [] t
      refine XS.iloadN X0.here hx rfl (hb hby d32_57) rfl ?_
      show zs p e below s₁ m 58 (z0 (zh (zh q0 16) 8) ((((31 : Int32) + (-16 : Int32)) + (-8 : Int32)) + (-4 : Int32))) [.int (zh (zh q0 16) 8)] t
      refine XS.iconst X0.here hx rfl (hb hby d32_58) ?_
      show zs p e below s₁ m 59 (z0 (zh (zh q0 16) 8) ((((31 : Int32) + (-16 : Int32)) + (-8 : Int32)) + (-4 : Int32))) [.int 4, .int (zh (zh q0 16) 8)] t
      refine XS.iushr X0.here hx rfl (hb hby d32_59) rfl ?_
      show zs p e below s₁ m 60 (z0 (zh (zh q0 16) 8) ((((31 : Int32) + (-16 : Int32)) + (-8 : Int32)) + (-4 : Int32))) [.int (zh (zh (zh q0 16) 8) 4)] t
      refine XS.istoreN X0.here hx rfl (hb hby d32_60) rfl (l' := (z0 ((((((q0.toUInt32 >>> ((16 : Int32) &&& 31).toUInt32).toInt32).toUInt32 >>> ((8 : Int32) &&& 31).toUInt32).toInt32).toUInt32 >>> ((4 : Int32) &&& 31).toUInt32).toInt32) ((((31 : Int32) + (-16 : Int32)) + (-8 : Int32)) + (-4 : Int32)))) rfl ?_
      show zs p e below s₁ m 61 (z0 (zh (zh (zh q0 16) 8) 4) ((((31 : Int32) + (-16 : Int32)) + (-8 : Int32)) + (-4 : Int32))) [] t
      refine XS.iloadN X0.here hx rfl (hb hby d32_61) rfl ?_
      show zs p e below s₁ m 62 (z0 (zh (zh (zh q0 16) 8) 4) ((((31 : Int32) + (-16 : Int32)) + (-8 : Int32)) + (-4 : Int32))) [.int (zh (zh (zh q0 16) 8) 4)] t
      refine XS.iconst X0.here hx rfl (hb hby d32_62) ?_
      exact k
     refine OFin.go sg145 ?_
     by_cases c146 : ((((((q0.toUInt32 >>> ((16 : Int32) &&& 31).toUInt32).toInt32).toUInt32 >>> ((8 : Int32) &&& 31).toUInt32).toInt32).toUInt32 >>> ((4 : Int32) &&& 31).toUInt32).toInt32) < (4 : Int32)
     ·have sg147 : zg p e below s₁ m 78 (z0 (zh (zh (zh q0 16) 8) 4) ((((31 : Int32) + (-16 : Int32)) + (-8 : Int32)) + (-4 : Int32))) [.int (((((31 : Int32) + (-16 : Int32)) + (-8 : Int32)) + (-4 : Int32)) - (zh (zh (zh (zh q0 16) 8) 4) 1))] 63 (z0 (zh (zh (zh q0 16) 8) 4) ((((31 : Int32) + (-16 : Int32)) + (-8 : Int32)) + (-4 : Int32))) [.int 4, .int (zh (zh (zh q0 16) 8) 4)] := by
       intro t k
       refine XS.icmpYes X0.here hx rfl (pc0 := 63) (pc' := 73) rfl (hb hby d32_63) rfl (tlt c146).1 (by decide) (by decide) ?_
       show zs p e below s₁ m 73 (z0 (zh (zh (zh q0 16) 8) 4) ((((31 : Int32) + (-16 : Int32)) + (-8 : Int32)) + (-4 : Int32))) [] t
       refine XS.iloadN X0.here hx rfl (hb hby d32_73) rfl ?_
       show zs p e below s₁ m 74 (z0 (zh (zh (zh q0 16) 8) 4) ((((31 : Int32) + (-16 : Int32)) + (-8 : Int32)) + (-4 : Int32))) [.int ((((31 : Int32) + (-16 : Int32)) + (-8 : Int32)) + (-4 : Int32))] t
       refine XS.iloadN X0.here hx rfl (hb hby d32_74) rfl ?_
       show zs p e below s₁ m 75 (z0 (zh (zh (zh q0 16) 8) 4) ((((31 : Int32) + (-16 : Int32)) + (-8 : Int32)) + (-4 : Int32))) [.int (zh (zh (zh q0 16) 8) 4), .int ((((31 : Int32) + (-16 : Int32)) + (-8 : Int32)) + (-4 : Int32))] t
       refine XS.iconst X0.here hx rfl (hb hby d32_75) ?_
       show zs p e below s₁ m 76 (z0 (zh (zh (zh q0 16) 8) 4) ((((31 : Int32) + (-16 : Int32)) + (-8 : Int32)) + (-4 : Int32))) [.int 1, .int (zh (zh (zh q0 16) 8) 4), .int ((((31 : Int32) + (-16 : Int32)) + (-8 : Int32)) + (-4 : Int32))] t
       refine XS.iushr X0.here hx rfl (hb hby d32_76) rfl ?_
       show zs p e below s₁ m 77 (z0 (zh (zh (zh q0 16) 8) 4) ((((31 : Int32) + (-16 : Int32)) + (-8 : Int32)) + (-4 : Int32))) [.int (zh (zh (zh (zh q0 16) 8) 4) 1), .int ((((31 : Int32) + (-16 : Int32)) + (-8 : Int32)) + (-4 : Int32))] t
       refine XS.isub X0.here hx rfl (hb hby d32_77) rfl ?_
       exact k
      refine OFin.go sg147 ?_
      exact OFin.retI X0 hx hret hlk (hb hby d32_78) (by rw [e0]; exact ⟨(congrArg (fun z => some (Value.int z)) (show (((((31 : Int32) + (-16 : Int32)) + (-8 : Int32)) + (-4 : Int32)) - ((((((((q0.toUInt32 >>> ((16 : Int32) &&& 31).toUInt32).toInt32).toUInt32 >>> ((8 : Int32) &&& 31).toUInt32).toInt32).toUInt32 >>> ((4 : Int32) &&& 31).toUInt32).toInt32).toUInt32 >>> ((1 : Int32) &&& 31).toUInt32).toInt32)) = own_f32 q0 from (by rw [own_f32, if_pos c102, if_neg c104, if_neg c128, if_neg c140, if_pos c146]))), N0, rfl⟩) (by decide) (by decide)
     ·have sg148 : zg p e below s₁ m 78 (z0 (zh (zh (zh (zh q0 16) 8) 4) 2) (((((31 : Int32) + (-16 : Int32)) + (-8 : Int32)) + (-4 : Int32)) + (-2 : Int32))) [.int ((((((31 : Int32) + (-16 : Int32)) + (-8 : Int32)) + (-4 : Int32)) + (-2 : Int32)) - (zh (zh (zh (zh (zh q0 16) 8) 4) 2) 1))] 63 (z0 (zh (zh (zh q0 16) 8) 4) ((((31 : Int32) + (-16 : Int32)) + (-8 : Int32)) + (-4 : Int32))) [.int 4, .int (zh (zh (zh q0 16) 8) 4)] := by
       intro t k
       refine XS.icmpNo X0.here hx rfl (hb hby d32_63) rfl (flt c146).1 ?_
       show zs p e below s₁ m 66 (z0 (zh (zh (zh q0 16) 8) 4) ((((31 : Int32) + (-16 : Int32)) + (-8 : Int32)) + (-4 : Int32))) [] t
       refine XS.iinc X0.here hx rfl (hb hby d32_66) rfl (l' := (z0 ((((((q0.toUInt32 >>> ((16 : Int32) &&& 31).toUInt32).toInt32).toUInt32 >>> ((8 : Int32) &&& 31).toUInt32).toInt32).toUInt32 >>> ((4 : Int32) &&& 31).toUInt32).toInt32) (((((31 : Int32) + (-16 : Int32)) + (-8 : Int32)) + (-4 : Int32)) + (-2 : Int32)))) rfl ?_
       show zs p e below s₁ m 69 (z0 (zh (zh (zh q0 16) 8) 4) (((((31 : Int32) + (-16 : Int32)) + (-8 : Int32)) + (-4 : Int32)) + (-2 : Int32))) [] t
       refine XS.iloadN X0.here hx rfl (hb hby d32_69) rfl ?_
       show zs p e below s₁ m 70 (z0 (zh (zh (zh q0 16) 8) 4) (((((31 : Int32) + (-16 : Int32)) + (-8 : Int32)) + (-4 : Int32)) + (-2 : Int32))) [.int (zh (zh (zh q0 16) 8) 4)] t
       refine XS.iconst X0.here hx rfl (hb hby d32_70) ?_
       show zs p e below s₁ m 71 (z0 (zh (zh (zh q0 16) 8) 4) (((((31 : Int32) + (-16 : Int32)) + (-8 : Int32)) + (-4 : Int32)) + (-2 : Int32))) [.int 2, .int (zh (zh (zh q0 16) 8) 4)] t
       refine XS.iushr X0.here hx rfl (hb hby d32_71) rfl ?_
       show zs p e below s₁ m 72 (z0 (zh (zh (zh q0 16) 8) 4) (((((31 : Int32) + (-16 : Int32)) + (-8 : Int32)) + (-4 : Int32)) + (-2 : Int32))) [.int (zh (zh (zh (zh q0 16) 8) 4) 2)] t
       refine XS.istoreN X0.here hx rfl (hb hby d32_72) rfl (l' := (z0 ((((((((q0.toUInt32 >>> ((16 : Int32) &&& 31).toUInt32).toInt32).toUInt32 >>> ((8 : Int32) &&& 31).toUInt32).toInt32).toUInt32 >>> ((4 : Int32) &&& 31).toUInt32).toInt32).toUInt32 >>> ((2 : Int32) &&& 31).toUInt32).toInt32) (((((31 : Int32) + (-16 : Int32)) + (-8 : Int32)) + (-4 : Int32)) + (-2 : Int32)))) rfl ?_
       show zs p e below s₁ m 73 (z0 (zh (zh (zh (zh q0 16) 8) 4) 2) (((((31 : Int32) + (-16 : Int32)) + (-8 : Int32)) + (-4 : Int32)) + (-2 : Int32))) [] t
       refine XS.iloadN X0.here hx rfl (hb hby d32_73) rfl ?_
       show zs p e below s₁ m 74 (z0 (zh (zh (zh (zh q0 16) 8) 4) 2) (((((31 : Int32) + (-16 : Int32)) + (-8 : Int32)) + (-4 : Int32)) + (-2 : Int32))) [.int (((((31 : Int32) + (-16 : Int32)) + (-8 : Int32)) + (-4 : Int32)) + (-2 : Int32))] t
       refine XS.iloadN X0.here hx rfl (hb hby d32_74) rfl ?_
       show zs p e below s₁ m 75 (z0 (zh (zh (zh (zh q0 16) 8) 4) 2) (((((31 : Int32) + (-16 : Int32)) + (-8 : Int32)) + (-4 : Int32)) + (-2 : Int32))) [.int (zh (zh (zh (zh q0 16) 8) 4) 2), .int (((((31 : Int32) + (-16 : Int32)) + (-8 : Int32)) + (-4 : Int32)) + (-2 : Int32))] t
       refine XS.iconst X0.here hx rfl (hb hby d32_75) ?_
       show zs p e below s₁ m 76 (z0 (zh (zh (zh (zh q0 16) 8) 4) 2) (((((31 : Int32) + (-16 : Int32)) + (-8 : Int32)) + (-4 : Int32)) + (-2 : Int32))) [.int 1, .int (zh (zh (zh (zh q0 16) 8) 4) 2), .int (((((31 : Int32) + (-16 : Int32)) + (-8 : Int32)) + (-4 : Int32)) + (-2 : Int32))] t
       refine XS.iushr X0.here hx rfl (hb hby d32_76) rfl ?_
       show zs p e below s₁ m 77 (z0 (zh (zh (zh (zh q0 16) 8) 4) 2) (((((31 : Int32) + (-16 : Int32)) + (-8 : Int32)) + (-4 : Int32)) + (-2 : Int32))) [.int (zh (zh (zh (zh (zh q0 16) 8) 4) 2) 1), .int (((((31 : Int32) + (-16 : Int32)) + (-8 : Int32)) + (-4 : Int32)) + (-2 : Int32))] t
       refine XS.isub X0.here hx rfl (hb hby d32_77) rfl ?_
       exact k
      refine OFin.go sg148 ?_
      exact OFin.retI X0 hx hret hlk (hb hby d32_78) (by rw [e0]; exact ⟨(congrArg (fun z => some (Value.int z)) (show ((((((31 : Int32) + (-16 : Int32)) + (-8 : Int32)) + (-4 : Int32)) + (-2 : Int32)) - ((((((((((q0.toUInt32 >>> ((16 : Int32) &&& 31).toUInt32).toInt32).toUInt32 >>> ((8 : Int32) &&& 31).toUInt32).toInt32).toUInt32 >>> ((4 : Int32) &&& 31).toUInt32).toInt32).toUInt32 >>> ((2 : Int32) &&& 31).toUInt32).toInt32).toUInt32 >>> ((1 : Int32) &&& 31).toUInt32).toInt32)) = own_f32 q0 from (by rw [own_f32, if_pos c102, if_neg c104, if_neg c128, if_neg c140, if_neg c146]))), N0, rfl⟩) (by decide) (by decide)
 ·have sg149 : zg p e below s₁ m 5 (z29 q0) [.int q0] 1 (z29 q0) [.int q0] := by
   intro t k
   refine XS.ifNo X0.here hx rfl (hb hby d32_1) rfl ((if0 _ _).trans (flt c102).2.2.1) ?_
   show zs p e below s₁ m 4 (z29 q0) [] t
   refine XS.iloadN X0.here hx rfl (hb hby d32_4) rfl ?_
   exact k
  refine OFin.go sg149 ?_
  by_cases c150 : q0 = (0 : Int32)
  ·have sg151 : zg p e below s₁ m 14 (z29 q0) [.int 32] 5 (z29 q0) [.int q0] := by
    intro t k
    refine XS.ifNo X0.here hx rfl (hb hby d32_5) rfl ((if0 _ _).trans (teq c150).2) ?_
    show zs p e below s₁ m 8 (z29 q0) [] t
    refine XS.bipush X0.here hx rfl (hb hby d32_8) ?_
    show zs p e below s₁ m 10 (z29 q0) [.int 32] t
    refine XS.goto X0.here hx rfl (pc0 := 10) (pc' := 14) rfl (hb hby d32_10) (by decide) (by decide) ?_
    exact k
   refine OFin.go sg151 ?_
   exact OFin.retI X0 hx hret hlk (hb hby d32_14) (by rw [e0]; exact ⟨(congrArg (fun z => some (Value.int z)) (show (32 : Int32) = own_f32 q0 from (by rw [own_f32, if_neg c102, if_pos c150]))), N0, rfl⟩) (by decide) (by decide)
  ·have sg152 : zg p e below s₁ m 14 (z29 q0) [.int 0] 5 (z29 q0) [.int q0] := by
    intro t k
    refine XS.ifYes X0.here hx rfl (pc0 := 5) (pc' := 13) rfl (hb hby d32_5) rfl ((if0 _ _).trans (feq c150).2) (by decide) (by decide) ?_
    show zs p e below s₁ m 13 (z29 q0) [] t
    refine XS.iconst X0.here hx rfl (hb hby d32_13) ?_
    exact k
   refine OFin.go sg152 ?_
   exact OFin.retI X0 hx hret hlk (hb hby d32_14) (by rw [e0]; exact ⟨(congrArg (fun z => some (Value.int z)) (show (0 : Int32) = own_f32 q0 from (by rw [own_f32, if_neg c102, if_neg c150]))), N0, rfl⟩) (by decide) (by decide)
theorem d31_0 : decode jdk_35_method_48_code 0 = .ok (.lload_n 0, 1) := by decide +kernel
theorem d31_1 : decode jdk_35_method_48_code 1 = .ok (.bipush 32, 2) := by decide +kernel
theorem d31_3 : decode jdk_35_method_48_code 3 = .ok (.lushr, 1) := by decide +kernel
theorem d31_4 : decode jdk_35_method_48_code 4 = .ok (.l2i, 1) := by decide +kernel
theorem d31_5 : decode jdk_35_method_48_code 5 = .ok (.istore_n 2, 1) := by decide +kernel
theorem d31_6 : decode jdk_35_method_48_code 6 = .ok (.iload_n 2, 1) := by decide +kernel
theorem d31_7 : decode jdk_35_method_48_code 7 = .ok (.ifCond .ne 14, 3) := by decide +kernel
theorem d31_10 : decode jdk_35_method_48_code 10 = .ok (.bipush 32, 2) := by decide +kernel
theorem d31_12 : decode jdk_35_method_48_code 12 = .ok (.lload_n 0, 1) := by decide +kernel
theorem d31_13 : decode jdk_35_method_48_code 13 = .ok (.l2i, 1) := by decide +kernel
theorem d31_14 : decode jdk_35_method_48_code 14 = .ok (.invokestatic 308, 3) := by decide +kernel
theorem d31_17 : decode jdk_35_method_48_code 17 = .ok (.iadd, 1) := by decide +kernel
theorem d31_18 : decode jdk_35_method_48_code 18 = .ok (.goto 7, 3) := by decide +kernel
theorem d31_21 : decode jdk_35_method_48_code 21 = .ok (.iload_n 2, 1) := by decide +kernel
theorem d31_22 : decode jdk_35_method_48_code 22 = .ok (.invokestatic 308, 3) := by decide +kernel
theorem d31_25 : decode jdk_35_method_48_code 25 = .ok (.ireturn, 1) := by decide +kernel
theorem pn_1 : plainName "java/lang/Long" = true := by first | (simp [plainName, overriddenIn]; done) | decide +kernel
theorem pd_0 : parseMethodDescriptor "(I)I" = some ⟨[.int], some .int⟩ := by decide +kernel
theorem ef_31 (m : MethodId) (x0 : Int64) : entryFrame m #[(.long x0)] 3 = mkF m 0 #[.val (.long x0), .second, .unset] [] := by first | (simp [entryFrame, mkF, argsToLocals, Value.category]; done) | rfl
def own_f31 (q0 : Int64) : Int32 := (if (((q0.toUInt64 >>> ((32 : Int32) &&& 0x3f).toInt64.toUInt64).toInt64).toInt32) = (0 : Int32) then ((32 : Int32) + (own_f32 (q0.toInt32))) else (own_f32 (((q0.toUInt64 >>> ((32 : Int32) &&& 0x3f).toInt64.toUInt64).toInt64).toInt32)))
def Q31 (Z : State) (q0 : Int64) (h0 : Heap) (n0 : Nat) (v : Option Value) (h : Heap) (L : List Loc) : Prop := v = some (.int (own_f31 q0)) ∧ Fr n0 L ∧ h = h0
set_option maxHeartbeats 40000000 in
theorem rm31 (l : Launch) (Z : State) (aZ : Array Value) (hw : ∀ d ∈ tables_1, d.before aZ Z = true) (ws : List Jvm.Cond) (q0 : Int64) (h0 : Heap) (n0 : Nat) (Z0 : n0 ≤ h0.size) :
  MetFree l (⟨"java/lang/Long", "numberOfLeadingZeros", "(J)I"⟩ : MethodName) (head1 (Jvm.Cond.code (⟨"java/lang/Long", "numberOfLeadingZeros", "(J)I"⟩ : MethodName) jdk_35_method_48_code 3 (some .int) :: ws) ({ frames := 1, cells := 0, slots := 0, locals := 14 } : Room)) (fun a U => a = #[.long q0] ∧ Z.Warmed39 U.vm ∧ U.heap = h0) (fun _ _ _ _ _ => True) (fun _ U o U' => ∃ v L, o = .returned v ∧ Q31 Z q0 h0 n0 v U'.heap L ∧ FrameEnd U o U' L ({ frames := 1, cells := 0, slots := 0, locals := 14 } : Room).cells ({ frames := 1, cells := 0, slots := 0, locals := 14 } : Room).slots) := by
 refine MetFree.of_bodySF (plainFor_of_name pn_1) hisR ?_
 intro p e s m args below meth c s₁ Bd hml0 hP hK
 obtain ⟨rfl, hZ, hh⟩ := hP
 have hx := Bd.exec
 have hby := Bd.bytes
 have hret := Bd.returns
 have hlk : meth.locks = false := BodyLoose.notSynchronized Bd
 have hml : c.maxLocals = 3 := hml0
 have hown : s.vm.findClass "java/lang/Long" = some m.cls := findClass_of_methodNamed Bd.named
 have hnm := (name_of_methodNamed Bd.named Bd.method).1
 have X0 : Stand p l e ({ frames := 1, cells := 0, slots := 0, locals := 14 } : Room) s m #[.long q0] below meth c s₁ [] 0 0 := Stand.of_body Bd
 have e0 : s₁.heap = h0 := by rw [← hh, Bd.state]; rfl
 have N0 := Fr.nil n0
 have K0 : Keep h0 h0 [] := Keep.refl _ _
 have pre0 : ∀ t, zs p e below s₁ m 0 (z50 q0) [] t → Steps p.tables e below (s₁.setTop (entryFrame m #[.long q0] 3)) t := fun t k => castTop (ef_31 m q0) k
 show OFin p e below s (Q31 Z q0 h0 n0) ({ frames := 1, cells := 0, slots := 0, locals := 14 } : Room).cells ({ frames := 1, cells := 0, slots := 0, locals := 14 } : Room).slots _
 refine OFin.go pre0 ?_
 have sg101 : zg p e below s₁ m 7 (z12 q0 (((q0.toUInt64 >>> ((32 : Int32) &&& 0x3f).toInt64.toUInt64).toInt64).toInt32)) [.int (((q0.toUInt64 >>> ((32 : Int32) &&& 0x3f).toInt64.toUInt64).toInt64).toInt32)] 0 (z50 q0) [] := by
  intro t k
  refine XS.lloadN X0.here hx rfl (hb hby d31_0) rfl ?_
  show zs p e below s₁ m 1 (z50 q0) [.long q0] t
  refine XS.bipush X0.here hx rfl (hb hby d31_1) ?_
  show zs p e below s₁ m 3 (z50 q0) [.int 32, .long q0] t
  refine XS.lushr X0.here hx rfl (hb hby d31_3) rfl ?_
  show zs p e below s₁ m 4 (z50 q0) [.long ((q0.toUInt64 >>> ((32 : Int32) &&& 0x3f).toInt64.toUInt64).toInt64)] t
  refine XS.l2i X0.here hx rfl (hb hby d31_4) rfl ?_
  show zs p e below s₁ m 5 (z50 q0) [.int (((q0.toUInt64 >>> ((32 : Int32) &&& 0x3f).toInt64.toUInt64).toInt64).toInt32)] t
  refine XS.istoreN X0.here hx rfl (hb hby d31_5) rfl (l' := (z12 q0 (((q0.toUInt64 >>> ((32 : Int32) &&& 0x3f).toInt64.toUInt64).toInt64).toInt32))) rfl ?_
  show zs p e below s₁ m 6 (z12 q0 (((q0.toUInt64 >>> ((32 : Int32) &&& 0x3f).toInt64.toUInt64).toInt64).toInt32)) [] t
  refine XS.iloadN X0.here hx rfl (hb hby d31_6) rfl ?_
  exact k
 refine OFin.go sg101 ?_
 by_cases c102 : (((q0.toUInt64 >>> ((32 : Int32) &&& 0x3f).toInt64.toUInt64).toInt64).toInt32) = (0 : Int32)
 ·have sg103 : zg p e below s₁ m 14 (z12 q0 (((q0.toUInt64 >>> ((32 : Int32) &&& 0x3f).toInt64.toUInt64).toInt64).toInt32)) [.int (q0.toInt32), .int 32] 7 (z12 q0 (((q0.toUInt64 >>> ((32 : Int32) &&& 0x3f).toInt64.toUInt64).toInt64).toInt32)) [.int (((q0.toUInt64 >>> ((32 : Int32) &&& 0x3f).toInt64.toUInt64).toInt64).toInt32)] := by
   intro t k
   refine XS.ifNo X0.here hx rfl (hb hby d31_7) rfl ((if0 _ _).trans (teq c102).2) ?_
   show zs p e below s₁ m 10 (z12 q0 (((q0.toUInt64 >>> ((32 : Int32) &&& 0x3f).toInt64.toUInt64).toInt64).toInt32)) [] t
   refine XS.bipush X0.here hx rfl (hb hby d31_10) ?_
   show zs p e below s₁ m 12 (z12 q0 (((q0.toUInt64 >>> ((32 : Int32) &&& 0x3f).toInt64.toUInt64).toInt64).toInt32)) [.int 32] t
   refine XS.lloadN X0.here hx rfl (hb hby d31_12) rfl ?_
   show zs p e below s₁ m 13 (z12 q0 (((q0.toUInt64 >>> ((32 : Int32) &&& 0x3f).toInt64.toUInt64).toInt64).toInt32)) [.long q0, .int 32] t
   refine XS.l2i X0.here hx rfl (hb hby d31_13) rfl ?_
   exact k
  refine OFin.go sg103 ?_
  obtain ⟨_, _, ⟨T104, L104, k104, n104⟩, -, X104, ⟨Lc104, hQ104, l104, y104, z104⟩, st104⟩ := Jvm.LawKit.callS X0 hx (y := (⟨"java/lang/Integer", "numberOfLeadingZeros", "(I)I"⟩ : MethodName)) hown (mvT hZ (zw hw 236 rfl)) (mvT hZ (zw hw 237 rfl)) (mvT hZ (zw hw 238 rfl)) (mvT hZ (zw hw 239 rfl)) (by decide) (backOf (W := 1) (rm32 l Z aZ hw [] (q0.toInt32) h0 n0 (zt Z0 K0.1) ) hZ (zw hw 239 rfl) (zw hw 238 rfl) (by decide) (by decide)) (g := (mkF m 14 (z12 q0 (((q0.toUInt64 >>> ((32 : Int32) &&& 0x3f).toInt64.toUInt64).toInt64).toInt32)) [.int (q0.toInt32), .int 32])) rfl (by rw [hml]; rfl) (argsL := [.int (q0.toInt32)]) (rest := [.int 32]) (lenOf pd_0 rfl) rfl (by show 2 * 0 + _ ≤ _; exact ze rfl) (hb hby d31_14) (fun _ _ => ⟨rfl, e0, (by decide : 0 + 0 ≤ _), (by decide : 0 + 0 ≤ _)⟩)
  dsimp only [Pt.U, Pt.locs, Pt.cells, Pt.slots] at X104 l104 y104 z104 st104 hQ104
  rw [l104, y104, z104] at X104
  obtain ⟨rfl, N104q, e104⟩ := hQ104
  have N104 := Fr.app N0 N104q
  refine OFin.go st104 ?_
  have sg105 : zg p e below T104 m 25 (z12 q0 (((q0.toUInt64 >>> ((32 : Int32) &&& 0x3f).toInt64.toUInt64).toInt64).toInt32)) [.int ((32 : Int32) + (own_f32 (q0.toInt32)))] 17 (z12 q0 (((q0.toUInt64 >>> ((32 : Int32) &&& 0x3f).toInt64.toUInt64).toInt64).toInt32)) [.int (own_f32 (q0.toInt32)), .int 32] := by
   intro t k
   refine XS.iadd X104.here hx rfl (hb hby d31_17) rfl ?_
   show zs p e below T104 m 18 (z12 q0 (((q0.toUInt64 >>> ((32 : Int32) &&& 0x3f).toInt64.toUInt64).toInt64).toInt32)) [.int ((32 : Int32) + (own_f32 (q0.toInt32)))] t
   refine XS.goto X104.here hx rfl (pc0 := 18) (pc' := 25) rfl (hb hby d31_18) (by decide) (by decide) ?_
   exact k
  refine OFin.go sg105 ?_
  exact OFin.retI X104 hx hret hlk (hb hby d31_25) (by rw [e104]; exact ⟨(congrArg (fun z => some (Value.int z)) (show ((32 : Int32) + (own_f32 (q0.toInt32))) = own_f31 q0 from (by rw [own_f31, if_pos c102]))), N104, rfl⟩) (by decide) (by decide)
 ·have sg106 : zg p e below s₁ m 22 (z12 q0 (((q0.toUInt64 >>> ((32 : Int32) &&& 0x3f).toInt64.toUInt64).toInt64).toInt32)) [.int (((q0.toUInt64 >>> ((32 : Int32) &&& 0x3f).toInt64.toUInt64).toInt64).toInt32)] 7 (z12 q0 (((q0.toUInt64 >>> ((32 : Int32) &&& 0x3f).toInt64.toUInt64).toInt64).toInt32)) [.int (((q0.toUInt64 >>> ((32 : Int32) &&& 0x3f).toInt64.toUInt64).toInt64).toInt32)] := by
   intro t k
   refine XS.ifYes X0.here hx rfl (pc0 := 7) (pc' := 21) rfl (hb hby d31_7) rfl ((if0 _ _).trans (feq c102).2) (by decide) (by decide) ?_
   show zs p e below s₁ m 21 (z12 q0 (((q0.toUInt64 >>> ((32 : Int32) &&& 0x3f).toInt64.toUInt64).toInt64).toInt32)) [] t
   refine XS.iloadN X0.here hx rfl (hb hby d31_21) rfl ?_
   exact k
  refine OFin.go sg106 ?_
  obtain ⟨_, _, ⟨T107, L107, k107, n107⟩, -, X107, ⟨Lc107, hQ107, l107, y107, z107⟩, st107⟩ := Jvm.LawKit.callS X0 hx (y := (⟨"java/lang/Integer", "numberOfLeadingZeros", "(I)I"⟩ : MethodName)) hown (mvT hZ (zw hw 236 rfl)) (mvT hZ (zw hw 237 rfl)) (mvT hZ (zw hw 238 rfl)) (mvT hZ (zw hw 239 rfl)) (by decide) (backOf (W := 0) (rm32 l Z aZ hw [] (((q0.toUInt64 >>> ((32 : Int32) &&& 0x3f).toInt64.toUInt64).toInt64).toInt32) h0 n0 (zt Z0 K0.1) ) hZ (zw hw 239 rfl) (zw hw 238 rfl) (by decide) (by decide)) (g := (mkF m 22 (z12 q0 (((q0.toUInt64 >>> ((32 : Int32) &&& 0x3f).toInt64.toUInt64).toInt64).toInt32)) [.int (((q0.toUInt64 >>> ((32 : Int32) &&& 0x3f).toInt64.toUInt64).toInt64).toInt32)])) rfl (by rw [hml]; rfl) (argsL := [.int (((q0.toUInt64 >>> ((32 : Int32) &&& 0x3f).toInt64.toUInt64).toInt64).toInt32)]) (rest := []) (lenOf pd_0 rfl) rfl (by show 2 * 0 + _ ≤ _; exact ze rfl) (hb hby d31_22) (fun _ _ => ⟨rfl, e0, (by decide : 0 + 0 ≤ _), (by decide : 0 + 0 ≤ _)⟩)
  dsimp only [Pt.U, Pt.locs, Pt.cells, Pt.slots] at X107 l107 y107 z107 st107 hQ107
  rw [l107, y107, z107] at X107
  obtain ⟨rfl, N107q, e107⟩ := hQ107
  have N107 := Fr.app N0 N107q
  refine OFin.go st107 ?_
  exact OFin.retI X107 hx hret hlk (hb hby d31_25) (by rw [e107]; exact ⟨(congrArg (fun z => some (Value.int z)) (show (own_f32 (((q0.toUInt64 >>> ((32 : Int32) &&& 0x3f).toInt64.toUInt64).toInt64).toInt32)) = own_f31 q0 from (by rw [own_f31, if_neg c102]))), N107, rfl⟩) (by decide) (by decide)
theorem d33_0 : decode prog_102_method_3_code 0 = .ok (.bipush 65, 2) := by decide +kernel
theorem d33_2 : decode prog_102_method_3_code 2 = .ok (.lload_n 0, 1) := by decide +kernel
theorem d33_3 : decode prog_102_method_3_code 3 = .ok (.lconst 0, 1) := by decide +kernel
theorem d33_4 : decode prog_102_method_3_code 4 = .ok (.lcmp, 1) := by decide +kernel
theorem d33_5 : decode prog_102_method_3_code 5 = .ok (.ifCond .ge 11, 3) := by decide +kernel
theorem d33_8 : decode prog_102_method_3_code 8 = .ok (.lload_n 0, 1) := by decide +kernel
theorem d33_9 : decode prog_102_method_3_code 9 = .ok (.ldc2_w 15, 3) := by decide +kernel
theorem d33_12 : decode prog_102_method_3_code 12 = .ok (.lxor, 1) := by decide +kernel
theorem d33_13 : decode prog_102_method_3_code 13 = .ok (.goto 4, 3) := by decide +kernel
theorem d33_16 : decode prog_102_method_3_code 16 = .ok (.lload_n 0, 1) := by decide +kernel
theorem d33_17 : decode prog_102_method_3_code 17 = .ok (.invokestatic 17, 3) := by decide +kernel
theorem d33_20 : decode prog_102_method_3_code 20 = .ok (.isub, 1) := by decide +kernel
theorem d33_21 : decode prog_102_method_3_code 21 = .ok (.ireturn, 1) := by decide +kernel
theorem pn_2 : plainName "org/counterpath/engine/Words" = true := by first | (simp [plainName, overriddenIn]; done) | decide +kernel
theorem pd_1 : parseMethodDescriptor "(J)I" = some ⟨[.long], some .int⟩ := by decide +kernel
theorem ef_33 (m : MethodId) (x0 : Int64) : entryFrame m #[(.long x0)] 2 = mkF m 0 #[.val (.long x0), .second] [] := by first | (simp [entryFrame, mkF, argsToLocals, Value.category]; done) | rfl
def own_f33 (q0 : Int64) : Int32 := (if q0 < (0 : Int64) then ((65 : Int32) - (own_f31 (q0 ^^^ (-1 : Int64)))) else ((65 : Int32) - (own_f31 q0)))
def Q33 (Z : State) (q0 : Int64) (h0 : Heap) (n0 : Nat) (v : Option Value) (h : Heap) (L : List Loc) : Prop := v = some (.int (own_f33 q0)) ∧ Fr n0 L ∧ h = h0
set_option maxHeartbeats 40000000 in
theorem rm33 (l : Launch) (Z : State) (aZ : Array Value) (hw : ∀ d ∈ tables_1, d.before aZ Z = true) (ws : List Jvm.Cond) (q0 : Int64) (h0 : Heap) (n0 : Nat) (Z0 : n0 ≤ h0.size) :
  MetFree l (⟨"org/counterpath/engine/Words", "width", "(J)I"⟩ : MethodName) (head1 (Jvm.Cond.code (⟨"org/counterpath/engine/Words", "width", "(J)I"⟩ : MethodName) prog_102_method_3_code 2 (some .int) :: ws) ({ frames := 2, cells := 0, slots := 0, locals := 29 } : Room)) (fun a U => a = #[.long q0] ∧ Z.Warmed39 U.vm ∧ U.heap = h0) (fun _ _ _ _ _ => True) (fun _ U o U' => ∃ v L, o = .returned v ∧ Q33 Z q0 h0 n0 v U'.heap L ∧ FrameEnd U o U' L ({ frames := 2, cells := 0, slots := 0, locals := 29 } : Room).cells ({ frames := 2, cells := 0, slots := 0, locals := 29 } : Room).slots) := by
 refine MetFree.of_bodySF (plainFor_of_name pn_2) hisR ?_
 intro p e s m args below meth c s₁ Bd hml0 hP hK
 obtain ⟨rfl, hZ, hh⟩ := hP
 have hx := Bd.exec
 have hby := Bd.bytes
 have hret := Bd.returns
 have hlk : meth.locks = false := BodyLoose.notSynchronized Bd
 have hml : c.maxLocals = 2 := hml0
 have hown : s.vm.findClass "org/counterpath/engine/Words" = some m.cls := findClass_of_methodNamed Bd.named
 have hnm := (name_of_methodNamed Bd.named Bd.method).1
 have X0 : Stand p l e ({ frames := 2, cells := 0, slots := 0, locals := 29 } : Room) s m #[.long q0] below meth c s₁ [] 0 0 := Stand.of_body Bd
 have e0 : s₁.heap = h0 := by rw [← hh, Bd.state]; rfl
 have N0 := Fr.nil n0
 have K0 : Keep h0 h0 [] := Keep.refl _ _
 have pre0 : ∀ t, zs p e below s₁ m 0 (z18 q0) [] t → Steps p.tables e below (s₁.setTop (entryFrame m #[.long q0] 2)) t := fun t k => castTop (ef_33 m q0) k
 show OFin p e below s (Q33 Z q0 h0 n0) ({ frames := 2, cells := 0, slots := 0, locals := 29 } : Room).cells ({ frames := 2, cells := 0, slots := 0, locals := 29 } : Room).slots _
 refine OFin.go pre0 ?_
 have sg101 : zg p e below s₁ m 5 (z18 q0) [.int (lcmpW q0 (0 : Int64)), .int 65] 0 (z18 q0) [] := by
  intro t k
  refine XS.bipush X0.here hx rfl (hb hby d33_0) ?_
  show zs p e below s₁ m 2 (z18 q0) [.int 65] t
  refine XS.lloadN X0.here hx rfl (hb hby d33_2) rfl ?_
  show zs p e below s₁ m 3 (z18 q0) [.long q0, .int 65] t
  refine XS.lconst X0.here hx rfl (hb hby d33_3) ?_
  show zs p e below s₁ m 4 (z18 q0) [.long 0, .long q0, .int 65] t
  refine XS.lcmp X0.here hx rfl (hb hby d33_4) rfl ?_
  exact k
 refine OFin.go sg101 ?_
 by_cases c102 : q0 < (0 : Int64)
 ·have sg103 : zg p e below s₁ m 17 (z18 q0) [.long (q0 ^^^ (-1 : Int64)), .int 65] 5 (z18 q0) [.int (lcmpW q0 (0 : Int64)), .int 65] := by
   intro t k
   refine XS.ifNo X0.here hx rfl (hb hby d33_5) rfl ((if0 _ _).trans (tlt ((lw_lt _ _).mpr c102)).2.1) ?_
   show zs p e below s₁ m 8 (z18 q0) [.int 65] t
   refine XS.lloadN X0.here hx rfl (hb hby d33_8) rfl ?_
   show zs p e below s₁ m 9 (z18 q0) [.long q0, .int 65] t
   refine X0.ldc2Long hx hown (mvT hZ (zw hw 245 rfl)) (g := (mkF m 9 (z18 q0) [.long q0, .int 65])) rfl (hb hby d33_9) _ ?_
   show zs p e below s₁ m 12 (z18 q0) [.long (-1 : Int64), .long q0, .int 65] t
   refine XS.lxor X0.here hx rfl (hb hby d33_12) rfl ?_
   show zs p e below s₁ m 13 (z18 q0) [.long (q0 ^^^ (-1 : Int64)), .int 65] t
   refine XS.goto X0.here hx rfl (pc0 := 13) (pc' := 17) rfl (hb hby d33_13) (by decide) (by decide) ?_
   exact k
  refine OFin.go sg103 ?_
  obtain ⟨_, _, ⟨T104, L104, k104, n104⟩, -, X104, ⟨Lc104, hQ104, l104, y104, z104⟩, st104⟩ := Jvm.LawKit.callS X0 hx (y := (⟨"java/lang/Long", "numberOfLeadingZeros", "(J)I"⟩ : MethodName)) hown (mvT hZ (zw hw 246 rfl)) (mvT hZ (zw hw 233 rfl)) (mvT hZ (zw hw 234 rfl)) (mvT hZ (zw hw 235 rfl)) (by decide) (backOf (W := 1) (rm31 l Z aZ hw [] (q0 ^^^ (-1 : Int64)) h0 n0 (zt Z0 K0.1) ) hZ (zw hw 235 rfl) (zw hw 234 rfl) (by decide) (by decide)) (g := (mkF m 17 (z18 q0) [.long (q0 ^^^ (-1 : Int64)), .int 65])) rfl (by rw [hml]; rfl) (argsL := [.long (q0 ^^^ (-1 : Int64))]) (rest := [.int 65]) (lenOf pd_1 rfl) rfl (by show 2 * 0 + _ ≤ _; exact ze rfl) (hb hby d33_17) (fun _ _ => ⟨rfl, e0, (by decide : 0 + 0 ≤ _), (by decide : 0 + 0 ≤ _)⟩)
  dsimp only [Pt.U, Pt.locs, Pt.cells, Pt.slots] at X104 l104 y104 z104 st104 hQ104
  rw [l104, y104, z104] at X104
  obtain ⟨rfl, N104q, e104⟩ := hQ104
  have N104 := Fr.app N0 N104q
  refine OFin.go st104 ?_
  have sg105 : zg p e below T104 m 21 (z18 q0) [.int ((65 : Int32) - (own_f31 (q0 ^^^ (-1 : Int64))))] 20 (z18 q0) [.int (own_f31 (q0 ^^^ (-1 : Int64))), .int 65] := by
   intro t k
   refine XS.isub X104.here hx rfl (hb hby d33_20) rfl ?_
   exact k
  refine OFin.go sg105 ?_
  exact OFin.retI X104 hx hret hlk (hb hby d33_21) (by rw [e104]; exact ⟨(congrArg (fun z => some (Value.int z)) (show ((65 : Int32) - (own_f31 (q0 ^^^ (-1 : Int64)))) = own_f33 q0 from (by rw [own_f33, if_pos c102]))), N104, rfl⟩) (by decide) (by decide)
 ·have sg106 : zg p e below s₁ m 17 (z18 q0) [.long q0, .int 65] 5 (z18 q0) [.int (lcmpW q0 (0 : Int64)), .int 65] := by
   intro t k
   refine XS.ifYes X0.here hx rfl (pc0 := 5) (pc' := 16) rfl (hb hby d33_5) rfl ((if0 _ _).trans (flt (mt (lw_lt _ _).mp c102)).2.1) (by decide) (by decide) ?_
   show zs p e below s₁ m 16 (z18 q0) [.int 65] t
   refine XS.lloadN X0.here hx rfl (hb hby d33_16) rfl ?_
   exact k
  refine OFin.go sg106 ?_
  obtain ⟨_, _, ⟨T107, L107, k107, n107⟩, -, X107, ⟨Lc107, hQ107, l107, y107, z107⟩, st107⟩ := Jvm.LawKit.callS X0 hx (y := (⟨"java/lang/Long", "numberOfLeadingZeros", "(J)I"⟩ : MethodName)) hown (mvT hZ (zw hw 246 rfl)) (mvT hZ (zw hw 233 rfl)) (mvT hZ (zw hw 234 rfl)) (mvT hZ (zw hw 235 rfl)) (by decide) (backOf (W := 1) (rm31 l Z aZ hw [] q0 h0 n0 (zt Z0 K0.1) ) hZ (zw hw 235 rfl) (zw hw 234 rfl) (by decide) (by decide)) (g := (mkF m 17 (z18 q0) [.long q0, .int 65])) rfl (by rw [hml]; rfl) (argsL := [.long q0]) (rest := [.int 65]) (lenOf pd_1 rfl) rfl (by show 2 * 0 + _ ≤ _; exact ze rfl) (hb hby d33_17) (fun _ _ => ⟨rfl, e0, (by decide : 0 + 0 ≤ _), (by decide : 0 + 0 ≤ _)⟩)
  dsimp only [Pt.U, Pt.locs, Pt.cells, Pt.slots] at X107 l107 y107 z107 st107 hQ107
  rw [l107, y107, z107] at X107
  obtain ⟨rfl, N107q, e107⟩ := hQ107
  have N107 := Fr.app N0 N107q
  refine OFin.go st107 ?_
  have sg108 : zg p e below T107 m 21 (z18 q0) [.int ((65 : Int32) - (own_f31 q0))] 20 (z18 q0) [.int (own_f31 q0), .int 65] := by
   intro t k
   refine XS.isub X107.here hx rfl (hb hby d33_20) rfl ?_
   exact k
  refine OFin.go sg108 ?_
  exact OFin.retI X107 hx hret hlk (hb hby d33_21) (by rw [e107]; exact ⟨(congrArg (fun z => some (Value.int z)) (show ((65 : Int32) - (own_f31 q0)) = own_f33 q0 from (by rw [own_f33, if_neg c102]))), N107, rfl⟩) (by decide) (by decide)
theorem d37_0 : decode method_3_code 0 = .ok (.lload_n 0, 1) := by decide +kernel
theorem d37_1 : decode method_3_code 1 = .ok (.lconst 1, 1) := by decide +kernel
theorem d37_2 : decode method_3_code 2 = .ok (.iload_n 2, 1) := by decide +kernel
theorem d37_3 : decode method_3_code 3 = .ok (.lshl, 1) := by decide +kernel
theorem d37_4 : decode method_3_code 4 = .ok (.land, 1) := by decide +kernel
theorem d37_5 : decode method_3_code 5 = .ok (.lconst 0, 1) := by decide +kernel
theorem d37_6 : decode method_3_code 6 = .ok (.lcmp, 1) := by decide +kernel
theorem d37_7 : decode method_3_code 7 = .ok (.ifCond .eq 7, 3) := by decide +kernel
theorem d37_10 : decode method_3_code 10 = .ok (.iconst 1, 1) := by decide +kernel
theorem d37_11 : decode method_3_code 11 = .ok (.goto 4, 3) := by decide +kernel
theorem d37_14 : decode method_3_code 14 = .ok (.iconst 0, 1) := by decide +kernel
theorem d37_15 : decode method_3_code 15 = .ok (.ireturn, 1) := by decide +kernel
theorem pn_3 : plainName "org/counterpath/engine/EncodingHoldPinLaw" = true := by first | (simp [plainName, overriddenIn]; done) | decide +kernel
theorem ef_37 (m : MethodId) (x0 : Int64) (x1 : Int32) : entryFrame m #[(.long x0), (.int x1)] 3 = mkF m 0 #[.val (.long x0), .second, .val (.int x1)] [] := by first | (simp [entryFrame, mkF, argsToLocals, Value.category]; done) | rfl
def own_f37 (q0 : Int64) (q1 : Int32) : Int32 := (if (q0 &&& ((1 : Int64) <<< (q1 &&& 0x3f).toInt64)) = (0 : Int64) then (0 : Int32) else (1 : Int32))
def Q37 (Z : State) (q0 : Int64) (q1 : Int32) (h0 : Heap) (n0 : Nat) (v : Option Value) (h : Heap) (L : List Loc) : Prop := v = some (.int (own_f37 q0 q1)) ∧ Fr n0 L ∧ h = h0
set_option maxHeartbeats 40000000 in
theorem rm37 (l : Launch) (Z : State) (aZ : Array Value) (hw : ∀ d ∈ tables_1, d.before aZ Z = true) (ws : List Jvm.Cond) (q0 : Int64) (q1 : Int32) (h0 : Heap) (n0 : Nat) (Z0 : n0 ≤ h0.size) :
  MetFree l (⟨"org/counterpath/engine/EncodingHoldPinLaw", "bitOf", "(JI)Z"⟩ : MethodName) (head1 (Jvm.Cond.code (⟨"org/counterpath/engine/EncodingHoldPinLaw", "bitOf", "(JI)Z"⟩ : MethodName) method_3_code 3 (some .boolean) :: ws) ({ frames := 0, cells := 0, slots := 0, locals := 0 } : Room)) (fun a U => a = #[.long q0, .int q1] ∧ Z.Warmed39 U.vm ∧ U.heap = h0) (fun _ _ _ _ _ => True) (fun _ U o U' => ∃ v L, o = .returned v ∧ Q37 Z q0 q1 h0 n0 v U'.heap L ∧ FrameEnd U o U' L ({ frames := 0, cells := 0, slots := 0, locals := 0 } : Room).cells ({ frames := 0, cells := 0, slots := 0, locals := 0 } : Room).slots) := by
 refine MetFree.of_bodySF (plainFor_of_name pn_3) hisR ?_
 intro p e s m args below meth c s₁ Bd hml0 hP hK
 obtain ⟨rfl, hZ, hh⟩ := hP
 have hx := Bd.exec
 have hby := Bd.bytes
 have hret := Bd.returns
 have hlk : meth.locks = false := BodyLoose.notSynchronized Bd
 have hml : c.maxLocals = 3 := hml0
 have hown : s.vm.findClass "org/counterpath/engine/EncodingHoldPinLaw" = some m.cls := findClass_of_methodNamed Bd.named
 have hnm := (name_of_methodNamed Bd.named Bd.method).1
 have X0 : Stand p l e ({ frames := 0, cells := 0, slots := 0, locals := 0 } : Room) s m #[.long q0, .int q1] below meth c s₁ [] 0 0 := Stand.of_body Bd
 have e0 : s₁.heap = h0 := by rw [← hh, Bd.state]; rfl
 have N0 := Fr.nil n0
 have K0 : Keep h0 h0 [] := Keep.refl _ _
 have pre0 : ∀ t, zs p e below s₁ m 0 (z12 q0 q1) [] t → Steps p.tables e below (s₁.setTop (entryFrame m #[.long q0, .int q1] 3)) t := fun t k => castTop (ef_37 m q0 q1) k
 show OFin p e below s (Q37 Z q0 q1 h0 n0) ({ frames := 0, cells := 0, slots := 0, locals := 0 } : Room).cells ({ frames := 0, cells := 0, slots := 0, locals := 0 } : Room).slots _
 refine OFin.go pre0 ?_
 have sg101 : zg p e below s₁ m 7 (z12 q0 q1) [.int (lcmpW (q0 &&& ((1 : Int64) <<< (q1 &&& 0x3f).toInt64)) (0 : Int64))] 0 (z12 q0 q1) [] := by
  intro t k
  refine XS.lloadN X0.here hx rfl (hb hby d37_0) rfl ?_
  show zs p e below s₁ m 1 (z12 q0 q1) [.long q0] t
  refine XS.lconst X0.here hx rfl (hb hby d37_1) ?_
  show zs p e below s₁ m 2 (z12 q0 q1) [.long 1, .long q0] t
  refine XS.iloadN X0.here hx rfl (hb hby d37_2) rfl ?_
  show zs p e below s₁ m 3 (z12 q0 q1) [.int q1, .long 1, .long q0] t
  refine XS.lshl X0.here hx rfl (hb hby d37_3) rfl ?_
  show zs p e below s₁ m 4 (z12 q0 q1) [.long ((1 : Int64) <<< (q1 &&& 0x3f).toInt64), .long q0] t
  refine XS.land X0.here hx rfl (hb hby d37_4) rfl ?_
  show zs p e below s₁ m 5 (z12 q0 q1) [.long (q0 &&& ((1 : Int64) <<< (q1 &&& 0x3f).toInt64))] t
  refine XS.lconst X0.here hx rfl (hb hby d37_5) ?_
  show zs p e below s₁ m 6 (z12 q0 q1) [.long 0, .long (q0 &&& ((1 : Int64) <<< (q1 &&& 0x3f).toInt64))] t
  refine XS.lcmp X0.here hx rfl (hb hby d37_6) rfl ?_
  exact k
 refine OFin.go sg101 ?_
 by_cases c102 : (q0 &&& ((1 : Int64) <<< (q1 &&& 0x3f).toInt64)) = (0 : Int64)
 ·have sg103 : zg p e below s₁ m 15 (z12 q0 q1) [.int 0] 7 (z12 q0 q1) [.int (lcmpW (q0 &&& ((1 : Int64) <<< (q1 &&& 0x3f).toInt64)) (0 : Int64))] := by
   intro t k
   refine XS.ifYes X0.here hx rfl (pc0 := 7) (pc' := 14) rfl (hb hby d37_7) rfl ((if0 _ _).trans (teq ((lw_eq _ _).mpr c102)).1) (by decide) (by decide) ?_
   show zs p e below s₁ m 14 (z12 q0 q1) [] t
   refine XS.iconst X0.here hx rfl (hb hby d37_14) ?_
   exact k
  refine OFin.go sg103 ?_
  exact OFin.retN X0 hx hret (by simp) hlk (hb hby d37_15) rfl (by rw [e0]; exact ⟨(congrArg (fun z => some (Value.int z)) (show (0 : Int32) = own_f37 q0 q1 from (by rw [own_f37, if_pos c102]))), N0, rfl⟩) (by decide) (by decide)
 ·have sg104 : zg p e below s₁ m 15 (z12 q0 q1) [.int 1] 7 (z12 q0 q1) [.int (lcmpW (q0 &&& ((1 : Int64) <<< (q1 &&& 0x3f).toInt64)) (0 : Int64))] := by
   intro t k
   refine XS.ifNo X0.here hx rfl (hb hby d37_7) rfl ((if0 _ _).trans (feq (mt (lw_eq _ _).mp c102)).1) ?_
   show zs p e below s₁ m 10 (z12 q0 q1) [] t
   refine XS.iconst X0.here hx rfl (hb hby d37_10) ?_
   show zs p e below s₁ m 11 (z12 q0 q1) [.int 1] t
   refine XS.goto X0.here hx rfl (pc0 := 11) (pc' := 15) rfl (hb hby d37_11) (by decide) (by decide) ?_
   exact k
  refine OFin.go sg104 ?_
  exact OFin.retN X0 hx hret (by simp) hlk (hb hby d37_15) rfl (by rw [e0]; exact ⟨(congrArg (fun z => some (Value.int z)) (show (1 : Int32) = own_f37 q0 q1 from (by rw [own_f37, if_neg c102]))), N0, rfl⟩) (by decide) (by decide)
theorem d4_0 : decode jdk_30_method_1_code 0 = .ok (.aload_n 0, 1) := by decide +kernel
theorem d4_1 : decode jdk_30_method_1_code 1 = .ok (.invokespecial 1, 3) := by decide +kernel
theorem d4_4 : decode jdk_30_method_1_code 4 = .ok (.return_, 1) := by decide +kernel
theorem pn_4 : plainName "java/lang/Record" = true := by first | (simp [plainName, overriddenIn]; done) | decide +kernel
theorem ef_4 (m : MethodId) (x0 : Addr) : entryFrame m #[(.ref x0)] 1 = mkF m 0 #[.val (.ref x0)] [] := by first | (simp [entryFrame, mkF, argsToLocals, Value.category]; done) | rfl
def Q4 (Z : State) (a0 : Addr) (h0 : Heap) (n0 : Nat) (v : Option Value) (h : Heap) (L : List Loc) : Prop := v = none ∧ Fr n0 L ∧ h = h0
set_option maxHeartbeats 40000000 in
theorem rm4 (l : Launch) (Z : State) (aZ : Array Value) (hw : ∀ d ∈ tables_1, d.before aZ Z = true) (ws : List Jvm.Cond) (a0 : Addr) (h0 : Heap) (n0 : Nat) (Z0 : n0 ≤ h0.size) :
  MetFree l (⟨"java/lang/Record", "<init>", "()V"⟩ : MethodName) (head1 (Jvm.Cond.code (⟨"java/lang/Record", "<init>", "()V"⟩ : MethodName) jdk_30_method_1_code 1 none :: ws) ({ frames := 1, cells := 0, slots := 0, locals := 12 } : Room)) (fun a U => a = #[.ref a0] ∧ Z.Warmed39 U.vm ∧ U.heap = h0) (fun _ _ _ _ _ => True) (fun _ U o U' => ∃ v L, o = .returned v ∧ Q4 Z a0 h0 n0 v U'.heap L ∧ FrameEnd U o U' L ({ frames := 1, cells := 0, slots := 0, locals := 12 } : Room).cells ({ frames := 1, cells := 0, slots := 0, locals := 12 } : Room).slots) := by
 refine MetFree.of_bodySF (plainFor_of_name pn_4) hisR ?_
 intro p e s m args below meth c s₁ Bd hml0 hP hK
 obtain ⟨rfl, hZ, hh⟩ := hP
 have hx := Bd.exec
 have hby := Bd.bytes
 have hret := Bd.returns
 have hlk : meth.locks = false := BodyLoose.notSynchronized Bd
 have hml : c.maxLocals = 1 := hml0
 have hown : s.vm.findClass "java/lang/Record" = some m.cls := findClass_of_methodNamed Bd.named
 have hnm := (name_of_methodNamed Bd.named Bd.method).1
 have X0 : Stand p l e ({ frames := 1, cells := 0, slots := 0, locals := 12 } : Room) s m #[.ref a0] below meth c s₁ [] 0 0 := Stand.of_body Bd
 have e0 : s₁.heap = h0 := by rw [← hh, Bd.state]; rfl
 have N0 := Fr.nil n0
 have K0 : Keep h0 h0 [] := Keep.refl _ _
 have pre0 : ∀ t, zs p e below s₁ m 0 #[.val (.ref a0)] [] t → Steps p.tables e below (s₁.setTop (entryFrame m #[.ref a0] 1)) t := fun t k => castTop (ef_4 m a0) k
 show OFin p e below s (Q4 Z a0 h0 n0) ({ frames := 1, cells := 0, slots := 0, locals := 12 } : Room).cells ({ frames := 1, cells := 0, slots := 0, locals := 12 } : Room).slots _
 refine OFin.go pre0 ?_
 have sg101 : zg p e below s₁ m 1 #[.val (.ref a0)] [.ref a0] 0 #[.val (.ref a0)] [] := by
  intro t k
  refine XS.aloadN X0.here hx rfl (hb hby d4_0) rfl rfl ?_
  exact k
 refine OFin.go sg101 ?_
 obtain ⟨T102, X102, e102, st102⟩ := initO X0 hx hZ hown (zw hw 29 rfl) (zw hw 30 rfl) (zw hw 31 rfl) e0 (g := (mkF m 1 #[.val (.ref a0)] [.ref a0])) rfl (by rw [hml]; rfl) rfl (hb hby d4_1) (by decide) (W := 0) (by show 2 * 0 + _ ≤ _; exact ze rfl) (by decide)
 refine OFin.go st102 ?_
 exact OFin.retV X102 hx hret hlk (hb hby d4_4) (by rw [e102]; exact ⟨rfl, N0, rfl⟩) (by decide) (by decide)
theorem d9_0 : decode jdk_22_method_1_code 0 = .ok (.aload_n 0, 1) := by decide +kernel
theorem d9_1 : decode jdk_22_method_1_code 1 = .ok (.invokespecial 1, 3) := by decide +kernel
theorem d9_4 : decode jdk_22_method_1_code 4 = .ok (.return_, 1) := by decide +kernel
theorem pn_5 : plainName "java/util/AbstractCollection" = true := by first | (simp [plainName, overriddenIn]; done) | decide +kernel
theorem ef_9 (m : MethodId) (x0 : Addr) : entryFrame m #[(.ref x0)] 1 = mkF m 0 #[.val (.ref x0)] [] := by first | (simp [entryFrame, mkF, argsToLocals, Value.category]; done) | rfl
def Q9 (Z : State) (a0 : Addr) (h0 : Heap) (n0 : Nat) (v : Option Value) (h : Heap) (L : List Loc) : Prop := v = none ∧ Fr n0 L ∧ h = h0
set_option maxHeartbeats 40000000 in
theorem rm9 (l : Launch) (Z : State) (aZ : Array Value) (hw : ∀ d ∈ tables_1, d.before aZ Z = true) (ws : List Jvm.Cond) (a0 : Addr) (h0 : Heap) (n0 : Nat) (Z0 : n0 ≤ h0.size) :
  MetFree l (⟨"java/util/AbstractCollection", "<init>", "()V"⟩ : MethodName) (head1 (Jvm.Cond.code (⟨"java/util/AbstractCollection", "<init>", "()V"⟩ : MethodName) jdk_22_method_1_code 1 none :: ws) ({ frames := 1, cells := 0, slots := 0, locals := 12 } : Room)) (fun a U => a = #[.ref a0] ∧ Z.Warmed39 U.vm ∧ U.heap = h0) (fun _ _ _ _ _ => True) (fun _ U o U' => ∃ v L, o = .returned v ∧ Q9 Z a0 h0 n0 v U'.heap L ∧ FrameEnd U o U' L ({ frames := 1, cells := 0, slots := 0, locals := 12 } : Room).cells ({ frames := 1, cells := 0, slots := 0, locals := 12 } : Room).slots) := by
 refine MetFree.of_bodySF (plainFor_of_name pn_5) hisR ?_
 intro p e s m args below meth c s₁ Bd hml0 hP hK
 obtain ⟨rfl, hZ, hh⟩ := hP
 have hx := Bd.exec
 have hby := Bd.bytes
 have hret := Bd.returns
 have hlk : meth.locks = false := BodyLoose.notSynchronized Bd
 have hml : c.maxLocals = 1 := hml0
 have hown : s.vm.findClass "java/util/AbstractCollection" = some m.cls := findClass_of_methodNamed Bd.named
 have hnm := (name_of_methodNamed Bd.named Bd.method).1
 have X0 : Stand p l e ({ frames := 1, cells := 0, slots := 0, locals := 12 } : Room) s m #[.ref a0] below meth c s₁ [] 0 0 := Stand.of_body Bd
 have e0 : s₁.heap = h0 := by rw [← hh, Bd.state]; rfl
 have N0 := Fr.nil n0
 have K0 : Keep h0 h0 [] := Keep.refl _ _
 have pre0 : ∀ t, zs p e below s₁ m 0 #[.val (.ref a0)] [] t → Steps p.tables e below (s₁.setTop (entryFrame m #[.ref a0] 1)) t := fun t k => castTop (ef_9 m a0) k
 show OFin p e below s (Q9 Z a0 h0 n0) ({ frames := 1, cells := 0, slots := 0, locals := 12 } : Room).cells ({ frames := 1, cells := 0, slots := 0, locals := 12 } : Room).slots _
 refine OFin.go pre0 ?_
 have sg101 : zg p e below s₁ m 1 #[.val (.ref a0)] [.ref a0] 0 #[.val (.ref a0)] [] := by
  intro t k
  refine XS.aloadN X0.here hx rfl (hb hby d9_0) rfl rfl ?_
  exact k
 refine OFin.go sg101 ?_
 obtain ⟨T102, X102, e102, st102⟩ := initO X0 hx hZ hown (zw hw 63 rfl) (zw hw 30 rfl) (zw hw 31 rfl) e0 (g := (mkF m 1 #[.val (.ref a0)] [.ref a0])) rfl (by rw [hml]; rfl) rfl (hb hby d9_1) (by decide) (W := 0) (by show 2 * 0 + _ ≤ _; exact ze rfl) (by decide)
 refine OFin.go st102 ?_
 exact OFin.retV X102 hx hret hlk (hb hby d9_4) (by rw [e102]; exact ⟨rfl, N0, rfl⟩) (by decide) (by decide)
theorem d17_0 : decode jdk_71_method_1_code 0 = .ok (.aload_n 0, 1) := by decide +kernel
theorem d17_1 : decode jdk_71_method_1_code 1 = .ok (.invokespecial 1, 3) := by decide +kernel
theorem d17_4 : decode jdk_71_method_1_code 4 = .ok (.return_, 1) := by decide +kernel
theorem pn_6 : plainName "java/util/AbstractMap" = true := by first | (simp [plainName, overriddenIn]; done) | decide +kernel
theorem ef_17 (m : MethodId) (x0 : Addr) : entryFrame m #[(.ref x0)] 1 = mkF m 0 #[.val (.ref x0)] [] := by first | (simp [entryFrame, mkF, argsToLocals, Value.category]; done) | rfl
def Q17 (Z : State) (a0 : Addr) (h0 : Heap) (n0 : Nat) (v : Option Value) (h : Heap) (L : List Loc) : Prop := v = none ∧ Fr n0 L ∧ h = h0
set_option maxHeartbeats 40000000 in
theorem rm17 (l : Launch) (Z : State) (aZ : Array Value) (hw : ∀ d ∈ tables_1, d.before aZ Z = true) (ws : List Jvm.Cond) (a0 : Addr) (h0 : Heap) (n0 : Nat) (Z0 : n0 ≤ h0.size) :
  MetFree l (⟨"java/util/AbstractMap", "<init>", "()V"⟩ : MethodName) (head1 (Jvm.Cond.code (⟨"java/util/AbstractMap", "<init>", "()V"⟩ : MethodName) jdk_71_method_1_code 1 none :: ws) ({ frames := 1, cells := 0, slots := 0, locals := 12 } : Room)) (fun a U => a = #[.ref a0] ∧ Z.Warmed39 U.vm ∧ U.heap = h0) (fun _ _ _ _ _ => True) (fun _ U o U' => ∃ v L, o = .returned v ∧ Q17 Z a0 h0 n0 v U'.heap L ∧ FrameEnd U o U' L ({ frames := 1, cells := 0, slots := 0, locals := 12 } : Room).cells ({ frames := 1, cells := 0, slots := 0, locals := 12 } : Room).slots) := by
 refine MetFree.of_bodySF (plainFor_of_name pn_6) hisR ?_
 intro p e s m args below meth c s₁ Bd hml0 hP hK
 obtain ⟨rfl, hZ, hh⟩ := hP
 have hx := Bd.exec
 have hby := Bd.bytes
 have hret := Bd.returns
 have hlk : meth.locks = false := BodyLoose.notSynchronized Bd
 have hml : c.maxLocals = 1 := hml0
 have hown : s.vm.findClass "java/util/AbstractMap" = some m.cls := findClass_of_methodNamed Bd.named
 have hnm := (name_of_methodNamed Bd.named Bd.method).1
 have X0 : Stand p l e ({ frames := 1, cells := 0, slots := 0, locals := 12 } : Room) s m #[.ref a0] below meth c s₁ [] 0 0 := Stand.of_body Bd
 have e0 : s₁.heap = h0 := by rw [← hh, Bd.state]; rfl
 have N0 := Fr.nil n0
 have K0 : Keep h0 h0 [] := Keep.refl _ _
 have pre0 : ∀ t, zs p e below s₁ m 0 #[.val (.ref a0)] [] t → Steps p.tables e below (s₁.setTop (entryFrame m #[.ref a0] 1)) t := fun t k => castTop (ef_17 m a0) k
 show OFin p e below s (Q17 Z a0 h0 n0) ({ frames := 1, cells := 0, slots := 0, locals := 12 } : Room).cells ({ frames := 1, cells := 0, slots := 0, locals := 12 } : Room).slots _
 refine OFin.go pre0 ?_
 have sg101 : zg p e below s₁ m 1 #[.val (.ref a0)] [.ref a0] 0 #[.val (.ref a0)] [] := by
  intro t k
  refine XS.aloadN X0.here hx rfl (hb hby d17_0) rfl rfl ?_
  exact k
 refine OFin.go sg101 ?_
 obtain ⟨T102, X102, e102, st102⟩ := initO X0 hx hZ hown (zw hw 126 rfl) (zw hw 30 rfl) (zw hw 31 rfl) e0 (g := (mkF m 1 #[.val (.ref a0)] [.ref a0])) rfl (by rw [hml]; rfl) rfl (hb hby d17_1) (by decide) (W := 0) (by show 2 * 0 + _ ≤ _; exact ze rfl) (by decide)
 refine OFin.go st102 ?_
 exact OFin.retV X102 hx hret hlk (hb hby d17_4) (by rw [e102]; exact ⟨rfl, N0, rfl⟩) (by decide) (by decide)
theorem d3_0 : decode prog_156_method_1_code 0 = .ok (.aload_n 0, 1) := by decide +kernel
theorem d3_1 : decode prog_156_method_1_code 1 = .ok (.invokespecial 1, 3) := by decide +kernel
theorem d3_4 : decode prog_156_method_1_code 4 = .ok (.lload_n 3, 1) := by decide +kernel
theorem d3_5 : decode prog_156_method_1_code 5 = .ok (.lload_n 1, 1) := by decide +kernel
theorem d3_6 : decode prog_156_method_1_code 6 = .ok (.lcmp, 1) := by decide +kernel
theorem d3_7 : decode prog_156_method_1_code 7 = .ok (.ifCond .ge 18, 3) := by decide +kernel
theorem d3_10 : decode prog_156_method_1_code 10 = .ok (.new 7, 3) := by decide +kernel
theorem d3_13 : decode prog_156_method_1_code 13 = .ok (.dup, 1) := by decide +kernel
theorem d3_14 : decode prog_156_method_1_code 14 = .ok (.lload_n 1, 1) := by decide +kernel
theorem d3_15 : decode prog_156_method_1_code 15 = .ok (.lload_n 3, 1) := by decide +kernel
theorem d3_21 : decode prog_156_method_1_code 21 = .ok (.invokespecial 13, 3) := by decide +kernel
theorem d3_24 : decode prog_156_method_1_code 24 = .ok (.athrow, 1) := by decide +kernel
theorem d3_25 : decode prog_156_method_1_code 25 = .ok (.aload_n 0, 1) := by decide +kernel
theorem d3_26 : decode prog_156_method_1_code 26 = .ok (.lload_n 1, 1) := by decide +kernel
theorem d3_27 : decode prog_156_method_1_code 27 = .ok (.putfield 16, 3) := by decide +kernel
theorem d3_30 : decode prog_156_method_1_code 30 = .ok (.aload_n 0, 1) := by decide +kernel
theorem d3_31 : decode prog_156_method_1_code 31 = .ok (.lload_n 3, 1) := by decide +kernel
theorem d3_32 : decode prog_156_method_1_code 32 = .ok (.putfield 22, 3) := by decide +kernel
theorem d3_35 : decode prog_156_method_1_code 35 = .ok (.return_, 1) := by decide +kernel
theorem pn_7 : plainName "org/counterpath/model/Type$Range" = true := by first | (simp [plainName, overriddenIn]; done) | decide +kernel
theorem pd_2 : parseMethodDescriptor "()V" = some ⟨[], none⟩ := by decide +kernel
theorem ef_3 (m : MethodId) (x0 : Addr) (x1 : Int64) (x2 : Int64) : entryFrame m #[(.ref x0), (.long x1), (.long x2)] 5 = mkF m 0 #[.val (.ref x0), .val (.long x1), .second, .val (.long x2), .second] [] := by first | (simp [entryFrame, mkF, argsToLocals, Value.category]; done) | rfl
def Q3 (Z : State) (a0 : Addr) (q1 : Int64) (q2 : Int64) (h0 : Heap) (n0 : Nat) (v : Option Value) (h : Heap) (L : List Loc) : Prop := v = none ∧ Fr n0 L ∧ Keep h0 h [a0] ∧ Fld Z h a0 "org/counterpath/model/Type$Range" "low" "J" (.long q1) ∧ Fld Z h a0 "org/counterpath/model/Type$Range" "high" "J" (.long q2)
set_option maxHeartbeats 40000000 in
theorem rm3 (l : Launch) (Z : State) (aZ : Array Value) (hw : ∀ d ∈ tables_1, d.before aZ Z = true) (ws : List Jvm.Cond) (a0 : Addr) (q1 : Int64) (q2 : Int64) (h0 : Heap) (n0 : Nat) (Z0 : n0 ≤ h0.size) (E1 : Exa Z h0 a0 "org/counterpath/model/Type$Range") (F1 : Fld Z h0 a0 "org/counterpath/model/Type$Range" "low" "J" (.long 0)) (F2 : Fld Z h0 a0 "org/counterpath/model/Type$Range" "high" "J" (.long 0)) (hlh : ¬ (q2 < q1)) (g_a0 : n0 ≤ a0) :
  MetFree l (⟨"org/counterpath/model/Type$Range", "<init>", "(JJ)V"⟩ : MethodName) (head1 (Jvm.Cond.code (⟨"org/counterpath/model/Type$Range", "<init>", "(JJ)V"⟩ : MethodName) prog_156_method_1_code 5 none :: ws) ({ frames := 2, cells := 0, slots := 0, locals := 24 } : Room)) (fun a U => a = #[.ref a0, .long q1, .long q2] ∧ Z.Warmed39 U.vm ∧ U.heap = h0) (fun _ _ _ _ _ => True) (fun _ U o U' => ∃ v L, o = .returned v ∧ Q3 Z a0 q1 q2 h0 n0 v U'.heap L ∧ FrameEnd U o U' L ({ frames := 2, cells := 0, slots := 0, locals := 24 } : Room).cells ({ frames := 2, cells := 0, slots := 0, locals := 24 } : Room).slots) := by
 refine MetFree.of_bodySF (plainFor_of_name pn_7) hisR ?_
 intro p e s m args below meth c s₁ Bd hml0 hP hK
 obtain ⟨rfl, hZ, hh⟩ := hP
 have hx := Bd.exec
 have hby := Bd.bytes
 have hret := Bd.returns
 have hlk : meth.locks = false := BodyLoose.notSynchronized Bd
 have hml : c.maxLocals = 5 := hml0
 have hown : s.vm.findClass "org/counterpath/model/Type$Range" = some m.cls := findClass_of_methodNamed Bd.named
 have hnm := (name_of_methodNamed Bd.named Bd.method).1
 have X0 : Stand p l e ({ frames := 2, cells := 0, slots := 0, locals := 24 } : Room) s m #[.ref a0, .long q1, .long q2] below meth c s₁ [] 0 0 := Stand.of_body Bd
 have e0 : s₁.heap = h0 := by rw [← hh, Bd.state]; rfl
 have N0 := Fr.nil n0
 have K0 : Keep h0 h0 [a0] := Keep.refl _ _
 have pre0 : ∀ t, zs p e below s₁ m 0 (z28 a0 q1 q2) [] t → Steps p.tables e below (s₁.setTop (entryFrame m #[.ref a0, .long q1, .long q2] 5)) t := fun t k => castTop (ef_3 m a0 q1 q2) k
 show OFin p e below s (Q3 Z a0 q1 q2 h0 n0) ({ frames := 2, cells := 0, slots := 0, locals := 24 } : Room).cells ({ frames := 2, cells := 0, slots := 0, locals := 24 } : Room).slots _
 refine OFin.go pre0 ?_
 have sg101 : zg p e below s₁ m 1 (z28 a0 q1 q2) [.ref a0] 0 (z28 a0 q1 q2) [] := by
  intro t k
  refine XS.aloadN X0.here hx rfl (hb hby d3_0) rfl rfl ?_
  exact k
 refine OFin.go sg101 ?_
 obtain ⟨_, _, ⟨T102, L102, k102, n102⟩, -, X102, ⟨Lc102, hQ102, l102, y102, z102⟩, st102⟩ := X0.specialBack hx (y := (⟨"java/lang/Record", "<init>", "()V"⟩ : MethodName)) rfl hown (mvT hZ (zw hw 24 rfl)) (mvT hZ (zw hw 25 rfl)) (mvT hZ (zw hw 28 rfl)) (by decide) (backOf (W := 0) (rm4 l Z aZ hw [] a0 h0 n0 (zt Z0 K0.1) ) hZ (zw hw 28 rfl) (zw hw 27 rfl) (by decide) (by decide)) (g := (mkF m 1 (z28 a0 q1 q2) [.ref a0])) rfl (by rw [hml]; rfl) (Steps.refl _) (a := a0) (argsL := []) (rest := []) (lenOf pd_2 rfl) rfl (by show 2 * 0 + _ ≤ _; exact ze rfl) (hb hby d3_1) (fun _ _ => ⟨rfl, e0, (by decide : 0 + 0 ≤ _), (by decide : 0 + 0 ≤ _)⟩)
 dsimp only [Pt.U, Pt.locs, Pt.cells, Pt.slots] at X102 l102 y102 z102 st102 hQ102
 rw [l102, y102, z102] at X102
 obtain ⟨rfl, N102q, e102⟩ := hQ102
 have N102 := Fr.app N0 N102q
 refine OFin.tr st102 ?_
 have sg104 : zg p e below T102 m 7 (z28 a0 q1 q2) [.int (lcmpW q2 q1)] 4 (z28 a0 q1 q2) [] := by
  intro t k
  refine XS.lloadN X102.here hx rfl (hb hby d3_4) rfl ?_
  show zs p e below T102 m 5 (z28 a0 q1 q2) [.long q2] t
  refine XS.lloadN X102.here hx rfl (hb hby d3_5) rfl ?_
  show zs p e below T102 m 6 (z28 a0 q1 q2) [.long q1, .long q2] t
  refine XS.lcmp X102.here hx rfl (hb hby d3_6) rfl ?_
  exact k
 refine OFin.go sg104 ?_
 have c103 : ¬ (q2 < q1) := hlh
 have sg105 : zg p e below T102 m 27 (z28 a0 q1 q2) [.long q1, .ref a0] 7 (z28 a0 q1 q2) [.int (lcmpW q2 q1)] := by
  intro t k
  refine XS.ifYes X102.here hx rfl (pc0 := 7) (pc' := 25) rfl (hb hby d3_7) rfl ((if0 _ _).trans (flt (mt (lw_lt _ _).mp c103)).2.1) (by decide) (by decide) ?_
  show zs p e below T102 m 25 (z28 a0 q1 q2) [] t
  refine XS.aloadN X102.here hx rfl (hb hby d3_25) rfl rfl ?_
  show zs p e below T102 m 26 (z28 a0 q1 q2) [.ref a0] t
  refine XS.lloadN X102.here hx rfl (hb hby d3_26) rfl ?_
  exact k
 refine OFin.go sg105 ?_
 obtain ⟨T106, h106, X106, e106, W106, st106⟩ := putF X102 hx hZ hown (host := "") (Or.inl (zw hw 32 rfl)) Via.refl e102 F1 E1 (Or.inr ⟨(zw hw 33 rfl), rfl, hnm⟩) (zw hw 19 rfl) (ty := .long) (by decide) rfl rfl (g := (mkF m 27 (z28 a0 q1 q2) [.long q1, .ref a0])) rfl rfl (hb hby d3_27)
 refine OFin.go st106 ?_
 have F106 := F1.same W106
 have K106 : Keep h0 h106 [a0] := K0.wr W106 (Or.inl (List.mem_of_getElem? (i := 0) rfl))
 have N106 := Fr.snoc X106 N102 g_a0
 have sg107 : zg p e below T106 m 32 (z28 a0 q1 q2) [.long q2, .ref a0] 30 (z28 a0 q1 q2) [] := by
  intro t k
  refine XS.aloadN X106.here hx rfl (hb hby d3_30) rfl rfl ?_
  show zs p e below T106 m 31 (z28 a0 q1 q2) [.ref a0] t
  refine XS.lloadN X106.here hx rfl (hb hby d3_31) rfl ?_
  exact k
 refine OFin.go sg107 ?_
 obtain ⟨T108, h108, X108, e108, W108, st108⟩ := putF X106 hx hZ hown (host := "") (Or.inl (zw hw 34 rfl)) Via.refl e106 (F2.other W106 (Or.inr (slot_ne (Or.inr (zw hw 35 rfl)) (Or.inr (zw hw 33 rfl)) (by decide) (t := .long) (t' := .long) (by decide) (by decide)))) (E1.wr W106) (Or.inr ⟨(zw hw 35 rfl), rfl, hnm⟩) (zw hw 19 rfl) (ty := .long) (by decide) rfl rfl (g := (mkF m 32 (z28 a0 q1 q2) [.long q2, .ref a0])) rfl rfl (hb hby d3_32)
 refine OFin.go st108 ?_
 have F108 := (F2.other W106 (Or.inr (slot_ne (Or.inr (zw hw 35 rfl)) (Or.inr (zw hw 33 rfl)) (by decide) (t := .long) (t' := .long) (by decide) (by decide)))).same W108
 have K108 : Keep h0 h108 [a0] := K106.wr W108 (Or.inl (List.mem_of_getElem? (i := 0) rfl))
 have N108 := Fr.snoc X108 N106 g_a0
 exact OFin.retV X108 hx hret hlk (hb hby d3_35) (by rw [e108]; exact ⟨rfl, N108, K108, (F106.other W108 (Or.inr (slot_ne (Or.inr (zw hw 33 rfl)) (Or.inr (zw hw 35 rfl)) (by decide) (t := .long) (t' := .long) (by decide) (by decide)))), F108⟩) (by decide) (by decide)
theorem d6_0 : decode prog_158_method_1_code 0 = .ok (.aload_n 0, 1) := by decide +kernel
theorem d6_1 : decode prog_158_method_1_code 1 = .ok (.invokespecial 1, 3) := by decide +kernel
theorem d6_4 : decode prog_158_method_1_code 4 = .ok (.aload_n 0, 1) := by decide +kernel
theorem d6_5 : decode prog_158_method_1_code 5 = .ok (.aload_n 1, 1) := by decide +kernel
theorem d6_6 : decode prog_158_method_1_code 6 = .ok (.putfield 7, 3) := by decide +kernel
theorem d6_9 : decode prog_158_method_1_code 9 = .ok (.aload_n 0, 1) := by decide +kernel
theorem d6_10 : decode prog_158_method_1_code 10 = .ok (.aload_n 2, 1) := by decide +kernel
theorem d6_11 : decode prog_158_method_1_code 11 = .ok (.putfield 13, 3) := by decide +kernel
theorem d6_14 : decode prog_158_method_1_code 14 = .ok (.return_, 1) := by decide +kernel
theorem pn_8 : plainName "org/counterpath/model/Variable" = true := by first | (simp [plainName, overriddenIn]; done) | decide +kernel
theorem ef_6 (m : MethodId) (x0 : Addr) (x1 : Addr) (x2 : Addr) : entryFrame m #[(.ref x0), (.ref x1), (.ref x2)] 3 = mkF m 0 #[.val (.ref x0), .val (.ref x1), .val (.ref x2)] [] := by first | (simp [entryFrame, mkF, argsToLocals, Value.category]; done) | rfl
def Q6 (Z : State) (a0 : Addr) (a1 : Addr) (a2 : Addr) (h0 : Heap) (n0 : Nat) (v : Option Value) (h : Heap) (L : List Loc) : Prop := v = none ∧ Fr n0 L ∧ Keep h0 h [a0] ∧ Fld Z h a0 "org/counterpath/model/Variable" "type" "Lorg/counterpath/model/Type;" (.ref a2)
set_option maxHeartbeats 40000000 in
theorem rm6 (l : Launch) (Z : State) (aZ : Array Value) (hw : ∀ d ∈ tables_1, d.before aZ Z = true) (ws : List Jvm.Cond) (a0 : Addr) (a1 : Addr) (a2 : Addr) (h0 : Heap) (n0 : Nat) (Z0 : n0 ≤ h0.size) (E1 : Exa Z h0 a0 "org/counterpath/model/Variable") (F1 : Fld Z h0 a0 "org/counterpath/model/Variable" "name" "Ljava/lang/String;" .null) (F2 : Fld Z h0 a0 "org/counterpath/model/Variable" "type" "Lorg/counterpath/model/Type;" .null) (g_a0 : n0 ≤ a0) :
  MetFree l (⟨"org/counterpath/model/Variable", "<init>", "(Ljava/lang/String;Lorg/counterpath/model/Type;)V"⟩ : MethodName) (head1 (Jvm.Cond.code (⟨"org/counterpath/model/Variable", "<init>", "(Ljava/lang/String;Lorg/counterpath/model/Type;)V"⟩ : MethodName) prog_158_method_1_code 3 none :: ws) ({ frames := 2, cells := 0, slots := 0, locals := 24 } : Room)) (fun a U => a = #[.ref a0, .ref a1, .ref a2] ∧ Z.Warmed39 U.vm ∧ U.heap = h0) (fun _ _ _ _ _ => True) (fun _ U o U' => ∃ v L, o = .returned v ∧ Q6 Z a0 a1 a2 h0 n0 v U'.heap L ∧ FrameEnd U o U' L ({ frames := 2, cells := 0, slots := 0, locals := 24 } : Room).cells ({ frames := 2, cells := 0, slots := 0, locals := 24 } : Room).slots) := by
 refine MetFree.of_bodySF (plainFor_of_name pn_8) hisR ?_
 intro p e s m args below meth c s₁ Bd hml0 hP hK
 obtain ⟨rfl, hZ, hh⟩ := hP
 have hx := Bd.exec
 have hby := Bd.bytes
 have hret := Bd.returns
 have hlk : meth.locks = false := BodyLoose.notSynchronized Bd
 have hml : c.maxLocals = 3 := hml0
 have hown : s.vm.findClass "org/counterpath/model/Variable" = some m.cls := findClass_of_methodNamed Bd.named
 have hnm := (name_of_methodNamed Bd.named Bd.method).1
 have X0 : Stand p l e ({ frames := 2, cells := 0, slots := 0, locals := 24 } : Room) s m #[.ref a0, .ref a1, .ref a2] below meth c s₁ [] 0 0 := Stand.of_body Bd
 have e0 : s₁.heap = h0 := by rw [← hh, Bd.state]; rfl
 have N0 := Fr.nil n0
 have K0 : Keep h0 h0 [a0] := Keep.refl _ _
 have pre0 : ∀ t, zs p e below s₁ m 0 (z40 a0 a1 a2) [] t → Steps p.tables e below (s₁.setTop (entryFrame m #[.ref a0, .ref a1, .ref a2] 3)) t := fun t k => castTop (ef_6 m a0 a1 a2) k
 show OFin p e below s (Q6 Z a0 a1 a2 h0 n0) ({ frames := 2, cells := 0, slots := 0, locals := 24 } : Room).cells ({ frames := 2, cells := 0, slots := 0, locals := 24 } : Room).slots _
 refine OFin.go pre0 ?_
 have sg101 : zg p e below s₁ m 1 (z40 a0 a1 a2) [.ref a0] 0 (z40 a0 a1 a2) [] := by
  intro t k
  refine XS.aloadN X0.here hx rfl (hb hby d6_0) rfl rfl ?_
  exact k
 refine OFin.go sg101 ?_
 obtain ⟨_, _, ⟨T102, L102, k102, n102⟩, -, X102, ⟨Lc102, hQ102, l102, y102, z102⟩, st102⟩ := X0.specialBack hx (y := (⟨"java/lang/Record", "<init>", "()V"⟩ : MethodName)) rfl hown (mvT hZ (zw hw 39 rfl)) (mvT hZ (zw hw 25 rfl)) (mvT hZ (zw hw 28 rfl)) (by decide) (backOf (W := 0) (rm4 l Z aZ hw [] a0 h0 n0 (zt Z0 K0.1) ) hZ (zw hw 28 rfl) (zw hw 27 rfl) (by decide) (by decide)) (g := (mkF m 1 (z40 a0 a1 a2) [.ref a0])) rfl (by rw [hml]; rfl) (Steps.refl _) (a := a0) (argsL := []) (rest := []) (lenOf pd_2 rfl) rfl (by show 2 * 0 + _ ≤ _; exact ze rfl) (hb hby d6_1) (fun _ _ => ⟨rfl, e0, (by decide : 0 + 0 ≤ _), (by decide : 0 + 0 ≤ _)⟩)
 dsimp only [Pt.U, Pt.locs, Pt.cells, Pt.slots] at X102 l102 y102 z102 st102 hQ102
 rw [l102, y102, z102] at X102
 obtain ⟨rfl, N102q, e102⟩ := hQ102
 have N102 := Fr.app N0 N102q
 refine OFin.tr st102 ?_
 have sg103 : zg p e below T102 m 6 (z40 a0 a1 a2) [.ref a1, .ref a0] 4 (z40 a0 a1 a2) [] := by
  intro t k
  refine XS.aloadN X102.here hx rfl (hb hby d6_4) rfl rfl ?_
  show zs p e below T102 m 5 (z40 a0 a1 a2) [.ref a0] t
  refine XS.aloadN X102.here hx rfl (hb hby d6_5) rfl rfl ?_
  exact k
 refine OFin.go sg103 ?_
 obtain ⟨T104, h104, X104, e104, W104, st104⟩ := putF X102 hx hZ hown (host := "") (Or.inl (zw hw 40 rfl)) Via.refl e102 F1 E1 (Or.inr ⟨(zw hw 41 rfl), rfl, hnm⟩) (zw hw 8 rfl) (ty := (.object "java/lang/String")) (by decide) rfl rfl (g := (mkF m 6 (z40 a0 a1 a2) [.ref a1, .ref a0])) rfl rfl (hb hby d6_6)
 refine OFin.go st104 ?_
 have F104 := F1.same W104
 have K104 : Keep h0 h104 [a0] := K0.wr W104 (Or.inl (List.mem_of_getElem? (i := 0) rfl))
 have N104 := Fr.snoc X104 N102 g_a0
 have sg105 : zg p e below T104 m 11 (z40 a0 a1 a2) [.ref a2, .ref a0] 9 (z40 a0 a1 a2) [] := by
  intro t k
  refine XS.aloadN X104.here hx rfl (hb hby d6_9) rfl rfl ?_
  show zs p e below T104 m 10 (z40 a0 a1 a2) [.ref a0] t
  refine XS.aloadN X104.here hx rfl (hb hby d6_10) rfl rfl ?_
  exact k
 refine OFin.go sg105 ?_
 obtain ⟨T106, h106, X106, e106, W106, st106⟩ := putF X104 hx hZ hown (host := "") (Or.inl (zw hw 42 rfl)) Via.refl e104 (F2.other W104 (Or.inr (slot_ne (Or.inr (zw hw 43 rfl)) (Or.inr (zw hw 41 rfl)) (by decide) (t := (.object "org/counterpath/model/Type")) (t' := (.object "java/lang/String")) (by decide) (by decide)))) (E1.wr W104) (Or.inr ⟨(zw hw 43 rfl), rfl, hnm⟩) (zw hw 8 rfl) (ty := (.object "org/counterpath/model/Type")) (by decide) rfl rfl (g := (mkF m 11 (z40 a0 a1 a2) [.ref a2, .ref a0])) rfl rfl (hb hby d6_11)
 refine OFin.go st106 ?_
 have F106 := (F2.other W104 (Or.inr (slot_ne (Or.inr (zw hw 43 rfl)) (Or.inr (zw hw 41 rfl)) (by decide) (t := (.object "org/counterpath/model/Type")) (t' := (.object "java/lang/String")) (by decide) (by decide)))).same W106
 have K106 : Keep h0 h106 [a0] := K104.wr W106 (Or.inl (List.mem_of_getElem? (i := 0) rfl))
 have N106 := Fr.snoc X106 N104 g_a0
 exact OFin.retV X106 hx hret hlk (hb hby d6_14) (by rw [e106]; exact ⟨rfl, N106, K106, F106⟩) (by decide) (by decide)
theorem d28_0 : decode prog_158_method_6_code 0 = .ok (.aload_n 0, 1) := by decide +kernel
theorem d28_1 : decode prog_158_method_6_code 1 = .ok (.getfield 13, 3) := by decide +kernel
theorem d28_4 : decode prog_158_method_6_code 4 = .ok (.areturn, 1) := by decide +kernel
theorem ef_28 (m : MethodId) (x0 : Addr) : entryFrame m #[(.ref x0)] 1 = mkF m 0 #[.val (.ref x0)] [] := by first | (simp [entryFrame, mkF, argsToLocals, Value.category]; done) | rfl
def Q28 (Z : State) (a0 : Addr) (w9 : Addr) (h0 : Heap) (n0 : Nat) (v : Option Value) (h : Heap) (L : List Loc) : Prop := v = some (.ref w9) ∧ Fr n0 L ∧ h = h0
set_option maxHeartbeats 40000000 in
theorem rm28 (l : Launch) (Z : State) (aZ : Array Value) (hw : ∀ d ∈ tables_1, d.before aZ Z = true) (ws : List Jvm.Cond) (a0 : Addr) (w9 : Addr) (h0 : Heap) (n0 : Nat) (Z0 : n0 ≤ h0.size) (F1 : Fld Z h0 a0 "org/counterpath/model/Variable" "type" "Lorg/counterpath/model/Type;" (.ref w9)) :
  MetFree l (⟨"org/counterpath/model/Variable", "type", "()Lorg/counterpath/model/Type;"⟩ : MethodName) (head1 (Jvm.Cond.code (⟨"org/counterpath/model/Variable", "type", "()Lorg/counterpath/model/Type;"⟩ : MethodName) prog_158_method_6_code 1 (some (.object "org/counterpath/model/Type")) :: ws) ({ frames := 0, cells := 0, slots := 0, locals := 0 } : Room)) (fun a U => a = #[.ref a0] ∧ Z.Warmed39 U.vm ∧ U.heap = h0) (fun _ _ _ _ _ => True) (fun _ U o U' => ∃ v L, o = .returned v ∧ Q28 Z a0 w9 h0 n0 v U'.heap L ∧ FrameEnd U o U' L ({ frames := 0, cells := 0, slots := 0, locals := 0 } : Room).cells ({ frames := 0, cells := 0, slots := 0, locals := 0 } : Room).slots) := by
 refine MetFree.of_bodySF (plainFor_of_name pn_8) hisR ?_
 intro p e s m args below meth c s₁ Bd hml0 hP hK
 obtain ⟨rfl, hZ, hh⟩ := hP
 have hx := Bd.exec
 have hby := Bd.bytes
 have hret := Bd.returns
 have hlk : meth.locks = false := BodyLoose.notSynchronized Bd
 have hml : c.maxLocals = 1 := hml0
 have hown : s.vm.findClass "org/counterpath/model/Variable" = some m.cls := findClass_of_methodNamed Bd.named
 have hnm := (name_of_methodNamed Bd.named Bd.method).1
 have X0 : Stand p l e ({ frames := 0, cells := 0, slots := 0, locals := 0 } : Room) s m #[.ref a0] below meth c s₁ [] 0 0 := Stand.of_body Bd
 have e0 : s₁.heap = h0 := by rw [← hh, Bd.state]; rfl
 have N0 := Fr.nil n0
 have K0 : Keep h0 h0 [] := Keep.refl _ _
 have pre0 : ∀ t, zs p e below s₁ m 0 #[.val (.ref a0)] [] t → Steps p.tables e below (s₁.setTop (entryFrame m #[.ref a0] 1)) t := fun t k => castTop (ef_28 m a0) k
 show OFin p e below s (Q28 Z a0 w9 h0 n0) ({ frames := 0, cells := 0, slots := 0, locals := 0 } : Room).cells ({ frames := 0, cells := 0, slots := 0, locals := 0 } : Room).slots _
 refine OFin.go pre0 ?_
 have sg101 : zg p e below s₁ m 1 #[.val (.ref a0)] [.ref a0] 0 #[.val (.ref a0)] [] := by
  intro t k
  refine XS.aloadN X0.here hx rfl (hb hby d28_0) rfl rfl ?_
  exact k
 refine OFin.go sg101 ?_
 obtain ⟨T102, X102, e102, st102⟩ := getF X0 hx hZ hown (host := "") (Or.inl (zw hw 42 rfl)) Via.refl e0 F1 (g := (mkF m 1 #[.val (.ref a0)] [.ref a0])) rfl rfl (hb hby d28_1)
 refine OFin.go st102 ?_
 exact OFin.retA X102 hx hret rfl rfl rfl hlk (hb hby d28_4) (by rw [e102]; exact ⟨rfl, N0, rfl⟩) (by decide) (by decide)
theorem d29_0 : decode prog_156_method_12_code 0 = .ok (.aload_n 0, 1) := by decide +kernel
theorem d29_1 : decode prog_156_method_12_code 1 = .ok (.getfield 16, 3) := by decide +kernel
theorem d29_4 : decode prog_156_method_12_code 4 = .ok (.lreturn, 1) := by decide +kernel
theorem ef_29 (m : MethodId) (x0 : Addr) : entryFrame m #[(.ref x0)] 1 = mkF m 0 #[.val (.ref x0)] [] := by first | (simp [entryFrame, mkF, argsToLocals, Value.category]; done) | rfl
def Q29 (Z : State) (a0 : Addr) (w9 : Int64) (h0 : Heap) (n0 : Nat) (v : Option Value) (h : Heap) (L : List Loc) : Prop := v = some (.long w9) ∧ Fr n0 L ∧ h = h0
set_option maxHeartbeats 40000000 in
theorem rm29 (l : Launch) (Z : State) (aZ : Array Value) (hw : ∀ d ∈ tables_1, d.before aZ Z = true) (ws : List Jvm.Cond) (a0 : Addr) (w9 : Int64) (h0 : Heap) (n0 : Nat) (Z0 : n0 ≤ h0.size) (F1 : Fld Z h0 a0 "org/counterpath/model/Type$Range" "low" "J" (.long w9)) :
  MetFree l (⟨"org/counterpath/model/Type$Range", "low", "()J"⟩ : MethodName) (head1 (Jvm.Cond.code (⟨"org/counterpath/model/Type$Range", "low", "()J"⟩ : MethodName) prog_156_method_12_code 1 (some .long) :: ws) ({ frames := 0, cells := 0, slots := 0, locals := 0 } : Room)) (fun a U => a = #[.ref a0] ∧ Z.Warmed39 U.vm ∧ U.heap = h0) (fun _ _ _ _ _ => True) (fun _ U o U' => ∃ v L, o = .returned v ∧ Q29 Z a0 w9 h0 n0 v U'.heap L ∧ FrameEnd U o U' L ({ frames := 0, cells := 0, slots := 0, locals := 0 } : Room).cells ({ frames := 0, cells := 0, slots := 0, locals := 0 } : Room).slots) := by
 refine MetFree.of_bodySF (plainFor_of_name pn_7) hisR ?_
 intro p e s m args below meth c s₁ Bd hml0 hP hK
 obtain ⟨rfl, hZ, hh⟩ := hP
 have hx := Bd.exec
 have hby := Bd.bytes
 have hret := Bd.returns
 have hlk : meth.locks = false := BodyLoose.notSynchronized Bd
 have hml : c.maxLocals = 1 := hml0
 have hown : s.vm.findClass "org/counterpath/model/Type$Range" = some m.cls := findClass_of_methodNamed Bd.named
 have hnm := (name_of_methodNamed Bd.named Bd.method).1
 have X0 : Stand p l e ({ frames := 0, cells := 0, slots := 0, locals := 0 } : Room) s m #[.ref a0] below meth c s₁ [] 0 0 := Stand.of_body Bd
 have e0 : s₁.heap = h0 := by rw [← hh, Bd.state]; rfl
 have N0 := Fr.nil n0
 have K0 : Keep h0 h0 [] := Keep.refl _ _
 have pre0 : ∀ t, zs p e below s₁ m 0 #[.val (.ref a0)] [] t → Steps p.tables e below (s₁.setTop (entryFrame m #[.ref a0] 1)) t := fun t k => castTop (ef_29 m a0) k
 show OFin p e below s (Q29 Z a0 w9 h0 n0) ({ frames := 0, cells := 0, slots := 0, locals := 0 } : Room).cells ({ frames := 0, cells := 0, slots := 0, locals := 0 } : Room).slots _
 refine OFin.go pre0 ?_
 have sg101 : zg p e below s₁ m 1 #[.val (.ref a0)] [.ref a0] 0 #[.val (.ref a0)] [] := by
  intro t k
  refine XS.aloadN X0.here hx rfl (hb hby d29_0) rfl rfl ?_
  exact k
 refine OFin.go sg101 ?_
 obtain ⟨T102, X102, e102, st102⟩ := getF X0 hx hZ hown (host := "") (Or.inl (zw hw 32 rfl)) Via.refl e0 F1 (g := (mkF m 1 #[.val (.ref a0)] [.ref a0])) rfl rfl (hb hby d29_1)
 refine OFin.go st102 ?_
 exact OFin.retL X102 hx hret hlk (hb hby d29_4) (by rw [e102]; exact ⟨rfl, N0, rfl⟩) (by decide) (by decide)
theorem d30_0 : decode prog_156_method_13_code 0 = .ok (.aload_n 0, 1) := by decide +kernel
theorem d30_1 : decode prog_156_method_13_code 1 = .ok (.getfield 22, 3) := by decide +kernel
theorem d30_4 : decode prog_156_method_13_code 4 = .ok (.lreturn, 1) := by decide +kernel
theorem ef_30 (m : MethodId) (x0 : Addr) : entryFrame m #[(.ref x0)] 1 = mkF m 0 #[.val (.ref x0)] [] := by first | (simp [entryFrame, mkF, argsToLocals, Value.category]; done) | rfl
def Q30 (Z : State) (a0 : Addr) (w9 : Int64) (h0 : Heap) (n0 : Nat) (v : Option Value) (h : Heap) (L : List Loc) : Prop := v = some (.long w9) ∧ Fr n0 L ∧ h = h0
set_option maxHeartbeats 40000000 in
theorem rm30 (l : Launch) (Z : State) (aZ : Array Value) (hw : ∀ d ∈ tables_1, d.before aZ Z = true) (ws : List Jvm.Cond) (a0 : Addr) (w9 : Int64) (h0 : Heap) (n0 : Nat) (Z0 : n0 ≤ h0.size) (F1 : Fld Z h0 a0 "org/counterpath/model/Type$Range" "high" "J" (.long w9)) :
  MetFree l (⟨"org/counterpath/model/Type$Range", "high", "()J"⟩ : MethodName) (head1 (Jvm.Cond.code (⟨"org/counterpath/model/Type$Range", "high", "()J"⟩ : MethodName) prog_156_method_13_code 1 (some .long) :: ws) ({ frames := 0, cells := 0, slots := 0, locals := 0 } : Room)) (fun a U => a = #[.ref a0] ∧ Z.Warmed39 U.vm ∧ U.heap = h0) (fun _ _ _ _ _ => True) (fun _ U o U' => ∃ v L, o = .returned v ∧ Q30 Z a0 w9 h0 n0 v U'.heap L ∧ FrameEnd U o U' L ({ frames := 0, cells := 0, slots := 0, locals := 0 } : Room).cells ({ frames := 0, cells := 0, slots := 0, locals := 0 } : Room).slots) := by
 refine MetFree.of_bodySF (plainFor_of_name pn_7) hisR ?_
 intro p e s m args below meth c s₁ Bd hml0 hP hK
 obtain ⟨rfl, hZ, hh⟩ := hP
 have hx := Bd.exec
 have hby := Bd.bytes
 have hret := Bd.returns
 have hlk : meth.locks = false := BodyLoose.notSynchronized Bd
 have hml : c.maxLocals = 1 := hml0
 have hown : s.vm.findClass "org/counterpath/model/Type$Range" = some m.cls := findClass_of_methodNamed Bd.named
 have hnm := (name_of_methodNamed Bd.named Bd.method).1
 have X0 : Stand p l e ({ frames := 0, cells := 0, slots := 0, locals := 0 } : Room) s m #[.ref a0] below meth c s₁ [] 0 0 := Stand.of_body Bd
 have e0 : s₁.heap = h0 := by rw [← hh, Bd.state]; rfl
 have N0 := Fr.nil n0
 have K0 : Keep h0 h0 [] := Keep.refl _ _
 have pre0 : ∀ t, zs p e below s₁ m 0 #[.val (.ref a0)] [] t → Steps p.tables e below (s₁.setTop (entryFrame m #[.ref a0] 1)) t := fun t k => castTop (ef_30 m a0) k
 show OFin p e below s (Q30 Z a0 w9 h0 n0) ({ frames := 0, cells := 0, slots := 0, locals := 0 } : Room).cells ({ frames := 0, cells := 0, slots := 0, locals := 0 } : Room).slots _
 refine OFin.go pre0 ?_
 have sg101 : zg p e below s₁ m 1 #[.val (.ref a0)] [.ref a0] 0 #[.val (.ref a0)] [] := by
  intro t k
  refine XS.aloadN X0.here hx rfl (hb hby d30_0) rfl rfl ?_
  exact k
 refine OFin.go sg101 ?_
 obtain ⟨T102, X102, e102, st102⟩ := getF X0 hx hZ hown (host := "") (Or.inl (zw hw 34 rfl)) Via.refl e0 F1 (g := (mkF m 1 #[.val (.ref a0)] [.ref a0])) rfl rfl (hb hby d30_1)
 refine OFin.go st102 ?_
 exact OFin.retL X102 hx hret hlk (hb hby d30_4) (by rw [e102]; exact ⟨rfl, N0, rfl⟩) (by decide) (by decide)
theorem d8_0 : decode jdk_39_method_1_code 0 = .ok (.aload_n 0, 1) := by decide +kernel
theorem d8_1 : decode jdk_39_method_1_code 1 = .ok (.invokespecial 1, 3) := by decide +kernel
theorem d8_4 : decode jdk_39_method_1_code 4 = .ok (.aload_n 0, 1) := by decide +kernel
theorem d8_5 : decode jdk_39_method_1_code 5 = .ok (.iconst 0, 1) := by decide +kernel
theorem d8_6 : decode jdk_39_method_1_code 6 = .ok (.putfield 7, 3) := by decide +kernel
theorem d8_9 : decode jdk_39_method_1_code 9 = .ok (.return_, 1) := by decide +kernel
theorem pn_9 : plainName "java/util/AbstractList" = true := by first | (simp [plainName, overriddenIn]; done) | decide +kernel
theorem ef_8 (m : MethodId) (x0 : Addr) : entryFrame m #[(.ref x0)] 1 = mkF m 0 #[.val (.ref x0)] [] := by first | (simp [entryFrame, mkF, argsToLocals, Value.category]; done) | rfl
def Q8 (Z : State) (a0 : Addr) (h0 : Heap) (n0 : Nat) (v : Option Value) (h : Heap) (L : List Loc) : Prop := v = none ∧ Fr n0 L ∧ Keep h0 h [a0] ∧ Fld Z h a0 "java/util/AbstractList" "modCount" "I" (.int 0) ∧ Fld Z h a0 "java/util/ArrayList" "elementData" "[Ljava/lang/Object;" .null ∧ Fld Z h a0 "java/util/ArrayList" "size" "I" (.int 0)
set_option maxHeartbeats 40000000 in
theorem rm8 (l : Launch) (Z : State) (aZ : Array Value) (hw : ∀ d ∈ tables_1, d.before aZ Z = true) (ws : List Jvm.Cond) (a0 : Addr) (h0 : Heap) (n0 : Nat) (Z0 : n0 ≤ h0.size) (E1 : Exa Z h0 a0 "java/util/ArrayList") (F1 : Fld Z h0 a0 "java/util/AbstractList" "modCount" "I" (.int 0)) (F2 : Fld Z h0 a0 "java/util/ArrayList" "elementData" "[Ljava/lang/Object;" .null) (F3 : Fld Z h0 a0 "java/util/ArrayList" "size" "I" (.int 0)) (g_a0 : n0 ≤ a0) :
  MetFree l (⟨"java/util/AbstractList", "<init>", "()V"⟩ : MethodName) (head1 (Jvm.Cond.code (⟨"java/util/AbstractList", "<init>", "()V"⟩ : MethodName) jdk_39_method_1_code 1 none :: ws) ({ frames := 2, cells := 0, slots := 0, locals := 24 } : Room)) (fun a U => a = #[.ref a0] ∧ Z.Warmed39 U.vm ∧ U.heap = h0) (fun _ _ _ _ _ => True) (fun _ U o U' => ∃ v L, o = .returned v ∧ Q8 Z a0 h0 n0 v U'.heap L ∧ FrameEnd U o U' L ({ frames := 2, cells := 0, slots := 0, locals := 24 } : Room).cells ({ frames := 2, cells := 0, slots := 0, locals := 24 } : Room).slots) := by
 refine MetFree.of_bodySF (plainFor_of_name pn_9) hisR ?_
 intro p e s m args below meth c s₁ Bd hml0 hP hK
 obtain ⟨rfl, hZ, hh⟩ := hP
 have hx := Bd.exec
 have hby := Bd.bytes
 have hret := Bd.returns
 have hlk : meth.locks = false := BodyLoose.notSynchronized Bd
 have hml : c.maxLocals = 1 := hml0
 have hown : s.vm.findClass "java/util/AbstractList" = some m.cls := findClass_of_methodNamed Bd.named
 have hnm := (name_of_methodNamed Bd.named Bd.method).1
 have X0 : Stand p l e ({ frames := 2, cells := 0, slots := 0, locals := 24 } : Room) s m #[.ref a0] below meth c s₁ [] 0 0 := Stand.of_body Bd
 have e0 : s₁.heap = h0 := by rw [← hh, Bd.state]; rfl
 have N0 := Fr.nil n0
 have K0 : Keep h0 h0 [a0] := Keep.refl _ _
 have pre0 : ∀ t, zs p e below s₁ m 0 #[.val (.ref a0)] [] t → Steps p.tables e below (s₁.setTop (entryFrame m #[.ref a0] 1)) t := fun t k => castTop (ef_8 m a0) k
 show OFin p e below s (Q8 Z a0 h0 n0) ({ frames := 2, cells := 0, slots := 0, locals := 24 } : Room).cells ({ frames := 2, cells := 0, slots := 0, locals := 24 } : Room).slots _
 refine OFin.go pre0 ?_
 have sg101 : zg p e below s₁ m 1 #[.val (.ref a0)] [.ref a0] 0 #[.val (.ref a0)] [] := by
  intro t k
  refine XS.aloadN X0.here hx rfl (hb hby d8_0) rfl rfl ?_
  exact k
 refine OFin.go sg101 ?_
 obtain ⟨_, _, ⟨T102, L102, k102, n102⟩, -, X102, ⟨Lc102, hQ102, l102, y102, z102⟩, st102⟩ := X0.specialBack hx (y := (⟨"java/util/AbstractCollection", "<init>", "()V"⟩ : MethodName)) rfl hown (mvT hZ (zw hw 57 rfl)) (mvT hZ (zw hw 58 rfl)) (mvT hZ (zw hw 62 rfl)) (by decide) (backOf (W := 0) (rm9 l Z aZ hw [] a0 h0 n0 (zt Z0 K0.1) ) hZ (zw hw 62 rfl) (zw hw 61 rfl) (by decide) (by decide)) (g := (mkF m 1 #[.val (.ref a0)] [.ref a0])) rfl (by rw [hml]; rfl) (Steps.refl _) (a := a0) (argsL := []) (rest := []) (lenOf pd_2 rfl) rfl (by show 2 * 0 + _ ≤ _; exact ze rfl) (hb hby d8_1) (fun _ _ => ⟨rfl, e0, (by decide : 0 + 0 ≤ _), (by decide : 0 + 0 ≤ _)⟩)
 dsimp only [Pt.U, Pt.locs, Pt.cells, Pt.slots] at X102 l102 y102 z102 st102 hQ102
 rw [l102, y102, z102] at X102
 obtain ⟨rfl, N102q, e102⟩ := hQ102
 have N102 := Fr.app N0 N102q
 refine OFin.tr st102 ?_
 have sg103 : zg p e below T102 m 6 #[.val (.ref a0)] [.int 0, .ref a0] 4 #[.val (.ref a0)] [] := by
  intro t k
  refine XS.aloadN X102.here hx rfl (hb hby d8_4) rfl rfl ?_
  show zs p e below T102 m 5 #[.val (.ref a0)] [.ref a0] t
  refine XS.iconst X102.here hx rfl (hb hby d8_5) ?_
  exact k
 refine OFin.go sg103 ?_
 obtain ⟨T104, h104, X104, e104, W104, st104⟩ := putF X102 hx hZ hown (host := "") (Or.inl (zw hw 64 rfl)) Via.refl e102 F1 E1 (Or.inl (zw hw 65 rfl)) (zw hw 46 rfl) (ty := .int) (by decide) rfl rfl (g := (mkF m 6 #[.val (.ref a0)] [.int 0, .ref a0])) rfl rfl (hb hby d8_6)
 refine OFin.go st104 ?_
 have F104 := F1.same W104
 have K104 : Keep h0 h104 [a0] := K0.wr W104 (Or.inl (List.mem_of_getElem? (i := 0) rfl))
 have N104 := Fr.snoc X104 N102 g_a0
 exact OFin.retV X104 hx hret hlk (hb hby d8_9) (by rw [e104]; exact ⟨rfl, N104, K104, F104, (F2.other W104 (Or.inr (slot_ne (Or.inl (zw hw 68 rfl)) (Or.inl (zw hw 65 rfl)) (by decide) (t := (.array (.object "java/lang/Object"))) (t' := .int) (by decide) (by decide)))), (F3.other W104 (Or.inr (slot_ne (Or.inl (zw hw 81 rfl)) (Or.inl (zw hw 65 rfl)) (by decide) (t := .int) (t' := .int) (by decide) (by decide))))⟩) (by decide) (by decide)
theorem d7_0 : decode jdk_38_method_2_code 0 = .ok (.aload_n 0, 1) := by decide +kernel
theorem d7_1 : decode jdk_38_method_2_code 1 = .ok (.invokespecial 1, 3) := by decide +kernel
theorem d7_4 : decode jdk_38_method_2_code 4 = .ok (.aload_n 0, 1) := by decide +kernel
theorem d7_5 : decode jdk_38_method_2_code 5 = .ok (.getstatic 39, 3) := by decide +kernel
theorem d7_8 : decode jdk_38_method_2_code 8 = .ok (.putfield 9, 3) := by decide +kernel
theorem d7_11 : decode jdk_38_method_2_code 11 = .ok (.return_, 1) := by decide +kernel
theorem pn_10 : plainName "java/util/ArrayList" = true := by first | (simp [plainName, overriddenIn]; done) | decide +kernel
theorem ef_7 (m : MethodId) (x0 : Addr) : entryFrame m #[(.ref x0)] 1 = mkF m 0 #[.val (.ref x0)] [] := by first | (simp [entryFrame, mkF, argsToLocals, Value.category]; done) | rfl
def Q7 (Z : State) (a0 : Addr) (dd : Addr) (h0 : Heap) (n0 : Nat) (v : Option Value) (h : Heap) (L : List Loc) : Prop := v = none ∧ Fr n0 L ∧ Keep h0 h [a0] ∧ Fld Z h a0 "java/util/AbstractList" "modCount" "I" (.int 0) ∧ Fld Z h a0 "java/util/ArrayList" "elementData" "[Ljava/lang/Object;" (.ref dd) ∧ Fld Z h a0 "java/util/ArrayList" "size" "I" (.int 0)
set_option maxHeartbeats 40000000 in
theorem rm7 (l : Launch) (Z : State) (aZ : Array Value) (hw : ∀ d ∈ tables_1, d.before aZ Z = true) (ws : List Jvm.Cond) (a0 : Addr) (dd : Addr) (h0 : Heap) (n0 : Nat) (Z0 : n0 ≤ h0.size) (O0 : Old Z n0 h0) (E1 : Exa Z h0 a0 "java/util/ArrayList") (F1 : Fld Z h0 a0 "java/util/AbstractList" "modCount" "I" (.int 0)) (F2 : Fld Z h0 a0 "java/util/ArrayList" "elementData" "[Ljava/lang/Object;" .null) (F3 : Fld Z h0 a0 "java/util/ArrayList" "size" "I" (.int 0)) (SD : Sta Z Z.heap "java/util/ArrayList" "DEFAULTCAPACITY_EMPTY_ELEMENTDATA" "[Ljava/lang/Object;" (.ref dd)) (g_a0 : n0 ≤ a0) :
  MetFree l (⟨"java/util/ArrayList", "<init>", "()V"⟩ : MethodName) (head1 (Jvm.Cond.code (⟨"java/util/ArrayList", "<init>", "()V"⟩ : MethodName) jdk_38_method_2_code 1 none :: ws) ({ frames := 3, cells := 0, slots := 0, locals := 36 } : Room)) (fun a U => a = #[.ref a0] ∧ Z.Warmed39 U.vm ∧ U.heap = h0) (fun _ _ _ _ _ => True) (fun _ U o U' => ∃ v L, o = .returned v ∧ Q7 Z a0 dd h0 n0 v U'.heap L ∧ FrameEnd U o U' L ({ frames := 3, cells := 0, slots := 0, locals := 36 } : Room).cells ({ frames := 3, cells := 0, slots := 0, locals := 36 } : Room).slots) := by
 refine MetFree.of_bodySF (plainFor_of_name pn_10) hisR ?_
 intro p e s m args below meth c s₁ Bd hml0 hP hK
 obtain ⟨rfl, hZ, hh⟩ := hP
 have hx := Bd.exec
 have hby := Bd.bytes
 have hret := Bd.returns
 have hlk : meth.locks = false := BodyLoose.notSynchronized Bd
 have hml : c.maxLocals = 1 := hml0
 have hown : s.vm.findClass "java/util/ArrayList" = some m.cls := findClass_of_methodNamed Bd.named
 have hnm := (name_of_methodNamed Bd.named Bd.method).1
 have X0 : Stand p l e ({ frames := 3, cells := 0, slots := 0, locals := 36 } : Room) s m #[.ref a0] below meth c s₁ [] 0 0 := Stand.of_body Bd
 have e0 : s₁.heap = h0 := by rw [← hh, Bd.state]; rfl
 have N0 := Fr.nil n0
 have K0 : Keep h0 h0 [a0] := Keep.refl _ _
 have pre0 : ∀ t, zs p e below s₁ m 0 #[.val (.ref a0)] [] t → Steps p.tables e below (s₁.setTop (entryFrame m #[.ref a0] 1)) t := fun t k => castTop (ef_7 m a0) k
 show OFin p e below s (Q7 Z a0 dd h0 n0) ({ frames := 3, cells := 0, slots := 0, locals := 36 } : Room).cells ({ frames := 3, cells := 0, slots := 0, locals := 36 } : Room).slots _
 refine OFin.go pre0 ?_
 have sg101 : zg p e below s₁ m 1 #[.val (.ref a0)] [.ref a0] 0 #[.val (.ref a0)] [] := by
  intro t k
  refine XS.aloadN X0.here hx rfl (hb hby d7_0) rfl rfl ?_
  exact k
 refine OFin.go sg101 ?_
 obtain ⟨_, _, ⟨T102, L102, k102, n102⟩, -, X102, ⟨Lc102, hQ102, l102, y102, z102⟩, st102⟩ := X0.specialBack hx (y := (⟨"java/util/AbstractList", "<init>", "()V"⟩ : MethodName)) rfl hown (mvT hZ (zw hw 51 rfl)) (mvT hZ (zw hw 52 rfl)) (mvT hZ (zw hw 56 rfl)) (by decide) (backOf (W := 0) (rm8 l Z aZ hw [] a0 h0 n0 (zt Z0 K0.1) E1 F1 F2 F3 g_a0) hZ (zw hw 56 rfl) (zw hw 55 rfl) (by decide) (by decide)) (g := (mkF m 1 #[.val (.ref a0)] [.ref a0])) rfl (by rw [hml]; rfl) (Steps.refl _) (a := a0) (argsL := []) (rest := []) (lenOf pd_2 rfl) rfl (by show 2 * 0 + _ ≤ _; exact ze rfl) (hb hby d7_1) (fun _ _ => ⟨rfl, e0, (by decide : 0 + 0 ≤ _), (by decide : 0 + 0 ≤ _)⟩)
 dsimp only [Pt.U, Pt.locs, Pt.cells, Pt.slots] at X102 l102 y102 z102 st102 hQ102
 rw [l102, y102, z102] at X102
 obtain ⟨rfl, N102q, Kq102, P102_0, P102_1, P102_2⟩ := hQ102
 have N102 := Fr.app N0 N102q
 refine OFin.tr st102 ?_
 have K102 : Keep h0 T102.heap [a0] := K0.trans Kq102 (allS (Or.inl (List.mem_of_getElem? (i := 0) rfl)) all0)
 have sg103 : zg p e below T102 m 5 #[.val (.ref a0)] [.ref a0] 4 #[.val (.ref a0)] [] := by
  intro t k
  refine XS.aloadN X102.here hx rfl (hb hby d7_4) rfl rfl ?_
  exact k
 refine OFin.go sg103 ?_
 obtain ⟨T104, X104, e104, st104⟩ := getS2 X102 hx hZ hown (host := "") (Or.inl (zw hw 66 rfl)) Via.refl rfl (SD.ext (O0.keep Kq102 (allS g_a0 all0)).2) (g := (mkF m 5 #[.val (.ref a0)] [.ref a0])) rfl (hb hby d7_5)
 refine OFin.go st104 ?_
 obtain ⟨T105, h105, X105, e105, W105, st105⟩ := putF X104 hx hZ hown (host := "") (Or.inl (zw hw 67 rfl)) Via.refl e104 P102_1 (E1.keep Kq102) (Or.inl (zw hw 68 rfl)) (zw hw 46 rfl) (ty := (.array (.object "java/lang/Object"))) (by decide) rfl rfl (g := (mkF m 8 #[.val (.ref a0)] [.ref dd, .ref a0])) rfl rfl (hb hby d7_8)
 refine OFin.go st105 ?_
 have F105 := P102_1.same W105
 have K105 : Keep h0 h105 [a0] := K102.wr W105 (Or.inl (List.mem_of_getElem? (i := 0) rfl))
 have N105 := Fr.snoc X105 N102 g_a0
 exact OFin.retV X105 hx hret hlk (hb hby d7_11) (by rw [e105]; exact ⟨rfl, N105, K105, (P102_0.other W105 (Or.inr (slot_ne (Or.inl (zw hw 65 rfl)) (Or.inl (zw hw 68 rfl)) (by decide) (t := .int) (t' := (.array (.object "java/lang/Object"))) (by decide) (by decide)))), F105, (P102_2.other W105 (Or.inr (slot_ne (Or.inl (zw hw 81 rfl)) (Or.inl (zw hw 68 rfl)) (by decide) (t := .int) (t' := (.array (.object "java/lang/Object"))) (by decide) (by decide))))⟩) (by decide) (by decide)
theorem d13_0 : decode jdk_38_method_6_code 0 = .ok (.aload_n 0, 1) := by decide +kernel
theorem d13_1 : decode jdk_38_method_6_code 1 = .ok (.getfield 9, 3) := by decide +kernel
theorem d13_4 : decode jdk_38_method_6_code 4 = .ok (.arraylength, 1) := by decide +kernel
theorem d13_5 : decode jdk_38_method_6_code 5 = .ok (.istore_n 2, 1) := by decide +kernel
theorem d13_6 : decode jdk_38_method_6_code 6 = .ok (.iload_n 2, 1) := by decide +kernel
theorem d13_7 : decode jdk_38_method_6_code 7 = .ok (.ifCond .gt 13, 3) := by decide +kernel
theorem d13_10 : decode jdk_38_method_6_code 10 = .ok (.aload_n 0, 1) := by decide +kernel
theorem d13_11 : decode jdk_38_method_6_code 11 = .ok (.getfield 9, 3) := by decide +kernel
theorem d13_14 : decode jdk_38_method_6_code 14 = .ok (.getstatic 39, 3) := by decide +kernel
theorem d13_17 : decode jdk_38_method_6_code 17 = .ok (.if_acmp .eq 28, 3) := by decide +kernel
theorem d13_20 : decode jdk_38_method_6_code 20 = .ok (.iload_n 2, 1) := by decide +kernel
theorem d13_21 : decode jdk_38_method_6_code 21 = .ok (.iload_n 1, 1) := by decide +kernel
theorem d13_22 : decode jdk_38_method_6_code 22 = .ok (.iload_n 2, 1) := by decide +kernel
theorem d13_23 : decode jdk_38_method_6_code 23 = .ok (.isub, 1) := by decide +kernel
theorem d13_24 : decode jdk_38_method_6_code 24 = .ok (.iload_n 2, 1) := by decide +kernel
theorem d13_25 : decode jdk_38_method_6_code 25 = .ok (.iconst 1, 1) := by decide +kernel
theorem d13_26 : decode jdk_38_method_6_code 26 = .ok (.ishr, 1) := by decide +kernel
theorem d13_27 : decode jdk_38_method_6_code 27 = .ok (.invokestatic 73, 3) := by decide +kernel
theorem d13_30 : decode jdk_38_method_6_code 30 = .ok (.istore_n 3, 1) := by decide +kernel
theorem d13_31 : decode jdk_38_method_6_code 31 = .ok (.aload_n 0, 1) := by decide +kernel
theorem d13_32 : decode jdk_38_method_6_code 32 = .ok (.aload_n 0, 1) := by decide +kernel
theorem d13_33 : decode jdk_38_method_6_code 33 = .ok (.getfield 9, 3) := by decide +kernel
theorem d13_36 : decode jdk_38_method_6_code 36 = .ok (.iload_n 3, 1) := by decide +kernel
theorem d13_37 : decode jdk_38_method_6_code 37 = .ok (.invokestatic 66, 3) := by decide +kernel
theorem d13_40 : decode jdk_38_method_6_code 40 = .ok (.dup_x1, 1) := by decide +kernel
theorem d13_41 : decode jdk_38_method_6_code 41 = .ok (.putfield 9, 3) := by decide +kernel
theorem d13_44 : decode jdk_38_method_6_code 44 = .ok (.areturn, 1) := by decide +kernel
theorem d13_45 : decode jdk_38_method_6_code 45 = .ok (.aload_n 0, 1) := by decide +kernel
theorem d13_46 : decode jdk_38_method_6_code 46 = .ok (.bipush 10, 2) := by decide +kernel
theorem d13_48 : decode jdk_38_method_6_code 48 = .ok (.iload_n 1, 1) := by decide +kernel
theorem d13_49 : decode jdk_38_method_6_code 49 = .ok (.invokestatic 79, 3) := by decide +kernel
theorem d13_52 : decode jdk_38_method_6_code 52 = .ok (.anewarray 7, 3) := by decide +kernel
theorem d13_55 : decode jdk_38_method_6_code 55 = .ok (.dup_x1, 1) := by decide +kernel
theorem d13_56 : decode jdk_38_method_6_code 56 = .ok (.putfield 9, 3) := by decide +kernel
theorem d13_59 : decode jdk_38_method_6_code 59 = .ok (.areturn, 1) := by decide +kernel
theorem pd_3 : parseMethodDescriptor "(II)I" = some ⟨[.int, .int], some .int⟩ := by decide +kernel
theorem ef_13 (m : MethodId) (x0 : Addr) (x1 : Int32) : entryFrame m #[(.ref x0), (.int x1)] 4 = mkF m 0 #[.val (.ref x0), .val (.int x1), .unset, .unset] [] := by first | (simp [entryFrame, mkF, argsToLocals, Value.category]; done) | rfl
def Q13 (Z : State) (a0 : Addr) (dd : Addr) (kd : ClassId) (m9 : Int32) (h0 : Heap) (n0 : Nat) (v : Option Value) (h : Heap) (L : List Loc) : Prop := ∃ (ed : Addr) (ke : ClassId), v = some (.ref ed) ∧ Fr n0 L ∧ Keep h0 h [a0] ∧ Fld Z h a0 "java/util/AbstractList" "modCount" "I" (.int m9) ∧ Fld Z h a0 "java/util/ArrayList" "elementData" "[Ljava/lang/Object;" (.ref ed) ∧ Fld Z h a0 "java/util/ArrayList" "size" "I" (.int 0) ∧ Arv Z h ed ke (.object "java/lang/Object") (10 : Int32) [.null, .null, .null, .null, .null, .null, .null, .null, .null, .null] .null ∧ Exa Z h ed "[Ljava/lang/Object;" ∧ h0.size ≤ ed ∧ Ovr Z ke "java/lang/Object"
set_option maxHeartbeats 40000000 in
theorem rm13 (l : Launch) (Z : State) (aZ : Array Value) (hw : ∀ d ∈ tables_1, d.before aZ Z = true) (ws : List Jvm.Cond) (a0 : Addr) (dd : Addr) (kd : ClassId) (m9 : Int32) (h0 : Heap) (n0 : Nat) (Z0 : n0 ≤ h0.size) (O0 : Old Z n0 h0) (E1 : Exa Z h0 a0 "java/util/ArrayList") (F1 : Fld Z h0 a0 "java/util/AbstractList" "modCount" "I" (.int m9)) (F2 : Fld Z h0 a0 "java/util/ArrayList" "elementData" "[Ljava/lang/Object;" (.ref dd)) (F3 : Fld Z h0 a0 "java/util/ArrayList" "size" "I" (.int 0)) (SD : Sta Z Z.heap "java/util/ArrayList" "DEFAULTCAPACITY_EMPTY_ELEMENTDATA" "[Ljava/lang/Object;" (.ref dd)) (VD : Arv Z h0 dd kd (.object "java/lang/Object") (0 : Int32) [] .null) (ED : Exa Z h0 dd "[Ljava/lang/Object;") (hnd : dd ≠ a0) (g_a0 : n0 ≤ a0) :
  MetFree l (⟨"java/util/ArrayList", "grow", "(I)[Ljava/lang/Object;"⟩ : MethodName) (head1 (Jvm.Cond.code (⟨"java/util/ArrayList", "grow", "(I)[Ljava/lang/Object;"⟩ : MethodName) jdk_38_method_6_code 4 (some (.array (.object "java/lang/Object"))) :: ws) ({ frames := 1, cells := 1, slots := 10, locals := 14 } : Room)) (fun a U => a = #[.ref a0, .int 1] ∧ Z.Warmed39 U.vm ∧ U.heap = h0) (fun _ _ _ _ _ => True) (fun _ U o U' => ∃ v L, o = .returned v ∧ Q13 Z a0 dd kd m9 h0 n0 v U'.heap L ∧ FrameEnd U o U' L ({ frames := 1, cells := 1, slots := 10, locals := 14 } : Room).cells ({ frames := 1, cells := 1, slots := 10, locals := 14 } : Room).slots) := by
 refine MetFree.of_bodySF (plainFor_of_name pn_10) hisR ?_
 intro p e s m args below meth c s₁ Bd hml0 hP hK
 obtain ⟨rfl, hZ, hh⟩ := hP
 have hx := Bd.exec
 have hby := Bd.bytes
 have hret := Bd.returns
 have hlk : meth.locks = false := BodyLoose.notSynchronized Bd
 have hml : c.maxLocals = 4 := hml0
 have hown : s.vm.findClass "java/util/ArrayList" = some m.cls := findClass_of_methodNamed Bd.named
 have hnm := (name_of_methodNamed Bd.named Bd.method).1
 have X0 : Stand p l e ({ frames := 1, cells := 1, slots := 10, locals := 14 } : Room) s m #[.ref a0, .int 1] below meth c s₁ [] 0 0 := Stand.of_body Bd
 have e0 : s₁.heap = h0 := by rw [← hh, Bd.state]; rfl
 have N0 := Fr.nil n0
 have K0 : Keep h0 h0 [a0] := Keep.refl _ _
 have pre0 : ∀ t, zs p e below s₁ m 0 (z47 a0 1) [] t → Steps p.tables e below (s₁.setTop (entryFrame m #[.ref a0, .int 1] 4)) t := fun t k => castTop (ef_13 m a0 (1 : Int32)) k
 show OFin p e below s (Q13 Z a0 dd kd m9 h0 n0) ({ frames := 1, cells := 1, slots := 10, locals := 14 } : Room).cells ({ frames := 1, cells := 1, slots := 10, locals := 14 } : Room).slots _
 refine OFin.go pre0 ?_
 have sg101 : zg p e below s₁ m 1 (z47 a0 1) [.ref a0] 0 (z47 a0 1) [] := by
  intro t k
  refine XS.aloadN X0.here hx rfl (hb hby d13_0) rfl rfl ?_
  exact k
 refine OFin.go sg101 ?_
 obtain ⟨T102, X102, e102, st102⟩ := getF X0 hx hZ hown (host := "") (Or.inl (zw hw 67 rfl)) Via.refl e0 F2 (g := (mkF m 1 (z47 a0 1) [.ref a0])) rfl rfl (hb hby d13_1)
 refine OFin.go st102 ?_
 obtain ⟨cl103, Ar103, q103, S103, M103, H103, G103⟩ := id VD
 have sg104 : zg p e below T102 m 11 (z22 a0 1 0) [.ref a0] 4 (z47 a0 1) [.ref dd] := by
  intro t k
  refine X102.arraylength hx (by rw [e102]; exact Ar103.1) (State.isArrayOf_alike hZ.alike Ar103.2.1) (g := (mkF m 4 (z47 a0 1) [.ref dd])) rfl rfl (hb hby d13_4) _ ?_
  rw [len_of S103 M103]
  show zs p e below T102 m 5 (z47 a0 1) [.int 0] t
  refine XS.istoreN X102.here hx rfl (hb hby d13_5) rfl (l' := (z22 a0 1 0)) rfl ?_
  show zs p e below T102 m 6 (z22 a0 1 0) [] t
  refine XS.iloadN X102.here hx rfl (hb hby d13_6) rfl ?_
  show zs p e below T102 m 7 (z22 a0 1 0) [.int 0] t
  refine XS.ifNo X102.here hx rfl (hb hby d13_7) rfl ((if0 _ _).trans (flt (by decide : ¬ ((0 : Int32) < (0 : Int32)))).2.2.1) ?_
  show zs p e below T102 m 10 (z22 a0 1 0) [] t
  refine XS.aloadN X102.here hx rfl (hb hby d13_10) rfl rfl ?_
  exact k
 refine OFin.go sg104 ?_
 obtain ⟨T105, X105, e105, st105⟩ := getF X102 hx hZ hown (host := "") (Or.inl (zw hw 67 rfl)) Via.refl e102 F2 (g := (mkF m 11 (z22 a0 1 0) [.ref a0])) rfl rfl (hb hby d13_11)
 refine OFin.go st105 ?_
 obtain ⟨T106, X106, e106, st106⟩ := getS2 X105 hx hZ hown (host := "") (Or.inl (zw hw 66 rfl)) Via.refl e105 (SD.ext O0.2) (g := (mkF m 14 (z22 a0 1 0) [.ref dd])) rfl (hb hby d13_14)
 refine OFin.go st106 ?_
 have sg107 : zg p e below T106 m 49 (z22 a0 1 0) [.int 1, .int 10, .ref a0] 17 (z22 a0 1 0) [.ref dd, .ref dd] := by
  intro t k
  refine Jvm.RoadKit.acmp (g := (mkF m 17 (z22 a0 1 0) [.ref dd, .ref dd])) X106 hx rfl rfl rfl (pc0 := 17) (pc' := 45) (same := true) rfl (hb hby d13_17) rfl (decide_eq_true rfl) (by decide) (by decide) ?_
  show zs p e below T106 m 45 (z22 a0 1 0) [] t
  refine XS.aloadN X106.here hx rfl (hb hby d13_45) rfl rfl ?_
  show zs p e below T106 m 46 (z22 a0 1 0) [.ref a0] t
  refine XS.bipush X106.here hx rfl (hb hby d13_46) ?_
  show zs p e below T106 m 48 (z22 a0 1 0) [.int 10, .ref a0] t
  refine XS.iloadN X106.here hx rfl (hb hby d13_48) rfl ?_
  exact k
 refine OFin.go sg107 ?_
 obtain ⟨_, _, ⟨T108, L108, k108, n108⟩, -, X108, ⟨Lc108, hQ108, l108, y108, z108⟩, st108⟩ := Jvm.LawKit.callS X106 hx (y := (⟨"java/lang/Math", "max", "(II)I"⟩ : MethodName)) hown (mvT hZ (zw hw 97 rfl)) (mvT hZ (zw hw 98 rfl)) (mvT hZ (zw hw 2 rfl)) (mvT hZ (zw hw 99 rfl)) (by decide) (backOf (W := 1) (rm14 l Z aZ hw [] (10 : Int32) (1 : Int32) h0 n0 (zt Z0 K0.1) ) hZ (zw hw 99 rfl) (zw hw 2 rfl) (by decide) (by decide)) (g := (mkF m 49 (z22 a0 1 0) [.int 1, .int 10, .ref a0])) rfl (by rw [hml]; rfl) (argsL := [.int 10, .int 1]) (rest := [.ref a0]) (lenOf pd_3 rfl) rfl (by show 2 * 0 + _ ≤ _; exact ze rfl) (hb hby d13_49) (fun _ _ => ⟨rfl, e106, (by decide : 0 + 0 ≤ _), (by decide : 0 + 0 ≤ _)⟩)
 dsimp only [Pt.U, Pt.locs, Pt.cells, Pt.slots] at X108 l108 y108 z108 st108 hQ108
 rw [l108, y108, z108] at X108
 obtain ⟨rfl, N108q, e108⟩ := hQ108
 have N108 := Fr.app N0 N108q
 refine OFin.go st108 ?_
 rw [show (own_f14 (10 : Int32) (1 : Int32)) = (10 : Int32) from (by decide)]
 obtain ⟨T109, h109, k109, X109, e109, E109, A109, Ex109, O109, st109⟩ := newRE X108 hx hZ hown (zw hw 100 rfl) (zw hw 101 rfl) e108 (g := (mkF m 52 (z22 a0 1 0) [.int 10, .ref a0])) rfl (hb hby d13_52) rfl (by decide) (cap := 10) (by decide) (by decide) (by decide) (by decide) (ad := "[Ljava/lang/Object;") (by decide)
 obtain ⟨b109, g109⟩ : ∃ z, z = h0.size := ⟨_, rfl⟩
 rw [← g109] at A109 Ex109 st109
 refine OFin.go st109 ?_
 have g_b109 : n0 ≤ b109 := zt (zt Z0 K0.1) (ze g109.symm)
 have sz_b109 : h0.size ≤ b109 := zt K0.1 (ze g109.symm)
 have K109 : Keep h0 h109 [a0] := K0.ext E109
 have V109 : Arv Z h109 b109 k109 (.object "java/lang/Object") (10 : Int32) [.null, .null, .null, .null, .null, .null, .null, .null, .null, .null] .null := (Arv.new A109 (by decide)).pad (pad_rep [] .null 10)
 have sg110 : zg p e below T109 m 56 (z22 a0 1 0) [.ref b109, .ref a0, .ref b109] 55 (z22 a0 1 0) [.ref b109, .ref a0] := by
  intro t k
  refine XS.dupX1 X109.here hx rfl (hb hby d13_55) rfl rfl rfl ?_
  exact k
 refine OFin.go sg110 ?_
 obtain ⟨T111, h111, X111, e111, W111, st111⟩ := putF X109 hx hZ hown (host := "") (Or.inl (zw hw 67 rfl)) Via.refl e109 (F2.ext E109) (E1.ext E109) (Or.inl (zw hw 68 rfl)) (zw hw 46 rfl) (ty := (.array (.object "java/lang/Object"))) (by decide) rfl rfl (g := (mkF m 56 (z22 a0 1 0) [.ref b109, .ref a0, .ref b109])) rfl rfl (hb hby d13_56)
 refine OFin.go st111 ?_
 have F111 := (F2.ext E109).same W111
 have K111 : Keep h0 h111 [a0] := K109.wr W111 (Or.inl (List.mem_of_getElem? (i := 0) rfl))
 have N111 := Fr.snoc X111 N108 g_a0
 exact OFin.retA X111 hx hret rfl rfl rfl hlk (hb hby d13_59) (by rw [e111]; exact ⟨b109, k109, rfl, N111, K111, ((F1.ext E109).other W111 (Or.inr (slot_ne (Or.inl (zw hw 65 rfl)) (Or.inl (zw hw 68 rfl)) (by decide) (t := .int) (t' := (.array (.object "java/lang/Object"))) (by decide) (by decide)))), F111, ((F3.ext E109).other W111 (Or.inr (slot_ne (Or.inl (zw hw 81 rfl)) (Or.inl (zw hw 68 rfl)) (by decide) (t := .int) (t' := (.array (.object "java/lang/Object"))) (by decide) (by decide)))), (V109.other W111 (Ne.symm (zn (zl E1.lt (ze g109.symm))))), (Ex109.wr W111), sz_b109, O109⟩) (by decide) (by decide)
theorem d12_0 : decode jdk_38_method_7_code 0 = .ok (.aload_n 0, 1) := by decide +kernel
theorem d12_1 : decode jdk_38_method_7_code 1 = .ok (.aload_n 0, 1) := by decide +kernel
theorem d12_2 : decode jdk_38_method_7_code 2 = .ok (.getfield 48, 3) := by decide +kernel
theorem d12_5 : decode jdk_38_method_7_code 5 = .ok (.iconst 1, 1) := by decide +kernel
theorem d12_6 : decode jdk_38_method_7_code 6 = .ok (.iadd, 1) := by decide +kernel
theorem d12_7 : decode jdk_38_method_7_code 7 = .ok (.invokevirtual 69, 3) := by decide +kernel
theorem d12_10 : decode jdk_38_method_7_code 10 = .ok (.areturn, 1) := by decide +kernel
theorem pd_4 : parseMethodDescriptor "(I)[Ljava/lang/Object;" = some ⟨[.int], some (.array (.object "java/lang/Object"))⟩ := by decide +kernel
theorem ef_12 (m : MethodId) (x0 : Addr) : entryFrame m #[(.ref x0)] 1 = mkF m 0 #[.val (.ref x0)] [] := by first | (simp [entryFrame, mkF, argsToLocals, Value.category]; done) | rfl
def Q12 (Z : State) (a0 : Addr) (dd : Addr) (kd : ClassId) (m9 : Int32) (h0 : Heap) (n0 : Nat) (v : Option Value) (h : Heap) (L : List Loc) : Prop := ∃ (ed : Addr) (ke : ClassId), v = some (.ref ed) ∧ Fr n0 L ∧ Keep h0 h [a0] ∧ Fld Z h a0 "java/util/AbstractList" "modCount" "I" (.int m9) ∧ Fld Z h a0 "java/util/ArrayList" "elementData" "[Ljava/lang/Object;" (.ref ed) ∧ Fld Z h a0 "java/util/ArrayList" "size" "I" (.int 0) ∧ Arv Z h ed ke (.object "java/lang/Object") (10 : Int32) [.null, .null, .null, .null, .null, .null, .null, .null, .null, .null] .null ∧ Exa Z h ed "[Ljava/lang/Object;" ∧ h0.size ≤ ed ∧ Ovr Z ke "java/lang/Object"
set_option maxHeartbeats 40000000 in
theorem rm12 (l : Launch) (Z : State) (aZ : Array Value) (hw : ∀ d ∈ tables_1, d.before aZ Z = true) (ws : List Jvm.Cond) (a0 : Addr) (dd : Addr) (kd : ClassId) (m9 : Int32) (h0 : Heap) (n0 : Nat) (Z0 : n0 ≤ h0.size) (O0 : Old Z n0 h0) (E1 : Exa Z h0 a0 "java/util/ArrayList") (F1 : Fld Z h0 a0 "java/util/AbstractList" "modCount" "I" (.int m9)) (F2 : Fld Z h0 a0 "java/util/ArrayList" "elementData" "[Ljava/lang/Object;" (.ref dd)) (F3 : Fld Z h0 a0 "java/util/ArrayList" "size" "I" (.int 0)) (SD : Sta Z Z.heap "java/util/ArrayList" "DEFAULTCAPACITY_EMPTY_ELEMENTDATA" "[Ljava/lang/Object;" (.ref dd)) (VD : Arv Z h0 dd kd (.object "java/lang/Object") (0 : Int32) [] .null) (ED : Exa Z h0 dd "[Ljava/lang/Object;") (hnd : dd ≠ a0) (g_a0 : n0 ≤ a0) :
  MetFree l (⟨"java/util/ArrayList", "grow", "()[Ljava/lang/Object;"⟩ : MethodName) (head1 (Jvm.Cond.code (⟨"java/util/ArrayList", "grow", "()[Ljava/lang/Object;"⟩ : MethodName) jdk_38_method_7_code 1 (some (.array (.object "java/lang/Object"))) :: ws) ({ frames := 2, cells := 1, slots := 10, locals := 29 } : Room)) (fun a U => a = #[.ref a0] ∧ Z.Warmed39 U.vm ∧ U.heap = h0) (fun _ _ _ _ _ => True) (fun _ U o U' => ∃ v L, o = .returned v ∧ Q12 Z a0 dd kd m9 h0 n0 v U'.heap L ∧ FrameEnd U o U' L ({ frames := 2, cells := 1, slots := 10, locals := 29 } : Room).cells ({ frames := 2, cells := 1, slots := 10, locals := 29 } : Room).slots) := by
 refine MetFree.of_bodySF (plainFor_of_name pn_10) hisR ?_
 intro p e s m args below meth c s₁ Bd hml0 hP hK
 obtain ⟨rfl, hZ, hh⟩ := hP
 have hx := Bd.exec
 have hby := Bd.bytes
 have hret := Bd.returns
 have hlk : meth.locks = false := BodyLoose.notSynchronized Bd
 have hml : c.maxLocals = 1 := hml0
 have hown : s.vm.findClass "java/util/ArrayList" = some m.cls := findClass_of_methodNamed Bd.named
 have hnm := (name_of_methodNamed Bd.named Bd.method).1
 have X0 : Stand p l e ({ frames := 2, cells := 1, slots := 10, locals := 29 } : Room) s m #[.ref a0] below meth c s₁ [] 0 0 := Stand.of_body Bd
 have e0 : s₁.heap = h0 := by rw [← hh, Bd.state]; rfl
 have N0 := Fr.nil n0
 have K0 : Keep h0 h0 [a0] := Keep.refl _ _
 have pre0 : ∀ t, zs p e below s₁ m 0 #[.val (.ref a0)] [] t → Steps p.tables e below (s₁.setTop (entryFrame m #[.ref a0] 1)) t := fun t k => castTop (ef_12 m a0) k
 show OFin p e below s (Q12 Z a0 dd kd m9 h0 n0) ({ frames := 2, cells := 1, slots := 10, locals := 29 } : Room).cells ({ frames := 2, cells := 1, slots := 10, locals := 29 } : Room).slots _
 refine OFin.go pre0 ?_
 have sg101 : zg p e below s₁ m 2 #[.val (.ref a0)] [.ref a0, .ref a0] 0 #[.val (.ref a0)] [] := by
  intro t k
  refine XS.aloadN X0.here hx rfl (hb hby d12_0) rfl rfl ?_
  show zs p e below s₁ m 1 #[.val (.ref a0)] [.ref a0] t
  refine XS.aloadN X0.here hx rfl (hb hby d12_1) rfl rfl ?_
  exact k
 refine OFin.go sg101 ?_
 obtain ⟨T102, X102, e102, st102⟩ := getF X0 hx hZ hown (host := "") (Or.inl (zw hw 80 rfl)) Via.refl e0 F3 (g := (mkF m 2 #[.val (.ref a0)] [.ref a0, .ref a0])) rfl rfl (hb hby d12_2)
 refine OFin.go st102 ?_
 have sg103 : zg p e below T102 m 7 #[.val (.ref a0)] [.int 1, .ref a0] 5 #[.val (.ref a0)] [.int 0, .ref a0] := by
  intro t k
  refine XS.iconst X102.here hx rfl (hb hby d12_5) ?_
  show zs p e below T102 m 6 #[.val (.ref a0)] [.int 1, .int 0, .ref a0] t
  refine XS.iadd X102.here hx rfl (hb hby d12_6) rfl ?_
  exact k
 refine OFin.go sg103 ?_
 obtain ⟨cq104, q104, q104'⟩ := E1.cell
 obtain ⟨_, _, ⟨T104, L104, k104, n104⟩, -, X104, ⟨Lc104, hQ104, l104, y104, z104⟩, st104⟩ := X102.privateBack hx (y := (⟨"java/util/ArrayList", "grow", "(I)[Ljava/lang/Object;"⟩ : MethodName)) hown (mvT hZ (zw hw 92 rfl)) (mvT hZ (zw hw 93 rfl)) (mvT hZ (zw hw 95 rfl)) (Cond.privateMethod_at (mvP hZ (zw hw 94 rfl) (args := #[]))) (mvT hZ (zw hw 96 rfl)) (by decide) (backOf (W := 0) (rm13 l Z aZ hw [] a0 dd kd m9 h0 n0 (zt Z0 K0.1) O0 E1 F1 F2 F3 SD VD ED hnd g_a0) hZ (zw hw 96 rfl) (zw hw 47 rfl) (by decide) (by decide)) (g := (mkF m 7 #[.val (.ref a0)] [.int 1, .ref a0])) rfl (by rw [hml]; rfl) (Steps.refl _) (a := a0) (by rw [e102]; exact q104) q104' (argsL := [.int 1]) (rest := []) (lenOf pd_4 rfl) rfl (by show 2 * 0 + _ ≤ _; exact ze rfl) (hb hby d12_7) (fun _ _ => ⟨rfl, e102, (by decide : 0 + 1 ≤ _), (by decide : 0 + 10 ≤ _)⟩)
 dsimp only [Pt.U, Pt.locs, Pt.cells, Pt.slots] at X104 l104 y104 z104 st104 hQ104
 rw [l104, y104, z104] at X104
 obtain ⟨ed104, ke104, rfl, N104q, Kq104, P104_0, P104_1, P104_2, P104_3, P104_4, R104_0, R104_1⟩ := hQ104
 have N104 := Fr.app N0 N104q
 refine OFin.tr st104 ?_
 have K104 : Keep h0 T104.heap [a0] := K0.trans Kq104 (allS (Or.inl (List.mem_of_getElem? (i := 0) rfl)) all0)
 have g_ed104 : n0 ≤ ed104 := zt (zt Z0 K0.1) R104_0
 have sz_ed104 : h0.size ≤ ed104 := zt K0.1 R104_0
 -- grown
 exact OFin.retA X104 hx hret rfl rfl rfl hlk (hb hby d12_10) ⟨ed104, ke104, rfl, N104, K104, P104_0, P104_1, P104_2, P104_3, P104_4, sz_ed104, R104_1⟩ (by decide) (by decide)
theorem d11_0 : decode jdk_38_method_24_code 0 = .ok (.iload_n 3, 1) := by decide +kernel
theorem d11_1 : decode jdk_38_method_24_code 1 = .ok (.aload_n 2, 1) := by decide +kernel
theorem d11_2 : decode jdk_38_method_24_code 2 = .ok (.arraylength, 1) := by decide +kernel
theorem d11_3 : decode jdk_38_method_24_code 3 = .ok (.if_icmp .ne 8, 3) := by decide +kernel
theorem d11_6 : decode jdk_38_method_24_code 6 = .ok (.aload_n 0, 1) := by decide +kernel
theorem d11_7 : decode jdk_38_method_24_code 7 = .ok (.invokevirtual 129, 3) := by decide +kernel
theorem d11_10 : decode jdk_38_method_24_code 10 = .ok (.astore_n 2, 1) := by decide +kernel
theorem d11_11 : decode jdk_38_method_24_code 11 = .ok (.aload_n 2, 1) := by decide +kernel
theorem d11_12 : decode jdk_38_method_24_code 12 = .ok (.iload_n 3, 1) := by decide +kernel
theorem d11_13 : decode jdk_38_method_24_code 13 = .ok (.aload_n 1, 1) := by decide +kernel
theorem d11_14 : decode jdk_38_method_24_code 14 = .ok (.aastore, 1) := by decide +kernel
theorem d11_15 : decode jdk_38_method_24_code 15 = .ok (.aload_n 0, 1) := by decide +kernel
theorem d11_16 : decode jdk_38_method_24_code 16 = .ok (.iload_n 3, 1) := by decide +kernel
theorem d11_17 : decode jdk_38_method_24_code 17 = .ok (.iconst 1, 1) := by decide +kernel
theorem d11_18 : decode jdk_38_method_24_code 18 = .ok (.iadd, 1) := by decide +kernel
theorem d11_19 : decode jdk_38_method_24_code 19 = .ok (.putfield 48, 3) := by decide +kernel
theorem d11_22 : decode jdk_38_method_24_code 22 = .ok (.return_, 1) := by decide +kernel
theorem pd_5 : parseMethodDescriptor "()[Ljava/lang/Object;" = some ⟨[], some (.array (.object "java/lang/Object"))⟩ := by decide +kernel
theorem ef_11 (m : MethodId) (x0 : Addr) (x1 : Addr) (x2 : Addr) (x3 : Int32) : entryFrame m #[(.ref x0), (.ref x1), (.ref x2), (.int x3)] 4 = mkF m 0 #[.val (.ref x0), .val (.ref x1), .val (.ref x2), .val (.int x3)] [] := by first | (simp [entryFrame, mkF, argsToLocals, Value.category]; done) | rfl
def Q11 (Z : State) (a0 : Addr) (a1 : Addr) (dd : Addr) (kd : ClassId) (m9 : Int32) (h0 : Heap) (n0 : Nat) (v : Option Value) (h : Heap) (L : List Loc) : Prop := ∃ (ed : Addr) (ke : ClassId), v = none ∧ Fr n0 L ∧ Keep h0 h [a0] ∧ Fld Z h a0 "java/util/AbstractList" "modCount" "I" (.int m9) ∧ Fld Z h a0 "java/util/ArrayList" "elementData" "[Ljava/lang/Object;" (.ref ed) ∧ Fld Z h a0 "java/util/ArrayList" "size" "I" (.int 1) ∧ Arv Z h ed ke (.object "java/lang/Object") (10 : Int32) [(.ref a1), .null, .null, .null, .null, .null, .null, .null, .null, .null] .null ∧ Exa Z h ed "[Ljava/lang/Object;" ∧ h0.size ≤ ed ∧ Ovr Z ke "java/lang/Object"
set_option maxHeartbeats 40000000 in
theorem rm11 (l : Launch) (Z : State) (aZ : Array Value) (hw : ∀ d ∈ tables_1, d.before aZ Z = true) (ws : List Jvm.Cond) (a0 : Addr) (a1 : Addr) (dd : Addr) (kd : ClassId) (m9 : Int32) (h0 : Heap) (n0 : Nat) (Z0 : n0 ≤ h0.size) (O0 : Old Z n0 h0) (E1 : Exa Z h0 a0 "java/util/ArrayList") (F1 : Fld Z h0 a0 "java/util/AbstractList" "modCount" "I" (.int m9)) (F2 : Fld Z h0 a0 "java/util/ArrayList" "elementData" "[Ljava/lang/Object;" (.ref dd)) (F3 : Fld Z h0 a0 "java/util/ArrayList" "size" "I" (.int 0)) (SD : Sta Z Z.heap "java/util/ArrayList" "DEFAULTCAPACITY_EMPTY_ELEMENTDATA" "[Ljava/lang/Object;" (.ref dd)) (VD : Arv Z h0 dd kd (.object "java/lang/Object") (0 : Int32) [] .null) (ED : Exa Z h0 dd "[Ljava/lang/Object;") (EV : Exa Z h0 a1 "org/counterpath/model/Variable") (hnd : dd ≠ a0) (g_a0 : n0 ≤ a0) :
  MetFree l (⟨"java/util/ArrayList", "add", "(Ljava/lang/Object;[Ljava/lang/Object;I)V"⟩ : MethodName) (head1 (Jvm.Cond.code (⟨"java/util/ArrayList", "add", "(Ljava/lang/Object;[Ljava/lang/Object;I)V"⟩ : MethodName) jdk_38_method_24_code 4 none :: ws) ({ frames := 3, cells := 1, slots := 10, locals := 41 } : Room)) (fun a U => a = #[.ref a0, .ref a1, .ref dd, .int 0] ∧ Z.Warmed39 U.vm ∧ U.heap = h0) (fun _ _ _ _ _ => True) (fun _ U o U' => ∃ v L, o = .returned v ∧ Q11 Z a0 a1 dd kd m9 h0 n0 v U'.heap L ∧ FrameEnd U o U' L ({ frames := 3, cells := 1, slots := 10, locals := 41 } : Room).cells ({ frames := 3, cells := 1, slots := 10, locals := 41 } : Room).slots) := by
 refine MetFree.of_bodySF (plainFor_of_name pn_10) hisR ?_
 intro p e s m args below meth c s₁ Bd hml0 hP hK
 obtain ⟨rfl, hZ, hh⟩ := hP
 have hx := Bd.exec
 have hby := Bd.bytes
 have hret := Bd.returns
 have hlk : meth.locks = false := BodyLoose.notSynchronized Bd
 have hml : c.maxLocals = 4 := hml0
 have hown : s.vm.findClass "java/util/ArrayList" = some m.cls := findClass_of_methodNamed Bd.named
 have hnm := (name_of_methodNamed Bd.named Bd.method).1
 have X0 : Stand p l e ({ frames := 3, cells := 1, slots := 10, locals := 41 } : Room) s m #[.ref a0, .ref a1, .ref dd, .int 0] below meth c s₁ [] 0 0 := Stand.of_body Bd
 have e0 : s₁.heap = h0 := by rw [← hh, Bd.state]; rfl
 have N0 := Fr.nil n0
 have K0 : Keep h0 h0 [a0] := Keep.refl _ _
 have pre0 : ∀ t, zs p e below s₁ m 0 (z17 a0 a1 dd 0) [] t → Steps p.tables e below (s₁.setTop (entryFrame m #[.ref a0, .ref a1, .ref dd, .int 0] 4)) t := fun t k => castTop (ef_11 m a0 a1 dd (0 : Int32)) k
 show OFin p e below s (Q11 Z a0 a1 dd kd m9 h0 n0) ({ frames := 3, cells := 1, slots := 10, locals := 41 } : Room).cells ({ frames := 3, cells := 1, slots := 10, locals := 41 } : Room).slots _
 refine OFin.go pre0 ?_
 have sg101 : zg p e below s₁ m 2 (z17 a0 a1 dd 0) [.ref dd, .int 0] 0 (z17 a0 a1 dd 0) [] := by
  intro t k
  refine XS.iloadN X0.here hx rfl (hb hby d11_0) rfl ?_
  show zs p e below s₁ m 1 (z17 a0 a1 dd 0) [.int 0] t
  refine XS.aloadN X0.here hx rfl (hb hby d11_1) rfl rfl ?_
  exact k
 refine OFin.go sg101 ?_
 obtain ⟨cl102, Ar102, q102, S102, M102, H102, G102⟩ := id VD
 have sg103 : zg p e below s₁ m 7 (z17 a0 a1 dd 0) [.ref a0] 2 (z17 a0 a1 dd 0) [.ref dd, .int 0] := by
  intro t k
  refine X0.arraylength hx (by rw [e0]; exact Ar102.1) (State.isArrayOf_alike hZ.alike Ar102.2.1) (g := (mkF m 2 (z17 a0 a1 dd 0) [.ref dd, .int 0])) rfl rfl (hb hby d11_2) _ ?_
  rw [len_of S102 M102]
  show zs p e below s₁ m 3 (z17 a0 a1 dd 0) [.int 0, .int 0] t
  refine XS.icmpNo X0.here hx rfl (hb hby d11_3) rfl (teq (by decide : (0 : Int32) = (0 : Int32))).2 ?_
  show zs p e below s₁ m 6 (z17 a0 a1 dd 0) [] t
  refine XS.aloadN X0.here hx rfl (hb hby d11_6) rfl rfl ?_
  exact k
 refine OFin.go sg103 ?_
 obtain ⟨cq104, q104, q104'⟩ := E1.cell
 obtain ⟨_, _, ⟨T104, L104, k104, n104⟩, -, X104, ⟨Lc104, hQ104, l104, y104, z104⟩, st104⟩ := X0.privateBack hx (y := (⟨"java/util/ArrayList", "grow", "()[Ljava/lang/Object;"⟩ : MethodName)) hown (mvT hZ (zw hw 87 rfl)) (mvT hZ (zw hw 88 rfl)) (mvT hZ (zw hw 90 rfl)) (Cond.privateMethod_at (mvP hZ (zw hw 89 rfl) (args := #[]))) (mvT hZ (zw hw 91 rfl)) (by decide) (backOf (W := 0) (rm12 l Z aZ hw [] a0 dd kd m9 h0 n0 (zt Z0 K0.1) O0 E1 F1 F2 F3 SD VD ED hnd g_a0) hZ (zw hw 91 rfl) (zw hw 47 rfl) (by decide) (by decide)) (g := (mkF m 7 (z17 a0 a1 dd 0) [.ref a0])) rfl (by rw [hml]; rfl) (Steps.refl _) (a := a0) (by rw [e0]; exact q104) q104' (argsL := []) (rest := []) (lenOf pd_5 rfl) rfl (by show 2 * 0 + _ ≤ _; exact ze rfl) (hb hby d11_7) (fun _ _ => ⟨rfl, e0, (by decide : 0 + 1 ≤ _), (by decide : 0 + 10 ≤ _)⟩)
 dsimp only [Pt.U, Pt.locs, Pt.cells, Pt.slots] at X104 l104 y104 z104 st104 hQ104
 rw [l104, y104, z104] at X104
 obtain ⟨ed104, ke104, rfl, N104q, Kq104, P104_0, P104_1, P104_2, P104_3, P104_4, R104_0, R104_1⟩ := hQ104
 have N104 := Fr.app N0 N104q
 refine OFin.tr st104 ?_
 have K104 : Keep h0 T104.heap [a0] := K0.trans Kq104 (allS (Or.inl (List.mem_of_getElem? (i := 0) rfl)) all0)
 have g_ed104 : n0 ≤ ed104 := zt (zt Z0 K0.1) R104_0
 have sz_ed104 : h0.size ≤ ed104 := zt K0.1 R104_0
 -- grown
 have sg105 : zg p e below T104 m 14 (z17 a0 a1 ed104 0) [.ref a1, .int 0, .ref ed104] 10 (z17 a0 a1 dd 0) [.ref ed104] := by
  intro t k
  refine XS.astoreN X104.here hx rfl (hb hby d11_10) rfl rfl (l' := (z17 a0 a1 ed104 0)) rfl ?_
  show zs p e below T104 m 11 (z17 a0 a1 ed104 0) [] t
  refine XS.aloadN X104.here hx rfl (hb hby d11_11) rfl rfl ?_
  show zs p e below T104 m 12 (z17 a0 a1 ed104 0) [.ref ed104] t
  refine XS.iloadN X104.here hx rfl (hb hby d11_12) rfl ?_
  show zs p e below T104 m 13 (z17 a0 a1 ed104 0) [.int 0, .ref ed104] t
  refine XS.aloadN X104.here hx rfl (hb hby d11_13) rfl rfl ?_
  exact k
 refine OFin.go sg105 ?_
 obtain ⟨cl106, Ar106, q106, S106, M106, H106, G106⟩ := id P104_3
 have hin106 : ¬ ((0 : Int32) < 0 ∨ cl106.slots.size ≤ ((0 : Int32)).toNatClampNeg) := inb_of S106 ⟨by decide, by decide⟩
 obtain ⟨T106, h106, X106, e106, W106, st106⟩ := stR X104 hx hZ rfl Ar106 (j := (0 : Int32)) hin106 rfl (Sto.ofV Ar106 q106 R104_1 (Ins.of_exa (EV.keep Kq104) (zw hw 102 rfl))) (g := (mkF m 14 (z17 a0 a1 ed104 0) [.ref a1, .int 0, .ref ed104])) rfl rfl (hb hby d11_14)
 refine OFin.go st106 ?_
 have V106 : Arv Z h106 ed104 ke104 (.object "java/lang/Object") (10 : Int32) [(.ref a1), .null, .null, .null, .null, .null, .null, .null, .null, .null] .null := Arv.set Ar106 q106 S106 M106 H106 G106 rfl W106 0 rfl (Nat.le_of_ble_eq_true rfl)
 have K106 : Keep h0 h106 [a0] := K104.wr W106 (Or.inr sz_ed104)
 have N106 := Fr.snoc X106 N104 g_ed104
 have sg107 : zg p e below T106 m 19 (z17 a0 a1 ed104 0) [.int 1, .ref a0] 15 (z17 a0 a1 ed104 0) [] := by
  intro t k
  refine XS.aloadN X106.here hx rfl (hb hby d11_15) rfl rfl ?_
  show zs p e below T106 m 16 (z17 a0 a1 ed104 0) [.ref a0] t
  refine XS.iloadN X106.here hx rfl (hb hby d11_16) rfl ?_
  show zs p e below T106 m 17 (z17 a0 a1 ed104 0) [.int 0, .ref a0] t
  refine XS.iconst X106.here hx rfl (hb hby d11_17) ?_
  show zs p e below T106 m 18 (z17 a0 a1 ed104 0) [.int 1, .int 0, .ref a0] t
  refine XS.iadd X106.here hx rfl (hb hby d11_18) rfl ?_
  exact k
 refine OFin.go sg107 ?_
 obtain ⟨T108, h108, X108, e108, W108, st108⟩ := putF X106 hx hZ hown (host := "") (Or.inl (zw hw 80 rfl)) Via.refl e106 (P104_2.other W106 (Or.inl (zn (zl E1.lt R104_0)))) ((E1.keep Kq104).wr W106) (Or.inl (zw hw 81 rfl)) (zw hw 46 rfl) (ty := .int) (by decide) rfl rfl (g := (mkF m 19 (z17 a0 a1 ed104 0) [.int 1, .ref a0])) rfl rfl (hb hby d11_19)
 refine OFin.go st108 ?_
 have F108 := (P104_2.other W106 (Or.inl (zn (zl E1.lt R104_0)))).same W108
 have K108 : Keep h0 h108 [a0] := K106.wr W108 (Or.inl (List.mem_of_getElem? (i := 0) rfl))
 have N108 := Fr.snoc X108 N106 g_a0
 exact OFin.retV X108 hx hret hlk (hb hby d11_22) (by rw [e108]; exact ⟨ed104, ke104, rfl, N108, K108, ((P104_0.other W106 (Or.inl (zn (zl E1.lt R104_0)))).other W108 (Or.inr (slot_ne (Or.inl (zw hw 65 rfl)) (Or.inl (zw hw 81 rfl)) (by decide) (t := .int) (t' := .int) (by decide) (by decide)))), ((P104_1.other W106 (Or.inl (zn (zl E1.lt R104_0)))).other W108 (Or.inr (slot_ne (Or.inl (zw hw 68 rfl)) (Or.inl (zw hw 81 rfl)) (by decide) (t := (.array (.object "java/lang/Object"))) (t' := .int) (by decide) (by decide)))), F108, (V106.other W108 (Ne.symm (zn (zl E1.lt R104_0)))), ((P104_4.wr W106).wr W108), sz_ed104, R104_1⟩) (by decide) (by decide)
theorem d10_0 : decode jdk_38_method_25_code 0 = .ok (.aload_n 0, 1) := by decide +kernel
theorem d10_1 : decode jdk_38_method_25_code 1 = .ok (.dup, 1) := by decide +kernel
theorem d10_2 : decode jdk_38_method_25_code 2 = .ok (.getfield 63, 3) := by decide +kernel
theorem d10_5 : decode jdk_38_method_25_code 5 = .ok (.iconst 1, 1) := by decide +kernel
theorem d10_6 : decode jdk_38_method_25_code 6 = .ok (.iadd, 1) := by decide +kernel
theorem d10_7 : decode jdk_38_method_25_code 7 = .ok (.putfield 63, 3) := by decide +kernel
theorem d10_10 : decode jdk_38_method_25_code 10 = .ok (.aload_n 0, 1) := by decide +kernel
theorem d10_11 : decode jdk_38_method_25_code 11 = .ok (.aload_n 1, 1) := by decide +kernel
theorem d10_12 : decode jdk_38_method_25_code 12 = .ok (.aload_n 0, 1) := by decide +kernel
theorem d10_13 : decode jdk_38_method_25_code 13 = .ok (.getfield 9, 3) := by decide +kernel
theorem d10_16 : decode jdk_38_method_25_code 16 = .ok (.aload_n 0, 1) := by decide +kernel
theorem d10_17 : decode jdk_38_method_25_code 17 = .ok (.getfield 48, 3) := by decide +kernel
theorem d10_20 : decode jdk_38_method_25_code 20 = .ok (.invokevirtual 131, 3) := by decide +kernel
theorem d10_23 : decode jdk_38_method_25_code 23 = .ok (.iconst 1, 1) := by decide +kernel
theorem d10_24 : decode jdk_38_method_25_code 24 = .ok (.ireturn, 1) := by decide +kernel
theorem pd_6 : parseMethodDescriptor "(Ljava/lang/Object;[Ljava/lang/Object;I)V" = some ⟨[(.object "java/lang/Object"), (.array (.object "java/lang/Object")), .int], none⟩ := by decide +kernel
theorem ef_10 (m : MethodId) (x0 : Addr) (x1 : Addr) : entryFrame m #[(.ref x0), (.ref x1)] 2 = mkF m 0 #[.val (.ref x0), .val (.ref x1)] [] := by first | (simp [entryFrame, mkF, argsToLocals, Value.category]; done) | rfl
def Q10 (Z : State) (a0 : Addr) (a1 : Addr) (dd : Addr) (kd : ClassId) (m9 : Int32) (h0 : Heap) (n0 : Nat) (v : Option Value) (h : Heap) (L : List Loc) : Prop := ∃ (ed : Addr) (ke : ClassId), v = some (.int 1) ∧ Fr n0 L ∧ Keep h0 h [a0] ∧ Fld Z h a0 "java/util/AbstractList" "modCount" "I" (.int (m9 + (1 : Int32))) ∧ Fld Z h a0 "java/util/ArrayList" "elementData" "[Ljava/lang/Object;" (.ref ed) ∧ Fld Z h a0 "java/util/ArrayList" "size" "I" (.int 1) ∧ Arv Z h ed ke (.object "java/lang/Object") (10 : Int32) [(.ref a1), .null, .null, .null, .null, .null, .null, .null, .null, .null] .null ∧ Exa Z h ed "[Ljava/lang/Object;" ∧ h0.size ≤ ed ∧ Ovr Z ke "java/lang/Object"
set_option maxHeartbeats 40000000 in
theorem rm10 (l : Launch) (Z : State) (aZ : Array Value) (hw : ∀ d ∈ tables_1, d.before aZ Z = true) (ws : List Jvm.Cond) (a0 : Addr) (a1 : Addr) (dd : Addr) (kd : ClassId) (m9 : Int32) (h0 : Heap) (n0 : Nat) (Z0 : n0 ≤ h0.size) (O0 : Old Z n0 h0) (E1 : Exa Z h0 a0 "java/util/ArrayList") (F1 : Fld Z h0 a0 "java/util/AbstractList" "modCount" "I" (.int m9)) (F2 : Fld Z h0 a0 "java/util/ArrayList" "elementData" "[Ljava/lang/Object;" (.ref dd)) (F3 : Fld Z h0 a0 "java/util/ArrayList" "size" "I" (.int 0)) (SD : Sta Z Z.heap "java/util/ArrayList" "DEFAULTCAPACITY_EMPTY_ELEMENTDATA" "[Ljava/lang/Object;" (.ref dd)) (VD : Arv Z h0 dd kd (.object "java/lang/Object") (0 : Int32) [] .null) (ED : Exa Z h0 dd "[Ljava/lang/Object;") (EV : Exa Z h0 a1 "org/counterpath/model/Variable") (hnd : dd ≠ a0) (g_a0 : n0 ≤ a0) :
  MetFree l (⟨"java/util/ArrayList", "add", "(Ljava/lang/Object;)Z"⟩ : MethodName) (head1 (Jvm.Cond.code (⟨"java/util/ArrayList", "add", "(Ljava/lang/Object;)Z"⟩ : MethodName) jdk_38_method_25_code 2 (some .boolean) :: ws) ({ frames := 4, cells := 1, slots := 10, locals := 56 } : Room)) (fun a U => a = #[.ref a0, .ref a1] ∧ Z.Warmed39 U.vm ∧ U.heap = h0) (fun _ _ _ _ _ => True) (fun _ U o U' => ∃ v L, o = .returned v ∧ Q10 Z a0 a1 dd kd m9 h0 n0 v U'.heap L ∧ FrameEnd U o U' L ({ frames := 4, cells := 1, slots := 10, locals := 56 } : Room).cells ({ frames := 4, cells := 1, slots := 10, locals := 56 } : Room).slots) := by
 refine MetFree.of_bodySF (plainFor_of_name pn_10) hisR ?_
 intro p e s m args below meth c s₁ Bd hml0 hP hK
 obtain ⟨rfl, hZ, hh⟩ := hP
 have hx := Bd.exec
 have hby := Bd.bytes
 have hret := Bd.returns
 have hlk : meth.locks = false := BodyLoose.notSynchronized Bd
 have hml : c.maxLocals = 2 := hml0
 have hown : s.vm.findClass "java/util/ArrayList" = some m.cls := findClass_of_methodNamed Bd.named
 have hnm := (name_of_methodNamed Bd.named Bd.method).1
 have X0 : Stand p l e ({ frames := 4, cells := 1, slots := 10, locals := 56 } : Room) s m #[.ref a0, .ref a1] below meth c s₁ [] 0 0 := Stand.of_body Bd
 have e0 : s₁.heap = h0 := by rw [← hh, Bd.state]; rfl
 have N0 := Fr.nil n0
 have K0 : Keep h0 h0 [a0] := Keep.refl _ _
 have pre0 : ∀ t, zs p e below s₁ m 0 (z21 a0 a1) [] t → Steps p.tables e below (s₁.setTop (entryFrame m #[.ref a0, .ref a1] 2)) t := fun t k => castTop (ef_10 m a0 a1) k
 show OFin p e below s (Q10 Z a0 a1 dd kd m9 h0 n0) ({ frames := 4, cells := 1, slots := 10, locals := 56 } : Room).cells ({ frames := 4, cells := 1, slots := 10, locals := 56 } : Room).slots _
 refine OFin.go pre0 ?_
 have sg101 : zg p e below s₁ m 2 (z21 a0 a1) [.ref a0, .ref a0] 0 (z21 a0 a1) [] := by
  intro t k
  refine XS.aloadN X0.here hx rfl (hb hby d10_0) rfl rfl ?_
  show zs p e below s₁ m 1 (z21 a0 a1) [.ref a0] t
  refine XS.dup X0.here hx rfl (hb hby d10_1) rfl rfl ?_
  exact k
 refine OFin.go sg101 ?_
 obtain ⟨T102, X102, e102, st102⟩ := getF X0 hx hZ hown (host := "") (Or.inl (zw hw 78 rfl)) (Via.of (zw hw 79 rfl)) e0 F1 (g := (mkF m 2 (z21 a0 a1) [.ref a0, .ref a0])) rfl rfl (hb hby d10_2)
 refine OFin.go st102 ?_
 have sg103 : zg p e below T102 m 7 (z21 a0 a1) [.int (m9 + (1 : Int32)), .ref a0] 5 (z21 a0 a1) [.int m9, .ref a0] := by
  intro t k
  refine XS.iconst X102.here hx rfl (hb hby d10_5) ?_
  show zs p e below T102 m 6 (z21 a0 a1) [.int 1, .int m9, .ref a0] t
  refine XS.iadd X102.here hx rfl (hb hby d10_6) rfl ?_
  exact k
 refine OFin.go sg103 ?_
 obtain ⟨T104, h104, X104, e104, W104, st104⟩ := putF X102 hx hZ hown (host := "") (Or.inl (zw hw 78 rfl)) (Via.of (zw hw 79 rfl)) e102 F1 E1 (Or.inl (zw hw 65 rfl)) (zw hw 46 rfl) (ty := .int) (by decide) rfl rfl (g := (mkF m 7 (z21 a0 a1) [.int (m9 + (1 : Int32)), .ref a0])) rfl rfl (hb hby d10_7)
 refine OFin.go st104 ?_
 have F104 := F1.same W104
 have K104 : Keep h0 h104 [a0] := K0.wr W104 (Or.inl (List.mem_of_getElem? (i := 0) rfl))
 have N104 := Fr.snoc X104 N0 g_a0
 have sg105 : zg p e below T104 m 13 (z21 a0 a1) [.ref a0, .ref a1, .ref a0] 10 (z21 a0 a1) [] := by
  intro t k
  refine XS.aloadN X104.here hx rfl (hb hby d10_10) rfl rfl ?_
  show zs p e below T104 m 11 (z21 a0 a1) [.ref a0] t
  refine XS.aloadN X104.here hx rfl (hb hby d10_11) rfl rfl ?_
  show zs p e below T104 m 12 (z21 a0 a1) [.ref a1, .ref a0] t
  refine XS.aloadN X104.here hx rfl (hb hby d10_12) rfl rfl ?_
  exact k
 refine OFin.go sg105 ?_
 obtain ⟨T106, X106, e106, st106⟩ := getF X104 hx hZ hown (host := "") (Or.inl (zw hw 67 rfl)) Via.refl e104 (F2.other W104 (Or.inr (slot_ne (Or.inl (zw hw 68 rfl)) (Or.inl (zw hw 65 rfl)) (by decide) (t := (.array (.object "java/lang/Object"))) (t' := .int) (by decide) (by decide)))) (g := (mkF m 13 (z21 a0 a1) [.ref a0, .ref a1, .ref a0])) rfl rfl (hb hby d10_13)
 refine OFin.go st106 ?_
 have sg107 : zg p e below T106 m 17 (z21 a0 a1) [.ref a0, .ref dd, .ref a1, .ref a0] 16 (z21 a0 a1) [.ref dd, .ref a1, .ref a0] := by
  intro t k
  refine XS.aloadN X106.here hx rfl (hb hby d10_16) rfl rfl ?_
  exact k
 refine OFin.go sg107 ?_
 obtain ⟨T108, X108, e108, st108⟩ := getF X106 hx hZ hown (host := "") (Or.inl (zw hw 80 rfl)) Via.refl e106 (F3.other W104 (Or.inr (slot_ne (Or.inl (zw hw 81 rfl)) (Or.inl (zw hw 65 rfl)) (by decide) (t := .int) (t' := .int) (by decide) (by decide)))) (g := (mkF m 17 (z21 a0 a1) [.ref a0, .ref dd, .ref a1, .ref a0])) rfl rfl (hb hby d10_17)
 refine OFin.go st108 ?_
 obtain ⟨cq109, q109, q109'⟩ := (E1.wr W104).cell
 obtain ⟨_, _, ⟨T109, L109, k109, n109⟩, -, X109, ⟨Lc109, hQ109, l109, y109, z109⟩, st109⟩ := X108.privateBack hx (y := (⟨"java/util/ArrayList", "add", "(Ljava/lang/Object;[Ljava/lang/Object;I)V"⟩ : MethodName)) hown (mvT hZ (zw hw 82 rfl)) (mvT hZ (zw hw 83 rfl)) (mvT hZ (zw hw 85 rfl)) (Cond.privateMethod_at (mvP hZ (zw hw 84 rfl) (args := #[]))) (mvT hZ (zw hw 86 rfl)) (by decide) (backOf (W := 0) (rm11 l Z aZ hw [] a0 a1 dd kd (m9 + (1 : Int32)) h104 n0 (zt Z0 K104.1) (O0.wr W104 g_a0) (E1.wr W104) F104 (F2.other W104 (Or.inr (slot_ne (Or.inl (zw hw 68 rfl)) (Or.inl (zw hw 65 rfl)) (by decide) (t := (.array (.object "java/lang/Object"))) (t' := .int) (by decide) (by decide)))) (F3.other W104 (Or.inr (slot_ne (Or.inl (zw hw 81 rfl)) (Or.inl (zw hw 65 rfl)) (by decide) (t := .int) (t' := .int) (by decide) (by decide)))) SD (VD.other W104 hnd) (ED.wr W104) (EV.wr W104) hnd g_a0) hZ (zw hw 86 rfl) (zw hw 47 rfl) (by decide) (by decide)) (g := (mkF m 20 (z21 a0 a1) [.int 0, .ref dd, .ref a1, .ref a0])) rfl (by rw [hml]; rfl) (Steps.refl _) (a := a0) (by rw [e108]; exact q109) q109' (argsL := [.ref a1, .ref dd, .int 0]) (rest := []) (lenOf pd_6 rfl) rfl (by show 2 * 0 + _ ≤ _; exact ze rfl) (hb hby d10_20) (fun _ _ => ⟨rfl, e108, (by decide : 0 + 1 ≤ _), (by decide : 0 + 10 ≤ _)⟩)
 dsimp only [Pt.U, Pt.locs, Pt.cells, Pt.slots] at X109 l109 y109 z109 st109 hQ109
 rw [l109, y109, z109] at X109
 obtain ⟨ed109, ke109, rfl, N109q, Kq109, P109_0, P109_1, P109_2, P109_3, P109_4, R109_0, R109_1⟩ := hQ109
 have N109 := Fr.app N104 N109q
 refine OFin.tr st109 ?_
 have K109 : Keep h0 T109.heap [a0] := K104.trans Kq109 (allS (Or.inl (List.mem_of_getElem? (i := 0) rfl)) all0)
 have g_ed109 : n0 ≤ ed109 := zt (zt Z0 K104.1) R109_0
 have sz_ed109 : h0.size ≤ ed109 := zt K104.1 R109_0
 -- grown
 have sg110 : zg p e below T109 m 24 (z21 a0 a1) [.int 1] 23 (z21 a0 a1) [] := by
  intro t k
  refine XS.iconst X109.here hx rfl (hb hby d10_23) ?_
  exact k
 refine OFin.go sg110 ?_
 exact OFin.retN X109 hx hret (by simp) hlk (hb hby d10_24) rfl ⟨ed109, ke109, rfl, N109, K109, P109_0, P109_1, P109_2, P109_3, P109_4, sz_ed109, R109_1⟩ (by decide) (by decide)
def own_Mr (Z : State) (C : String) (mr : Addr) : Prop := ∃ (c : ClassId) (k : Class), Z.vm.findClass C = some c ∧ Z.vm.classes[c]? = some k ∧ k.mirror = some mr
theorem own_mir {Z s : State} {C : String} {mr : Addr} {args : Array Value} (hZ : Z.Warmed39 s.vm) (M : own_Mr Z C mr) : (Term.mirror C).eval args s none [] s = some (.ref mr) := by
  obtain ⟨c, k, m1, m2, m3⟩ := M
  obtain ⟨k', q, ek⟩ := hZ.alike.2.2 _ _ m2
  have f : s.vm.findClass C = some c := by rw [hZ.alike.findClass]; exact m1
  have g : k'.mirror = some mr := by rw [ek]; exact m3
  simp [Term.eval, f, q, g]
section OwnM
variable {p : Program} {l : Launch} {e : Env} {R : Room} {s : State} {m : MethodId} {args : Array Value} {below : List Frame} {meth : Method} {c : Code} {T : State} {locs : List Loc} {cells slots : Nat} {Z : State} {aZ : Array Value} {h : Heap}
theorem own_ldcM (X : Stand p l e R s m args below meth c T locs cells slots) (hx : p.tables.exec = Jvm.exec) (hZ : Z.Warmed39 s.vm) {own C : String} {index : Nat} (hown : s.vm.findClass own = some m.cls) (w : (Cond.classLink own index C).before aZ Z = true) (eT : T.heap = h) {mr : Addr} (M : own_Mr Z C mr)
    {g : JFrame} (hg : g.method = m) (hd : decode c.code g.pc = .ok (.ldc index, 2)) : ∃ T', Stand p l e R s m args below meth c T' locs cells slots ∧ T'.heap = h ∧ ∀ target, Steps p.tables e below (T'.setTop { g with pc := g.pc + 2, stack := .ref mr :: g.stack }) target → Steps p.tables e below (T.setTop g) target := by
  obtain ⟨vm', X', st⟩ := X.ldcMirror hx hown (mvT hZ w) (own_mir hZ M) hg hd
  exact ⟨_, X', eT, st⟩
theorem own_gc (X : Stand p l e R s m args below meth c T locs cells slots) (hx : p.tables.exec = Jvm.exec) (hZ : Z.Warmed39 s.vm) {own C : String} {index : Nat} (hown : s.vm.findClass own = some m.cls)
    (w1 : (Cond.methodLink own index ⟨"java/lang/Object", "getClass", "()Ljava/lang/Class;"⟩).before aZ Z = true) (w2 : (Cond.declares ⟨"java/lang/Object", "getClass", "()Ljava/lang/Class;"⟩).before aZ Z = true) (w4 : (Cond.selects C ⟨"java/lang/Object", "getClass", "()Ljava/lang/Class;"⟩ ⟨"java/lang/Object", "getClass", "()Ljava/lang/Class;"⟩).before aZ Z = true)
    (w5 : (Cond.instanceMethod ⟨"java/lang/Object", "getClass", "()Ljava/lang/Class;"⟩).before aZ Z = true) (w6 : (Cond.native ⟨"java/lang/Object", "getClass", "()Ljava/lang/Class;"⟩).before aZ Z = true) (eT : T.heap = h) {a : Addr} (E : Exa Z h a C) {mr : Addr} (M : own_Mr Z C mr)
    {g : JFrame} (hg : g.method = m) (hsize : g.locals.size = c.maxLocals) {rest : List Value} (hs : g.stack = .ref a :: rest) (hd : decode c.code g.pc = .ok (.invokevirtual index, 3)) (hf : 1 ≤ R.frames) {W : Nat} (hW : 2 * g.monitorRoom + (rest.map fun v => v.category).sum ≤ W) (hl : W + (nativeFrameWords "java/lang/Object" "getClass" 1 + 11) ≤ R.locals) :
    ∃ T', Stand p l e R s m args below meth c T' locs cells slots ∧ T'.heap = h ∧ ∀ target, Steps p.tables e below (T'.setTop { g with pc := g.pc + 3, stack := .ref mr :: rest }) target → Steps p.tables e below (T.setTop g) target := by
  obtain ⟨cB, kB, i1, i2, i3⟩ := isOf hZ eT E
  obtain ⟨cc, kc, m1, m2, m3⟩ := M
  have i1' := i1
  rw [hZ.alike.findClass] at i1'
  cases i1'.symm.trans m1
  obtain ⟨k', q, ek⟩ := hZ.alike.2.2 _ _ m2
  obtain ⟨vm', X', st⟩ := X.getClassOf hx hown (mvT hZ w1) (mvT hZ w2) (notFace_of_selects (args := #[]) (mvT hZ w4)) (mvT hZ w4) (mvT hZ w5) (mvT hZ w6) i1 i3 q (by rw [ek]; exact m3) hg hsize hs hd hf (by omega)
  exact ⟨_, X', eT, st⟩
end OwnM
theorem d21_0 : decode jdk_65_method_120_code 0 = .ok (.aload_n 2, 1) := by decide +kernel
theorem d21_1 : decode jdk_65_method_120_code 1 = .ok (.ldc 110, 2) := by decide +kernel
theorem d21_3 : decode jdk_65_method_120_code 3 = .ok (.if_acmp .ne 10, 3) := by decide +kernel
theorem d21_6 : decode jdk_65_method_120_code 6 = .ok (.iload_n 1, 1) := by decide +kernel
theorem d21_7 : decode jdk_65_method_120_code 7 = .ok (.anewarray 2, 3) := by decide +kernel
theorem d21_10 : decode jdk_65_method_120_code 10 = .ok (.goto 14, 3) := by decide +kernel
theorem d21_13 : decode jdk_65_method_120_code 13 = .ok (.aload_n 2, 1) := by decide +kernel
theorem d21_14 : decode jdk_65_method_120_code 14 = .ok (.invokevirtual 90, 3) := by decide +kernel
theorem d21_17 : decode jdk_65_method_120_code 17 = .ok (.iload_n 1, 1) := by decide +kernel
theorem d21_18 : decode jdk_65_method_120_code 18 = .ok (.invokestatic 95, 3) := by decide +kernel
theorem d21_21 : decode jdk_65_method_120_code 21 = .ok (.checkcast 110, 3) := by decide +kernel
theorem d21_24 : decode jdk_65_method_120_code 24 = .ok (.astore_n 3, 1) := by decide +kernel
theorem d21_25 : decode jdk_65_method_120_code 25 = .ok (.aload_n 0, 1) := by decide +kernel
theorem d21_26 : decode jdk_65_method_120_code 26 = .ok (.iconst 0, 1) := by decide +kernel
theorem d21_27 : decode jdk_65_method_120_code 27 = .ok (.aload_n 3, 1) := by decide +kernel
theorem d21_28 : decode jdk_65_method_120_code 28 = .ok (.iconst 0, 1) := by decide +kernel
theorem d21_29 : decode jdk_65_method_120_code 29 = .ok (.aload_n 0, 1) := by decide +kernel
theorem d21_30 : decode jdk_65_method_120_code 30 = .ok (.arraylength, 1) := by decide +kernel
theorem d21_31 : decode jdk_65_method_120_code 31 = .ok (.iload_n 1, 1) := by decide +kernel
theorem d21_32 : decode jdk_65_method_120_code 32 = .ok (.invokestatic 304, 3) := by decide +kernel
theorem d21_35 : decode jdk_65_method_120_code 35 = .ok (.invokestatic 150, 3) := by decide +kernel
theorem d21_38 : decode jdk_65_method_120_code 38 = .ok (.aload_n 3, 1) := by decide +kernel
theorem d21_39 : decode jdk_65_method_120_code 39 = .ok (.areturn, 1) := by decide +kernel
theorem pn_11 : plainName "java/util/Arrays" = true := by first | (simp [plainName, overriddenIn]; done) | decide +kernel
theorem ef_21 (m : MethodId) (x0 : Addr) (x1 : Int32) (x2 : Addr) : entryFrame m #[(.ref x0), (.int x1), (.ref x2)] 4 = mkF m 0 #[.val (.ref x0), .val (.int x1), .val (.ref x2), .unset] [] := by first | (simp [entryFrame, mkF, argsToLocals, Value.category]; done) | rfl
def Q21 (Z : State) (a0 : Addr) (mr : Addr) (ka : ClassId) (e1 : Addr) (h0 : Heap) (n0 : Nat) (v : Option Value) (h : Heap) (L : List Loc) : Prop := ∃ (b9 : Addr) (kb : ClassId), v = some (.ref b9) ∧ Fr n0 L ∧ Keep h0 h [] ∧ Arv Z h b9 kb (.object "java/lang/Object") (1 : Int32) [(.ref e1)] .null ∧ h0.size ≤ b9
set_option maxHeartbeats 40000000 in
theorem rm21 (l : Launch) (Z : State) (aZ : Array Value) (hw : ∀ d ∈ tables_1, d.before aZ Z = true) (ws : List Jvm.Cond) (a0 : Addr) (mr : Addr) (ka : ClassId) (e1 : Addr) (h0 : Heap) (n0 : Nat) (Z0 : n0 ≤ h0.size) (V1 : Arv Z h0 a0 ka (.object "java/lang/Object") (10 : Int32) [(.ref e1), .null, .null, .null, .null, .null, .null, .null, .null, .null] .null) (EV : Exa Z h0 e1 "org/counterpath/model/Variable") (hM : own_Mr Z "[Ljava/lang/Object;" mr) :
  MetFree l (⟨"java/util/Arrays", "copyOf", "([Ljava/lang/Object;ILjava/lang/Class;)[Ljava/lang/Object;"⟩ : MethodName) (head1 (Jvm.Cond.code (⟨"java/util/Arrays", "copyOf", "([Ljava/lang/Object;ILjava/lang/Class;)[Ljava/lang/Object;"⟩ : MethodName) jdk_65_method_120_code 4 (some (.array (.object "java/lang/Object"))) :: ws) ({ frames := 1, cells := 1, slots := 1, locals := 40 } : Room)) (fun a U => a = #[.ref a0, .int 1, .ref mr] ∧ Z.Warmed39 U.vm ∧ U.heap = h0) (fun _ _ _ _ _ => True) (fun _ U o U' => ∃ v L, o = .returned v ∧ Q21 Z a0 mr ka e1 h0 n0 v U'.heap L ∧ FrameEnd U o U' L ({ frames := 1, cells := 1, slots := 1, locals := 40 } : Room).cells ({ frames := 1, cells := 1, slots := 1, locals := 40 } : Room).slots) := by
 refine MetFree.of_bodySF (plainFor_of_name pn_11) hisR ?_
 intro p e s m args below meth c s₁ Bd hml0 hP hK
 obtain ⟨rfl, hZ, hh⟩ := hP
 have hx := Bd.exec
 have hby := Bd.bytes
 have hret := Bd.returns
 have hlk : meth.locks = false := BodyLoose.notSynchronized Bd
 have hml : c.maxLocals = 4 := hml0
 have hown : s.vm.findClass "java/util/Arrays" = some m.cls := findClass_of_methodNamed Bd.named
 have hnm := (name_of_methodNamed Bd.named Bd.method).1
 have X0 : Stand p l e ({ frames := 1, cells := 1, slots := 1, locals := 40 } : Room) s m #[.ref a0, .int 1, .ref mr] below meth c s₁ [] 0 0 := Stand.of_body Bd
 have e0 : s₁.heap = h0 := by rw [← hh, Bd.state]; rfl
 have N0 := Fr.nil n0
 have K0 : Keep h0 h0 [] := Keep.refl _ _
 have pre0 : ∀ t, zs p e below s₁ m 0 (z41 a0 1 mr) [] t → Steps p.tables e below (s₁.setTop (entryFrame m #[.ref a0, .int 1, .ref mr] 4)) t := fun t k => castTop (ef_21 m a0 (1 : Int32) mr) k
 show OFin p e below s (Q21 Z a0 mr ka e1 h0 n0) ({ frames := 1, cells := 1, slots := 1, locals := 40 } : Room).cells ({ frames := 1, cells := 1, slots := 1, locals := 40 } : Room).slots _
 refine OFin.go pre0 ?_
 have sg101 : zg p e below s₁ m 1 (z41 a0 1 mr) [.ref mr] 0 (z41 a0 1 mr) [] := by
  intro t k
  refine XS.aloadN X0.here hx rfl (hb hby d21_0) rfl rfl ?_
  exact k
 refine OFin.go sg101 ?_
 obtain ⟨T102, X102, e102, st102⟩ := own_ldcM X0 hx hZ hown (zw hw 162 rfl) e0 hM (g := (mkF m 1 (z41 a0 1 mr) [.ref mr])) rfl (hb hby d21_1)
 refine OFin.go st102 ?_
 have sg103 : zg p e below T102 m 7 (z41 a0 1 mr) [.int 1] 3 (z41 a0 1 mr) [.ref mr, .ref mr] := by
  intro t k
  refine Jvm.RoadKit.acmp (g := (mkF m 3 (z41 a0 1 mr) [.ref mr, .ref mr])) X102 hx rfl rfl rfl (pc0 := 3) (pc' := 6) (same := true) rfl (hb hby d21_3) rfl (decide_eq_true rfl) (by decide) (by decide) ?_
  show zs p e below T102 m 6 (z41 a0 1 mr) [] t
  refine XS.iloadN X102.here hx rfl (hb hby d21_6) rfl ?_
  exact k
 refine OFin.go sg103 ?_
 obtain ⟨T104, h104, k104, X104, e104, E104, A104, Ex104, O104, st104⟩ := newRE X102 hx hZ hown (zw hw 163 rfl) (zw hw 101 rfl) e102 (g := (mkF m 7 (z41 a0 1 mr) [.int 1])) rfl (hb hby d21_7) rfl (by decide) (cap := 1) (by decide) (by decide) (by decide) (by decide) (ad := "[Ljava/lang/Object;") (by decide)
 obtain ⟨b104, g104⟩ : ∃ z, z = h0.size := ⟨_, rfl⟩
 rw [← g104] at A104 Ex104 st104
 refine OFin.go st104 ?_
 have g_b104 : n0 ≤ b104 := zt (zt Z0 K0.1) (ze g104.symm)
 have sz_b104 : h0.size ≤ b104 := zt K0.1 (ze g104.symm)
 have K104 : Keep h0 h104 [] := K0.ext E104
 have V104 : Arv Z h104 b104 k104 (.object "java/lang/Object") (1 : Int32) [.null] .null := (Arv.new A104 (by decide)).pad (pad_rep [] .null 1)
 have sg105 : zg p e below T104 m 30 (z32 a0 1 mr b104) [.ref a0, .int 0, .ref b104, .int 0, .ref a0] 10 (z41 a0 1 mr) [.ref b104] := by
  intro t k
  refine XS.goto X104.here hx rfl (pc0 := 10) (pc' := 24) rfl (hb hby d21_10) (by decide) (by decide) ?_
  show zs p e below T104 m 24 (z41 a0 1 mr) [.ref b104] t
  refine XS.astoreN X104.here hx rfl (hb hby d21_24) rfl rfl (l' := (z32 a0 1 mr b104)) rfl ?_
  show zs p e below T104 m 25 (z32 a0 1 mr b104) [] t
  refine XS.aloadN X104.here hx rfl (hb hby d21_25) rfl rfl ?_
  show zs p e below T104 m 26 (z32 a0 1 mr b104) [.ref a0] t
  refine XS.iconst X104.here hx rfl (hb hby d21_26) ?_
  show zs p e below T104 m 27 (z32 a0 1 mr b104) [.int 0, .ref a0] t
  refine XS.aloadN X104.here hx rfl (hb hby d21_27) rfl rfl ?_
  show zs p e below T104 m 28 (z32 a0 1 mr b104) [.ref b104, .int 0, .ref a0] t
  refine XS.iconst X104.here hx rfl (hb hby d21_28) ?_
  show zs p e below T104 m 29 (z32 a0 1 mr b104) [.int 0, .ref b104, .int 0, .ref a0] t
  refine XS.aloadN X104.here hx rfl (hb hby d21_29) rfl rfl ?_
  exact k
 refine OFin.go sg105 ?_
 obtain ⟨cl106, Ar106, q106, S106, M106, H106, G106⟩ := id (V1.ext E104)
 have sg107 : zg p e below T104 m 32 (z32 a0 1 mr b104) [.int 1, .int 10, .int 0, .ref b104, .int 0, .ref a0] 30 (z32 a0 1 mr b104) [.ref a0, .int 0, .ref b104, .int 0, .ref a0] := by
  intro t k
  refine X104.arraylength hx (by rw [e104]; exact Ar106.1) (State.isArrayOf_alike hZ.alike Ar106.2.1) (g := (mkF m 30 (z32 a0 1 mr b104) [.ref a0, .int 0, .ref b104, .int 0, .ref a0])) rfl rfl (hb hby d21_30) _ ?_
  rw [len_of S106 M106]
  show zs p e below T104 m 31 (z32 a0 1 mr b104) [.int 10, .int 0, .ref b104, .int 0, .ref a0] t
  refine XS.iloadN X104.here hx rfl (hb hby d21_31) rfl ?_
  exact k
 refine OFin.go sg107 ?_
 obtain ⟨_, _, ⟨T108, L108, k108, n108⟩, -, X108, ⟨Lc108, hQ108, l108, y108, z108⟩, st108⟩ := Jvm.LawKit.callS X104 hx (y := (⟨"java/lang/Math", "min", "(II)I"⟩ : MethodName)) hown (mvT hZ (zw hw 164 rfl)) (mvT hZ (zw hw 165 rfl)) (mvT hZ (zw hw 2 rfl)) (mvT hZ (zw hw 166 rfl)) (by decide) (backOf (W := 4) (rm22 l Z aZ hw [] (10 : Int32) (1 : Int32) h104 n0 (zt Z0 K104.1) ) hZ (zw hw 166 rfl) (zw hw 2 rfl) (by decide) (by decide)) (g := (mkF m 32 (z32 a0 1 mr b104) [.int 1, .int 10, .int 0, .ref b104, .int 0, .ref a0])) rfl (by rw [hml]; rfl) (argsL := [.int 10, .int 1]) (rest := [.int 0, .ref b104, .int 0, .ref a0]) (lenOf pd_3 rfl) rfl (by show 2 * 0 + _ ≤ _; exact ze rfl) (hb hby d21_32) (fun _ _ => ⟨rfl, e104, (by decide : 1 + 0 ≤ _), (by decide : 1 + 0 ≤ _)⟩)
 dsimp only [Pt.U, Pt.locs, Pt.cells, Pt.slots] at X108 l108 y108 z108 st108 hQ108
 rw [l108, y108, z108] at X108
 obtain ⟨rfl, N108q, e108⟩ := hQ108
 have N108 := Fr.app N0 N108q
 refine OFin.go st108 ?_
 rw [show (own_f22 (10 : Int32) (1 : Int32)) = (1 : Int32) from (by decide)]
 obtain ⟨cl109, Ar109, q109, -, -, -, -⟩ := id V104
 obtain ⟨T109, h109, L109, X109, e109, N109, Kq109, V109, st109⟩ := cpA X108 hx hZ hown (zw hw 167 rfl) (zw hw 170 rfl) (zw hw 168 rfl) (zw hw 169 rfl) e108 (us := [.ref e1]) (V1.ext E104) V104 (Or.inr ⟨rfl, rfl, ⟨Sto.ofV Ar109 q109 O104 (Ins.of_exa (EV.ext E104) (zw hw 102 rfl)), trivial⟩⟩) (by first | decide | (show _ ≤ (10 : Nat); decide)) (by first | decide | (show _ ≤ (10 : Nat); decide)) (by first | decide | (show _ ≤ (10 : Nat); decide)) (by first | decide | (show _ ≤ (10 : Nat); decide)) (by first | decide | (show _ ≤ (10 : Nat); decide)) rfl (by first | decide | (show _ ≤ (10 : Nat); decide)) N108 g_b104 (g := (mkF m 35 (z32 a0 1 mr b104) [.int 1, .int 0, .ref b104, .int 0, .ref a0])) rfl (by rw [hml]; rfl) rfl (hb hby d21_35) (by decide) (W := 0) (by show 2 * 0 + _ ≤ _; exact ze rfl) (by decide)
 have V109 : Arv Z h109 b104 k104 (.object "java/lang/Object") (1 : Int32) [.ref e1] .null := V109
 refine OFin.go st109 ?_
 have K109 : Keep h0 h109 [] := K104.trans Kq109 (allS (Or.inr sz_b104) all0)
 have sg110 : zg p e below T109 m 39 (z32 a0 1 mr b104) [.ref b104] 38 (z32 a0 1 mr b104) [] := by
  intro t k
  refine XS.aloadN X109.here hx rfl (hb hby d21_38) rfl rfl ?_
  exact k
 refine OFin.go sg110 ?_
 exact OFin.retA X109 hx hret rfl rfl rfl hlk (hb hby d21_39) (by rw [e109]; exact ⟨b104, k104, rfl, N109, K109, V109, sz_b104⟩) (by decide) (by decide)
theorem d20_0 : decode jdk_65_method_119_code 0 = .ok (.aload_n 0, 1) := by decide +kernel
theorem d20_1 : decode jdk_65_method_119_code 1 = .ok (.iload_n 1, 1) := by decide +kernel
theorem d20_2 : decode jdk_65_method_119_code 2 = .ok (.aload_n 0, 1) := by decide +kernel
theorem d20_3 : decode jdk_65_method_119_code 3 = .ok (.invokevirtual 86, 3) := by decide +kernel
theorem d20_6 : decode jdk_65_method_119_code 6 = .ok (.invokestatic 300, 3) := by decide +kernel
theorem d20_9 : decode jdk_65_method_119_code 9 = .ok (.areturn, 1) := by decide +kernel
theorem pd_7 : parseMethodDescriptor "([Ljava/lang/Object;ILjava/lang/Class;)[Ljava/lang/Object;" = some ⟨[(.array (.object "java/lang/Object")), .int, (.object "java/lang/Class")], some (.array (.object "java/lang/Object"))⟩ := by decide +kernel
theorem ef_20 (m : MethodId) (x0 : Addr) (x1 : Int32) : entryFrame m #[(.ref x0), (.int x1)] 2 = mkF m 0 #[.val (.ref x0), .val (.int x1)] [] := by first | (simp [entryFrame, mkF, argsToLocals, Value.category]; done) | rfl
def Q20 (Z : State) (a0 : Addr) (ka : ClassId) (e1 : Addr) (mr : Addr) (h0 : Heap) (n0 : Nat) (v : Option Value) (h : Heap) (L : List Loc) : Prop := ∃ (b9 : Addr) (kb : ClassId), v = some (.ref b9) ∧ Fr n0 L ∧ Keep h0 h [] ∧ Arv Z h b9 kb (.object "java/lang/Object") (1 : Int32) [(.ref e1)] .null ∧ h0.size ≤ b9
set_option maxHeartbeats 40000000 in
theorem rm20 (l : Launch) (Z : State) (aZ : Array Value) (hw : ∀ d ∈ tables_1, d.before aZ Z = true) (ws : List Jvm.Cond) (a0 : Addr) (ka : ClassId) (e1 : Addr) (mr : Addr) (h0 : Heap) (n0 : Nat) (Z0 : n0 ≤ h0.size) (V1 : Arv Z h0 a0 ka (.object "java/lang/Object") (10 : Int32) [(.ref e1), .null, .null, .null, .null, .null, .null, .null, .null, .null] .null) (EA : Exa Z h0 a0 "[Ljava/lang/Object;") (EV : Exa Z h0 e1 "org/counterpath/model/Variable") (hM : own_Mr Z "[Ljava/lang/Object;" mr) :
  MetFree l (⟨"java/util/Arrays", "copyOf", "([Ljava/lang/Object;I)[Ljava/lang/Object;"⟩ : MethodName) (head1 (Jvm.Cond.code (⟨"java/util/Arrays", "copyOf", "([Ljava/lang/Object;I)[Ljava/lang/Object;"⟩ : MethodName) jdk_65_method_119_code 2 (some (.array (.object "java/lang/Object"))) :: ws) ({ frames := 2, cells := 1, slots := 1, locals := 55 } : Room)) (fun a U => a = #[.ref a0, .int 1] ∧ Z.Warmed39 U.vm ∧ U.heap = h0) (fun _ _ _ _ _ => True) (fun _ U o U' => ∃ v L, o = .returned v ∧ Q20 Z a0 ka e1 mr h0 n0 v U'.heap L ∧ FrameEnd U o U' L ({ frames := 2, cells := 1, slots := 1, locals := 55 } : Room).cells ({ frames := 2, cells := 1, slots := 1, locals := 55 } : Room).slots) := by
 refine MetFree.of_bodySF (plainFor_of_name pn_11) hisR ?_
 intro p e s m args below meth c s₁ Bd hml0 hP hK
 obtain ⟨rfl, hZ, hh⟩ := hP
 have hx := Bd.exec
 have hby := Bd.bytes
 have hret := Bd.returns
 have hlk : meth.locks = false := BodyLoose.notSynchronized Bd
 have hml : c.maxLocals = 2 := hml0
 have hown : s.vm.findClass "java/util/Arrays" = some m.cls := findClass_of_methodNamed Bd.named
 have hnm := (name_of_methodNamed Bd.named Bd.method).1
 have X0 : Stand p l e ({ frames := 2, cells := 1, slots := 1, locals := 55 } : Room) s m #[.ref a0, .int 1] below meth c s₁ [] 0 0 := Stand.of_body Bd
 have e0 : s₁.heap = h0 := by rw [← hh, Bd.state]; rfl
 have N0 := Fr.nil n0
 have K0 : Keep h0 h0 [] := Keep.refl _ _
 have pre0 : ∀ t, zs p e below s₁ m 0 (z6 a0 1) [] t → Steps p.tables e below (s₁.setTop (entryFrame m #[.ref a0, .int 1] 2)) t := fun t k => castTop (ef_20 m a0 (1 : Int32)) k
 show OFin p e below s (Q20 Z a0 ka e1 mr h0 n0) ({ frames := 2, cells := 1, slots := 1, locals := 55 } : Room).cells ({ frames := 2, cells := 1, slots := 1, locals := 55 } : Room).slots _
 refine OFin.go pre0 ?_
 have sg101 : zg p e below s₁ m 3 (z6 a0 1) [.ref a0, .int 1, .ref a0] 0 (z6 a0 1) [] := by
  intro t k
  refine XS.aloadN X0.here hx rfl (hb hby d20_0) rfl rfl ?_
  show zs p e below s₁ m 1 (z6 a0 1) [.ref a0] t
  refine XS.iloadN X0.here hx rfl (hb hby d20_1) rfl ?_
  show zs p e below s₁ m 2 (z6 a0 1) [.int 1, .ref a0] t
  refine XS.aloadN X0.here hx rfl (hb hby d20_2) rfl rfl ?_
  exact k
 refine OFin.go sg101 ?_
 obtain ⟨T102, X102, e102, st102⟩ := own_gc X0 hx hZ hown (zw hw 153 rfl) (zw hw 154 rfl) (zw hw 156 rfl) (zw hw 155 rfl) (zw hw 157 rfl) e0 EA hM (g := (mkF m 3 (z6 a0 1) [.ref a0, .int 1, .ref a0])) rfl (by rw [hml]; rfl) rfl (hb hby d20_3) (by decide) (W := 2) (by show 2 * 0 + _ ≤ _; exact ze rfl) (by decide)
 refine OFin.go st102 ?_
 obtain ⟨_, _, ⟨T103, L103, k103, n103⟩, -, X103, ⟨Lc103, hQ103, l103, y103, z103⟩, st103⟩ := Jvm.LawKit.callS X102 hx (y := (⟨"java/util/Arrays", "copyOf", "([Ljava/lang/Object;ILjava/lang/Class;)[Ljava/lang/Object;"⟩ : MethodName)) hown (mvT hZ (zw hw 159 rfl)) (mvT hZ (zw hw 160 rfl)) (mvT hZ (zw hw 151 rfl)) (mvT hZ (zw hw 161 rfl)) (by decide) (backOf (W := 0) (rm21 l Z aZ hw [] a0 mr ka e1 h0 n0 (zt Z0 K0.1) V1 EV hM) hZ (zw hw 161 rfl) (zw hw 151 rfl) (by decide) (by decide)) (g := (mkF m 6 (z6 a0 1) [.ref mr, .int 1, .ref a0])) rfl (by rw [hml]; rfl) (argsL := [.ref a0, .int 1, .ref mr]) (rest := []) (lenOf pd_7 rfl) rfl (by show 2 * 0 + _ ≤ _; exact ze rfl) (hb hby d20_6) (fun _ _ => ⟨rfl, e102, (by decide : 0 + 1 ≤ _), (by decide : 0 + 1 ≤ _)⟩)
 dsimp only [Pt.U, Pt.locs, Pt.cells, Pt.slots] at X103 l103 y103 z103 st103 hQ103
 rw [l103, y103, z103] at X103
 obtain ⟨b9103, kb103, rfl, N103q, Kq103, P103_0, R103_0⟩ := hQ103
 have N103 := Fr.app N0 N103q
 refine OFin.go st103 ?_
 have K103 : Keep h0 T103.heap [] := K0.trans Kq103 all0
 have g_b9103 : n0 ≤ b9103 := zt (zt Z0 K0.1) R103_0
 have sz_b9103 : h0.size ≤ b9103 := zt K0.1 R103_0
 exact OFin.retA X103 hx hret rfl rfl rfl hlk (hb hby d20_9) ⟨b9103, kb103, rfl, N103, K103, P103_0, sz_b9103⟩ (by decide) (by decide)
theorem d19_0 : decode jdk_38_method_16_code 0 = .ok (.aload_n 0, 1) := by decide +kernel
theorem d19_1 : decode jdk_38_method_16_code 1 = .ok (.getfield 9, 3) := by decide +kernel
theorem d19_4 : decode jdk_38_method_16_code 4 = .ok (.aload_n 0, 1) := by decide +kernel
theorem d19_5 : decode jdk_38_method_16_code 5 = .ok (.getfield 48, 3) := by decide +kernel
theorem d19_8 : decode jdk_38_method_16_code 8 = .ok (.invokestatic 66, 3) := by decide +kernel
theorem d19_11 : decode jdk_38_method_16_code 11 = .ok (.areturn, 1) := by decide +kernel
theorem pd_8 : parseMethodDescriptor "([Ljava/lang/Object;I)[Ljava/lang/Object;" = some ⟨[(.array (.object "java/lang/Object")), .int], some (.array (.object "java/lang/Object"))⟩ := by decide +kernel
theorem ef_19 (m : MethodId) (x0 : Addr) : entryFrame m #[(.ref x0)] 1 = mkF m 0 #[.val (.ref x0)] [] := by first | (simp [entryFrame, mkF, argsToLocals, Value.category]; done) | rfl
def Q19 (Z : State) (a0 : Addr) (ed : Addr) (ka : ClassId) (e1 : Addr) (mr : Addr) (h0 : Heap) (n0 : Nat) (v : Option Value) (h : Heap) (L : List Loc) : Prop := ∃ (b9 : Addr) (kb : ClassId), v = some (.ref b9) ∧ Fr n0 L ∧ Keep h0 h [] ∧ Arv Z h b9 kb (.object "java/lang/Object") (1 : Int32) [(.ref e1)] .null ∧ h0.size ≤ b9
set_option maxHeartbeats 40000000 in
theorem rm19 (l : Launch) (Z : State) (aZ : Array Value) (hw : ∀ d ∈ tables_1, d.before aZ Z = true) (ws : List Jvm.Cond) (a0 : Addr) (ed : Addr) (ka : ClassId) (e1 : Addr) (mr : Addr) (h0 : Heap) (n0 : Nat) (Z0 : n0 ≤ h0.size) (F2 : Fld Z h0 a0 "java/util/ArrayList" "elementData" "[Ljava/lang/Object;" (.ref ed)) (F3 : Fld Z h0 a0 "java/util/ArrayList" "size" "I" (.int 1)) (V1 : Arv Z h0 ed ka (.object "java/lang/Object") (10 : Int32) [(.ref e1), .null, .null, .null, .null, .null, .null, .null, .null, .null] .null) (EA : Exa Z h0 ed "[Ljava/lang/Object;") (EV : Exa Z h0 e1 "org/counterpath/model/Variable") (hM : own_Mr Z "[Ljava/lang/Object;" mr) :
  MetFree l (⟨"java/util/ArrayList", "toArray", "()[Ljava/lang/Object;"⟩ : MethodName) (head1 (Jvm.Cond.code (⟨"java/util/ArrayList", "toArray", "()[Ljava/lang/Object;"⟩ : MethodName) jdk_38_method_16_code 1 (some (.array (.object "java/lang/Object"))) :: ws) ({ frames := 3, cells := 1, slots := 1, locals := 68 } : Room)) (fun a U => a = #[.ref a0] ∧ Z.Warmed39 U.vm ∧ U.heap = h0) (fun _ _ _ _ _ => True) (fun _ U o U' => ∃ v L, o = .returned v ∧ Q19 Z a0 ed ka e1 mr h0 n0 v U'.heap L ∧ FrameEnd U o U' L ({ frames := 3, cells := 1, slots := 1, locals := 68 } : Room).cells ({ frames := 3, cells := 1, slots := 1, locals := 68 } : Room).slots) := by
 refine MetFree.of_bodySF (plainFor_of_name pn_10) hisR ?_
 intro p e s m args below meth c s₁ Bd hml0 hP hK
 obtain ⟨rfl, hZ, hh⟩ := hP
 have hx := Bd.exec
 have hby := Bd.bytes
 have hret := Bd.returns
 have hlk : meth.locks = false := BodyLoose.notSynchronized Bd
 have hml : c.maxLocals = 1 := hml0
 have hown : s.vm.findClass "java/util/ArrayList" = some m.cls := findClass_of_methodNamed Bd.named
 have hnm := (name_of_methodNamed Bd.named Bd.method).1
 have X0 : Stand p l e ({ frames := 3, cells := 1, slots := 1, locals := 68 } : Room) s m #[.ref a0] below meth c s₁ [] 0 0 := Stand.of_body Bd
 have e0 : s₁.heap = h0 := by rw [← hh, Bd.state]; rfl
 have N0 := Fr.nil n0
 have K0 : Keep h0 h0 [] := Keep.refl _ _
 have pre0 : ∀ t, zs p e below s₁ m 0 #[.val (.ref a0)] [] t → Steps p.tables e below (s₁.setTop (entryFrame m #[.ref a0] 1)) t := fun t k => castTop (ef_19 m a0) k
 show OFin p e below s (Q19 Z a0 ed ka e1 mr h0 n0) ({ frames := 3, cells := 1, slots := 1, locals := 68 } : Room).cells ({ frames := 3, cells := 1, slots := 1, locals := 68 } : Room).slots _
 refine OFin.go pre0 ?_
 have sg101 : zg p e below s₁ m 1 #[.val (.ref a0)] [.ref a0] 0 #[.val (.ref a0)] [] := by
  intro t k
  refine XS.aloadN X0.here hx rfl (hb hby d19_0) rfl rfl ?_
  exact k
 refine OFin.go sg101 ?_
 obtain ⟨T102, X102, e102, st102⟩ := getF X0 hx hZ hown (host := "") (Or.inl (zw hw 67 rfl)) Via.refl e0 F2 (g := (mkF m 1 #[.val (.ref a0)] [.ref a0])) rfl rfl (hb hby d19_1)
 refine OFin.go st102 ?_
 have sg103 : zg p e below T102 m 5 #[.val (.ref a0)] [.ref a0, .ref ed] 4 #[.val (.ref a0)] [.ref ed] := by
  intro t k
  refine XS.aloadN X102.here hx rfl (hb hby d19_4) rfl rfl ?_
  exact k
 refine OFin.go sg103 ?_
 obtain ⟨T104, X104, e104, st104⟩ := getF X102 hx hZ hown (host := "") (Or.inl (zw hw 80 rfl)) Via.refl e102 F3 (g := (mkF m 5 #[.val (.ref a0)] [.ref a0, .ref ed])) rfl rfl (hb hby d19_5)
 refine OFin.go st104 ?_
 obtain ⟨_, _, ⟨T105, L105, k105, n105⟩, -, X105, ⟨Lc105, hQ105, l105, y105, z105⟩, st105⟩ := Jvm.LawKit.callS X104 hx (y := (⟨"java/util/Arrays", "copyOf", "([Ljava/lang/Object;I)[Ljava/lang/Object;"⟩ : MethodName)) hown (mvT hZ (zw hw 149 rfl)) (mvT hZ (zw hw 150 rfl)) (mvT hZ (zw hw 151 rfl)) (mvT hZ (zw hw 152 rfl)) (by decide) (backOf (W := 0) (rm20 l Z aZ hw [] ed ka e1 mr h0 n0 (zt Z0 K0.1) V1 EA EV hM) hZ (zw hw 152 rfl) (zw hw 151 rfl) (by decide) (by decide)) (g := (mkF m 8 #[.val (.ref a0)] [.int 1, .ref ed])) rfl (by rw [hml]; rfl) (argsL := [.ref ed, .int 1]) (rest := []) (lenOf pd_8 rfl) rfl (by show 2 * 0 + _ ≤ _; exact ze rfl) (hb hby d19_8) (fun _ _ => ⟨rfl, e104, (by decide : 0 + 1 ≤ _), (by decide : 0 + 1 ≤ _)⟩)
 dsimp only [Pt.U, Pt.locs, Pt.cells, Pt.slots] at X105 l105 y105 z105 st105 hQ105
 rw [l105, y105, z105] at X105
 obtain ⟨b9105, kb105, rfl, N105q, Kq105, P105_0, R105_0⟩ := hQ105
 have N105 := Fr.app N0 N105q
 refine OFin.go st105 ?_
 have K105 : Keep h0 T105.heap [] := K0.trans Kq105 all0
 have g_b9105 : n0 ≤ b9105 := zt (zt Z0 K0.1) R105_0
 have sz_b9105 : h0.size ≤ b9105 := zt K0.1 R105_0
 exact OFin.retA X105 hx hret rfl rfl rfl hlk (hb hby d19_11) ⟨b9105, kb105, rfl, N105, K105, P105_0, sz_b9105⟩ (by decide) (by decide)
theorem d18_0 : decode jdk_38_method_41_code 0 = .ok (.aload_n 1, 1) := by decide +kernel
theorem d18_1 : decode jdk_38_method_41_code 1 = .ok (.invokeinterface 42 1, 5) := by decide +kernel
theorem d18_6 : decode jdk_38_method_41_code 6 = .ok (.astore_n 2, 1) := by decide +kernel
theorem d18_7 : decode jdk_38_method_41_code 7 = .ok (.aload_n 0, 1) := by decide +kernel
theorem d18_8 : decode jdk_38_method_41_code 8 = .ok (.dup, 1) := by decide +kernel
theorem d18_9 : decode jdk_38_method_41_code 9 = .ok (.getfield 63, 3) := by decide +kernel
theorem d18_12 : decode jdk_38_method_41_code 12 = .ok (.iconst 1, 1) := by decide +kernel
theorem d18_13 : decode jdk_38_method_41_code 13 = .ok (.iadd, 1) := by decide +kernel
theorem d18_14 : decode jdk_38_method_41_code 14 = .ok (.putfield 63, 3) := by decide +kernel
theorem d18_17 : decode jdk_38_method_41_code 17 = .ok (.aload_n 2, 1) := by decide +kernel
theorem d18_18 : decode jdk_38_method_41_code 18 = .ok (.arraylength, 1) := by decide +kernel
theorem d18_19 : decode jdk_38_method_41_code 19 = .ok (.istore_n 3, 1) := by decide +kernel
theorem d18_20 : decode jdk_38_method_41_code 20 = .ok (.iload_n 3, 1) := by decide +kernel
theorem d18_21 : decode jdk_38_method_41_code 21 = .ok (.ifCond .ne 5, 3) := by decide +kernel
theorem d18_24 : decode jdk_38_method_41_code 24 = .ok (.iconst 0, 1) := by decide +kernel
theorem d18_25 : decode jdk_38_method_41_code 25 = .ok (.ireturn, 1) := by decide +kernel
theorem d18_26 : decode jdk_38_method_41_code 26 = .ok (.iload_n 3, 1) := by decide +kernel
theorem d18_27 : decode jdk_38_method_41_code 27 = .ok (.aload_n 0, 1) := by decide +kernel
theorem d18_28 : decode jdk_38_method_41_code 28 = .ok (.getfield 9, 3) := by decide +kernel
theorem d18_31 : decode jdk_38_method_41_code 31 = .ok (.dup, 1) := by decide +kernel
theorem d18_32 : decode jdk_38_method_41_code 32 = .ok (.astore 4, 2) := by decide +kernel
theorem d18_34 : decode jdk_38_method_41_code 34 = .ok (.arraylength, 1) := by decide +kernel
theorem d18_35 : decode jdk_38_method_41_code 35 = .ok (.aload_n 0, 1) := by decide +kernel
theorem d18_36 : decode jdk_38_method_41_code 36 = .ok (.getfield 48, 3) := by decide +kernel
theorem d18_39 : decode jdk_38_method_41_code 39 = .ok (.dup, 1) := by decide +kernel
theorem d18_40 : decode jdk_38_method_41_code 40 = .ok (.istore 5, 2) := by decide +kernel
theorem d18_42 : decode jdk_38_method_41_code 42 = .ok (.isub, 1) := by decide +kernel
theorem d18_43 : decode jdk_38_method_41_code 43 = .ok (.if_icmp .le 13, 3) := by decide +kernel
theorem d18_46 : decode jdk_38_method_41_code 46 = .ok (.aload_n 0, 1) := by decide +kernel
theorem d18_47 : decode jdk_38_method_41_code 47 = .ok (.iload 5, 2) := by decide +kernel
theorem d18_49 : decode jdk_38_method_41_code 49 = .ok (.iload_n 3, 1) := by decide +kernel
theorem d18_50 : decode jdk_38_method_41_code 50 = .ok (.iadd, 1) := by decide +kernel
theorem d18_51 : decode jdk_38_method_41_code 51 = .ok (.invokevirtual 69, 3) := by decide +kernel
theorem d18_54 : decode jdk_38_method_41_code 54 = .ok (.astore 4, 2) := by decide +kernel
theorem d18_56 : decode jdk_38_method_41_code 56 = .ok (.aload_n 2, 1) := by decide +kernel
theorem d18_57 : decode jdk_38_method_41_code 57 = .ok (.iconst 0, 1) := by decide +kernel
theorem d18_58 : decode jdk_38_method_41_code 58 = .ok (.aload 4, 2) := by decide +kernel
theorem d18_60 : decode jdk_38_method_41_code 60 = .ok (.iload 5, 2) := by decide +kernel
theorem d18_62 : decode jdk_38_method_41_code 62 = .ok (.iload_n 3, 1) := by decide +kernel
theorem d18_63 : decode jdk_38_method_41_code 63 = .ok (.invokestatic 112, 3) := by decide +kernel
theorem d18_66 : decode jdk_38_method_41_code 66 = .ok (.aload_n 0, 1) := by decide +kernel
theorem d18_67 : decode jdk_38_method_41_code 67 = .ok (.iload 5, 2) := by decide +kernel
theorem d18_69 : decode jdk_38_method_41_code 69 = .ok (.iload_n 3, 1) := by decide +kernel
theorem d18_70 : decode jdk_38_method_41_code 70 = .ok (.iadd, 1) := by decide +kernel
theorem d18_71 : decode jdk_38_method_41_code 71 = .ok (.putfield 48, 3) := by decide +kernel
theorem d18_74 : decode jdk_38_method_41_code 74 = .ok (.iconst 1, 1) := by decide +kernel
theorem d18_75 : decode jdk_38_method_41_code 75 = .ok (.ireturn, 1) := by decide +kernel
theorem ef_18A (m : MethodId) (x0 : Addr) (x1 : Addr) : entryFrame m #[(.ref x0), (.ref x1)] 6 = mkF m 0 #[.val (.ref x0), .val (.ref x1), .unset, .unset, .unset, .unset] [] := by first | (simp [entryFrame, mkF, argsToLocals, Value.category]; done) | rfl
def Q18A (Z : State) (a0 : Addr) (a1 : Addr) (dd : Addr) (kd : ClassId) (m9 : Int32) (m8 : Int32) (ed1 : Addr) (k1 : ClassId) (e1 : Addr) (mr : Addr) (h0 : Heap) (n0 : Nat) (v : Option Value) (h : Heap) (L : List Loc) : Prop := ∃ (ed : Addr) (ke : ClassId), v = some (.int 1) ∧ Fr n0 L ∧ Keep h0 h [a0] ∧ Fld Z h a0 "java/util/AbstractList" "modCount" "I" (.int (m9 + (1 : Int32))) ∧ Fld Z h a0 "java/util/ArrayList" "elementData" "[Ljava/lang/Object;" (.ref ed) ∧ Fld Z h a0 "java/util/ArrayList" "size" "I" (.int 1) ∧ Arv Z h ed ke (.object "java/lang/Object") (10 : Int32) [(.ref e1), .null, .null, .null, .null, .null, .null, .null, .null, .null] .null ∧ Exa Z h ed "[Ljava/lang/Object;" ∧ h0.size ≤ ed ∧ Ovr Z ke "java/lang/Object"
set_option maxHeartbeats 40000000 in
theorem rm18A (l : Launch) (Z : State) (aZ : Array Value) (hw : ∀ d ∈ tables_1, d.before aZ Z = true) (ws : List Jvm.Cond) (a0 : Addr) (a1 : Addr) (dd : Addr) (kd : ClassId) (m9 : Int32) (m8 : Int32) (ed1 : Addr) (k1 : ClassId) (e1 : Addr) (mr : Addr) (h0 : Heap) (n0 : Nat) (Z0 : n0 ≤ h0.size) (O0 : Old Z n0 h0) (E1 : Exa Z h0 a0 "java/util/ArrayList") (F1 : Fld Z h0 a0 "java/util/AbstractList" "modCount" "I" (.int m9)) (F2 : Fld Z h0 a0 "java/util/ArrayList" "elementData" "[Ljava/lang/Object;" (.ref dd)) (F3 : Fld Z h0 a0 "java/util/ArrayList" "size" "I" (.int 0)) (SD : Sta Z Z.heap "java/util/ArrayList" "DEFAULTCAPACITY_EMPTY_ELEMENTDATA" "[Ljava/lang/Object;" (.ref dd)) (VD : Arv Z h0 dd kd (.object "java/lang/Object") (0 : Int32) [] .null) (ED : Exa Z h0 dd "[Ljava/lang/Object;") (E1s : Exa Z h0 a1 "java/util/ArrayList") (F1s : Fld Z h0 a1 "java/util/AbstractList" "modCount" "I" (.int m8)) (F2s : Fld Z h0 a1 "java/util/ArrayList" "elementData" "[Ljava/lang/Object;" (.ref ed1)) (F3s : Fld Z h0 a1 "java/util/ArrayList" "size" "I" (.int 1)) (V1 : Arv Z h0 ed1 k1 (.object "java/lang/Object") (10 : Int32) [(.ref e1), .null, .null, .null, .null, .null, .null, .null, .null, .null] .null) (EA : Exa Z h0 ed1 "[Ljava/lang/Object;") (EV : Exa Z h0 e1 "org/counterpath/model/Variable") (hnd : dd ≠ a0) (hM : own_Mr Z "[Ljava/lang/Object;" mr) (g_a0 : n0 ≤ a0) :
  MetFree l (⟨"java/util/ArrayList", "addAll", "(Ljava/util/Collection;)Z"⟩ : MethodName) (head1 (Jvm.Cond.code (⟨"java/util/ArrayList", "addAll", "(Ljava/util/Collection;)Z"⟩ : MethodName) jdk_38_method_41_code 6 (some .boolean) :: ws) ({ frames := 4, cells := 2, slots := 11, locals := 80 } : Room)) (fun a U => a = #[.ref a0, .ref a1] ∧ Z.Warmed39 U.vm ∧ U.heap = h0) (fun _ _ _ _ _ => True) (fun _ U o U' => ∃ v L, o = .returned v ∧ Q18A Z a0 a1 dd kd m9 m8 ed1 k1 e1 mr h0 n0 v U'.heap L ∧ FrameEnd U o U' L ({ frames := 4, cells := 2, slots := 11, locals := 80 } : Room).cells ({ frames := 4, cells := 2, slots := 11, locals := 80 } : Room).slots) := by
 refine MetFree.of_bodySF (plainFor_of_name pn_10) hisR ?_
 intro p e s m args below meth c s₁ Bd hml0 hP hK
 obtain ⟨rfl, hZ, hh⟩ := hP
 have hx := Bd.exec
 have hby := Bd.bytes
 have hret := Bd.returns
 have hlk : meth.locks = false := BodyLoose.notSynchronized Bd
 have hml : c.maxLocals = 6 := hml0
 have hown : s.vm.findClass "java/util/ArrayList" = some m.cls := findClass_of_methodNamed Bd.named
 have hnm := (name_of_methodNamed Bd.named Bd.method).1
 have X0 : Stand p l e ({ frames := 4, cells := 2, slots := 11, locals := 80 } : Room) s m #[.ref a0, .ref a1] below meth c s₁ [] 0 0 := Stand.of_body Bd
 have e0 : s₁.heap = h0 := by rw [← hh, Bd.state]; rfl
 have N0 := Fr.nil n0
 have K0 : Keep h0 h0 [a0] := Keep.refl _ _
 have pre0 : ∀ t, zs p e below s₁ m 0 (z42 a0 a1) [] t → Steps p.tables e below (s₁.setTop (entryFrame m #[.ref a0, .ref a1] 6)) t := fun t k => castTop (ef_18A m a0 a1) k
 show OFin p e below s (Q18A Z a0 a1 dd kd m9 m8 ed1 k1 e1 mr h0 n0) ({ frames := 4, cells := 2, slots := 11, locals := 80 } : Room).cells ({ frames := 4, cells := 2, slots := 11, locals := 80 } : Room).slots _
 refine OFin.go pre0 ?_
 have sg101 : zg p e below s₁ m 1 (z42 a0 a1) [.ref a1] 0 (z42 a0 a1) [] := by
  intro t k
  refine XS.aloadN X0.here hx rfl (hb hby d18_0) rfl rfl ?_
  exact k
 refine OFin.go sg101 ?_
 obtain ⟨cq102, kq102, q102a, q102b, q102c⟩ := isOf hZ e0 E1s
 obtain ⟨_, _, ⟨T102, L102, k102, n102⟩, -, X102, ⟨Lc102, hQ102, l102, y102, z102⟩, st102⟩ := X0.interfaceBack hx (xi := (⟨"java/util/Collection", "toArray", "()[Ljava/lang/Object;"⟩ : MethodName)) (y := (⟨"java/util/ArrayList", "toArray", "()[Ljava/lang/Object;"⟩ : MethodName)) hown (mvT hZ (zw hw 140 rfl)) (mvT hZ (zw hw 141 rfl)) (mvT hZ (zw hw 142 rfl)) (mvT hZ (zw hw 143 rfl)) (mvT hZ (zw hw 144 rfl)) (mvT hZ (zw hw 145 rfl)) (mvT hZ (zw hw 146 rfl)) (mvT hZ (zw hw 147 rfl)) (by decide) (backOf (W := 0) (rm19 l Z aZ hw [] a1 ed1 k1 e1 mr h0 n0 (zt Z0 K0.1) F2s F3s V1 EA EV hM) hZ (zw hw 148 rfl) (zw hw 47 rfl) (by decide) (by decide)) q102a q102b q102c (g := (mkF m 1 (z42 a0 a1) [.ref a1])) rfl (by rw [hml]; rfl) (Steps.refl _) (argsL := []) (rest := []) (lenOf pd_5 rfl) rfl (by show 2 * 0 + _ ≤ _; exact ze rfl) (hb hby d18_1) (fun _ _ => ⟨rfl, e0, (by decide : 0 + 1 ≤ _), (by decide : 0 + 1 ≤ _)⟩)
 dsimp only [Pt.U, Pt.locs, Pt.cells, Pt.slots] at X102 l102 y102 z102 st102 hQ102
 rw [l102, y102, z102] at X102
 obtain ⟨b9102, kb102, rfl, N102q, Kq102, P102_0, R102_0⟩ := hQ102
 have N102 := Fr.app N0 N102q
 refine OFin.tr st102 ?_
 have K102 : Keep h0 T102.heap [a0] := K0.trans Kq102 all0
 have g_b9102 : n0 ≤ b9102 := zt (zt Z0 K0.1) R102_0
 have sz_b9102 : h0.size ≤ b9102 := zt K0.1 R102_0
 have sg103 : zg p e below T102 m 9 (z13 a0 a1 b9102) [.ref a0, .ref a0] 6 (z42 a0 a1) [.ref b9102] := by
  intro t k
  refine XS.astoreN X102.here hx rfl (hb hby d18_6) rfl rfl (l' := (z13 a0 a1 b9102)) rfl ?_
  show zs p e below T102 m 7 (z13 a0 a1 b9102) [] t
  refine XS.aloadN X102.here hx rfl (hb hby d18_7) rfl rfl ?_
  show zs p e below T102 m 8 (z13 a0 a1 b9102) [.ref a0] t
  refine XS.dup X102.here hx rfl (hb hby d18_8) rfl rfl ?_
  exact k
 refine OFin.go sg103 ?_
 obtain ⟨T104, X104, e104, st104⟩ := getF X102 hx hZ hown (host := "") (Or.inl (zw hw 78 rfl)) (Via.of (zw hw 79 rfl)) rfl (F1.keep Kq102 nin0) (g := (mkF m 9 (z13 a0 a1 b9102) [.ref a0, .ref a0])) rfl rfl (hb hby d18_9)
 refine OFin.go st104 ?_
 have sg105 : zg p e below T104 m 14 (z13 a0 a1 b9102) [.int (m9 + (1 : Int32)), .ref a0] 12 (z13 a0 a1 b9102) [.int m9, .ref a0] := by
  intro t k
  refine XS.iconst X104.here hx rfl (hb hby d18_12) ?_
  show zs p e below T104 m 13 (z13 a0 a1 b9102) [.int 1, .int m9, .ref a0] t
  refine XS.iadd X104.here hx rfl (hb hby d18_13) rfl ?_
  exact k
 refine OFin.go sg105 ?_
 obtain ⟨T106, h106, X106, e106, W106, st106⟩ := putF X104 hx hZ hown (host := "") (Or.inl (zw hw 78 rfl)) (Via.of (zw hw 79 rfl)) e104 (F1.keep Kq102 nin0) (E1.keep Kq102) (Or.inl (zw hw 65 rfl)) (zw hw 46 rfl) (ty := .int) (by decide) rfl rfl (g := (mkF m 14 (z13 a0 a1 b9102) [.int (m9 + (1 : Int32)), .ref a0])) rfl rfl (hb hby d18_14)
 refine OFin.go st106 ?_
 have F106 := (F1.keep Kq102 nin0).same W106
 have K106 : Keep h0 h106 [a0] := K102.wr W106 (Or.inl (List.mem_of_getElem? (i := 0) rfl))
 have N106 := Fr.snoc X106 N102 g_a0
 have sg107 : zg p e below T106 m 18 (z13 a0 a1 b9102) [.ref b9102] 17 (z13 a0 a1 b9102) [] := by
  intro t k
  refine XS.aloadN X106.here hx rfl (hb hby d18_17) rfl rfl ?_
  exact k
 refine OFin.go sg107 ?_
 obtain ⟨cl108, Ar108, q108, S108, M108, H108, G108⟩ := id (P102_0.other W106 (Ne.symm (zn (zl E1.lt R102_0))))
 have sg109 : zg p e below T106 m 28 (z23 a0 a1 b9102 1) [.ref a0, .int 1] 18 (z13 a0 a1 b9102) [.ref b9102] := by
  intro t k
  refine X106.arraylength hx (by rw [e106]; exact Ar108.1) (State.isArrayOf_alike hZ.alike Ar108.2.1) (g := (mkF m 18 (z13 a0 a1 b9102) [.ref b9102])) rfl rfl (hb hby d18_18) _ ?_
  rw [len_of S108 M108]
  show zs p e below T106 m 19 (z13 a0 a1 b9102) [.int 1] t
  refine XS.istoreN X106.here hx rfl (hb hby d18_19) rfl (l' := (z23 a0 a1 b9102 1)) rfl ?_
  show zs p e below T106 m 20 (z23 a0 a1 b9102 1) [] t
  refine XS.iloadN X106.here hx rfl (hb hby d18_20) rfl ?_
  show zs p e below T106 m 21 (z23 a0 a1 b9102 1) [.int 1] t
  refine XS.ifYes X106.here hx rfl (pc0 := 21) (pc' := 26) rfl (hb hby d18_21) rfl ((if0 _ _).trans (feq (by decide : ¬ ((1 : Int32) = (0 : Int32)))).2) (by decide) (by decide) ?_
  show zs p e below T106 m 26 (z23 a0 a1 b9102 1) [] t
  refine XS.iloadN X106.here hx rfl (hb hby d18_26) rfl ?_
  show zs p e below T106 m 27 (z23 a0 a1 b9102 1) [.int 1] t
  refine XS.aloadN X106.here hx rfl (hb hby d18_27) rfl rfl ?_
  exact k
 refine OFin.go sg109 ?_
 obtain ⟨T110, X110, e110, st110⟩ := getF X106 hx hZ hown (host := "") (Or.inl (zw hw 67 rfl)) Via.refl e106 ((F2.keep Kq102 nin0).other W106 (Or.inr (slot_ne (Or.inl (zw hw 68 rfl)) (Or.inl (zw hw 65 rfl)) (by decide) (t := (.array (.object "java/lang/Object"))) (t' := .int) (by decide) (by decide)))) (g := (mkF m 28 (z23 a0 a1 b9102 1) [.ref a0, .int 1])) rfl rfl (hb hby d18_28)
 refine OFin.go st110 ?_
 have sg111 : zg p e below T110 m 34 (z24 a0 a1 b9102 1 dd) [.ref dd, .int 1] 31 (z23 a0 a1 b9102 1) [.ref dd, .int 1] := by
  intro t k
  refine XS.dup X110.here hx rfl (hb hby d18_31) rfl rfl ?_
  show zs p e below T110 m 32 (z23 a0 a1 b9102 1) [.ref dd, .ref dd, .int 1] t
  refine XS.astore X110.here hx rfl (hb hby d18_32) rfl rfl (l' := (z24 a0 a1 b9102 1 dd)) rfl ?_
  exact k
 refine OFin.go sg111 ?_
 obtain ⟨cl112, Ar112, q112, S112, M112, H112, G112⟩ := id ((VD.keep Kq102 nin0).other W106 hnd)
 have sg113 : zg p e below T110 m 36 (z24 a0 a1 b9102 1 dd) [.ref a0, .int 0, .int 1] 34 (z24 a0 a1 b9102 1 dd) [.ref dd, .int 1] := by
  intro t k
  refine X110.arraylength hx (by rw [e110]; exact Ar112.1) (State.isArrayOf_alike hZ.alike Ar112.2.1) (g := (mkF m 34 (z24 a0 a1 b9102 1 dd) [.ref dd, .int 1])) rfl rfl (hb hby d18_34) _ ?_
  rw [len_of S112 M112]
  show zs p e below T110 m 35 (z24 a0 a1 b9102 1 dd) [.int 0, .int 1] t
  refine XS.aloadN X110.here hx rfl (hb hby d18_35) rfl rfl ?_
  exact k
 refine OFin.go sg113 ?_
 obtain ⟨T114, X114, e114, st114⟩ := getF X110 hx hZ hown (host := "") (Or.inl (zw hw 80 rfl)) Via.refl e110 ((F3.keep Kq102 nin0).other W106 (Or.inr (slot_ne (Or.inl (zw hw 81 rfl)) (Or.inl (zw hw 65 rfl)) (by decide) (t := .int) (t' := .int) (by decide) (by decide)))) (g := (mkF m 36 (z24 a0 a1 b9102 1 dd) [.ref a0, .int 0, .int 1])) rfl rfl (hb hby d18_36)
 refine OFin.go st114 ?_
 have sg115 : zg p e below T114 m 51 (z10 a0 a1 b9102 1 dd 0) [.int 1, .ref a0] 39 (z24 a0 a1 b9102 1 dd) [.int 0, .int 0, .int 1] := by
  intro t k
  refine XS.dup X114.here hx rfl (hb hby d18_39) rfl rfl ?_
  show zs p e below T114 m 40 (z24 a0 a1 b9102 1 dd) [.int 0, .int 0, .int 0, .int 1] t
  refine XS.istore X114.here hx rfl (hb hby d18_40) rfl (l' := (z10 a0 a1 b9102 1 dd 0)) rfl ?_
  show zs p e below T114 m 42 (z10 a0 a1 b9102 1 dd 0) [.int 0, .int 0, .int 1] t
  refine XS.isub X114.here hx rfl (hb hby d18_42) rfl ?_
  show zs p e below T114 m 43 (z10 a0 a1 b9102 1 dd 0) [.int 0, .int 1] t
  refine XS.icmpNo X114.here hx rfl (hb hby d18_43) rfl (tlt (by decide : (0 : Int32) < (1 : Int32))).2.2.2 ?_
  show zs p e below T114 m 46 (z10 a0 a1 b9102 1 dd 0) [] t
  refine XS.aloadN X114.here hx rfl (hb hby d18_46) rfl rfl ?_
  show zs p e below T114 m 47 (z10 a0 a1 b9102 1 dd 0) [.ref a0] t
  refine XS.iload X114.here hx rfl (hb hby d18_47) rfl ?_
  show zs p e below T114 m 49 (z10 a0 a1 b9102 1 dd 0) [.int 0, .ref a0] t
  refine XS.iloadN X114.here hx rfl (hb hby d18_49) rfl ?_
  show zs p e below T114 m 50 (z10 a0 a1 b9102 1 dd 0) [.int 1, .int 0, .ref a0] t
  refine XS.iadd X114.here hx rfl (hb hby d18_50) rfl ?_
  exact k
 refine OFin.go sg115 ?_
 obtain ⟨cq116, q116, q116'⟩ := ((E1.keep Kq102).wr W106).cell
 obtain ⟨_, _, ⟨T116, L116, k116, n116⟩, -, X116, ⟨Lc116, hQ116, l116, y116, z116⟩, st116⟩ := X114.privateBack hx (y := (⟨"java/util/ArrayList", "grow", "(I)[Ljava/lang/Object;"⟩ : MethodName)) hown (mvT hZ (zw hw 92 rfl)) (mvT hZ (zw hw 93 rfl)) (mvT hZ (zw hw 95 rfl)) (Cond.privateMethod_at (mvP hZ (zw hw 94 rfl) (args := #[]))) (mvT hZ (zw hw 96 rfl)) (by decide) (backOf (W := 0) (rm13 l Z aZ hw [] a0 dd kd (m9 + (1 : Int32)) h106 n0 (zt Z0 K106.1) ((O0.keep Kq102 all0).wr W106 g_a0) ((E1.keep Kq102).wr W106) F106 ((F2.keep Kq102 nin0).other W106 (Or.inr (slot_ne (Or.inl (zw hw 68 rfl)) (Or.inl (zw hw 65 rfl)) (by decide) (t := (.array (.object "java/lang/Object"))) (t' := .int) (by decide) (by decide)))) ((F3.keep Kq102 nin0).other W106 (Or.inr (slot_ne (Or.inl (zw hw 81 rfl)) (Or.inl (zw hw 65 rfl)) (by decide) (t := .int) (t' := .int) (by decide) (by decide)))) SD ((VD.keep Kq102 nin0).other W106 hnd) ((ED.keep Kq102).wr W106) hnd g_a0) hZ (zw hw 96 rfl) (zw hw 47 rfl) (by decide) (by decide)) (g := (mkF m 51 (z10 a0 a1 b9102 1 dd 0) [.int 1, .ref a0])) rfl (by rw [hml]; rfl) (Steps.refl _) (a := a0) (by rw [e114]; exact q116) q116' (argsL := [.int 1]) (rest := []) (lenOf pd_4 rfl) rfl (by show 2 * 0 + _ ≤ _; exact ze rfl) (hb hby d18_51) (fun _ _ => ⟨rfl, e114, (by decide : 1 + 1 ≤ _), (by decide : 1 + 10 ≤ _)⟩)
 dsimp only [Pt.U, Pt.locs, Pt.cells, Pt.slots] at X116 l116 y116 z116 st116 hQ116
 rw [l116, y116, z116] at X116
 obtain ⟨ed116, ke116, rfl, N116q, Kq116, P116_0, P116_1, P116_2, P116_3, P116_4, R116_0, R116_1⟩ := hQ116
 have N116 := Fr.app N106 N116q
 refine OFin.tr st116 ?_
 have K116 : Keep h0 T116.heap [a0] := K106.trans Kq116 (allS (Or.inl (List.mem_of_getElem? (i := 0) rfl)) all0)
 have g_ed116 : n0 ≤ ed116 := zt (zt Z0 K106.1) R116_0
 have sz_ed116 : h0.size ≤ ed116 := zt K106.1 R116_0
 -- grown
 have sg117 : zg p e below T116 m 63 (z10 a0 a1 b9102 1 ed116 0) [.int 1, .int 0, .ref ed116, .int 0, .ref b9102] 54 (z10 a0 a1 b9102 1 dd 0) [.ref ed116] := by
  intro t k
  refine XS.astore X116.here hx rfl (hb hby d18_54) rfl rfl (l' := (z10 a0 a1 b9102 1 ed116 0)) rfl ?_
  show zs p e below T116 m 56 (z10 a0 a1 b9102 1 ed116 0) [] t
  refine XS.aloadN X116.here hx rfl (hb hby d18_56) rfl rfl ?_
  show zs p e below T116 m 57 (z10 a0 a1 b9102 1 ed116 0) [.ref b9102] t
  refine XS.iconst X116.here hx rfl (hb hby d18_57) ?_
  show zs p e below T116 m 58 (z10 a0 a1 b9102 1 ed116 0) [.int 0, .ref b9102] t
  refine XS.aload X116.here hx rfl (hb hby d18_58) rfl rfl ?_
  show zs p e below T116 m 60 (z10 a0 a1 b9102 1 ed116 0) [.ref ed116, .int 0, .ref b9102] t
  refine XS.iload X116.here hx rfl (hb hby d18_60) rfl ?_
  show zs p e below T116 m 62 (z10 a0 a1 b9102 1 ed116 0) [.int 0, .ref ed116, .int 0, .ref b9102] t
  refine XS.iloadN X116.here hx rfl (hb hby d18_62) rfl ?_
  exact k
 refine OFin.go sg117 ?_
 obtain ⟨cl118, Ar118, q118, -, -, -, -⟩ := id P116_3
 obtain ⟨T118, h118, L118, X118, e118, N118, Kq118, V118, st118⟩ := cpA X116 hx hZ hown (zw hw 171 rfl) (zw hw 170 rfl) (zw hw 168 rfl) (zw hw 169 rfl) rfl (us := [.ref e1]) ((P102_0.other W106 (Ne.symm (zn (zl E1.lt R102_0)))).keep Kq116 (ninS (Ne.symm (zn (zl E1.lt R102_0))) nin0)) P116_3 (Or.inr ⟨rfl, rfl, ⟨Sto.ofV Ar118 q118 R116_1 (Ins.of_exa (((EV.keep Kq102).wr W106).keep Kq116) (zw hw 102 rfl)), trivial⟩⟩) (by first | decide | (show _ ≤ (10 : Nat); decide)) (by first | decide | (show _ ≤ (10 : Nat); decide)) (by first | decide | (show _ ≤ (10 : Nat); decide)) (by first | decide | (show _ ≤ (10 : Nat); decide)) (by first | decide | (show _ ≤ (10 : Nat); decide)) rfl (by first | decide | (show _ ≤ (10 : Nat); decide)) N116 g_ed116 (g := (mkF m 63 (z10 a0 a1 b9102 1 ed116 0) [.int 1, .int 0, .ref ed116, .int 0, .ref b9102])) rfl (by rw [hml]; rfl) rfl (hb hby d18_63) (by decide) (W := 0) (by show 2 * 0 + _ ≤ _; exact ze rfl) (by decide)
 have V118 : Arv Z h118 ed116 ke116 (.object "java/lang/Object") (10 : Int32) [(.ref e1), .null, .null, .null, .null, .null, .null, .null, .null, .null] .null := V118
 refine OFin.go st118 ?_
 have K118 : Keep h0 h118 [a0] := K116.trans Kq118 (allS (Or.inr sz_ed116) all0)
 have sg119 : zg p e below T118 m 71 (z10 a0 a1 b9102 1 ed116 0) [.int 1, .ref a0] 66 (z10 a0 a1 b9102 1 ed116 0) [] := by
  intro t k
  refine XS.aloadN X118.here hx rfl (hb hby d18_66) rfl rfl ?_
  show zs p e below T118 m 67 (z10 a0 a1 b9102 1 ed116 0) [.ref a0] t
  refine XS.iload X118.here hx rfl (hb hby d18_67) rfl ?_
  show zs p e below T118 m 69 (z10 a0 a1 b9102 1 ed116 0) [.int 0, .ref a0] t
  refine XS.iloadN X118.here hx rfl (hb hby d18_69) rfl ?_
  show zs p e below T118 m 70 (z10 a0 a1 b9102 1 ed116 0) [.int 1, .int 0, .ref a0] t
  refine XS.iadd X118.here hx rfl (hb hby d18_70) rfl ?_
  exact k
 refine OFin.go sg119 ?_
 obtain ⟨T120, h120, X120, e120, W120, st120⟩ := putF X118 hx hZ hown (host := "") (Or.inl (zw hw 80 rfl)) Via.refl e118 (P116_2.keep Kq118 (ninS (zn (zl (zl E1.lt (zt Kq102.1 (Keep.of_wr W106).1)) R116_0)) nin0)) ((((E1.keep Kq102).wr W106).keep Kq116).keep Kq118) (Or.inl (zw hw 81 rfl)) (zw hw 46 rfl) (ty := .int) (by decide) rfl rfl (g := (mkF m 71 (z10 a0 a1 b9102 1 ed116 0) [.int 1, .ref a0])) rfl rfl (hb hby d18_71)
 refine OFin.go st120 ?_
 have F120 := (P116_2.keep Kq118 (ninS (zn (zl (zl E1.lt (zt Kq102.1 (Keep.of_wr W106).1)) R116_0)) nin0)).same W120
 have K120 : Keep h0 h120 [a0] := K118.wr W120 (Or.inl (List.mem_of_getElem? (i := 0) rfl))
 have N120 := Fr.snoc X120 N118 g_a0
 have sg121 : zg p e below T120 m 75 (z10 a0 a1 b9102 1 ed116 0) [.int 1] 74 (z10 a0 a1 b9102 1 ed116 0) [] := by
  intro t k
  refine XS.iconst X120.here hx rfl (hb hby d18_74) ?_
  exact k
 refine OFin.go sg121 ?_
 exact OFin.retN X120 hx hret (by simp) hlk (hb hby d18_75) rfl (by rw [e120]; exact ⟨ed116, ke116, rfl, N120, K120, ((P116_0.keep Kq118 (ninS (zn (zl (zl E1.lt (zt Kq102.1 (Keep.of_wr W106).1)) R116_0)) nin0)).other W120 (Or.inr (slot_ne (Or.inl (zw hw 65 rfl)) (Or.inl (zw hw 81 rfl)) (by decide) (t := .int) (t' := .int) (by decide) (by decide)))), ((P116_1.keep Kq118 (ninS (zn (zl (zl E1.lt (zt Kq102.1 (Keep.of_wr W106).1)) R116_0)) nin0)).other W120 (Or.inr (slot_ne (Or.inl (zw hw 68 rfl)) (Or.inl (zw hw 81 rfl)) (by decide) (t := (.array (.object "java/lang/Object"))) (t' := .int) (by decide) (by decide)))), F120, (V118.other W120 (Ne.symm (zn (zl (zl E1.lt (zt Kq102.1 (Keep.of_wr W106).1)) R116_0)))), ((P116_4.keep Kq118).wr W120), sz_ed116, R116_1⟩) (by decide) (by decide)
theorem ef_18B (m : MethodId) (x0 : Addr) (x1 : Addr) : entryFrame m #[(.ref x0), (.ref x1)] 6 = mkF m 0 #[.val (.ref x0), .val (.ref x1), .unset, .unset, .unset, .unset] [] := by first | (simp [entryFrame, mkF, argsToLocals, Value.category]; done) | rfl
def Q18B (Z : State) (a0 : Addr) (a1 : Addr) (ed : Addr) (ke : ClassId) (y0 : Addr) (m9 : Int32) (m8 : Int32) (ed1 : Addr) (k1 : ClassId) (e1 : Addr) (mr : Addr) (h0 : Heap) (n0 : Nat) (v : Option Value) (h : Heap) (L : List Loc) : Prop := v = some (.int 1) ∧ Fr n0 L ∧ Keep h0 h [a0, ed] ∧ Fld Z h a0 "java/util/AbstractList" "modCount" "I" (.int (m9 + (1 : Int32))) ∧ Fld Z h a0 "java/util/ArrayList" "elementData" "[Ljava/lang/Object;" (.ref ed) ∧ Fld Z h a0 "java/util/ArrayList" "size" "I" (.int 2) ∧ Arv Z h ed ke (.object "java/lang/Object") (10 : Int32) [(.ref y0), (.ref e1), .null, .null, .null, .null, .null, .null, .null, .null] .null
set_option maxHeartbeats 40000000 in
theorem rm18B (l : Launch) (Z : State) (aZ : Array Value) (hw : ∀ d ∈ tables_1, d.before aZ Z = true) (ws : List Jvm.Cond) (a0 : Addr) (a1 : Addr) (ed : Addr) (ke : ClassId) (y0 : Addr) (m9 : Int32) (m8 : Int32) (ed1 : Addr) (k1 : ClassId) (e1 : Addr) (mr : Addr) (h0 : Heap) (n0 : Nat) (Z0 : n0 ≤ h0.size) (E1 : Exa Z h0 a0 "java/util/ArrayList") (F1 : Fld Z h0 a0 "java/util/AbstractList" "modCount" "I" (.int m9)) (F2 : Fld Z h0 a0 "java/util/ArrayList" "elementData" "[Ljava/lang/Object;" (.ref ed)) (F3 : Fld Z h0 a0 "java/util/ArrayList" "size" "I" (.int 1)) (V0 : Arv Z h0 ed ke (.object "java/lang/Object") (10 : Int32) [(.ref y0), .null, .null, .null, .null, .null, .null, .null, .null, .null] .null) (EE : Exa Z h0 ed "[Ljava/lang/Object;") (E1s : Exa Z h0 a1 "java/util/ArrayList") (F1s : Fld Z h0 a1 "java/util/AbstractList" "modCount" "I" (.int m8)) (F2s : Fld Z h0 a1 "java/util/ArrayList" "elementData" "[Ljava/lang/Object;" (.ref ed1)) (F3s : Fld Z h0 a1 "java/util/ArrayList" "size" "I" (.int 1)) (V1 : Arv Z h0 ed1 k1 (.object "java/lang/Object") (10 : Int32) [(.ref e1), .null, .null, .null, .null, .null, .null, .null, .null, .null] .null) (EA : Exa Z h0 ed1 "[Ljava/lang/Object;") (EV : Exa Z h0 e1 "org/counterpath/model/Variable") (hne : a0 ≠ ed) (hM : own_Mr Z "[Ljava/lang/Object;" mr) (hov : Ovr Z ke "java/lang/Object") (g_a0 : n0 ≤ a0) (g_ed : n0 ≤ ed) :
  MetFree l (⟨"java/util/ArrayList", "addAll", "(Ljava/util/Collection;)Z"⟩ : MethodName) (head1 (Jvm.Cond.code (⟨"java/util/ArrayList", "addAll", "(Ljava/util/Collection;)Z"⟩ : MethodName) jdk_38_method_41_code 6 (some .boolean) :: ws) ({ frames := 4, cells := 1, slots := 1, locals := 80 } : Room)) (fun a U => a = #[.ref a0, .ref a1] ∧ Z.Warmed39 U.vm ∧ U.heap = h0) (fun _ _ _ _ _ => True) (fun _ U o U' => ∃ v L, o = .returned v ∧ Q18B Z a0 a1 ed ke y0 m9 m8 ed1 k1 e1 mr h0 n0 v U'.heap L ∧ FrameEnd U o U' L ({ frames := 4, cells := 1, slots := 1, locals := 80 } : Room).cells ({ frames := 4, cells := 1, slots := 1, locals := 80 } : Room).slots) := by
 refine MetFree.of_bodySF (plainFor_of_name pn_10) hisR ?_
 intro p e s m args below meth c s₁ Bd hml0 hP hK
 obtain ⟨rfl, hZ, hh⟩ := hP
 have hx := Bd.exec
 have hby := Bd.bytes
 have hret := Bd.returns
 have hlk : meth.locks = false := BodyLoose.notSynchronized Bd
 have hml : c.maxLocals = 6 := hml0
 have hown : s.vm.findClass "java/util/ArrayList" = some m.cls := findClass_of_methodNamed Bd.named
 have hnm := (name_of_methodNamed Bd.named Bd.method).1
 have X0 : Stand p l e ({ frames := 4, cells := 1, slots := 1, locals := 80 } : Room) s m #[.ref a0, .ref a1] below meth c s₁ [] 0 0 := Stand.of_body Bd
 have e0 : s₁.heap = h0 := by rw [← hh, Bd.state]; rfl
 have N0 := Fr.nil n0
 have K0 : Keep h0 h0 [a0, ed] := Keep.refl _ _
 have pre0 : ∀ t, zs p e below s₁ m 0 (z42 a0 a1) [] t → Steps p.tables e below (s₁.setTop (entryFrame m #[.ref a0, .ref a1] 6)) t := fun t k => castTop (ef_18B m a0 a1) k
 show OFin p e below s (Q18B Z a0 a1 ed ke y0 m9 m8 ed1 k1 e1 mr h0 n0) ({ frames := 4, cells := 1, slots := 1, locals := 80 } : Room).cells ({ frames := 4, cells := 1, slots := 1, locals := 80 } : Room).slots _
 refine OFin.go pre0 ?_
 have sg101 : zg p e below s₁ m 1 (z42 a0 a1) [.ref a1] 0 (z42 a0 a1) [] := by
  intro t k
  refine XS.aloadN X0.here hx rfl (hb hby d18_0) rfl rfl ?_
  exact k
 refine OFin.go sg101 ?_
 obtain ⟨cq102, kq102, q102a, q102b, q102c⟩ := isOf hZ e0 E1s
 obtain ⟨_, _, ⟨T102, L102, k102, n102⟩, -, X102, ⟨Lc102, hQ102, l102, y102, z102⟩, st102⟩ := X0.interfaceBack hx (xi := (⟨"java/util/Collection", "toArray", "()[Ljava/lang/Object;"⟩ : MethodName)) (y := (⟨"java/util/ArrayList", "toArray", "()[Ljava/lang/Object;"⟩ : MethodName)) hown (mvT hZ (zw hw 140 rfl)) (mvT hZ (zw hw 141 rfl)) (mvT hZ (zw hw 142 rfl)) (mvT hZ (zw hw 143 rfl)) (mvT hZ (zw hw 144 rfl)) (mvT hZ (zw hw 145 rfl)) (mvT hZ (zw hw 146 rfl)) (mvT hZ (zw hw 147 rfl)) (by decide) (backOf (W := 0) (rm19 l Z aZ hw [] a1 ed1 k1 e1 mr h0 n0 (zt Z0 K0.1) F2s F3s V1 EA EV hM) hZ (zw hw 148 rfl) (zw hw 47 rfl) (by decide) (by decide)) q102a q102b q102c (g := (mkF m 1 (z42 a0 a1) [.ref a1])) rfl (by rw [hml]; rfl) (Steps.refl _) (argsL := []) (rest := []) (lenOf pd_5 rfl) rfl (by show 2 * 0 + _ ≤ _; exact ze rfl) (hb hby d18_1) (fun _ _ => ⟨rfl, e0, (by decide : 0 + 1 ≤ _), (by decide : 0 + 1 ≤ _)⟩)
 dsimp only [Pt.U, Pt.locs, Pt.cells, Pt.slots] at X102 l102 y102 z102 st102 hQ102
 rw [l102, y102, z102] at X102
 obtain ⟨b9102, kb102, rfl, N102q, Kq102, P102_0, R102_0⟩ := hQ102
 have N102 := Fr.app N0 N102q
 refine OFin.tr st102 ?_
 have K102 : Keep h0 T102.heap [a0, ed] := K0.trans Kq102 all0
 have g_b9102 : n0 ≤ b9102 := zt (zt Z0 K0.1) R102_0
 have sz_b9102 : h0.size ≤ b9102 := zt K0.1 R102_0
 have sg103 : zg p e below T102 m 9 (z13 a0 a1 b9102) [.ref a0, .ref a0] 6 (z42 a0 a1) [.ref b9102] := by
  intro t k
  refine XS.astoreN X102.here hx rfl (hb hby d18_6) rfl rfl (l' := (z13 a0 a1 b9102)) rfl ?_
  show zs p e below T102 m 7 (z13 a0 a1 b9102) [] t
  refine XS.aloadN X102.here hx rfl (hb hby d18_7) rfl rfl ?_
  show zs p e below T102 m 8 (z13 a0 a1 b9102) [.ref a0] t
  refine XS.dup X102.here hx rfl (hb hby d18_8) rfl rfl ?_
  exact k
 refine OFin.go sg103 ?_
 obtain ⟨T104, X104, e104, st104⟩ := getF X102 hx hZ hown (host := "") (Or.inl (zw hw 78 rfl)) (Via.of (zw hw 79 rfl)) rfl (F1.keep Kq102 nin0) (g := (mkF m 9 (z13 a0 a1 b9102) [.ref a0, .ref a0])) rfl rfl (hb hby d18_9)
 refine OFin.go st104 ?_
 have sg105 : zg p e below T104 m 14 (z13 a0 a1 b9102) [.int (m9 + (1 : Int32)), .ref a0] 12 (z13 a0 a1 b9102) [.int m9, .ref a0] := by
  intro t k
  refine XS.iconst X104.here hx rfl (hb hby d18_12) ?_
  show zs p e below T104 m 13 (z13 a0 a1 b9102) [.int 1, .int m9, .ref a0] t
  refine XS.iadd X104.here hx rfl (hb hby d18_13) rfl ?_
  exact k
 refine OFin.go sg105 ?_
 obtain ⟨T106, h106, X106, e106, W106, st106⟩ := putF X104 hx hZ hown (host := "") (Or.inl (zw hw 78 rfl)) (Via.of (zw hw 79 rfl)) e104 (F1.keep Kq102 nin0) (E1.keep Kq102) (Or.inl (zw hw 65 rfl)) (zw hw 46 rfl) (ty := .int) (by decide) rfl rfl (g := (mkF m 14 (z13 a0 a1 b9102) [.int (m9 + (1 : Int32)), .ref a0])) rfl rfl (hb hby d18_14)
 refine OFin.go st106 ?_
 have F106 := (F1.keep Kq102 nin0).same W106
 have K106 : Keep h0 h106 [a0, ed] := K102.wr W106 (Or.inl (List.mem_of_getElem? (i := 0) rfl))
 have N106 := Fr.snoc X106 N102 g_a0
 have sg107 : zg p e below T106 m 18 (z13 a0 a1 b9102) [.ref b9102] 17 (z13 a0 a1 b9102) [] := by
  intro t k
  refine XS.aloadN X106.here hx rfl (hb hby d18_17) rfl rfl ?_
  exact k
 refine OFin.go sg107 ?_
 obtain ⟨cl108, Ar108, q108, S108, M108, H108, G108⟩ := id (P102_0.other W106 (Ne.symm (zn (zl E1.lt R102_0))))
 have sg109 : zg p e below T106 m 28 (z23 a0 a1 b9102 1) [.ref a0, .int 1] 18 (z13 a0 a1 b9102) [.ref b9102] := by
  intro t k
  refine X106.arraylength hx (by rw [e106]; exact Ar108.1) (State.isArrayOf_alike hZ.alike Ar108.2.1) (g := (mkF m 18 (z13 a0 a1 b9102) [.ref b9102])) rfl rfl (hb hby d18_18) _ ?_
  rw [len_of S108 M108]
  show zs p e below T106 m 19 (z13 a0 a1 b9102) [.int 1] t
  refine XS.istoreN X106.here hx rfl (hb hby d18_19) rfl (l' := (z23 a0 a1 b9102 1)) rfl ?_
  show zs p e below T106 m 20 (z23 a0 a1 b9102 1) [] t
  refine XS.iloadN X106.here hx rfl (hb hby d18_20) rfl ?_
  show zs p e below T106 m 21 (z23 a0 a1 b9102 1) [.int 1] t
  refine XS.ifYes X106.here hx rfl (pc0 := 21) (pc' := 26) rfl (hb hby d18_21) rfl ((if0 _ _).trans (feq (by decide : ¬ ((1 : Int32) = (0 : Int32)))).2) (by decide) (by decide) ?_
  show zs p e below T106 m 26 (z23 a0 a1 b9102 1) [] t
  refine XS.iloadN X106.here hx rfl (hb hby d18_26) rfl ?_
  show zs p e below T106 m 27 (z23 a0 a1 b9102 1) [.int 1] t
  refine XS.aloadN X106.here hx rfl (hb hby d18_27) rfl rfl ?_
  exact k
 refine OFin.go sg109 ?_
 obtain ⟨T110, X110, e110, st110⟩ := getF X106 hx hZ hown (host := "") (Or.inl (zw hw 67 rfl)) Via.refl e106 ((F2.keep Kq102 nin0).other W106 (Or.inr (slot_ne (Or.inl (zw hw 68 rfl)) (Or.inl (zw hw 65 rfl)) (by decide) (t := (.array (.object "java/lang/Object"))) (t' := .int) (by decide) (by decide)))) (g := (mkF m 28 (z23 a0 a1 b9102 1) [.ref a0, .int 1])) rfl rfl (hb hby d18_28)
 refine OFin.go st110 ?_
 have sg111 : zg p e below T110 m 34 (z24 a0 a1 b9102 1 ed) [.ref ed, .int 1] 31 (z23 a0 a1 b9102 1) [.ref ed, .int 1] := by
  intro t k
  refine XS.dup X110.here hx rfl (hb hby d18_31) rfl rfl ?_
  show zs p e below T110 m 32 (z23 a0 a1 b9102 1) [.ref ed, .ref ed, .int 1] t
  refine XS.astore X110.here hx rfl (hb hby d18_32) rfl rfl (l' := (z24 a0 a1 b9102 1 ed)) rfl ?_
  exact k
 refine OFin.go sg111 ?_
 obtain ⟨cl112, Ar112, q112, S112, M112, H112, G112⟩ := id ((V0.keep Kq102 nin0).other W106 (Ne.symm hne))
 have sg113 : zg p e below T110 m 36 (z24 a0 a1 b9102 1 ed) [.ref a0, .int 10, .int 1] 34 (z24 a0 a1 b9102 1 ed) [.ref ed, .int 1] := by
  intro t k
  refine X110.arraylength hx (by rw [e110]; exact Ar112.1) (State.isArrayOf_alike hZ.alike Ar112.2.1) (g := (mkF m 34 (z24 a0 a1 b9102 1 ed) [.ref ed, .int 1])) rfl rfl (hb hby d18_34) _ ?_
  rw [len_of S112 M112]
  show zs p e below T110 m 35 (z24 a0 a1 b9102 1 ed) [.int 10, .int 1] t
  refine XS.aloadN X110.here hx rfl (hb hby d18_35) rfl rfl ?_
  exact k
 refine OFin.go sg113 ?_
 obtain ⟨T114, X114, e114, st114⟩ := getF X110 hx hZ hown (host := "") (Or.inl (zw hw 80 rfl)) Via.refl e110 ((F3.keep Kq102 nin0).other W106 (Or.inr (slot_ne (Or.inl (zw hw 81 rfl)) (Or.inl (zw hw 65 rfl)) (by decide) (t := .int) (t' := .int) (by decide) (by decide)))) (g := (mkF m 36 (z24 a0 a1 b9102 1 ed) [.ref a0, .int 10, .int 1])) rfl rfl (hb hby d18_36)
 refine OFin.go st114 ?_
 have sg115 : zg p e below T114 m 63 (z10 a0 a1 b9102 1 ed 1) [.int 1, .int 1, .ref ed, .int 0, .ref b9102] 39 (z24 a0 a1 b9102 1 ed) [.int 1, .int 10, .int 1] := by
  intro t k
  refine XS.dup X114.here hx rfl (hb hby d18_39) rfl rfl ?_
  show zs p e below T114 m 40 (z24 a0 a1 b9102 1 ed) [.int 1, .int 1, .int 10, .int 1] t
  refine XS.istore X114.here hx rfl (hb hby d18_40) rfl (l' := (z10 a0 a1 b9102 1 ed 1)) rfl ?_
  show zs p e below T114 m 42 (z10 a0 a1 b9102 1 ed 1) [.int 1, .int 10, .int 1] t
  refine XS.isub X114.here hx rfl (hb hby d18_42) rfl ?_
  show zs p e below T114 m 43 (z10 a0 a1 b9102 1 ed 1) [.int 9, .int 1] t
  refine XS.icmpYes X114.here hx rfl (pc0 := 43) (pc' := 56) rfl (hb hby d18_43) rfl (flt (by decide : ¬ ((9 : Int32) < (1 : Int32)))).2.2.2 (by decide) (by decide) ?_
  show zs p e below T114 m 56 (z10 a0 a1 b9102 1 ed 1) [] t
  refine XS.aloadN X114.here hx rfl (hb hby d18_56) rfl rfl ?_
  show zs p e below T114 m 57 (z10 a0 a1 b9102 1 ed 1) [.ref b9102] t
  refine XS.iconst X114.here hx rfl (hb hby d18_57) ?_
  show zs p e below T114 m 58 (z10 a0 a1 b9102 1 ed 1) [.int 0, .ref b9102] t
  refine XS.aload X114.here hx rfl (hb hby d18_58) rfl rfl ?_
  show zs p e below T114 m 60 (z10 a0 a1 b9102 1 ed 1) [.ref ed, .int 0, .ref b9102] t
  refine XS.iload X114.here hx rfl (hb hby d18_60) rfl ?_
  show zs p e below T114 m 62 (z10 a0 a1 b9102 1 ed 1) [.int 1, .ref ed, .int 0, .ref b9102] t
  refine XS.iloadN X114.here hx rfl (hb hby d18_62) rfl ?_
  exact k
 refine OFin.go sg115 ?_
 obtain ⟨cl116, Ar116, q116, -, -, -, -⟩ := id ((V0.keep Kq102 nin0).other W106 (Ne.symm hne))
 obtain ⟨T116, h116, L116, X116, e116, N116, Kq116, V116, st116⟩ := cpA X114 hx hZ hown (zw hw 171 rfl) (zw hw 170 rfl) (zw hw 168 rfl) (zw hw 169 rfl) e114 (us := [.ref e1]) (P102_0.other W106 (Ne.symm (zn (zl E1.lt R102_0)))) ((V0.keep Kq102 nin0).other W106 (Ne.symm hne)) (Or.inr ⟨rfl, rfl, ⟨Sto.ofV Ar116 q116 hov (Ins.of_exa ((EV.keep Kq102).wr W106) (zw hw 102 rfl)), trivial⟩⟩) (by first | decide | (show _ ≤ (10 : Nat); decide)) (by first | decide | (show _ ≤ (10 : Nat); decide)) (by first | decide | (show _ ≤ (10 : Nat); decide)) (by first | decide | (show _ ≤ (10 : Nat); decide)) (by first | decide | (show _ ≤ (10 : Nat); decide)) rfl (by first | decide | (show _ ≤ (10 : Nat); decide)) N106 g_ed (g := (mkF m 63 (z10 a0 a1 b9102 1 ed 1) [.int 1, .int 1, .ref ed, .int 0, .ref b9102])) rfl (by rw [hml]; rfl) rfl (hb hby d18_63) (by decide) (W := 0) (by show 2 * 0 + _ ≤ _; exact ze rfl) (by decide)
 have V116 : Arv Z h116 ed ke (.object "java/lang/Object") (10 : Int32) [(.ref y0), (.ref e1), .null, .null, .null, .null, .null, .null, .null, .null] .null := V116
 refine OFin.go st116 ?_
 have K116 : Keep h0 h116 [a0, ed] := K106.trans Kq116 (allS (Or.inl (List.mem_of_getElem? (i := 1) rfl)) all0)
 have sg117 : zg p e below T116 m 71 (z10 a0 a1 b9102 1 ed 1) [.int 2, .ref a0] 66 (z10 a0 a1 b9102 1 ed 1) [] := by
  intro t k
  refine XS.aloadN X116.here hx rfl (hb hby d18_66) rfl rfl ?_
  show zs p e below T116 m 67 (z10 a0 a1 b9102 1 ed 1) [.ref a0] t
  refine XS.iload X116.here hx rfl (hb hby d18_67) rfl ?_
  show zs p e below T116 m 69 (z10 a0 a1 b9102 1 ed 1) [.int 1, .ref a0] t
  refine XS.iloadN X116.here hx rfl (hb hby d18_69) rfl ?_
  show zs p e below T116 m 70 (z10 a0 a1 b9102 1 ed 1) [.int 1, .int 1, .ref a0] t
  refine XS.iadd X116.here hx rfl (hb hby d18_70) rfl ?_
  exact k
 refine OFin.go sg117 ?_
 obtain ⟨T118, h118, X118, e118, W118, st118⟩ := putF X116 hx hZ hown (host := "") (Or.inl (zw hw 80 rfl)) Via.refl e116 (((F3.keep Kq102 nin0).other W106 (Or.inr (slot_ne (Or.inl (zw hw 81 rfl)) (Or.inl (zw hw 65 rfl)) (by decide) (t := .int) (t' := .int) (by decide) (by decide)))).keep Kq116 (ninS hne nin0)) (((E1.keep Kq102).wr W106).keep Kq116) (Or.inl (zw hw 81 rfl)) (zw hw 46 rfl) (ty := .int) (by decide) rfl rfl (g := (mkF m 71 (z10 a0 a1 b9102 1 ed 1) [.int 2, .ref a0])) rfl rfl (hb hby d18_71)
 refine OFin.go st118 ?_
 have F118 := (((F3.keep Kq102 nin0).other W106 (Or.inr (slot_ne (Or.inl (zw hw 81 rfl)) (Or.inl (zw hw 65 rfl)) (by decide) (t := .int) (t' := .int) (by decide) (by decide)))).keep Kq116 (ninS hne nin0)).same W118
 have K118 : Keep h0 h118 [a0, ed] := K116.wr W118 (Or.inl (List.mem_of_getElem? (i := 0) rfl))
 have N118 := Fr.snoc X118 N116 g_a0
 have sg119 : zg p e below T118 m 75 (z10 a0 a1 b9102 1 ed 1) [.int 1] 74 (z10 a0 a1 b9102 1 ed 1) [] := by
  intro t k
  refine XS.iconst X118.here hx rfl (hb hby d18_74) ?_
  exact k
 refine OFin.go sg119 ?_
 exact OFin.retN X118 hx hret (by simp) hlk (hb hby d18_75) rfl (by rw [e118]; exact ⟨rfl, N118, K118, ((F106.keep Kq116 (ninS hne nin0)).other W118 (Or.inr (slot_ne (Or.inl (zw hw 65 rfl)) (Or.inl (zw hw 81 rfl)) (by decide) (t := .int) (t' := .int) (by decide) (by decide)))), ((((F2.keep Kq102 nin0).other W106 (Or.inr (slot_ne (Or.inl (zw hw 68 rfl)) (Or.inl (zw hw 65 rfl)) (by decide) (t := (.array (.object "java/lang/Object"))) (t' := .int) (by decide) (by decide)))).keep Kq116 (ninS hne nin0)).other W118 (Or.inr (slot_ne (Or.inl (zw hw 68 rfl)) (Or.inl (zw hw 81 rfl)) (by decide) (t := (.array (.object "java/lang/Object"))) (t' := .int) (by decide) (by decide)))), F118, (V116.other W118 (Ne.symm hne))⟩) (by decide) (by decide)
theorem d23_0 : decode jdk_38_method_8_code 0 = .ok (.aload_n 0, 1) := by decide +kernel
theorem d23_1 : decode jdk_38_method_8_code 1 = .ok (.getfield 48, 3) := by decide +kernel
theorem d23_4 : decode jdk_38_method_8_code 4 = .ok (.ireturn, 1) := by decide +kernel
theorem ef_23 (m : MethodId) (x0 : Addr) : entryFrame m #[(.ref x0)] 1 = mkF m 0 #[.val (.ref x0)] [] := by first | (simp [entryFrame, mkF, argsToLocals, Value.category]; done) | rfl
def Q23 (Z : State) (a0 : Addr) (w9 : Int32) (h0 : Heap) (n0 : Nat) (v : Option Value) (h : Heap) (L : List Loc) : Prop := v = some (.int w9) ∧ Fr n0 L ∧ h = h0
set_option maxHeartbeats 40000000 in
theorem rm23 (l : Launch) (Z : State) (aZ : Array Value) (hw : ∀ d ∈ tables_1, d.before aZ Z = true) (ws : List Jvm.Cond) (a0 : Addr) (w9 : Int32) (h0 : Heap) (n0 : Nat) (Z0 : n0 ≤ h0.size) (F3 : Fld Z h0 a0 "java/util/ArrayList" "size" "I" (.int w9)) :
  MetFree l (⟨"java/util/ArrayList", "size", "()I"⟩ : MethodName) (head1 (Jvm.Cond.code (⟨"java/util/ArrayList", "size", "()I"⟩ : MethodName) jdk_38_method_8_code 1 (some .int) :: ws) ({ frames := 0, cells := 0, slots := 0, locals := 0 } : Room)) (fun a U => a = #[.ref a0] ∧ Z.Warmed39 U.vm ∧ U.heap = h0) (fun _ _ _ _ _ => True) (fun _ U o U' => ∃ v L, o = .returned v ∧ Q23 Z a0 w9 h0 n0 v U'.heap L ∧ FrameEnd U o U' L ({ frames := 0, cells := 0, slots := 0, locals := 0 } : Room).cells ({ frames := 0, cells := 0, slots := 0, locals := 0 } : Room).slots) := by
 refine MetFree.of_bodySF (plainFor_of_name pn_10) hisR ?_
 intro p e s m args below meth c s₁ Bd hml0 hP hK
 obtain ⟨rfl, hZ, hh⟩ := hP
 have hx := Bd.exec
 have hby := Bd.bytes
 have hret := Bd.returns
 have hlk : meth.locks = false := BodyLoose.notSynchronized Bd
 have hml : c.maxLocals = 1 := hml0
 have hown : s.vm.findClass "java/util/ArrayList" = some m.cls := findClass_of_methodNamed Bd.named
 have hnm := (name_of_methodNamed Bd.named Bd.method).1
 have X0 : Stand p l e ({ frames := 0, cells := 0, slots := 0, locals := 0 } : Room) s m #[.ref a0] below meth c s₁ [] 0 0 := Stand.of_body Bd
 have e0 : s₁.heap = h0 := by rw [← hh, Bd.state]; rfl
 have N0 := Fr.nil n0
 have K0 : Keep h0 h0 [] := Keep.refl _ _
 have pre0 : ∀ t, zs p e below s₁ m 0 #[.val (.ref a0)] [] t → Steps p.tables e below (s₁.setTop (entryFrame m #[.ref a0] 1)) t := fun t k => castTop (ef_23 m a0) k
 show OFin p e below s (Q23 Z a0 w9 h0 n0) ({ frames := 0, cells := 0, slots := 0, locals := 0 } : Room).cells ({ frames := 0, cells := 0, slots := 0, locals := 0 } : Room).slots _
 refine OFin.go pre0 ?_
 have sg101 : zg p e below s₁ m 1 #[.val (.ref a0)] [.ref a0] 0 #[.val (.ref a0)] [] := by
  intro t k
  refine XS.aloadN X0.here hx rfl (hb hby d23_0) rfl rfl ?_
  exact k
 refine OFin.go sg101 ?_
 obtain ⟨T102, X102, e102, st102⟩ := getF X0 hx hZ hown (host := "") (Or.inl (zw hw 80 rfl)) Via.refl e0 F3 (g := (mkF m 1 #[.val (.ref a0)] [.ref a0])) rfl rfl (hb hby d23_1)
 refine OFin.go st102 ?_
 exact OFin.retI X102 hx hret hlk (hb hby d23_4) (by rw [e102]; exact ⟨rfl, N0, rfl⟩) (by decide) (by decide)
theorem d26_0 : decode jdk_41_method_11_code 0 = .ok (.iload_n 0, 1) := by decide +kernel
theorem d26_1 : decode jdk_41_method_11_code 1 = .ok (.ifCond .lt 8, 3) := by decide +kernel
theorem d26_4 : decode jdk_41_method_11_code 4 = .ok (.iload_n 0, 1) := by decide +kernel
theorem d26_5 : decode jdk_41_method_11_code 5 = .ok (.iload_n 1, 1) := by decide +kernel
theorem d26_6 : decode jdk_41_method_11_code 6 = .ok (.if_icmp .lt 10, 3) := by decide +kernel
theorem d26_9 : decode jdk_41_method_11_code 9 = .ok (.aload_n 2, 1) := by decide +kernel
theorem d26_10 : decode jdk_41_method_11_code 10 = .ok (.iload_n 0, 1) := by decide +kernel
theorem d26_11 : decode jdk_41_method_11_code 11 = .ok (.iload_n 1, 1) := by decide +kernel
theorem d26_12 : decode jdk_41_method_11_code 12 = .ok (.invokestatic 95, 3) := by decide +kernel
theorem d26_15 : decode jdk_41_method_11_code 15 = .ok (.athrow, 1) := by decide +kernel
theorem d26_16 : decode jdk_41_method_11_code 16 = .ok (.iload_n 0, 1) := by decide +kernel
theorem d26_17 : decode jdk_41_method_11_code 17 = .ok (.ireturn, 1) := by decide +kernel
theorem pn_12 : plainName "jdk/internal/util/Preconditions" = true := by first | (simp [plainName, overriddenIn]; done) | decide +kernel
theorem ef_26 (m : MethodId) (x0 : Int32) (x1 : Int32) : entryFrame m #[(.int x0), (.int x1), .null] 3 = mkF m 0 #[.val (.int x0), .val (.int x1), .val .null] [] := by first | (simp [entryFrame, mkF, argsToLocals, Value.category]; done) | rfl
def Q26 (Z : State) (q0 : Int32) (q1 : Int32) (h0 : Heap) (n0 : Nat) (v : Option Value) (h : Heap) (L : List Loc) : Prop := v = some (.int q0) ∧ Fr n0 L ∧ h = h0
set_option maxHeartbeats 40000000 in
theorem rm26 (l : Launch) (Z : State) (aZ : Array Value) (hw : ∀ d ∈ tables_1, d.before aZ Z = true) (ws : List Jvm.Cond) (q0 : Int32) (q1 : Int32) (h0 : Heap) (n0 : Nat) (Z0 : n0 ≤ h0.size) (hi0 : ¬ (q0 < (0 : Int32))) (hi1 : q0 < q1) :
  MetFree l (⟨"jdk/internal/util/Preconditions", "checkIndex", "(IILjava/util/function/BiFunction;)I"⟩ : MethodName) (head1 (Jvm.Cond.code (⟨"jdk/internal/util/Preconditions", "checkIndex", "(IILjava/util/function/BiFunction;)I"⟩ : MethodName) jdk_41_method_11_code 3 (some .int) :: ws) ({ frames := 0, cells := 0, slots := 0, locals := 0 } : Room)) (fun a U => a = #[(.int q0), (.int q1), .null] ∧ Z.Warmed39 U.vm ∧ U.heap = h0) (fun _ _ _ _ _ => True) (fun _ U o U' => ∃ v L, o = .returned v ∧ Q26 Z q0 q1 h0 n0 v U'.heap L ∧ FrameEnd U o U' L ({ frames := 0, cells := 0, slots := 0, locals := 0 } : Room).cells ({ frames := 0, cells := 0, slots := 0, locals := 0 } : Room).slots) := by
 refine MetFree.of_bodySF (plainFor_of_name pn_12) hisR ?_
 intro p e s m args below meth c s₁ Bd hml0 hP hK
 obtain ⟨rfl, hZ, hh⟩ := hP
 have hx := Bd.exec
 have hby := Bd.bytes
 have hret := Bd.returns
 have hlk : meth.locks = false := BodyLoose.notSynchronized Bd
 have hml : c.maxLocals = 3 := hml0
 have hown : s.vm.findClass "jdk/internal/util/Preconditions" = some m.cls := findClass_of_methodNamed Bd.named
 have hnm := (name_of_methodNamed Bd.named Bd.method).1
 have X0 : Stand p l e ({ frames := 0, cells := 0, slots := 0, locals := 0 } : Room) s m #[(.int q0), (.int q1), .null] below meth c s₁ [] 0 0 := Stand.of_body Bd
 have e0 : s₁.heap = h0 := by rw [← hh, Bd.state]; rfl
 have N0 := Fr.nil n0
 have K0 : Keep h0 h0 [] := Keep.refl _ _
 have pre0 : ∀ t, zs p e below s₁ m 0 #[.val (.int q0), .val (.int q1), .val .null] [] t → Steps p.tables e below (s₁.setTop (entryFrame m #[(.int q0), (.int q1), .null] 3)) t := fun t k => castTop (ef_26 m q0 q1) k
 show OFin p e below s (Q26 Z q0 q1 h0 n0) ({ frames := 0, cells := 0, slots := 0, locals := 0 } : Room).cells ({ frames := 0, cells := 0, slots := 0, locals := 0 } : Room).slots _
 refine OFin.go pre0 ?_
 have sg102 : zg p e below s₁ m 1 #[.val (.int q0), .val (.int q1), .val .null] [.int q0] 0 #[.val (.int q0), .val (.int q1), .val .null] [] := by
  intro t k
  refine XS.iloadN X0.here hx rfl (hb hby d26_0) rfl ?_
  exact k
 refine OFin.go sg102 ?_
 have c101 : ¬ (q0 < (0 : Int32)) := hi0
 have sg104 : zg p e below s₁ m 6 #[.val (.int q0), .val (.int q1), .val .null] [.int q1, .int q0] 1 #[.val (.int q0), .val (.int q1), .val .null] [.int q0] := by
  intro t k
  refine XS.ifNo X0.here hx rfl (hb hby d26_1) rfl ((if0 _ _).trans (flt c101).1) ?_
  show zs p e below s₁ m 4 #[.val (.int q0), .val (.int q1), .val .null] [] t
  refine XS.iloadN X0.here hx rfl (hb hby d26_4) rfl ?_
  show zs p e below s₁ m 5 #[.val (.int q0), .val (.int q1), .val .null] [.int q0] t
  refine XS.iloadN X0.here hx rfl (hb hby d26_5) rfl ?_
  exact k
 refine OFin.go sg104 ?_
 have c103 : q0 < q1 := hi1
 have sg105 : zg p e below s₁ m 17 #[.val (.int q0), .val (.int q1), .val .null] [.int q0] 6 #[.val (.int q0), .val (.int q1), .val .null] [.int q1, .int q0] := by
  intro t k
  refine XS.icmpYes X0.here hx rfl (pc0 := 6) (pc' := 16) rfl (hb hby d26_6) rfl (tlt c103).1 (by decide) (by decide) ?_
  show zs p e below s₁ m 16 #[.val (.int q0), .val (.int q1), .val .null] [] t
  refine XS.iloadN X0.here hx rfl (hb hby d26_16) rfl ?_
  exact k
 refine OFin.go sg105 ?_
 exact OFin.retI X0 hx hret hlk (hb hby d26_17) (by rw [e0]; exact ⟨rfl, N0, rfl⟩) (by decide) (by decide)
theorem d25_0 : decode jdk_31_method_17_code 0 = .ok (.iload_n 0, 1) := by decide +kernel
theorem d25_1 : decode jdk_31_method_17_code 1 = .ok (.iload_n 1, 1) := by decide +kernel
theorem d25_2 : decode jdk_31_method_17_code 2 = .ok (.aconst_null, 1) := by decide +kernel
theorem d25_3 : decode jdk_31_method_17_code 3 = .ok (.invokestatic 105, 3) := by decide +kernel
theorem d25_6 : decode jdk_31_method_17_code 6 = .ok (.ireturn, 1) := by decide +kernel
theorem pn_13 : plainName "java/util/Objects" = true := by first | (simp [plainName, overriddenIn]; done) | decide +kernel
theorem pd_9 : parseMethodDescriptor "(IILjava/util/function/BiFunction;)I" = some ⟨[.int, .int, (.object "java/util/function/BiFunction")], some .int⟩ := by decide +kernel
theorem ef_25 (m : MethodId) (x0 : Int32) (x1 : Int32) : entryFrame m #[(.int x0), (.int x1)] 2 = mkF m 0 #[.val (.int x0), .val (.int x1)] [] := by first | (simp [entryFrame, mkF, argsToLocals, Value.category]; done) | rfl
def Q25 (Z : State) (q0 : Int32) (q1 : Int32) (h0 : Heap) (n0 : Nat) (v : Option Value) (h : Heap) (L : List Loc) : Prop := v = some (.int q0) ∧ Fr n0 L ∧ h = h0
set_option maxHeartbeats 40000000 in
theorem rm25 (l : Launch) (Z : State) (aZ : Array Value) (hw : ∀ d ∈ tables_1, d.before aZ Z = true) (ws : List Jvm.Cond) (q0 : Int32) (q1 : Int32) (h0 : Heap) (n0 : Nat) (Z0 : n0 ≤ h0.size) (hi0 : ¬ (q0 < (0 : Int32))) (hi1 : q0 < q1) :
  MetFree l (⟨"java/util/Objects", "checkIndex", "(II)I"⟩ : MethodName) (head1 (Jvm.Cond.code (⟨"java/util/Objects", "checkIndex", "(II)I"⟩ : MethodName) jdk_31_method_17_code 2 (some .int) :: ws) ({ frames := 1, cells := 0, slots := 0, locals := 14 } : Room)) (fun a U => a = #[.int q0, .int q1] ∧ Z.Warmed39 U.vm ∧ U.heap = h0) (fun _ _ _ _ _ => True) (fun _ U o U' => ∃ v L, o = .returned v ∧ Q25 Z q0 q1 h0 n0 v U'.heap L ∧ FrameEnd U o U' L ({ frames := 1, cells := 0, slots := 0, locals := 14 } : Room).cells ({ frames := 1, cells := 0, slots := 0, locals := 14 } : Room).slots) := by
 refine MetFree.of_bodySF (plainFor_of_name pn_13) hisR ?_
 intro p e s m args below meth c s₁ Bd hml0 hP hK
 obtain ⟨rfl, hZ, hh⟩ := hP
 have hx := Bd.exec
 have hby := Bd.bytes
 have hret := Bd.returns
 have hlk : meth.locks = false := BodyLoose.notSynchronized Bd
 have hml : c.maxLocals = 2 := hml0
 have hown : s.vm.findClass "java/util/Objects" = some m.cls := findClass_of_methodNamed Bd.named
 have hnm := (name_of_methodNamed Bd.named Bd.method).1
 have X0 : Stand p l e ({ frames := 1, cells := 0, slots := 0, locals := 14 } : Room) s m #[.int q0, .int q1] below meth c s₁ [] 0 0 := Stand.of_body Bd
 have e0 : s₁.heap = h0 := by rw [← hh, Bd.state]; rfl
 have N0 := Fr.nil n0
 have K0 : Keep h0 h0 [] := Keep.refl _ _
 have pre0 : ∀ t, zs p e below s₁ m 0 (z0 q0 q1) [] t → Steps p.tables e below (s₁.setTop (entryFrame m #[.int q0, .int q1] 2)) t := fun t k => castTop (ef_25 m q0 q1) k
 show OFin p e below s (Q25 Z q0 q1 h0 n0) ({ frames := 1, cells := 0, slots := 0, locals := 14 } : Room).cells ({ frames := 1, cells := 0, slots := 0, locals := 14 } : Room).slots _
 refine OFin.go pre0 ?_
 have sg101 : zg p e below s₁ m 3 (z0 q0 q1) [.null, (.int q1), (.int q0)] 0 (z0 q0 q1) [] := by
  intro t k
  refine XS.iloadN X0.here hx rfl (hb hby d25_0) rfl ?_
  show zs p e below s₁ m 1 (z0 q0 q1) [.int q0] t
  refine XS.iloadN X0.here hx rfl (hb hby d25_1) rfl ?_
  show zs p e below s₁ m 2 (z0 q0 q1) [.int q1, .int q0] t
  refine XS.aconstNull X0.here hx rfl (hb hby d25_2) ?_
  exact k
 refine OFin.go sg101 ?_
 obtain ⟨_, _, ⟨T102, L102, k102, n102⟩, -, X102, ⟨Lc102, hQ102, l102, y102, z102⟩, st102⟩ := Jvm.LawKit.callS X0 hx (y := (⟨"jdk/internal/util/Preconditions", "checkIndex", "(IILjava/util/function/BiFunction;)I"⟩ : MethodName)) hown (mvT hZ (zw hw 204 rfl)) (mvT hZ (zw hw 205 rfl)) (mvT hZ (zw hw 206 rfl)) (mvT hZ (zw hw 207 rfl)) (by decide) (backOf (W := 0) (rm26 l Z aZ hw [] q0 q1 h0 n0 (zt Z0 K0.1) hi0 hi1) hZ (zw hw 207 rfl) (zw hw 206 rfl) (by decide) (by decide)) (g := (mkF m 3 (z0 q0 q1) [.null, (.int q1), (.int q0)])) rfl (by rw [hml]; rfl) (argsL := [(.int q0), (.int q1), .null]) (rest := []) (lenOf pd_9 rfl) rfl (by show 2 * 0 + _ ≤ _; exact ze rfl) (hb hby d25_3) (fun _ _ => ⟨rfl, e0, (by decide : 0 + 0 ≤ _), (by decide : 0 + 0 ≤ _)⟩)
 dsimp only [Pt.U, Pt.locs, Pt.cells, Pt.slots] at X102 l102 y102 z102 st102 hQ102
 rw [l102, y102, z102] at X102
 obtain ⟨rfl, N102q, e102⟩ := hQ102
 have N102 := Fr.app N0 N102q
 refine OFin.go st102 ?_
 exact OFin.retI X102 hx hret hlk (hb hby d25_6) (by rw [e102]; exact ⟨rfl, N102, rfl⟩) (by decide) (by decide)
theorem d27_0 : decode jdk_38_method_18_code 0 = .ok (.aload_n 0, 1) := by decide +kernel
theorem d27_1 : decode jdk_38_method_18_code 1 = .ok (.getfield 9, 3) := by decide +kernel
theorem d27_4 : decode jdk_38_method_18_code 4 = .ok (.iload_n 1, 1) := by decide +kernel
theorem d27_5 : decode jdk_38_method_18_code 5 = .ok (.aaload, 1) := by decide +kernel
theorem d27_6 : decode jdk_38_method_18_code 6 = .ok (.areturn, 1) := by decide +kernel
theorem ef_27i0 (m : MethodId) (x0 : Addr) (x1 : Int32) : entryFrame m #[(.ref x0), (.int x1)] 2 = mkF m 0 #[.val (.ref x0), .val (.int x1)] [] := by first | (simp [entryFrame, mkF, argsToLocals, Value.category]; done) | rfl
def Q27i0 (Z : State) (a0 : Addr) (ed : Addr) (ke : ClassId) (y0 : Addr) (e1 : Addr) (h0 : Heap) (n0 : Nat) (v : Option Value) (h : Heap) (L : List Loc) : Prop := v = some (.ref y0) ∧ Fr n0 L ∧ h = h0
set_option maxHeartbeats 40000000 in
theorem rm27i0 (l : Launch) (Z : State) (aZ : Array Value) (hw : ∀ d ∈ tables_1, d.before aZ Z = true) (ws : List Jvm.Cond) (a0 : Addr) (ed : Addr) (ke : ClassId) (y0 : Addr) (e1 : Addr) (h0 : Heap) (n0 : Nat) (Z0 : n0 ≤ h0.size) (E1 : Exa Z h0 a0 "java/util/ArrayList") (F2 : Fld Z h0 a0 "java/util/ArrayList" "elementData" "[Ljava/lang/Object;" (.ref ed)) (V0 : Arv Z h0 ed ke (.object "java/lang/Object") (10 : Int32) [(.ref y0), (.ref e1), .null, .null, .null, .null, .null, .null, .null, .null] .null) :
  MetFree l (⟨"java/util/ArrayList", "elementData", "(I)Ljava/lang/Object;"⟩ : MethodName) (head1 (Jvm.Cond.code (⟨"java/util/ArrayList", "elementData", "(I)Ljava/lang/Object;"⟩ : MethodName) jdk_38_method_18_code 2 (some (.object "java/lang/Object")) :: ws) ({ frames := 0, cells := 0, slots := 0, locals := 0 } : Room)) (fun a U => a = #[.ref a0, .int 0] ∧ Z.Warmed39 U.vm ∧ U.heap = h0) (fun _ _ _ _ _ => True) (fun _ U o U' => ∃ v L, o = .returned v ∧ Q27i0 Z a0 ed ke y0 e1 h0 n0 v U'.heap L ∧ FrameEnd U o U' L ({ frames := 0, cells := 0, slots := 0, locals := 0 } : Room).cells ({ frames := 0, cells := 0, slots := 0, locals := 0 } : Room).slots) := by
 refine MetFree.of_bodySF (plainFor_of_name pn_10) hisR ?_
 intro p e s m args below meth c s₁ Bd hml0 hP hK
 obtain ⟨rfl, hZ, hh⟩ := hP
 have hx := Bd.exec
 have hby := Bd.bytes
 have hret := Bd.returns
 have hlk : meth.locks = false := BodyLoose.notSynchronized Bd
 have hml : c.maxLocals = 2 := hml0
 have hown : s.vm.findClass "java/util/ArrayList" = some m.cls := findClass_of_methodNamed Bd.named
 have hnm := (name_of_methodNamed Bd.named Bd.method).1
 have X0 : Stand p l e ({ frames := 0, cells := 0, slots := 0, locals := 0 } : Room) s m #[.ref a0, .int 0] below meth c s₁ [] 0 0 := Stand.of_body Bd
 have e0 : s₁.heap = h0 := by rw [← hh, Bd.state]; rfl
 have N0 := Fr.nil n0
 have K0 : Keep h0 h0 [] := Keep.refl _ _
 have pre0 : ∀ t, zs p e below s₁ m 0 (z6 a0 0) [] t → Steps p.tables e below (s₁.setTop (entryFrame m #[.ref a0, .int 0] 2)) t := fun t k => castTop (ef_27i0 m a0 (0 : Int32)) k
 show OFin p e below s (Q27i0 Z a0 ed ke y0 e1 h0 n0) ({ frames := 0, cells := 0, slots := 0, locals := 0 } : Room).cells ({ frames := 0, cells := 0, slots := 0, locals := 0 } : Room).slots _
 refine OFin.go pre0 ?_
 have sg101 : zg p e below s₁ m 1 (z6 a0 0) [.ref a0] 0 (z6 a0 0) [] := by
  intro t k
  refine XS.aloadN X0.here hx rfl (hb hby d27_0) rfl rfl ?_
  exact k
 refine OFin.go sg101 ?_
 obtain ⟨T102, X102, e102, st102⟩ := getF X0 hx hZ hown (host := "") (Or.inl (zw hw 67 rfl)) Via.refl e0 F2 (g := (mkF m 1 (z6 a0 0) [.ref a0])) rfl rfl (hb hby d27_1)
 refine OFin.go st102 ?_
 have sg103 : zg p e below T102 m 5 (z6 a0 0) [.int 0, .ref ed] 4 (z6 a0 0) [.ref ed] := by
  intro t k
  refine XS.iloadN X102.here hx rfl (hb hby d27_4) rfl ?_
  exact k
 refine OFin.go sg103 ?_
 obtain ⟨cl104, Ar104, q104, S104, M104, H104, G104⟩ := id V0
 have hin104 : ¬ ((0 : Int32) < 0 ∨ cl104.slots.size ≤ ((0 : Int32)).toNatClampNeg) := inb_of S104 ⟨by decide, by decide⟩
 have hat104 : cl104.slots[((0 : Int32)).toNatClampNeg]? = some (.ref y0) := H104.at hin104 rfl
 have sg105 : zg p e below T102 m 6 (z6 a0 0) [.ref y0] 5 (z6 a0 0) [.int 0, .ref ed] := by
  intro t k
  refine X102.aaload hx (j := (0 : Int32)) (v := (.ref y0)) (by rw [e102]; exact Ar104.1) (State.isArrayOf_alike hZ.alike Ar104.2.1) rfl Ar104.2.2 hin104 hat104 (g := (mkF m 5 (z6 a0 0) [.int 0, .ref ed])) rfl rfl (hb hby d27_5) _ ?_
  exact k
 refine OFin.go sg105 ?_
 exact OFin.retA X102 hx hret rfl rfl rfl hlk (hb hby d27_6) (by rw [e102]; exact ⟨rfl, N0, rfl⟩) (by decide) (by decide)
theorem d24_0 : decode jdk_38_method_20_code 0 = .ok (.iload_n 1, 1) := by decide +kernel
theorem d24_1 : decode jdk_38_method_20_code 1 = .ok (.aload_n 0, 1) := by decide +kernel
theorem d24_2 : decode jdk_38_method_20_code 2 = .ok (.getfield 48, 3) := by decide +kernel
theorem d24_5 : decode jdk_38_method_20_code 5 = .ok (.invokestatic 118, 3) := by decide +kernel
theorem d24_8 : decode jdk_38_method_20_code 8 = .ok (.pop, 1) := by decide +kernel
theorem d24_9 : decode jdk_38_method_20_code 9 = .ok (.aload_n 0, 1) := by decide +kernel
theorem d24_10 : decode jdk_38_method_20_code 10 = .ok (.iload_n 1, 1) := by decide +kernel
theorem d24_11 : decode jdk_38_method_20_code 11 = .ok (.invokevirtual 123, 3) := by decide +kernel
theorem d24_14 : decode jdk_38_method_20_code 14 = .ok (.areturn, 1) := by decide +kernel
theorem pd_10 : parseMethodDescriptor "(I)Ljava/lang/Object;" = some ⟨[.int], some (.object "java/lang/Object")⟩ := by decide +kernel
theorem ef_24i0 (m : MethodId) (x0 : Addr) (x1 : Int32) : entryFrame m #[(.ref x0), (.int x1)] 2 = mkF m 0 #[.val (.ref x0), .val (.int x1)] [] := by first | (simp [entryFrame, mkF, argsToLocals, Value.category]; done) | rfl
def Q24i0 (Z : State) (a0 : Addr) (ed : Addr) (ke : ClassId) (y0 : Addr) (e1 : Addr) (h0 : Heap) (n0 : Nat) (v : Option Value) (h : Heap) (L : List Loc) : Prop := v = some (.ref y0) ∧ Fr n0 L ∧ h = h0
set_option maxHeartbeats 40000000 in
theorem rm24i0 (l : Launch) (Z : State) (aZ : Array Value) (hw : ∀ d ∈ tables_1, d.before aZ Z = true) (ws : List Jvm.Cond) (a0 : Addr) (ed : Addr) (ke : ClassId) (y0 : Addr) (e1 : Addr) (h0 : Heap) (n0 : Nat) (Z0 : n0 ≤ h0.size) (E1 : Exa Z h0 a0 "java/util/ArrayList") (F2 : Fld Z h0 a0 "java/util/ArrayList" "elementData" "[Ljava/lang/Object;" (.ref ed)) (F3 : Fld Z h0 a0 "java/util/ArrayList" "size" "I" (.int 2)) (V0 : Arv Z h0 ed ke (.object "java/lang/Object") (10 : Int32) [(.ref y0), (.ref e1), .null, .null, .null, .null, .null, .null, .null, .null] .null) :
  MetFree l (⟨"java/util/ArrayList", "get", "(I)Ljava/lang/Object;"⟩ : MethodName) (head1 (Jvm.Cond.code (⟨"java/util/ArrayList", "get", "(I)Ljava/lang/Object;"⟩ : MethodName) jdk_38_method_20_code 2 (some (.object "java/lang/Object")) :: ws) ({ frames := 2, cells := 0, slots := 0, locals := 27 } : Room)) (fun a U => a = #[.ref a0, .int 0] ∧ Z.Warmed39 U.vm ∧ U.heap = h0) (fun _ _ _ _ _ => True) (fun _ U o U' => ∃ v L, o = .returned v ∧ Q24i0 Z a0 ed ke y0 e1 h0 n0 v U'.heap L ∧ FrameEnd U o U' L ({ frames := 2, cells := 0, slots := 0, locals := 27 } : Room).cells ({ frames := 2, cells := 0, slots := 0, locals := 27 } : Room).slots) := by
 refine MetFree.of_bodySF (plainFor_of_name pn_10) hisR ?_
 intro p e s m args below meth c s₁ Bd hml0 hP hK
 obtain ⟨rfl, hZ, hh⟩ := hP
 have hx := Bd.exec
 have hby := Bd.bytes
 have hret := Bd.returns
 have hlk : meth.locks = false := BodyLoose.notSynchronized Bd
 have hml : c.maxLocals = 2 := hml0
 have hown : s.vm.findClass "java/util/ArrayList" = some m.cls := findClass_of_methodNamed Bd.named
 have hnm := (name_of_methodNamed Bd.named Bd.method).1
 have X0 : Stand p l e ({ frames := 2, cells := 0, slots := 0, locals := 27 } : Room) s m #[.ref a0, .int 0] below meth c s₁ [] 0 0 := Stand.of_body Bd
 have e0 : s₁.heap = h0 := by rw [← hh, Bd.state]; rfl
 have N0 := Fr.nil n0
 have K0 : Keep h0 h0 [] := Keep.refl _ _
 have pre0 : ∀ t, zs p e below s₁ m 0 (z6 a0 0) [] t → Steps p.tables e below (s₁.setTop (entryFrame m #[.ref a0, .int 0] 2)) t := fun t k => castTop (ef_24i0 m a0 (0 : Int32)) k
 show OFin p e below s (Q24i0 Z a0 ed ke y0 e1 h0 n0) ({ frames := 2, cells := 0, slots := 0, locals := 27 } : Room).cells ({ frames := 2, cells := 0, slots := 0, locals := 27 } : Room).slots _
 refine OFin.go pre0 ?_
 have sg101 : zg p e below s₁ m 2 (z6 a0 0) [.ref a0, .int 0] 0 (z6 a0 0) [] := by
  intro t k
  refine XS.iloadN X0.here hx rfl (hb hby d24_0) rfl ?_
  show zs p e below s₁ m 1 (z6 a0 0) [.int 0] t
  refine XS.aloadN X0.here hx rfl (hb hby d24_1) rfl rfl ?_
  exact k
 refine OFin.go sg101 ?_
 obtain ⟨T102, X102, e102, st102⟩ := getF X0 hx hZ hown (host := "") (Or.inl (zw hw 80 rfl)) Via.refl e0 F3 (g := (mkF m 2 (z6 a0 0) [.ref a0, .int 0])) rfl rfl (hb hby d24_2)
 refine OFin.go st102 ?_
 obtain ⟨_, _, ⟨T103, L103, k103, n103⟩, -, X103, ⟨Lc103, hQ103, l103, y103, z103⟩, st103⟩ := Jvm.LawKit.callS X102 hx (y := (⟨"java/util/Objects", "checkIndex", "(II)I"⟩ : MethodName)) hown (mvT hZ (zw hw 200 rfl)) (mvT hZ (zw hw 201 rfl)) (mvT hZ (zw hw 202 rfl)) (mvT hZ (zw hw 203 rfl)) (by decide) (backOf (W := 0) (rm25 l Z aZ hw [] (0 : Int32) (2 : Int32) h0 n0 (zt Z0 K0.1) (by decide) (by decide)) hZ (zw hw 203 rfl) (zw hw 202 rfl) (by decide) (by decide)) (g := (mkF m 5 (z6 a0 0) [.int 2, .int 0])) rfl (by rw [hml]; rfl) (argsL := [.int 0, .int 2]) (rest := []) (lenOf pd_3 rfl) rfl (by show 2 * 0 + _ ≤ _; exact ze rfl) (hb hby d24_5) (fun _ _ => ⟨rfl, e102, (by decide : 0 + 0 ≤ _), (by decide : 0 + 0 ≤ _)⟩)
 dsimp only [Pt.U, Pt.locs, Pt.cells, Pt.slots] at X103 l103 y103 z103 st103 hQ103
 rw [l103, y103, z103] at X103
 obtain ⟨rfl, N103q, e103⟩ := hQ103
 have N103 := Fr.app N0 N103q
 refine OFin.go st103 ?_
 have sg104 : zg p e below T103 m 11 (z6 a0 0) [.int 0, .ref a0] 8 (z6 a0 0) [.int 0] := by
  intro t k
  refine XS.pop X103.here hx rfl (hb hby d24_8) rfl rfl ?_
  show zs p e below T103 m 9 (z6 a0 0) [] t
  refine XS.aloadN X103.here hx rfl (hb hby d24_9) rfl rfl ?_
  show zs p e below T103 m 10 (z6 a0 0) [.ref a0] t
  refine XS.iloadN X103.here hx rfl (hb hby d24_10) rfl ?_
  exact k
 refine OFin.go sg104 ?_
 obtain ⟨cq105, kq105, q105a, q105b, q105c⟩ := isOf hZ e103 E1
 obtain ⟨_, _, ⟨T105, L105, k105, n105⟩, -, X105, ⟨Lc105, hQ105, l105, y105, z105⟩, st105⟩ := X103.virtualBack hx (y := (⟨"java/util/ArrayList", "elementData", "(I)Ljava/lang/Object;"⟩ : MethodName)) (z := (⟨"java/util/ArrayList", "elementData", "(I)Ljava/lang/Object;"⟩ : MethodName)) hown (mvT hZ (zw hw 208 rfl)) (mvT hZ (zw hw 209 rfl)) (notFace_of_selects (args := #[]) (mvT hZ (zw hw 211 rfl))) (mvT hZ (zw hw 211 rfl)) (mvT hZ (zw hw 210 rfl)) (by decide) (backOf (W := 0) (rm27i0 l Z aZ hw [] a0 ed ke y0 e1 h0 n0 (zt Z0 K0.1) E1 F2 V0) hZ (zw hw 212 rfl) (zw hw 47 rfl) (by decide) (by decide)) q105a q105c (g := (mkF m 11 (z6 a0 0) [.int 0, .ref a0])) rfl (by rw [hml]; rfl) (Steps.refl _) (argsL := [.int 0]) (rest := []) (lenOf pd_10 rfl) rfl (by show 2 * 0 + _ ≤ _; exact ze rfl) (hb hby d24_11) (fun _ _ => ⟨rfl, e103, (by decide : 0 + 0 ≤ _), (by decide : 0 + 0 ≤ _)⟩)
 dsimp only [Pt.U, Pt.locs, Pt.cells, Pt.slots] at X105 l105 y105 z105 st105 hQ105
 rw [l105, y105, z105] at X105
 obtain ⟨rfl, N105q, e105⟩ := hQ105
 have N105 := Fr.app N103 N105q
 refine OFin.tr st105 ?_
 exact OFin.retA X105 hx hret rfl rfl rfl hlk (hb hby d24_14) (by rw [e105]; exact ⟨rfl, N105, rfl⟩) (by decide) (by decide)
theorem ef_27i1 (m : MethodId) (x0 : Addr) (x1 : Int32) : entryFrame m #[(.ref x0), (.int x1)] 2 = mkF m 0 #[.val (.ref x0), .val (.int x1)] [] := by first | (simp [entryFrame, mkF, argsToLocals, Value.category]; done) | rfl
def Q27i1 (Z : State) (a0 : Addr) (ed : Addr) (ke : ClassId) (y0 : Addr) (e1 : Addr) (h0 : Heap) (n0 : Nat) (v : Option Value) (h : Heap) (L : List Loc) : Prop := v = some (.ref e1) ∧ Fr n0 L ∧ h = h0
set_option maxHeartbeats 40000000 in
theorem rm27i1 (l : Launch) (Z : State) (aZ : Array Value) (hw : ∀ d ∈ tables_1, d.before aZ Z = true) (ws : List Jvm.Cond) (a0 : Addr) (ed : Addr) (ke : ClassId) (y0 : Addr) (e1 : Addr) (h0 : Heap) (n0 : Nat) (Z0 : n0 ≤ h0.size) (E1 : Exa Z h0 a0 "java/util/ArrayList") (F2 : Fld Z h0 a0 "java/util/ArrayList" "elementData" "[Ljava/lang/Object;" (.ref ed)) (V0 : Arv Z h0 ed ke (.object "java/lang/Object") (10 : Int32) [(.ref y0), (.ref e1), .null, .null, .null, .null, .null, .null, .null, .null] .null) :
  MetFree l (⟨"java/util/ArrayList", "elementData", "(I)Ljava/lang/Object;"⟩ : MethodName) (head1 (Jvm.Cond.code (⟨"java/util/ArrayList", "elementData", "(I)Ljava/lang/Object;"⟩ : MethodName) jdk_38_method_18_code 2 (some (.object "java/lang/Object")) :: ws) ({ frames := 0, cells := 0, slots := 0, locals := 0 } : Room)) (fun a U => a = #[.ref a0, .int 1] ∧ Z.Warmed39 U.vm ∧ U.heap = h0) (fun _ _ _ _ _ => True) (fun _ U o U' => ∃ v L, o = .returned v ∧ Q27i1 Z a0 ed ke y0 e1 h0 n0 v U'.heap L ∧ FrameEnd U o U' L ({ frames := 0, cells := 0, slots := 0, locals := 0 } : Room).cells ({ frames := 0, cells := 0, slots := 0, locals := 0 } : Room).slots) := by
 refine MetFree.of_bodySF (plainFor_of_name pn_10) hisR ?_
 intro p e s m args below meth c s₁ Bd hml0 hP hK
 obtain ⟨rfl, hZ, hh⟩ := hP
 have hx := Bd.exec
 have hby := Bd.bytes
 have hret := Bd.returns
 have hlk : meth.locks = false := BodyLoose.notSynchronized Bd
 have hml : c.maxLocals = 2 := hml0
 have hown : s.vm.findClass "java/util/ArrayList" = some m.cls := findClass_of_methodNamed Bd.named
 have hnm := (name_of_methodNamed Bd.named Bd.method).1
 have X0 : Stand p l e ({ frames := 0, cells := 0, slots := 0, locals := 0 } : Room) s m #[.ref a0, .int 1] below meth c s₁ [] 0 0 := Stand.of_body Bd
 have e0 : s₁.heap = h0 := by rw [← hh, Bd.state]; rfl
 have N0 := Fr.nil n0
 have K0 : Keep h0 h0 [] := Keep.refl _ _
 have pre0 : ∀ t, zs p e below s₁ m 0 (z6 a0 1) [] t → Steps p.tables e below (s₁.setTop (entryFrame m #[.ref a0, .int 1] 2)) t := fun t k => castTop (ef_27i1 m a0 (1 : Int32)) k
 show OFin p e below s (Q27i1 Z a0 ed ke y0 e1 h0 n0) ({ frames := 0, cells := 0, slots := 0, locals := 0 } : Room).cells ({ frames := 0, cells := 0, slots := 0, locals := 0 } : Room).slots _
 refine OFin.go pre0 ?_
 have sg101 : zg p e below s₁ m 1 (z6 a0 1) [.ref a0] 0 (z6 a0 1) [] := by
  intro t k
  refine XS.aloadN X0.here hx rfl (hb hby d27_0) rfl rfl ?_
  exact k
 refine OFin.go sg101 ?_
 obtain ⟨T102, X102, e102, st102⟩ := getF X0 hx hZ hown (host := "") (Or.inl (zw hw 67 rfl)) Via.refl e0 F2 (g := (mkF m 1 (z6 a0 1) [.ref a0])) rfl rfl (hb hby d27_1)
 refine OFin.go st102 ?_
 have sg103 : zg p e below T102 m 5 (z6 a0 1) [.int 1, .ref ed] 4 (z6 a0 1) [.ref ed] := by
  intro t k
  refine XS.iloadN X102.here hx rfl (hb hby d27_4) rfl ?_
  exact k
 refine OFin.go sg103 ?_
 obtain ⟨cl104, Ar104, q104, S104, M104, H104, G104⟩ := id V0
 have hin104 : ¬ ((1 : Int32) < 0 ∨ cl104.slots.size ≤ ((1 : Int32)).toNatClampNeg) := inb_of S104 ⟨by decide, by decide⟩
 have hat104 : cl104.slots[((1 : Int32)).toNatClampNeg]? = some (.ref e1) := H104.at hin104 rfl
 have sg105 : zg p e below T102 m 6 (z6 a0 1) [.ref e1] 5 (z6 a0 1) [.int 1, .ref ed] := by
  intro t k
  refine X102.aaload hx (j := (1 : Int32)) (v := (.ref e1)) (by rw [e102]; exact Ar104.1) (State.isArrayOf_alike hZ.alike Ar104.2.1) rfl Ar104.2.2 hin104 hat104 (g := (mkF m 5 (z6 a0 1) [.int 1, .ref ed])) rfl rfl (hb hby d27_5) _ ?_
  exact k
 refine OFin.go sg105 ?_
 exact OFin.retA X102 hx hret rfl rfl rfl hlk (hb hby d27_6) (by rw [e102]; exact ⟨rfl, N0, rfl⟩) (by decide) (by decide)
theorem ef_24i1 (m : MethodId) (x0 : Addr) (x1 : Int32) : entryFrame m #[(.ref x0), (.int x1)] 2 = mkF m 0 #[.val (.ref x0), .val (.int x1)] [] := by first | (simp [entryFrame, mkF, argsToLocals, Value.category]; done) | rfl
def Q24i1 (Z : State) (a0 : Addr) (ed : Addr) (ke : ClassId) (y0 : Addr) (e1 : Addr) (h0 : Heap) (n0 : Nat) (v : Option Value) (h : Heap) (L : List Loc) : Prop := v = some (.ref e1) ∧ Fr n0 L ∧ h = h0
set_option maxHeartbeats 40000000 in
theorem rm24i1 (l : Launch) (Z : State) (aZ : Array Value) (hw : ∀ d ∈ tables_1, d.before aZ Z = true) (ws : List Jvm.Cond) (a0 : Addr) (ed : Addr) (ke : ClassId) (y0 : Addr) (e1 : Addr) (h0 : Heap) (n0 : Nat) (Z0 : n0 ≤ h0.size) (E1 : Exa Z h0 a0 "java/util/ArrayList") (F2 : Fld Z h0 a0 "java/util/ArrayList" "elementData" "[Ljava/lang/Object;" (.ref ed)) (F3 : Fld Z h0 a0 "java/util/ArrayList" "size" "I" (.int 2)) (V0 : Arv Z h0 ed ke (.object "java/lang/Object") (10 : Int32) [(.ref y0), (.ref e1), .null, .null, .null, .null, .null, .null, .null, .null] .null) :
  MetFree l (⟨"java/util/ArrayList", "get", "(I)Ljava/lang/Object;"⟩ : MethodName) (head1 (Jvm.Cond.code (⟨"java/util/ArrayList", "get", "(I)Ljava/lang/Object;"⟩ : MethodName) jdk_38_method_20_code 2 (some (.object "java/lang/Object")) :: ws) ({ frames := 2, cells := 0, slots := 0, locals := 27 } : Room)) (fun a U => a = #[.ref a0, .int 1] ∧ Z.Warmed39 U.vm ∧ U.heap = h0) (fun _ _ _ _ _ => True) (fun _ U o U' => ∃ v L, o = .returned v ∧ Q24i1 Z a0 ed ke y0 e1 h0 n0 v U'.heap L ∧ FrameEnd U o U' L ({ frames := 2, cells := 0, slots := 0, locals := 27 } : Room).cells ({ frames := 2, cells := 0, slots := 0, locals := 27 } : Room).slots) := by
 refine MetFree.of_bodySF (plainFor_of_name pn_10) hisR ?_
 intro p e s m args below meth c s₁ Bd hml0 hP hK
 obtain ⟨rfl, hZ, hh⟩ := hP
 have hx := Bd.exec
 have hby := Bd.bytes
 have hret := Bd.returns
 have hlk : meth.locks = false := BodyLoose.notSynchronized Bd
 have hml : c.maxLocals = 2 := hml0
 have hown : s.vm.findClass "java/util/ArrayList" = some m.cls := findClass_of_methodNamed Bd.named
 have hnm := (name_of_methodNamed Bd.named Bd.method).1
 have X0 : Stand p l e ({ frames := 2, cells := 0, slots := 0, locals := 27 } : Room) s m #[.ref a0, .int 1] below meth c s₁ [] 0 0 := Stand.of_body Bd
 have e0 : s₁.heap = h0 := by rw [← hh, Bd.state]; rfl
 have N0 := Fr.nil n0
 have K0 : Keep h0 h0 [] := Keep.refl _ _
 have pre0 : ∀ t, zs p e below s₁ m 0 (z6 a0 1) [] t → Steps p.tables e below (s₁.setTop (entryFrame m #[.ref a0, .int 1] 2)) t := fun t k => castTop (ef_24i1 m a0 (1 : Int32)) k
 show OFin p e below s (Q24i1 Z a0 ed ke y0 e1 h0 n0) ({ frames := 2, cells := 0, slots := 0, locals := 27 } : Room).cells ({ frames := 2, cells := 0, slots := 0, locals := 27 } : Room).slots _
 refine OFin.go pre0 ?_
 have sg101 : zg p e below s₁ m 2 (z6 a0 1) [.ref a0, .int 1] 0 (z6 a0 1) [] := by
  intro t k
  refine XS.iloadN X0.here hx rfl (hb hby d24_0) rfl ?_
  show zs p e below s₁ m 1 (z6 a0 1) [.int 1] t
  refine XS.aloadN X0.here hx rfl (hb hby d24_1) rfl rfl ?_
  exact k
 refine OFin.go sg101 ?_
 obtain ⟨T102, X102, e102, st102⟩ := getF X0 hx hZ hown (host := "") (Or.inl (zw hw 80 rfl)) Via.refl e0 F3 (g := (mkF m 2 (z6 a0 1) [.ref a0, .int 1])) rfl rfl (hb hby d24_2)
 refine OFin.go st102 ?_
 obtain ⟨_, _, ⟨T103, L103, k103, n103⟩, -, X103, ⟨Lc103, hQ103, l103, y103, z103⟩, st103⟩ := Jvm.LawKit.callS X102 hx (y := (⟨"java/util/Objects", "checkIndex", "(II)I"⟩ : MethodName)) hown (mvT hZ (zw hw 200 rfl)) (mvT hZ (zw hw 201 rfl)) (mvT hZ (zw hw 202 rfl)) (mvT hZ (zw hw 203 rfl)) (by decide) (backOf (W := 0) (rm25 l Z aZ hw [] (1 : Int32) (2 : Int32) h0 n0 (zt Z0 K0.1) (by decide) (by decide)) hZ (zw hw 203 rfl) (zw hw 202 rfl) (by decide) (by decide)) (g := (mkF m 5 (z6 a0 1) [.int 2, .int 1])) rfl (by rw [hml]; rfl) (argsL := [.int 1, .int 2]) (rest := []) (lenOf pd_3 rfl) rfl (by show 2 * 0 + _ ≤ _; exact ze rfl) (hb hby d24_5) (fun _ _ => ⟨rfl, e102, (by decide : 0 + 0 ≤ _), (by decide : 0 + 0 ≤ _)⟩)
 dsimp only [Pt.U, Pt.locs, Pt.cells, Pt.slots] at X103 l103 y103 z103 st103 hQ103
 rw [l103, y103, z103] at X103
 obtain ⟨rfl, N103q, e103⟩ := hQ103
 have N103 := Fr.app N0 N103q
 refine OFin.go st103 ?_
 have sg104 : zg p e below T103 m 11 (z6 a0 1) [.int 1, .ref a0] 8 (z6 a0 1) [.int 1] := by
  intro t k
  refine XS.pop X103.here hx rfl (hb hby d24_8) rfl rfl ?_
  show zs p e below T103 m 9 (z6 a0 1) [] t
  refine XS.aloadN X103.here hx rfl (hb hby d24_9) rfl rfl ?_
  show zs p e below T103 m 10 (z6 a0 1) [.ref a0] t
  refine XS.iloadN X103.here hx rfl (hb hby d24_10) rfl ?_
  exact k
 refine OFin.go sg104 ?_
 obtain ⟨cq105, kq105, q105a, q105b, q105c⟩ := isOf hZ e103 E1
 obtain ⟨_, _, ⟨T105, L105, k105, n105⟩, -, X105, ⟨Lc105, hQ105, l105, y105, z105⟩, st105⟩ := X103.virtualBack hx (y := (⟨"java/util/ArrayList", "elementData", "(I)Ljava/lang/Object;"⟩ : MethodName)) (z := (⟨"java/util/ArrayList", "elementData", "(I)Ljava/lang/Object;"⟩ : MethodName)) hown (mvT hZ (zw hw 208 rfl)) (mvT hZ (zw hw 209 rfl)) (notFace_of_selects (args := #[]) (mvT hZ (zw hw 211 rfl))) (mvT hZ (zw hw 211 rfl)) (mvT hZ (zw hw 210 rfl)) (by decide) (backOf (W := 0) (rm27i1 l Z aZ hw [] a0 ed ke y0 e1 h0 n0 (zt Z0 K0.1) E1 F2 V0) hZ (zw hw 212 rfl) (zw hw 47 rfl) (by decide) (by decide)) q105a q105c (g := (mkF m 11 (z6 a0 1) [.int 1, .ref a0])) rfl (by rw [hml]; rfl) (Steps.refl _) (argsL := [.int 1]) (rest := []) (lenOf pd_10 rfl) rfl (by show 2 * 0 + _ ≤ _; exact ze rfl) (hb hby d24_11) (fun _ _ => ⟨rfl, e103, (by decide : 0 + 0 ≤ _), (by decide : 0 + 0 ≤ _)⟩)
 dsimp only [Pt.U, Pt.locs, Pt.cells, Pt.slots] at X105 l105 y105 z105 st105 hQ105
 rw [l105, y105, z105] at X105
 obtain ⟨rfl, N105q, e105⟩ := hQ105
 have N105 := Fr.app N103 N105q
 refine OFin.tr st105 ?_
 exact OFin.retA X105 hx hret rfl rfl rfl hlk (hb hby d24_14) (by rw [e105]; exact ⟨rfl, N105, rfl⟩) (by decide) (by decide)
theorem d16_0 : decode jdk_69_method_7_code 0 = .ok (.aload_n 0, 1) := by decide +kernel
theorem d16_1 : decode jdk_69_method_7_code 1 = .ok (.invokespecial 43, 3) := by decide +kernel
theorem d16_4 : decode jdk_69_method_7_code 4 = .ok (.aload_n 0, 1) := by decide +kernel
theorem d16_5 : decode jdk_69_method_7_code 5 = .ok (.ldc 92, 2) := by decide +kernel
theorem d16_7 : decode jdk_69_method_7_code 7 = .ok (.putfield 81, 3) := by decide +kernel
theorem d16_10 : decode jdk_69_method_7_code 10 = .ok (.return_, 1) := by decide +kernel
theorem pn_14 : plainName "java/util/HashMap" = true := by first | (simp [plainName, overriddenIn]; done) | decide +kernel
theorem ef_16 (m : MethodId) (x0 : Addr) : entryFrame m #[(.ref x0)] 1 = mkF m 0 #[.val (.ref x0)] [] := by first | (simp [entryFrame, mkF, argsToLocals, Value.category]; done) | rfl
def Q16 (Z : State) (a0 : Addr) (u9 : Value) (h0 : Heap) (n0 : Nat) (v : Option Value) (h : Heap) (L : List Loc) : Prop := v = none ∧ Fr n0 L ∧ Keep h0 h [a0]
set_option maxHeartbeats 40000000 in
theorem rm16 (l : Launch) (Z : State) (aZ : Array Value) (hw : ∀ d ∈ tables_1, d.before aZ Z = true) (ws : List Jvm.Cond) (a0 : Addr) (u9 : Value) (h0 : Heap) (n0 : Nat) (Z0 : n0 ≤ h0.size) (E1 : Exa Z h0 a0 "java/util/HashMap") (F1 : Fld Z h0 a0 "java/util/HashMap" "loadFactor" "F" u9) (g_a0 : n0 ≤ a0) :
  MetFree l (⟨"java/util/HashMap", "<init>", "()V"⟩ : MethodName) (head1 (Jvm.Cond.code (⟨"java/util/HashMap", "<init>", "()V"⟩ : MethodName) jdk_69_method_7_code 1 none :: ws) ({ frames := 2, cells := 0, slots := 0, locals := 24 } : Room)) (fun a U => a = #[.ref a0] ∧ Z.Warmed39 U.vm ∧ U.heap = h0) (fun _ _ _ _ _ => True) (fun _ U o U' => ∃ v L, o = .returned v ∧ Q16 Z a0 u9 h0 n0 v U'.heap L ∧ FrameEnd U o U' L ({ frames := 2, cells := 0, slots := 0, locals := 24 } : Room).cells ({ frames := 2, cells := 0, slots := 0, locals := 24 } : Room).slots) := by
 refine MetFree.of_bodySF (plainFor_of_name pn_14) hisR ?_
 intro p e s m args below meth c s₁ Bd hml0 hP hK
 obtain ⟨rfl, hZ, hh⟩ := hP
 have hx := Bd.exec
 have hby := Bd.bytes
 have hret := Bd.returns
 have hlk : meth.locks = false := BodyLoose.notSynchronized Bd
 have hml : c.maxLocals = 1 := hml0
 have hown : s.vm.findClass "java/util/HashMap" = some m.cls := findClass_of_methodNamed Bd.named
 have hnm := (name_of_methodNamed Bd.named Bd.method).1
 have X0 : Stand p l e ({ frames := 2, cells := 0, slots := 0, locals := 24 } : Room) s m #[.ref a0] below meth c s₁ [] 0 0 := Stand.of_body Bd
 have e0 : s₁.heap = h0 := by rw [← hh, Bd.state]; rfl
 have N0 := Fr.nil n0
 have K0 : Keep h0 h0 [a0] := Keep.refl _ _
 have pre0 : ∀ t, zs p e below s₁ m 0 #[.val (.ref a0)] [] t → Steps p.tables e below (s₁.setTop (entryFrame m #[.ref a0] 1)) t := fun t k => castTop (ef_16 m a0) k
 show OFin p e below s (Q16 Z a0 u9 h0 n0) ({ frames := 2, cells := 0, slots := 0, locals := 24 } : Room).cells ({ frames := 2, cells := 0, slots := 0, locals := 24 } : Room).slots _
 refine OFin.go pre0 ?_
 have sg101 : zg p e below s₁ m 1 #[.val (.ref a0)] [.ref a0] 0 #[.val (.ref a0)] [] := by
  intro t k
  refine XS.aloadN X0.here hx rfl (hb hby d16_0) rfl rfl ?_
  exact k
 refine OFin.go sg101 ?_
 obtain ⟨_, _, ⟨T102, L102, k102, n102⟩, -, X102, ⟨Lc102, hQ102, l102, y102, z102⟩, st102⟩ := X0.specialBack hx (y := (⟨"java/util/AbstractMap", "<init>", "()V"⟩ : MethodName)) rfl hown (mvT hZ (zw hw 120 rfl)) (mvT hZ (zw hw 121 rfl)) (mvT hZ (zw hw 125 rfl)) (by decide) (backOf (W := 0) (rm17 l Z aZ hw [] a0 h0 n0 (zt Z0 K0.1) ) hZ (zw hw 125 rfl) (zw hw 124 rfl) (by decide) (by decide)) (g := (mkF m 1 #[.val (.ref a0)] [.ref a0])) rfl (by rw [hml]; rfl) (Steps.refl _) (a := a0) (argsL := []) (rest := []) (lenOf pd_2 rfl) rfl (by show 2 * 0 + _ ≤ _; exact ze rfl) (hb hby d16_1) (fun _ _ => ⟨rfl, e0, (by decide : 0 + 0 ≤ _), (by decide : 0 + 0 ≤ _)⟩)
 dsimp only [Pt.U, Pt.locs, Pt.cells, Pt.slots] at X102 l102 y102 z102 st102 hQ102
 rw [l102, y102, z102] at X102
 obtain ⟨rfl, N102q, e102⟩ := hQ102
 have N102 := Fr.app N0 N102q
 refine OFin.tr st102 ?_
 have sg103 : zg p e below T102 m 7 #[.val (.ref a0)] [(.float (1061158912 : UInt32)), (.ref a0)] 4 #[.val (.ref a0)] [] := by
  intro t k
  refine XS.aloadN X102.here hx rfl (hb hby d16_4) rfl rfl ?_
  show zs p e below T102 m 5 #[.val (.ref a0)] [.ref a0] t
  refine X102.ldcFloatC hx hown (mvT hZ (zw hw 127 rfl)) (g := (mkF m 5 #[.val (.ref a0)] [.ref a0])) rfl (hb hby d16_5) _ ?_
  exact k
 refine OFin.go sg103 ?_
 obtain ⟨T104, h104, X104, e104, W104, st104⟩ := putF X102 hx hZ hown (host := "") (Or.inl (zw hw 128 rfl)) Via.refl e102 F1 E1 (Or.inr ⟨(zw hw 129 rfl), rfl, hnm⟩) (zw hw 115 rfl) (ty := .float) (by decide) rfl rfl (g := (mkF m 7 #[.val (.ref a0)] [(.float (1061158912 : UInt32)), (.ref a0)])) rfl rfl (hb hby d16_7)
 refine OFin.go st104 ?_
 have F104 := F1.same W104
 have K104 : Keep h0 h104 [a0] := K0.wr W104 (Or.inl (List.mem_of_getElem? (i := 0) rfl))
 have N104 := Fr.snoc X104 N102 g_a0
 exact OFin.retV X104 hx hret hlk (hb hby d16_10) (by rw [e104]; exact ⟨rfl, N104, K104⟩) (by decide) (by decide)
def own_sg (lo : Int64) : Int32 := if lo < (0 : Int64) then (1 : Int32) else (0 : Int32)
def own_wd (lo hi : Int64) : Int32 := if lo < (0 : Int64) then own_f14 (own_f33 lo) (own_f33 hi) else (64 : Int32) - own_f31 hi
theorem own_ui {x : Int32} (h : 0 ≤ x.toInt) : (x.toUInt32.toNat : Int) = x.toInt := by
  have e : x.toInt = Int.bmod x.toUInt32.toNat (2^32) := by
    show x.toBitVec.toInt = _
    rw [BitVec.toInt_eq_toNat_bmod]; rfl
  have : x.toUInt32.toNat < 2^32 := x.toUInt32.toNat_lt
  rw [Int.bmod_def] at e
  omega
theorem own_iu {y : UInt32} (h : y.toNat < 2^31) : y.toInt32.toInt = y.toNat := by
  have e : y.toInt32.toInt = Int.bmod y.toNat (2^32) := by
    show y.toInt32.toBitVec.toInt = _
    rw [BitVec.toInt_eq_toNat_bmod]; rfl
  rw [e, Int.bmod_def]
  omega
def own_S (k x : Int32) : Int32 := ((x.toUInt32 >>> (k &&& 31).toUInt32).toInt32)
def own_A (n x : Int32) : Int32 := (n - own_S 1 x)
def own_B (n x : Int32) : Int32 := if x < (4 : Int32) then own_A n x else own_A (n + (-2 : Int32)) (own_S 2 x)
def own_C (n x : Int32) : Int32 := if x < (16 : Int32) then own_B n x else own_B (n + (-4 : Int32)) (own_S 4 x)
def own_D (n x : Int32) : Int32 := if x < (256 : Int32) then own_C n x else own_C (n + (-8 : Int32)) (own_S 8 x)
def own_E (n x : Int32) : Int32 := if x < (65536 : Int32) then own_D n x else own_D (n + (-16 : Int32)) (own_S 16 x)
theorem own_f32_pos (x : Int32) (h : (0 : Int32) < x) : own_f32 x = own_E (31 : Int32) x := by
  rw [own_f32, if_pos h]; rfl
def own_Spec (r n x : Int32) : Prop := ∃ k : Nat, 1 ≤ k ∧ r.toInt = n.toInt + 1 - k ∧ x.toInt < 2 ^ k ∧ (k = 1 ∨ (2 : Int) ^ (k - 1) ≤ x.toInt)
theorem own_Sv (k : Int32) (c : Nat) (hc : (k &&& 31).toUInt32.toNat % 32 = c) {x : Int32} (h0 : 0 ≤ x.toInt) : (own_S k x).toInt = x.toInt / 2 ^ c := by
  have e1 := own_ui h0
  have h1 : x.toInt < 2^31 := Int32.toInt_lt x
  have e2 : (x.toUInt32 >>> (k &&& 31).toUInt32).toNat = x.toUInt32.toNat / 2 ^ c := by
    rw [UInt32.toNat_shiftRight, hc, Nat.shiftRight_eq_div_pow]
  have e3 : x.toUInt32.toNat / 2 ^ c ≤ x.toUInt32.toNat := Nat.div_le_self _ _
  unfold own_S
  rw [own_iu (by rw [e2]; omega), e2, ← e1]
  push_cast
  rfl
theorem own_step (c : Nat) {x y r n n' : Int32} (hc : 1 ≤ c) (hx : (2 : Int) ^ c ≤ x.toInt) (hy : y.toInt = x.toInt / 2 ^ c) (hn : n'.toInt = n.toInt - c) (S : own_Spec r n' y) : own_Spec r n x := by
  obtain ⟨k, h1, h2, h3, h4⟩ := S
  have hp : (0 : Int) < 2 ^ c := Int.pow_pos (by decide)
  refine ⟨k + c, by omega, by rw [h2, hn]; push_cast; omega, ?_, Or.inr ?_⟩
  · rw [Int.pow_add]
    exact (Int.ediv_lt_iff_lt_mul hp).mp (hy ▸ h3)
  · rcases h4 with h4 | h4
    · subst h4; rw [show 1 + c - 1 = c by omega]; exact hx
    · rw [hy] at h4
      rw [show k + c - 1 = (k - 1) + c by omega, Int.pow_add]
      exact (Int.le_ediv_iff_mul_le hp).mp h4
theorem own_dn {n d : Int32} (h : -100 < n.toInt ∧ n.toInt < 100) (g : -100 < d.toInt ∧ d.toInt < 100) : (n + d).toInt = n.toInt + d.toInt := by
  rw [Int32.toInt_add, Int.bmod_def]; omega
theorem own_A_spec {n x : Int32} (h0 : 0 ≤ x.toInt) (h4 : x.toInt < 4) (hn : -100 < n.toInt ∧ n.toInt < 100) : own_Spec (own_A n x) n x := by
  have e := own_Sv 1 1 (by decide) h0
  have r : (own_A n x).toInt = n.toInt - x.toInt / 2 := by
    unfold own_A
    rw [Int32.toInt_sub, e, Int.bmod_def]; omega
  by_cases q : x.toInt < 2
  · exact ⟨1, by decide, by rw [r]; omega, by omega, Or.inl rfl⟩
  · exact ⟨2, by decide, by rw [r]; omega, by omega, Or.inr (by omega)⟩
theorem own_B_spec {n x : Int32} (h0 : 0 ≤ x.toInt) (h4 : x.toInt < 16) (hn : -98 < n.toInt ∧ n.toInt < 100) : own_Spec (own_B n x) n x := by
  unfold own_B
  by_cases q : x < (4 : Int32)
  · rw [if_pos q]; rw [Int32.lt_iff_toInt_lt] at q
    exact own_A_spec h0 q ⟨by omega, hn.2⟩
  · rw [if_neg q]; rw [Int32.lt_iff_toInt_lt, show (4 : Int32).toInt = 4 from rfl] at q
    have e := own_Sv 2 2 (by decide) h0
    have d := own_dn (n := n) (d := -2) ⟨by omega, hn.2⟩ (by decide)
    rw [show (-2 : Int32).toInt = -2 from rfl] at d
    exact own_step 2 (by decide) (by omega) e (by omega) (own_A_spec (by omega) (by omega) (by omega))
theorem own_C_spec {n x : Int32} (h0 : 0 ≤ x.toInt) (h4 : x.toInt < 256) (hn : -90 < n.toInt ∧ n.toInt < 100) : own_Spec (own_C n x) n x := by
  unfold own_C
  by_cases q : x < (16 : Int32)
  · rw [if_pos q]; rw [Int32.lt_iff_toInt_lt] at q
    exact own_B_spec h0 q ⟨by omega, hn.2⟩
  · rw [if_neg q]; rw [Int32.lt_iff_toInt_lt, show (16 : Int32).toInt = 16 from rfl] at q
    have e := own_Sv 4 4 (by decide) h0
    have d := own_dn (n := n) (d := -4) ⟨by omega, hn.2⟩ (by decide)
    rw [show (-4 : Int32).toInt = -4 from rfl] at d
    exact own_step 4 (by decide) (by omega) e (by omega) (own_B_spec (by omega) (by omega) (by omega))
theorem own_D_spec {n x : Int32} (h0 : 0 ≤ x.toInt) (h4 : x.toInt < 65536) (hn : -70 < n.toInt ∧ n.toInt < 100) : own_Spec (own_D n x) n x := by
  unfold own_D
  by_cases q : x < (256 : Int32)
  · rw [if_pos q]; rw [Int32.lt_iff_toInt_lt] at q
    exact own_C_spec h0 q ⟨by omega, hn.2⟩
  · rw [if_neg q]; rw [Int32.lt_iff_toInt_lt, show (256 : Int32).toInt = 256 from rfl] at q
    have e := own_Sv 8 8 (by decide) h0
    have d := own_dn (n := n) (d := -8) ⟨by omega, hn.2⟩ (by decide)
    rw [show (-8 : Int32).toInt = -8 from rfl] at d
    exact own_step 8 (by decide) (by omega) e (by omega) (own_C_spec (by omega) (by omega) (by omega))
theorem own_E_spec {n x : Int32} (h0 : 0 ≤ x.toInt) (hn : -50 < n.toInt ∧ n.toInt < 100) : own_Spec (own_E n x) n x := by
  have h4 : x.toInt < 2^31 := Int32.toInt_lt x
  unfold own_E
  by_cases q : x < (65536 : Int32)
  · rw [if_pos q]; rw [Int32.lt_iff_toInt_lt] at q
    exact own_D_spec h0 q ⟨by omega, hn.2⟩
  · rw [if_neg q]; rw [Int32.lt_iff_toInt_lt, show (65536 : Int32).toInt = 65536 from rfl] at q
    have e := own_Sv 16 16 (by decide) h0
    have d := own_dn (n := n) (d := -16) ⟨by omega, hn.2⟩ (by decide)
    rw [show (-16 : Int32).toInt = -16 from rfl] at d
    exact own_step 16 (by decide) (by omega) e (by omega) (own_D_spec (by omega) (by omega) (by omega))
/-- Integer.numberOfLeadingZeros: as many bits as she leaves hold the word -/
theorem own_nlz32 (x : Int32) : ∃ k : Nat, k ≤ 32 ∧ (own_f32 x).toInt = 32 - k ∧ x.toUInt32.toNat < 2 ^ k ∧ (0 ≤ x.toInt → k ≤ 31) := by
  have hlt : x.toUInt32.toNat < 2 ^ 32 := x.toUInt32.toNat_lt
  by_cases h : (0 : Int32) < x
  · have h' := h
    rw [Int32.lt_iff_toInt_lt, show (0 : Int32).toInt = 0 from rfl] at h'
    obtain ⟨k, h1, h2, h3, h4⟩ := own_E_spec (n := 31) (x := x) (by omega) (by decide)
    rw [← own_f32_pos x h, show (31 : Int32).toInt = 31 from rfl] at h2
    have hk : k ≤ 31 := by
      rcases h4 with h4 | h4
      · omega
      · have h5 : x.toInt < 2^31 := Int32.toInt_lt x
        apply Nat.le_of_not_lt; intro q
        have u : (2 : Nat) ^ 31 ≤ 2 ^ (k - 1) := Nat.pow_le_pow_right (by decide) (by omega)
        have v : (2 : Int) ^ (k - 1) = ((2 ^ (k - 1) : Nat) : Int) := (Int.natCast_pow 2 (k - 1)).symm
        rw [v] at h4
        omega
    refine ⟨k, by omega, by omega, ?_, fun _ => hk⟩
    have e := own_ui (x := x) (by omega)
    have : ((x.toUInt32.toNat : Nat) : Int) < ((2 ^ k : Nat) : Int) := by push_cast; omega
    omega
  · by_cases g : x = (0 : Int32)
    · subst g; exact ⟨0, by decide, by decide, by decide, fun _ => by decide⟩
    · refine ⟨32, by decide, ?_, hlt, fun q => ?_⟩
      · rw [own_f32, if_neg h, if_neg g]; rfl
      · exfalso; rw [Int32.lt_iff_toInt_lt, show (0 : Int32).toInt = 0 from rfl] at h
        exact g (Int32.toInt_inj.mp (by show x.toInt = 0; omega))
theorem own_i64 (x : Int64) : x.toInt = if 2 * x.toUInt64.toNat < 2 ^ 64 then (x.toUInt64.toNat : Int) else (x.toUInt64.toNat : Int) - (2 ^ 64 : Nat) := BitVec.toInt_eq_toNat_cond x.toBitVec
theorem own_pos64 {x : Int64} (g : 0 ≤ x.toInt) : x.toUInt64.toNat < 2 ^ 63 := by
  have e := own_i64 x
  have h : x.toUInt64.toNat < 2 ^ 64 := x.toUInt64.toNat_lt
  by_cases q : 2 * x.toUInt64.toNat < 2 ^ 64
  · omega
  · rw [if_neg q] at e; omega
/-- Long.numberOfLeadingZeros -/
theorem own_nlz64 (x : Int64) : ∃ k : Nat, k ≤ 64 ∧ (own_f31 x).toInt = 64 - k ∧ x.toUInt64.toNat < 2 ^ k ∧ (0 ≤ x.toInt → k ≤ 63) := by
  have hlt : x.toUInt64.toNat < 2 ^ 64 := x.toUInt64.toNat_lt
  have eh : (((x.toUInt64 >>> ((32 : Int32) &&& 0x3f).toInt64.toUInt64).toInt64).toInt32).toUInt32.toNat = x.toUInt64.toNat / 2 ^ 32 := by
    have e1 : (x.toUInt64 >>> ((32 : Int32) &&& 0x3f).toInt64.toUInt64).toNat = x.toUInt64.toNat / 2 ^ 32 := by
      rw [UInt64.toNat_shiftRight, show ((32 : Int32) &&& 0x3f).toInt64.toUInt64.toNat % 64 = 32 by decide, Nat.shiftRight_eq_div_pow]
    have e2 : (((x.toUInt64 >>> ((32 : Int32) &&& 0x3f).toInt64.toUInt64).toInt64).toInt32).toUInt32.toNat = (x.toUInt64 >>> ((32 : Int32) &&& 0x3f).toInt64.toUInt64).toNat % 2 ^ 32 := by
      generalize (x.toUInt64 >>> ((32 : Int32) &&& 0x3f).toInt64.toUInt64) = y
      show (BitVec.signExtend 32 y.toInt64.toBitVec).toNat = _
      rw [BitVec.signExtend_eq_setWidth_of_le _ (by decide), BitVec.toNat_setWidth]; rfl
    rw [e2, e1]; omega
  have el : x.toInt32.toUInt32.toNat = x.toUInt64.toNat % 2 ^ 32 := by
    show (BitVec.signExtend 32 x.toBitVec).toNat = _
    rw [BitVec.signExtend_eq_setWidth_of_le _ (by decide), BitVec.toNat_setWidth]; rfl
  unfold own_f31
  generalize (((x.toUInt64 >>> ((32 : Int32) &&& 0x3f).toInt64.toUInt64).toInt64).toInt32) = h at eh ⊢
  by_cases q : h = (0 : Int32)
  · rw [if_pos q]
    subst q
    obtain ⟨k, h1, h2, h3, h4⟩ := own_nlz32 x.toInt32
    have z : x.toUInt64.toNat / 2 ^ 32 = 0 := by rw [← eh]; rfl
    refine ⟨k, by omega, ?_, ?_, fun _ => by omega⟩
    · rw [Int32.toInt_add, h2, Int.bmod_def, show (32 : Int32).toInt = 32 from rfl]; omega
    · rw [el] at h3; omega
  · rw [if_neg q]
    obtain ⟨k, h1, h2, h3, h4⟩ := own_nlz32 h
    refine ⟨k + 32, by omega, by rw [h2]; push_cast; omega, ?_, fun g => ?_⟩
    · rw [eh] at h3
      rw [Nat.pow_add]
      exact (Nat.div_lt_iff_lt_mul (Nat.two_pow_pos 32)).mp h3
    · have e : x.toUInt64.toNat < 2 ^ 63 := own_pos64 g
      have e3 : h.toUInt32.toNat < 2 ^ 31 := by rw [eh]; omega
      have e4 : h.toInt = (h.toUInt32.toNat : Int) := own_iu e3
      have := h4 (by rw [e4]; exact Int.natCast_nonneg _)
      omega
theorem own_xor1 (x : Int64) : (x ^^^ (-1 : Int64)).toUInt64.toNat = 2 ^ 64 - 1 - x.toUInt64.toNat := by
  show (x.toBitVec ^^^ (-1 : Int64).toBitVec).toNat = _
  rw [show (-1 : Int64).toBitVec = BitVec.allOnes 64 by decide, BitVec.xor_allOnes, BitVec.toNat_not]; rfl
theorem own_width (x : Int64) : ∃ k : Nat, 1 ≤ k ∧ k ≤ 64 ∧ (own_f33 x).toInt = k ∧ -((2 ^ (k - 1) : Nat) : Int) ≤ x.toInt ∧ x.toInt < ((2 ^ (k - 1) : Nat) : Int) := by
  have e := own_i64 x
  have hlt : x.toUInt64.toNat < 2 ^ 64 := x.toUInt64.toNat_lt
  unfold own_f33
  by_cases q : x < (0 : Int64)
  · rw [if_pos q]
    rw [Int64.lt_iff_toInt_lt, show (0 : Int64).toInt = 0 from rfl] at q
    have e1 := own_xor1 x
    have hge : 2 ^ 63 ≤ x.toUInt64.toNat := by
      by_cases u : 2 * x.toUInt64.toNat < 2 ^ 64
      · rw [if_pos u] at e; omega
      · omega
    rw [if_neg (by omega)] at e
    have e2 := own_i64 (x ^^^ (-1 : Int64))
    rw [e1, if_pos (by omega)] at e2
    obtain ⟨k, h1, h2, h3, h4⟩ := own_nlz64 (x ^^^ (-1 : Int64))
    have hk := h4 (by rw [e2]; exact Int.natCast_nonneg _)
    rw [e1] at h3
    refine ⟨k + 1, by omega, by omega, ?_, ?_, ?_⟩
    · rw [Int32.toInt_sub, h2, show (65 : Int32).toInt = 65 from rfl, Int.bmod_def]; omega
    · rw [show k + 1 - 1 = k by omega]; omega
    · have : (0 : Int) ≤ ((2 ^ (k + 1 - 1) : Nat) : Int) := Int.natCast_nonneg _
      omega
  · rw [if_neg q]
    rw [Int64.lt_iff_toInt_lt, show (0 : Int64).toInt = 0 from rfl] at q
    have h63 := own_pos64 (x := x) (by omega)
    rw [if_pos (by omega)] at e
    obtain ⟨k, h1, h2, h3, h4⟩ := own_nlz64 x
    have hk := h4 (by omega)
    refine ⟨k + 1, by omega, by omega, ?_, ?_, ?_⟩
    · rw [Int32.toInt_sub, h2, show (65 : Int32).toInt = 65 from rfl, Int.bmod_def]; omega
    · have : (0 : Int) ≤ ((2 ^ (k + 1 - 1) : Nat) : Int) := Int.natCast_nonneg _
      omega
    · rw [show k + 1 - 1 = k by omega]; omega
theorem own_pw {a b : Nat} (h : a ≤ b) : ((2 ^ a : Nat) : Int) ≤ ((2 ^ b : Nat) : Int) := Int.ofNat_le.mpr (Nat.pow_le_pow_right (by decide) h)
/-- what the width of a range says of a value within -/
theorem own_fit (lo hi v : Int64) (h1 : lo.toInt ≤ v.toInt) (h2 : v.toInt ≤ hi.toInt) : ∃ k : Nat, k ≤ 64 ∧ (own_wd lo hi).toInt = k ∧
    ((own_sg lo = 1 ∧ 1 ≤ k ∧ -((2 ^ (k - 1) : Nat) : Int) ≤ v.toInt ∧ v.toInt < ((2 ^ (k - 1) : Nat) : Int)) ∨ (own_sg lo = 0 ∧ v.toUInt64.toNat < 2 ^ k)) := by
  unfold own_wd own_sg
  by_cases q : lo < (0 : Int64)
  · rw [if_pos q, if_pos q]
    obtain ⟨a, a1, a2, a3, a4, a5⟩ := own_width lo
    obtain ⟨b, b1, b2, b3, b4, b5⟩ := own_width hi
    unfold own_f14
    by_cases u : own_f33 lo < own_f33 hi
    · rw [if_pos u]
      rw [Int32.lt_iff_toInt_lt] at u
      have := own_pw (show a - 1 ≤ b - 1 by omega)
      exact ⟨b, b2, b3, Or.inl ⟨rfl, b1, by omega, by omega⟩⟩
    · rw [if_neg u]
      rw [Int32.lt_iff_toInt_lt] at u
      have := own_pw (show b - 1 ≤ a - 1 by omega)
      exact ⟨a, a2, a3, Or.inl ⟨rfl, a1, by omega, by omega⟩⟩
  · rw [if_neg q, if_neg q]
    rw [Int64.lt_iff_toInt_lt, show (0 : Int64).toInt = 0 from rfl] at q
    obtain ⟨k, c1, c2, c3, c4⟩ := own_nlz64 hi
    have ev := own_i64 v
    have eh := own_i64 hi
    have pv := own_pos64 (x := v) (by omega)
    have ph := own_pos64 (x := hi) (by omega)
    rw [if_pos (by omega)] at ev eh
    refine ⟨k, c1, ?_, Or.inr ⟨rfl, by omega⟩⟩
    rw [Int32.toInt_sub, c2, show (64 : Int32).toInt = 64 from rfl, Int.bmod_def]; omega
theorem d15_0 : decode prog_58_method_1_code 0 = .ok (.aload_n 0, 1) := by decide +kernel
theorem d15_1 : decode prog_58_method_1_code 1 = .ok (.invokespecial 1, 3) := by decide +kernel
theorem d15_4 : decode prog_58_method_1_code 4 = .ok (.aload_n 0, 1) := by decide +kernel
theorem d15_5 : decode prog_58_method_1_code 5 = .ok (.new 7, 3) := by decide +kernel
theorem d15_8 : decode prog_58_method_1_code 8 = .ok (.dup, 1) := by decide +kernel
theorem d15_9 : decode prog_58_method_1_code 9 = .ok (.invokespecial 9, 3) := by decide +kernel
theorem d15_12 : decode prog_58_method_1_code 12 = .ok (.putfield 10, 3) := by decide +kernel
theorem d15_15 : decode prog_58_method_1_code 15 = .ok (.aload_n 0, 1) := by decide +kernel
theorem d15_16 : decode prog_58_method_1_code 16 = .ok (.new 16, 3) := by decide +kernel
theorem d15_19 : decode prog_58_method_1_code 19 = .ok (.dup, 1) := by decide +kernel
theorem d15_20 : decode prog_58_method_1_code 20 = .ok (.invokespecial 18, 3) := by decide +kernel
theorem d15_23 : decode prog_58_method_1_code 23 = .ok (.putfield 19, 3) := by decide +kernel
theorem d15_26 : decode prog_58_method_1_code 26 = .ok (.aload_n 0, 1) := by decide +kernel
theorem d15_27 : decode prog_58_method_1_code 27 = .ok (.getfield 10, 3) := by decide +kernel
theorem d15_30 : decode prog_58_method_1_code 30 = .ok (.aload_n 1, 1) := by decide +kernel
theorem d15_31 : decode prog_58_method_1_code 31 = .ok (.invokeinterface 23 2, 5) := by decide +kernel
theorem d15_36 : decode prog_58_method_1_code 36 = .ok (.pop, 1) := by decide +kernel
theorem d15_37 : decode prog_58_method_1_code 37 = .ok (.aload_n 0, 1) := by decide +kernel
theorem d15_38 : decode prog_58_method_1_code 38 = .ok (.getfield 10, 3) := by decide +kernel
theorem d15_41 : decode prog_58_method_1_code 41 = .ok (.aload_n 2, 1) := by decide +kernel
theorem d15_42 : decode prog_58_method_1_code 42 = .ok (.invokeinterface 23 2, 5) := by decide +kernel
theorem d15_47 : decode prog_58_method_1_code 47 = .ok (.pop, 1) := by decide +kernel
theorem d15_48 : decode prog_58_method_1_code 48 = .ok (.aload_n 0, 1) := by decide +kernel
theorem d15_49 : decode prog_58_method_1_code 49 = .ok (.aload_n 1, 1) := by decide +kernel
theorem d15_50 : decode prog_58_method_1_code 50 = .ok (.invokeinterface 29 1, 5) := by decide +kernel
theorem d15_55 : decode prog_58_method_1_code 55 = .ok (.putfield 33, 3) := by decide +kernel
theorem d15_58 : decode prog_58_method_1_code 58 = .ok (.aload_n 0, 1) := by decide +kernel
theorem d15_59 : decode prog_58_method_1_code 59 = .ok (.aload_n 0, 1) := by decide +kernel
theorem d15_60 : decode prog_58_method_1_code 60 = .ok (.getfield 10, 3) := by decide +kernel
theorem d15_63 : decode prog_58_method_1_code 63 = .ok (.invokeinterface 29 1, 5) := by decide +kernel
theorem d15_68 : decode prog_58_method_1_code 68 = .ok (.iconst 1, 1) := by decide +kernel
theorem d15_69 : decode prog_58_method_1_code 69 = .ok (.iadd, 1) := by decide +kernel
theorem d15_70 : decode prog_58_method_1_code 70 = .ok (.newarray .int, 2) := by decide +kernel
theorem d15_72 : decode prog_58_method_1_code 72 = .ok (.putfield 37, 3) := by decide +kernel
theorem d15_75 : decode prog_58_method_1_code 75 = .ok (.aload_n 0, 1) := by decide +kernel
theorem d15_76 : decode prog_58_method_1_code 76 = .ok (.aload_n 0, 1) := by decide +kernel
theorem d15_77 : decode prog_58_method_1_code 77 = .ok (.getfield 10, 3) := by decide +kernel
theorem d15_80 : decode prog_58_method_1_code 80 = .ok (.invokeinterface 29 1, 5) := by decide +kernel
theorem d15_85 : decode prog_58_method_1_code 85 = .ok (.newarray .boolean, 2) := by decide +kernel
theorem d15_87 : decode prog_58_method_1_code 87 = .ok (.putfield 41, 3) := by decide +kernel
theorem d15_90 : decode prog_58_method_1_code 90 = .ok (.aload_n 0, 1) := by decide +kernel
theorem d15_91 : decode prog_58_method_1_code 91 = .ok (.aload_n 0, 1) := by decide +kernel
theorem d15_92 : decode prog_58_method_1_code 92 = .ok (.getfield 10, 3) := by decide +kernel
theorem d15_95 : decode prog_58_method_1_code 95 = .ok (.invokeinterface 29 1, 5) := by decide +kernel
theorem d15_100 : decode prog_58_method_1_code 100 = .ok (.anewarray 45, 3) := by decide +kernel
theorem d15_103 : decode prog_58_method_1_code 103 = .ok (.putfield 47, 3) := by decide +kernel
theorem d15_106 : decode prog_58_method_1_code 106 = .ok (.iconst 0, 1) := by decide +kernel
theorem d15_107 : decode prog_58_method_1_code 107 = .ok (.istore_n 3, 1) := by decide +kernel
theorem d15_108 : decode prog_58_method_1_code 108 = .ok (.iload_n 3, 1) := by decide +kernel
theorem d15_109 : decode prog_58_method_1_code 109 = .ok (.aload_n 0, 1) := by decide +kernel
theorem d15_110 : decode prog_58_method_1_code 110 = .ok (.getfield 10, 3) := by decide +kernel
theorem d15_113 : decode prog_58_method_1_code 113 = .ok (.invokeinterface 29 1, 5) := by decide +kernel
theorem d15_118 : decode prog_58_method_1_code 118 = .ok (.if_icmp .ge 268, 3) := by decide +kernel
theorem d15_121 : decode prog_58_method_1_code 121 = .ok (.aload_n 0, 1) := by decide +kernel
theorem d15_122 : decode prog_58_method_1_code 122 = .ok (.getfield 10, 3) := by decide +kernel
theorem d15_125 : decode prog_58_method_1_code 125 = .ok (.iload_n 3, 1) := by decide +kernel
theorem d15_126 : decode prog_58_method_1_code 126 = .ok (.invokeinterface 51 2, 5) := by decide +kernel
theorem d15_131 : decode prog_58_method_1_code 131 = .ok (.checkcast 55, 3) := by decide +kernel
theorem d15_134 : decode prog_58_method_1_code 134 = .ok (.invokevirtual 57, 3) := by decide +kernel
theorem d15_137 : decode prog_58_method_1_code 137 = .ok (.astore 4, 2) := by decide +kernel
theorem d15_139 : decode prog_58_method_1_code 139 = .ok (.lconst 0, 1) := by decide +kernel
theorem d15_140 : decode prog_58_method_1_code 140 = .ok (.lstore 5, 2) := by decide +kernel
theorem d15_142 : decode prog_58_method_1_code 142 = .ok (.lconst 1, 1) := by decide +kernel
theorem d15_143 : decode prog_58_method_1_code 143 = .ok (.lstore 7, 2) := by decide +kernel
theorem d15_145 : decode prog_58_method_1_code 145 = .ok (.aload 4, 2) := by decide +kernel
theorem d15_147 : decode prog_58_method_1_code 147 = .ok (.instanceof 61, 3) := by decide +kernel
theorem d15_150 : decode prog_58_method_1_code 150 = .ok (.ifCond .eq 27, 3) := by decide +kernel
theorem d15_153 : decode prog_58_method_1_code 153 = .ok (.aload 4, 2) := by decide +kernel
theorem d15_155 : decode prog_58_method_1_code 155 = .ok (.checkcast 61, 3) := by decide +kernel
theorem d15_158 : decode prog_58_method_1_code 158 = .ok (.astore 9, 2) := by decide +kernel
theorem d15_160 : decode prog_58_method_1_code 160 = .ok (.aload 9, 2) := by decide +kernel
theorem d15_162 : decode prog_58_method_1_code 162 = .ok (.invokevirtual 63, 3) := by decide +kernel
theorem d15_165 : decode prog_58_method_1_code 165 = .ok (.lstore 5, 2) := by decide +kernel
theorem d15_167 : decode prog_58_method_1_code 167 = .ok (.aload 9, 2) := by decide +kernel
theorem d15_169 : decode prog_58_method_1_code 169 = .ok (.invokevirtual 67, 3) := by decide +kernel
theorem d15_172 : decode prog_58_method_1_code 172 = .ok (.lstore 7, 2) := by decide +kernel
theorem d15_174 : decode prog_58_method_1_code 174 = .ok (.goto 136, 3) := by decide +kernel
theorem d15_177 : decode prog_58_method_1_code 177 = .ok (.aload 4, 2) := by decide +kernel
theorem d15_179 : decode prog_58_method_1_code 179 = .ok (.instanceof 70, 3) := by decide +kernel
theorem d15_182 : decode prog_58_method_1_code 182 = .ok (.ifCond .eq 128, 3) := by decide +kernel
theorem d15_185 : decode prog_58_method_1_code 185 = .ok (.aload 4, 2) := by decide +kernel
theorem d15_187 : decode prog_58_method_1_code 187 = .ok (.checkcast 70, 3) := by decide +kernel
theorem d15_190 : decode prog_58_method_1_code 190 = .ok (.astore 10, 2) := by decide +kernel
theorem d15_192 : decode prog_58_method_1_code 192 = .ok (.aload 10, 2) := by decide +kernel
theorem d15_194 : decode prog_58_method_1_code 194 = .ok (.invokevirtual 72, 3) := by decide +kernel
theorem d15_197 : decode prog_58_method_1_code 197 = .ok (.astore 11, 2) := by decide +kernel
theorem d15_199 : decode prog_58_method_1_code 199 = .ok (.aload_n 0, 1) := by decide +kernel
theorem d15_200 : decode prog_58_method_1_code 200 = .ok (.getfield 47, 3) := by decide +kernel
theorem d15_203 : decode prog_58_method_1_code 203 = .ok (.iload_n 3, 1) := by decide +kernel
theorem d15_204 : decode prog_58_method_1_code 204 = .ok (.aload 11, 2) := by decide +kernel
theorem d15_206 : decode prog_58_method_1_code 206 = .ok (.invokeinterface 29 1, 5) := by decide +kernel
theorem d15_211 : decode prog_58_method_1_code 211 = .ok (.newarray .long, 2) := by decide +kernel
theorem d15_213 : decode prog_58_method_1_code 213 = .ok (.aastore, 1) := by decide +kernel
theorem d15_214 : decode prog_58_method_1_code 214 = .ok (.ldc2_w 78, 3) := by decide +kernel
theorem d15_217 : decode prog_58_method_1_code 217 = .ok (.lstore 7, 2) := by decide +kernel
theorem d15_219 : decode prog_58_method_1_code 219 = .ok (.iconst 0, 1) := by decide +kernel
theorem d15_220 : decode prog_58_method_1_code 220 = .ok (.istore 12, 2) := by decide +kernel
theorem d15_222 : decode prog_58_method_1_code 222 = .ok (.iload 12, 2) := by decide +kernel
theorem d15_224 : decode prog_58_method_1_code 224 = .ok (.aload 11, 2) := by decide +kernel
theorem d15_226 : decode prog_58_method_1_code 226 = .ok (.invokeinterface 29 1, 5) := by decide +kernel
theorem d15_231 : decode prog_58_method_1_code 231 = .ok (.if_icmp .ge 79, 3) := by decide +kernel
theorem d15_234 : decode prog_58_method_1_code 234 = .ok (.aload 11, 2) := by decide +kernel
theorem d15_236 : decode prog_58_method_1_code 236 = .ok (.iload 12, 2) := by decide +kernel
theorem d15_238 : decode prog_58_method_1_code 238 = .ok (.invokeinterface 51 2, 5) := by decide +kernel
theorem d15_243 : decode prog_58_method_1_code 243 = .ok (.checkcast 80, 3) := by decide +kernel
theorem d15_246 : decode prog_58_method_1_code 246 = .ok (.astore 13, 2) := by decide +kernel
theorem d15_248 : decode prog_58_method_1_code 248 = .ok (.aload 10, 2) := by decide +kernel
theorem d15_250 : decode prog_58_method_1_code 250 = .ok (.invokevirtual 82, 3) := by decide +kernel
theorem d15_253 : decode prog_58_method_1_code 253 = .ok (.getstatic 86, 3) := by decide +kernel
theorem d15_256 : decode prog_58_method_1_code 256 = .ok (.if_acmp .ne 11, 3) := by decide +kernel
theorem d15_259 : decode prog_58_method_1_code 259 = .ok (.aload 13, 2) := by decide +kernel
theorem d15_261 : decode prog_58_method_1_code 261 = .ok (.invokestatic 92, 3) := by decide +kernel
theorem d15_264 : decode prog_58_method_1_code 264 = .ok (.goto 9, 3) := by decide +kernel
theorem d15_267 : decode prog_58_method_1_code 267 = .ok (.aload_n 0, 1) := by decide +kernel
theorem d15_268 : decode prog_58_method_1_code 268 = .ok (.aload 13, 2) := by decide +kernel
theorem d15_270 : decode prog_58_method_1_code 270 = .ok (.invokevirtual 96, 3) := by decide +kernel
theorem d15_273 : decode prog_58_method_1_code 273 = .ok (.lstore 14, 2) := by decide +kernel
theorem d15_275 : decode prog_58_method_1_code 275 = .ok (.aload_n 0, 1) := by decide +kernel
theorem d15_276 : decode prog_58_method_1_code 276 = .ok (.getfield 47, 3) := by decide +kernel
theorem d15_279 : decode prog_58_method_1_code 279 = .ok (.iload_n 3, 1) := by decide +kernel
theorem d15_280 : decode prog_58_method_1_code 280 = .ok (.aaload, 1) := by decide +kernel
theorem d15_281 : decode prog_58_method_1_code 281 = .ok (.iload 12, 2) := by decide +kernel
theorem d15_283 : decode prog_58_method_1_code 283 = .ok (.lload 14, 2) := by decide +kernel
theorem d15_285 : decode prog_58_method_1_code 285 = .ok (.lastore, 1) := by decide +kernel
theorem d15_286 : decode prog_58_method_1_code 286 = .ok (.lload 5, 2) := by decide +kernel
theorem d15_288 : decode prog_58_method_1_code 288 = .ok (.lload 14, 2) := by decide +kernel
theorem d15_290 : decode prog_58_method_1_code 290 = .ok (.invokestatic 99, 3) := by decide +kernel
theorem d15_293 : decode prog_58_method_1_code 293 = .ok (.lstore 5, 2) := by decide +kernel
theorem d15_295 : decode prog_58_method_1_code 295 = .ok (.lload 7, 2) := by decide +kernel
theorem d15_297 : decode prog_58_method_1_code 297 = .ok (.lload 14, 2) := by decide +kernel
theorem d15_299 : decode prog_58_method_1_code 299 = .ok (.invokestatic 105, 3) := by decide +kernel
theorem d15_302 : decode prog_58_method_1_code 302 = .ok (.lstore 7, 2) := by decide +kernel
theorem d15_304 : decode prog_58_method_1_code 304 = .ok (.iinc 12 1, 3) := by decide +kernel
theorem d15_307 : decode prog_58_method_1_code 307 = .ok (.goto (-85), 3) := by decide +kernel
theorem d15_310 : decode prog_58_method_1_code 310 = .ok (.aload_n 0, 1) := by decide +kernel
theorem d15_311 : decode prog_58_method_1_code 311 = .ok (.getfield 41, 3) := by decide +kernel
theorem d15_314 : decode prog_58_method_1_code 314 = .ok (.iload_n 3, 1) := by decide +kernel
theorem d15_315 : decode prog_58_method_1_code 315 = .ok (.lload 5, 2) := by decide +kernel
theorem d15_317 : decode prog_58_method_1_code 317 = .ok (.lconst 0, 1) := by decide +kernel
theorem d15_318 : decode prog_58_method_1_code 318 = .ok (.lcmp, 1) := by decide +kernel
theorem d15_319 : decode prog_58_method_1_code 319 = .ok (.ifCond .ge 7, 3) := by decide +kernel
theorem d15_322 : decode prog_58_method_1_code 322 = .ok (.iconst 1, 1) := by decide +kernel
theorem d15_323 : decode prog_58_method_1_code 323 = .ok (.goto 4, 3) := by decide +kernel
theorem d15_326 : decode prog_58_method_1_code 326 = .ok (.iconst 0, 1) := by decide +kernel
theorem d15_327 : decode prog_58_method_1_code 327 = .ok (.bastore, 1) := by decide +kernel
theorem d15_328 : decode prog_58_method_1_code 328 = .ok (.aload_n 0, 1) := by decide +kernel
theorem d15_329 : decode prog_58_method_1_code 329 = .ok (.getfield 41, 3) := by decide +kernel
theorem d15_332 : decode prog_58_method_1_code 332 = .ok (.iload_n 3, 1) := by decide +kernel
theorem d15_333 : decode prog_58_method_1_code 333 = .ok (.baload, 1) := by decide +kernel
theorem d15_334 : decode prog_58_method_1_code 334 = .ok (.ifCond .eq 19, 3) := by decide +kernel
theorem d15_337 : decode prog_58_method_1_code 337 = .ok (.lload 5, 2) := by decide +kernel
theorem d15_339 : decode prog_58_method_1_code 339 = .ok (.invokestatic 108, 3) := by decide +kernel
theorem d15_342 : decode prog_58_method_1_code 342 = .ok (.lload 7, 2) := by decide +kernel
theorem d15_344 : decode prog_58_method_1_code 344 = .ok (.invokestatic 108, 3) := by decide +kernel
theorem d15_347 : decode prog_58_method_1_code 347 = .ok (.invokestatic 114, 3) := by decide +kernel
theorem d15_350 : decode prog_58_method_1_code 350 = .ok (.goto 11, 3) := by decide +kernel
theorem d15_353 : decode prog_58_method_1_code 353 = .ok (.bipush 64, 2) := by decide +kernel
theorem d15_355 : decode prog_58_method_1_code 355 = .ok (.lload 7, 2) := by decide +kernel
theorem d15_357 : decode prog_58_method_1_code 357 = .ok (.invokestatic 117, 3) := by decide +kernel
theorem d15_360 : decode prog_58_method_1_code 360 = .ok (.isub, 1) := by decide +kernel
theorem d15_361 : decode prog_58_method_1_code 361 = .ok (.istore 9, 2) := by decide +kernel
theorem d15_363 : decode prog_58_method_1_code 363 = .ok (.aload_n 0, 1) := by decide +kernel
theorem d15_364 : decode prog_58_method_1_code 364 = .ok (.getfield 37, 3) := by decide +kernel
theorem d15_367 : decode prog_58_method_1_code 367 = .ok (.iload_n 3, 1) := by decide +kernel
theorem d15_368 : decode prog_58_method_1_code 368 = .ok (.iconst 1, 1) := by decide +kernel
theorem d15_369 : decode prog_58_method_1_code 369 = .ok (.iadd, 1) := by decide +kernel
theorem d15_370 : decode prog_58_method_1_code 370 = .ok (.aload_n 0, 1) := by decide +kernel
theorem d15_371 : decode prog_58_method_1_code 371 = .ok (.getfield 37, 3) := by decide +kernel
theorem d15_374 : decode prog_58_method_1_code 374 = .ok (.iload_n 3, 1) := by decide +kernel
theorem d15_375 : decode prog_58_method_1_code 375 = .ok (.iaload, 1) := by decide +kernel
theorem d15_376 : decode prog_58_method_1_code 376 = .ok (.iload 9, 2) := by decide +kernel
theorem d15_378 : decode prog_58_method_1_code 378 = .ok (.iadd, 1) := by decide +kernel
theorem d15_379 : decode prog_58_method_1_code 379 = .ok (.iastore, 1) := by decide +kernel
theorem d15_380 : decode prog_58_method_1_code 380 = .ok (.iinc 3 1, 3) := by decide +kernel
theorem d15_383 : decode prog_58_method_1_code 383 = .ok (.goto (-275), 3) := by decide +kernel
theorem d15_386 : decode prog_58_method_1_code 386 = .ok (.return_, 1) := by decide +kernel
theorem pn_15 : plainName "org/counterpath/engine/Encoding" = true := by first | (simp [plainName, overriddenIn]; done) | decide +kernel
theorem pd_11 : parseMethodDescriptor "(Ljava/util/Collection;)Z" = some ⟨[(.object "java/util/Collection")], some .boolean⟩ := by decide +kernel
theorem pd_12 : parseMethodDescriptor "()I" = some ⟨[], some .int⟩ := by decide +kernel
theorem pd_13 : parseMethodDescriptor "()Lorg/counterpath/model/Type;" = some ⟨[], some (.object "org/counterpath/model/Type")⟩ := by decide +kernel
theorem pd_14 : parseMethodDescriptor "()J" = some ⟨[], some .long⟩ := by decide +kernel
theorem ef_15 (m : MethodId) (x0 : Addr) (x1 : Addr) (x2 : Addr) : entryFrame m #[(.ref x0), (.ref x1), (.ref x2)] 16 = mkF m 0 #[.val (.ref x0), .val (.ref x1), .val (.ref x2), .unset, .unset, .unset, .unset, .unset, .unset, .unset, .unset, .unset, .unset, .unset, .unset, .unset] [] := by first | (simp [entryFrame, mkF, argsToLocals, Value.category]; done) | rfl
def Q15 (Z : State) (a0 : Addr) (a1 : Addr) (a2 : Addr) (dd : Addr) (kd : ClassId) (mr : Addr) (m1 : Int32) (d1 : Addr) (k1 : ClassId) (x1 : Addr) (t1 : Addr) (l1 : Int64) (u1 : Int64) (m2 : Int32) (d2 : Addr) (k2 : ClassId) (x2 : Addr) (t2 : Addr) (l2 : Int64) (u2 : Int64) (h0 : Heap) (n0 : Nat) (v : Option Value) (h : Heap) (L : List Loc) : Prop := ∃ (fb : Addr) (kf : ClassId) (sg : Addr) (ks : ClassId) (cd : Addr) (kc : ClassId), v = none ∧ Fr n0 L ∧ Keep h0 h [a0] ∧ Fld Z h a0 "org/counterpath/engine/Encoding" "_firstBits" "[I" (.ref fb) ∧ Fld Z h a0 "org/counterpath/engine/Encoding" "_signed" "[Z" (.ref sg) ∧ Fld Z h a0 "org/counterpath/engine/Encoding" "_codes" "[[J" (.ref cd) ∧ Arv Z h fb kf .int (3 : Int32) [(.int 0), (.int ((0 : Int32) + (own_wd l1 u1))), (.int (((0 : Int32) + (own_wd l1 u1)) + (own_wd l2 u2)))] (.int 0) ∧ Arv Z h sg ks .boolean (2 : Int32) [(.int (own_sg l1)), (.int (own_sg l2))] (.int 0) ∧ Arv Z h cd kc (.array .long) (2 : Int32) [.null, .null] .null ∧ h0.size ≤ fb ∧ h0.size ≤ sg ∧ h0.size ≤ cd
set_option maxHeartbeats 40000000 in
theorem rm15 (l : Launch) (Z : State) (aZ : Array Value) (hw : ∀ d ∈ tables_1, d.before aZ Z = true) (ws : List Jvm.Cond) (a0 : Addr) (a1 : Addr) (a2 : Addr) (dd : Addr) (kd : ClassId) (mr : Addr) (m1 : Int32) (d1 : Addr) (k1 : ClassId) (x1 : Addr) (t1 : Addr) (l1 : Int64) (u1 : Int64) (m2 : Int32) (d2 : Addr) (k2 : ClassId) (x2 : Addr) (t2 : Addr) (l2 : Int64) (u2 : Int64) (h0 : Heap) (n0 : Nat) (Z0 : n0 ≤ h0.size) (O0 : Old Z n0 h0) (E0a : Exa Z h0 a0 "org/counterpath/engine/Encoding") (G_variables : Fld Z h0 a0 "org/counterpath/engine/Encoding" "_variables" "Ljava/util/List;" .null) (G_codeOf : Fld Z h0 a0 "org/counterpath/engine/Encoding" "_codeOf" "Ljava/util/Map;" .null) (G_firstInput : Fld Z h0 a0 "org/counterpath/engine/Encoding" "_firstInput" "I" (.int 0)) (G_firstBits : Fld Z h0 a0 "org/counterpath/engine/Encoding" "_firstBits" "[I" .null) (G_signed : Fld Z h0 a0 "org/counterpath/engine/Encoding" "_signed" "[Z" .null) (G_codes : Fld Z h0 a0 "org/counterpath/engine/Encoding" "_codes" "[[J" .null) (SD : Sta Z Z.heap "java/util/ArrayList" "DEFAULTCAPACITY_EMPTY_ELEMENTDATA" "[Ljava/lang/Object;" (.ref dd)) (VD : Arv Z h0 dd kd (.object "java/lang/Object") (0 : Int32) [] .null) (ED : Exa Z h0 dd "[Ljava/lang/Object;") (E1s1 : Exa Z h0 a1 "java/util/ArrayList") (F1s1 : Fld Z h0 a1 "java/util/AbstractList" "modCount" "I" (.int m1)) (F2s1 : Fld Z h0 a1 "java/util/ArrayList" "elementData" "[Ljava/lang/Object;" (.ref d1)) (F3s1 : Fld Z h0 a1 "java/util/ArrayList" "size" "I" (.int 1)) (V1 : Arv Z h0 d1 k1 (.object "java/lang/Object") (10 : Int32) [(.ref x1), .null, .null, .null, .null, .null, .null, .null, .null, .null] .null) (EA1 : Exa Z h0 d1 "[Ljava/lang/Object;") (EX1 : Exa Z h0 x1 "org/counterpath/model/Variable") (FT1 : Fld Z h0 x1 "org/counterpath/model/Variable" "type" "Lorg/counterpath/model/Type;" (.ref t1)) (ET1 : Exa Z h0 t1 "org/counterpath/model/Type$Range") (FL1 : Fld Z h0 t1 "org/counterpath/model/Type$Range" "low" "J" (.long l1)) (FH1 : Fld Z h0 t1 "org/counterpath/model/Type$Range" "high" "J" (.long u1)) (E1s2 : Exa Z h0 a2 "java/util/ArrayList") (F1s2 : Fld Z h0 a2 "java/util/AbstractList" "modCount" "I" (.int m2)) (F2s2 : Fld Z h0 a2 "java/util/ArrayList" "elementData" "[Ljava/lang/Object;" (.ref d2)) (F3s2 : Fld Z h0 a2 "java/util/ArrayList" "size" "I" (.int 1)) (V2 : Arv Z h0 d2 k2 (.object "java/lang/Object") (10 : Int32) [(.ref x2), .null, .null, .null, .null, .null, .null, .null, .null, .null] .null) (EA2 : Exa Z h0 d2 "[Ljava/lang/Object;") (EX2 : Exa Z h0 x2 "org/counterpath/model/Variable") (FT2 : Fld Z h0 x2 "org/counterpath/model/Variable" "type" "Lorg/counterpath/model/Type;" (.ref t2)) (ET2 : Exa Z h0 t2 "org/counterpath/model/Type$Range") (FL2 : Fld Z h0 t2 "org/counterpath/model/Type$Range" "low" "J" (.long l2)) (FH2 : Fld Z h0 t2 "org/counterpath/model/Type$Range" "high" "J" (.long u2)) (hM : own_Mr Z "[Ljava/lang/Object;" mr) (hn_a1 : a1 ≠ a0) (hn_d1 : d1 ≠ a0) (hn_x1 : x1 ≠ a0) (hn_t1 : t1 ≠ a0) (hn_a2 : a2 ≠ a0) (hn_d2 : d2 ≠ a0) (hn_x2 : x2 ≠ a0) (hn_t2 : t2 ≠ a0) (hn_dd : dd ≠ a0) (g_a0 : n0 ≤ a0) :
  MetFree l (⟨"org/counterpath/engine/Encoding", "<init>", "(Ljava/util/List;Ljava/util/List;)V"⟩ : MethodName) (head1 (Jvm.Cond.code (⟨"org/counterpath/engine/Encoding", "<init>", "(Ljava/util/List;Ljava/util/List;)V"⟩ : MethodName) prog_58_method_1_code 16 none :: ws) ({ frames := 5, cells := 8, slots := 30, locals := 97 } : Room)) (fun a U => a = #[.ref a0, .ref a1, .ref a2] ∧ Z.Warmed39 U.vm ∧ U.heap = h0) (fun _ _ _ _ _ => True) (fun _ U o U' => ∃ v L, o = .returned v ∧ Q15 Z a0 a1 a2 dd kd mr m1 d1 k1 x1 t1 l1 u1 m2 d2 k2 x2 t2 l2 u2 h0 n0 v U'.heap L ∧ FrameEnd U o U' L ({ frames := 5, cells := 8, slots := 30, locals := 97 } : Room).cells ({ frames := 5, cells := 8, slots := 30, locals := 97 } : Room).slots) := by
 refine MetFree.of_bodySF (plainFor_of_name pn_15) hisR ?_
 intro p e s m args below meth c s₁ Bd hml0 hP hK
 obtain ⟨rfl, hZ, hh⟩ := hP
 have hx := Bd.exec
 have hby := Bd.bytes
 have hret := Bd.returns
 have hlk : meth.locks = false := BodyLoose.notSynchronized Bd
 have hml : c.maxLocals = 16 := hml0
 have hown : s.vm.findClass "org/counterpath/engine/Encoding" = some m.cls := findClass_of_methodNamed Bd.named
 have hnm := (name_of_methodNamed Bd.named Bd.method).1
 have X0 : Stand p l e ({ frames := 5, cells := 8, slots := 30, locals := 97 } : Room) s m #[.ref a0, .ref a1, .ref a2] below meth c s₁ [] 0 0 := Stand.of_body Bd
 have e0 : s₁.heap = h0 := by rw [← hh, Bd.state]; rfl
 have N0 := Fr.nil n0
 have K0 : Keep h0 h0 [a0] := Keep.refl _ _
 have pre0 : ∀ t, zs p e below s₁ m 0 (z7 a0 a1 a2) [] t → Steps p.tables e below (s₁.setTop (entryFrame m #[.ref a0, .ref a1, .ref a2] 16)) t := fun t k => castTop (ef_15 m a0 a1 a2) k
 show OFin p e below s (Q15 Z a0 a1 a2 dd kd mr m1 d1 k1 x1 t1 l1 u1 m2 d2 k2 x2 t2 l2 u2 h0 n0) ({ frames := 5, cells := 8, slots := 30, locals := 97 } : Room).cells ({ frames := 5, cells := 8, slots := 30, locals := 97 } : Room).slots _
 refine OFin.go pre0 ?_
 have sg101 : zg p e below s₁ m 1 (z7 a0 a1 a2) [.ref a0] 0 (z7 a0 a1 a2) [] := by
  intro t k
  refine XS.aloadN X0.here hx rfl (hb hby d15_0) rfl rfl ?_
  exact k
 refine OFin.go sg101 ?_
 obtain ⟨T102, X102, e102, st102⟩ := initO X0 hx hZ hown (zw hw 109 rfl) (zw hw 30 rfl) (zw hw 31 rfl) e0 (g := (mkF m 1 (z7 a0 a1 a2) [.ref a0])) rfl (by rw [hml]; rfl) rfl (hb hby d15_1) (by decide) (W := 0) (by show 2 * 0 + _ ≤ _; exact ze rfl) (by decide)
 refine OFin.go st102 ?_
 have sg103 : zg p e below T102 m 5 (z7 a0 a1 a2) [.ref a0] 4 (z7 a0 a1 a2) [] := by
  intro t k
  refine XS.aloadN X102.here hx rfl (hb hby d15_4) rfl rfl ?_
  exact k
 refine OFin.go sg103 ?_
 obtain ⟨T104, h104, X104, e104, E104, A104, D104, -, st104⟩ := newO X102 hx hZ hown (zw hw 110 rfl) (zw hw 46 rfl) (zw hw 47 rfl) e102 (g := (mkF m 5 (z7 a0 a1 a2) [.ref a0])) rfl (hb hby d15_5) (by decide) (by decide)
 obtain ⟨b104, g104⟩ : ∃ z, z = h0.size := ⟨_, rfl⟩
 rw [← g104] at A104 D104 st104
 refine OFin.go st104 ?_
 have g_b104 : n0 ≤ b104 := zt (zt Z0 K0.1) (ze g104.symm)
 have sz_b104 : h0.size ≤ b104 := zt K0.1 (ze g104.symm)
 have K104 : Keep h0 h104 [a0] := K0.ext E104
 have F104_modCount : Fld Z h104 b104 "java/util/AbstractList" "modCount" "I" (.int 0) := D104 (Or.inl (zw hw 65 rfl)) (ty := .int) (by decide)
 have F104_elementData : Fld Z h104 b104 "java/util/ArrayList" "elementData" "[Ljava/lang/Object;" .null := D104 (Or.inl (zw hw 68 rfl)) (ty := (.array (.object "java/lang/Object"))) (by decide)
 have F104_size : Fld Z h104 b104 "java/util/ArrayList" "size" "I" (.int 0) := D104 (Or.inl (zw hw 81 rfl)) (ty := .int) (by decide)
 have sg105 : zg p e below T104 m 9 (z7 a0 a1 a2) [.ref b104, .ref b104, .ref a0] 8 (z7 a0 a1 a2) [.ref b104, .ref a0] := by
  intro t k
  refine XS.dup X104.here hx rfl (hb hby d15_8) rfl rfl ?_
  exact k
 refine OFin.go sg105 ?_
 obtain ⟨_, _, ⟨T106, L106, k106, n106⟩, -, X106, ⟨Lc106, hQ106, l106, y106, z106⟩, st106⟩ := X104.specialBack hx (y := (⟨"java/util/ArrayList", "<init>", "()V"⟩ : MethodName)) rfl hown (mvT hZ (zw hw 111 rfl)) (mvT hZ (zw hw 49 rfl)) (mvT hZ (zw hw 50 rfl)) (by decide) (backOf (W := 2) (rm7 l Z aZ hw [] b104 dd h104 n0 (zt Z0 K104.1) (O0.ext E104) A104 F104_modCount F104_elementData F104_size SD g_b104) hZ (zw hw 50 rfl) (zw hw 47 rfl) (by decide) (by decide)) (g := (mkF m 9 (z7 a0 a1 a2) [.ref b104, .ref b104, .ref a0])) rfl (by rw [hml]; rfl) (Steps.refl _) (a := b104) (argsL := []) (rest := [.ref b104, .ref a0]) (lenOf pd_2 rfl) rfl (by show 2 * 0 + _ ≤ _; exact ze rfl) (hb hby d15_9) (fun _ _ => ⟨rfl, e104, (by decide : 1 + 0 ≤ _), (by decide : 3 + 0 ≤ _)⟩)
 dsimp only [Pt.U, Pt.locs, Pt.cells, Pt.slots] at X106 l106 y106 z106 st106 hQ106
 rw [l106, y106, z106] at X106
 obtain ⟨rfl, N106q, Kq106, P106_0, P106_1, P106_2⟩ := hQ106
 have N106 := Fr.app N0 N106q
 refine OFin.tr st106 ?_
 have K106 : Keep h0 T106.heap [a0] := K104.trans Kq106 (allS (Or.inr sz_b104) all0)
 have nq107 : a0 ≠ b104 := (zn (zl E0a.lt (ze g104.symm)))
 obtain ⟨T108, h108, X108, e108, W108, st108⟩ := putF X106 hx hZ hown (host := "") (Or.inl (zw hw 112 rfl)) Via.refl rfl ((G_variables.ext E104).keep Kq106 (ninS nq107 nin0)) ((E0a.ext E104).keep Kq106) (Or.inr ⟨(zw hw 113 rfl), rfl, hnm⟩) (zw hw 104 rfl) (ty := (.object "java/util/List")) (by decide) rfl rfl (g := (mkF m 12 (z7 a0 a1 a2) [.ref b104, .ref a0])) rfl rfl (hb hby d15_12)
 refine OFin.go st108 ?_
 have F108 := ((G_variables.ext E104).keep Kq106 (ninS nq107 nin0)).same W108
 have K108 : Keep h0 h108 [a0] := K106.wr W108 (Or.inl (List.mem_of_getElem? (i := 0) rfl))
 have N108 := Fr.snoc X108 N106 g_a0
 have sg109 : zg p e below T108 m 16 (z7 a0 a1 a2) [.ref a0] 15 (z7 a0 a1 a2) [] := by
  intro t k
  refine XS.aloadN X108.here hx rfl (hb hby d15_15) rfl rfl ?_
  exact k
 refine OFin.go sg109 ?_
 obtain ⟨T110, h110, X110, e110, E110, A110, D110, -, st110⟩ := newO X108 hx hZ hown (zw hw 114 rfl) (zw hw 115 rfl) (zw hw 116 rfl) e108 (g := (mkF m 16 (z7 a0 a1 a2) [.ref a0])) rfl (hb hby d15_16) (by decide) (by decide)
 obtain ⟨b110, g110⟩ : ∃ z, z = h108.size := ⟨_, rfl⟩
 rw [← g110] at A110 D110 st110
 refine OFin.go st110 ?_
 have g_b110 : n0 ≤ b110 := zt (zt Z0 K108.1) (ze g110.symm)
 have sz_b110 : h0.size ≤ b110 := zt K108.1 (ze g110.symm)
 have K110 : Keep h0 h110 [a0] := K108.ext E110
 have F110_loadFactor : Fld Z h110 b110 "java/util/HashMap" "loadFactor" "F" (.float (0 : UInt32)) := D110 (Or.inr (zw hw 129 rfl)) (ty := .float) (by decide)
 have sg111 : zg p e below T110 m 20 (z7 a0 a1 a2) [.ref b110, .ref b110, .ref a0] 19 (z7 a0 a1 a2) [.ref b110, .ref a0] := by
  intro t k
  refine XS.dup X110.here hx rfl (hb hby d15_19) rfl rfl ?_
  exact k
 refine OFin.go sg111 ?_
 obtain ⟨_, _, ⟨T112, L112, k112, n112⟩, -, X112, ⟨Lc112, hQ112, l112, y112, z112⟩, st112⟩ := X110.specialBack hx (y := (⟨"java/util/HashMap", "<init>", "()V"⟩ : MethodName)) rfl hown (mvT hZ (zw hw 117 rfl)) (mvT hZ (zw hw 118 rfl)) (mvT hZ (zw hw 119 rfl)) (by decide) (backOf (W := 2) (rm16 l Z aZ hw [] b110 (.float (0 : UInt32)) h110 n0 (zt Z0 K110.1) A110 F110_loadFactor g_b110) hZ (zw hw 119 rfl) (zw hw 116 rfl) (by decide) (by decide)) (g := (mkF m 20 (z7 a0 a1 a2) [.ref b110, .ref b110, .ref a0])) rfl (by rw [hml]; rfl) (Steps.refl _) (a := b110) (argsL := []) (rest := [.ref b110, .ref a0]) (lenOf pd_2 rfl) rfl (by show 2 * 0 + _ ≤ _; exact ze rfl) (hb hby d15_20) (fun _ _ => ⟨rfl, e110, (by decide : 2 + 0 ≤ _), (by decide : 11 + 0 ≤ _)⟩)
 dsimp only [Pt.U, Pt.locs, Pt.cells, Pt.slots] at X112 l112 y112 z112 st112 hQ112
 rw [l112, y112, z112] at X112
 obtain ⟨rfl, N112q, Kq112⟩ := hQ112
 have N112 := Fr.app N108 N112q
 refine OFin.tr st112 ?_
 have K112 : Keep h0 T112.heap [a0] := K110.trans Kq112 (allS (Or.inr sz_b110) all0)
 have nq113 : a0 ≠ b110 := (zn (zl (zl E0a.lt (zt (zt E104.1 Kq106.1) (Keep.of_wr W108).1)) (ze g110.symm)))
 have fq114 : Fld Z T112.heap a0 "org/counterpath/engine/Encoding" "_codeOf" "Ljava/util/Map;" .null := (((((G_codeOf.ext E104).keep Kq106 (ninS nq107 nin0)).other W108 (Or.inr (slot_ne (Or.inr (zw hw 131 rfl)) (Or.inr (zw hw 113 rfl)) (by decide) (t := (.object "java/util/Map")) (t' := (.object "java/util/List")) (by decide) (by decide)))).ext E110).keep Kq112 (ninS nq113 nin0))
 have fq115 : Exa Z T112.heap a0 "org/counterpath/engine/Encoding" := (((((E0a.ext E104).keep Kq106).wr W108).ext E110).keep Kq112)
 obtain ⟨T116, h116, X116, e116, W116, st116⟩ := putF X112 hx hZ hown (host := "") (Or.inl (zw hw 130 rfl)) Via.refl rfl fq114 fq115 (Or.inr ⟨(zw hw 131 rfl), rfl, hnm⟩) (zw hw 104 rfl) (ty := (.object "java/util/Map")) (by decide) rfl rfl (g := (mkF m 23 (z7 a0 a1 a2) [.ref b110, .ref a0])) rfl rfl (hb hby d15_23)
 refine OFin.go st116 ?_
 have F116 := fq114.same W116
 have K116 : Keep h0 h116 [a0] := K112.wr W116 (Or.inl (List.mem_of_getElem? (i := 0) rfl))
 have N116 := Fr.snoc X116 N112 g_a0
 have sg117 : zg p e below T116 m 27 (z7 a0 a1 a2) [.ref a0] 26 (z7 a0 a1 a2) [] := by
  intro t k
  refine XS.aloadN X116.here hx rfl (hb hby d15_26) rfl rfl ?_
  exact k
 refine OFin.go sg117 ?_
 have fq118 : Fld Z h116 a0 "org/counterpath/engine/Encoding" "_variables" "Ljava/util/List;" (.ref b104) := (((F108.ext E110).keep Kq112 (ninS nq113 nin0)).other W116 (Or.inr (slot_ne (Or.inr (zw hw 113 rfl)) (Or.inr (zw hw 131 rfl)) (by decide) (t := (.object "java/util/List")) (t' := (.object "java/util/Map")) (by decide) (by decide))))
 obtain ⟨T119, X119, e119, st119⟩ := getF X116 hx hZ hown (host := "") (Or.inl (zw hw 112 rfl)) Via.refl e116 fq118 (g := (mkF m 27 (z7 a0 a1 a2) [.ref a0])) rfl rfl (hb hby d15_27)
 refine OFin.go st119 ?_
 have sg120 : zg p e below T119 m 31 (z7 a0 a1 a2) [.ref a1, .ref b104] 30 (z7 a0 a1 a2) [.ref b104] := by
  intro t k
  refine XS.aloadN X119.here hx rfl (hb hby d15_30) rfl rfl ?_
  exact k
 refine OFin.go sg120 ?_
 have fq121 : Exa Z h116 b104 "java/util/ArrayList" := (((((A104.keep Kq106).wr W108).ext E110).keep Kq112).wr W116)
 have nq122 : b104 ≠ b110 := (zn (zl (zl A104.lt (zt Kq106.1 (Keep.of_wr W108).1)) (ze g110.symm)))
 have fq123 : Fld Z h116 b104 "java/util/AbstractList" "modCount" "I" (.int 0) := ((((P106_0.other W108 (Or.inl (Ne.symm nq107))).ext E110).keep Kq112 (ninS nq122 nin0)).other W116 (Or.inl (Ne.symm nq107)))
 have fq124 : Fld Z h116 b104 "java/util/ArrayList" "elementData" "[Ljava/lang/Object;" (.ref dd) := ((((P106_1.other W108 (Or.inl (Ne.symm nq107))).ext E110).keep Kq112 (ninS nq122 nin0)).other W116 (Or.inl (Ne.symm nq107)))
 have fq125 : Fld Z h116 b104 "java/util/ArrayList" "size" "I" (.int 0) := ((((P106_2.other W108 (Or.inl (Ne.symm nq107))).ext E110).keep Kq112 (ninS nq122 nin0)).other W116 (Or.inl (Ne.symm nq107)))
 have nq126 : dd ≠ b104 := (zn (zl VD.lt (ze g104.symm)))
 have nq127 : dd ≠ b110 := (zn (zl (zl VD.lt (zt (zt E104.1 Kq106.1) (Keep.of_wr W108).1)) (ze g110.symm)))
 have fq128 : Arv Z h116 dd kd (.object "java/lang/Object") (0 : Int32) [] .null := ((((((VD.ext E104).keep Kq106 (ninS nq126 nin0)).other W108 hn_dd).ext E110).keep Kq112 (ninS nq127 nin0)).other W116 hn_dd)
 have fq129 : Exa Z h116 dd "[Ljava/lang/Object;" := ((((((ED.ext E104).keep Kq106).wr W108).ext E110).keep Kq112).wr W116)
 have fq130 : Exa Z h116 a1 "java/util/ArrayList" := ((((((E1s1.ext E104).keep Kq106).wr W108).ext E110).keep Kq112).wr W116)
 have nq131 : a1 ≠ b104 := (zn (zl E1s1.lt (ze g104.symm)))
 have nq132 : a1 ≠ b110 := (zn (zl (zl E1s1.lt (zt (zt E104.1 Kq106.1) (Keep.of_wr W108).1)) (ze g110.symm)))
 have fq133 : Fld Z h116 a1 "java/util/AbstractList" "modCount" "I" (.int m1) := ((((((F1s1.ext E104).keep Kq106 (ninS nq131 nin0)).other W108 (Or.inl hn_a1)).ext E110).keep Kq112 (ninS nq132 nin0)).other W116 (Or.inl hn_a1))
 have fq134 : Fld Z h116 a1 "java/util/ArrayList" "elementData" "[Ljava/lang/Object;" (.ref d1) := ((((((F2s1.ext E104).keep Kq106 (ninS nq131 nin0)).other W108 (Or.inl hn_a1)).ext E110).keep Kq112 (ninS nq132 nin0)).other W116 (Or.inl hn_a1))
 have fq135 : Fld Z h116 a1 "java/util/ArrayList" "size" "I" (.int 1) := ((((((F3s1.ext E104).keep Kq106 (ninS nq131 nin0)).other W108 (Or.inl hn_a1)).ext E110).keep Kq112 (ninS nq132 nin0)).other W116 (Or.inl hn_a1))
 have nq136 : d1 ≠ b104 := (zn (zl V1.lt (ze g104.symm)))
 have nq137 : d1 ≠ b110 := (zn (zl (zl V1.lt (zt (zt E104.1 Kq106.1) (Keep.of_wr W108).1)) (ze g110.symm)))
 have fq138 : Arv Z h116 d1 k1 (.object "java/lang/Object") (10 : Int32) [(.ref x1), .null, .null, .null, .null, .null, .null, .null, .null, .null] .null := ((((((V1.ext E104).keep Kq106 (ninS nq136 nin0)).other W108 hn_d1).ext E110).keep Kq112 (ninS nq137 nin0)).other W116 hn_d1)
 have fq139 : Exa Z h116 d1 "[Ljava/lang/Object;" := ((((((EA1.ext E104).keep Kq106).wr W108).ext E110).keep Kq112).wr W116)
 have fq140 : Exa Z h116 x1 "org/counterpath/model/Variable" := ((((((EX1.ext E104).keep Kq106).wr W108).ext E110).keep Kq112).wr W116)
 have fq141 : Old Z n0 h116 := ((((((O0.ext E104).keep Kq106 (allS g_b104 all0)).wr W108 g_a0).ext E110).keep Kq112 (allS g_b110 all0)).wr W116 g_a0)
 obtain ⟨cq142, kq142, q142a, q142b, q142c⟩ := isOf hZ e119 fq121
 obtain ⟨_, _, ⟨T142, L142, k142, n142⟩, -, X142, ⟨Lc142, hQ142, l142, y142, z142⟩, st142⟩ := X119.interfaceBack hx (xi := (⟨"java/util/List", "addAll", "(Ljava/util/Collection;)Z"⟩ : MethodName)) (y := (⟨"java/util/ArrayList", "addAll", "(Ljava/util/Collection;)Z"⟩ : MethodName)) hown (mvT hZ (zw hw 132 rfl)) (mvT hZ (zw hw 133 rfl)) (mvT hZ (zw hw 134 rfl)) (mvT hZ (zw hw 135 rfl)) (mvT hZ (zw hw 136 rfl)) (mvT hZ (zw hw 137 rfl)) (mvT hZ (zw hw 138 rfl)) (mvT hZ (zw hw 76 rfl)) (by decide) (backOf (W := 0) (rm18A l Z aZ hw [] b104 a1 dd kd (0 : Int32) m1 d1 k1 x1 mr h116 n0 (zt Z0 K116.1) fq141 fq121 fq123 fq124 fq125 SD fq128 fq129 fq130 fq133 fq134 fq135 fq138 fq139 fq140 nq126 hM g_b104) hZ (zw hw 139 rfl) (zw hw 47 rfl) (by decide) (by decide)) q142a q142b q142c (g := (mkF m 31 (z7 a0 a1 a2) [.ref a1, .ref b104])) rfl (by rw [hml]; rfl) (Steps.refl _) (argsL := [.ref a1]) (rest := []) (lenOf pd_11 rfl) rfl (by show 2 * 0 + _ ≤ _; exact ze rfl) (hb hby d15_31) (fun _ _ => ⟨rfl, e119, (by decide : 2 + 2 ≤ _), (by decide : 11 + 11 ≤ _)⟩)
 dsimp only [Pt.U, Pt.locs, Pt.cells, Pt.slots] at X142 l142 y142 z142 st142 hQ142
 rw [l142, y142, z142] at X142
 obtain ⟨ed142, ke142, rfl, N142q, Kq142, P142_0, P142_1, P142_2, P142_3, P142_4, R142_0, R142_1⟩ := hQ142
 have N142 := Fr.app N116 N142q
 refine OFin.tr st142 ?_
 have K142 : Keep h0 T142.heap [a0] := K116.trans Kq142 (allS (Or.inr sz_b104) all0)
 have g_ed142 : n0 ≤ ed142 := zt (zt Z0 K116.1) R142_0
 have sz_ed142 : h0.size ≤ ed142 := zt K116.1 R142_0
 -- grown
 have sg143 : zg p e below T142 m 38 (z7 a0 a1 a2) [.ref a0] 36 (z7 a0 a1 a2) [.int 1] := by
  intro t k
  refine XS.pop X142.here hx rfl (hb hby d15_36) rfl rfl ?_
  show zs p e below T142 m 37 (z7 a0 a1 a2) [] t
  refine XS.aloadN X142.here hx rfl (hb hby d15_37) rfl rfl ?_
  exact k
 refine OFin.go sg143 ?_
 obtain ⟨T144, X144, e144, st144⟩ := getF X142 hx hZ hown (host := "") (Or.inl (zw hw 112 rfl)) Via.refl rfl (fq118.keep Kq142 (ninS nq107 nin0)) (g := (mkF m 38 (z7 a0 a1 a2) [.ref a0])) rfl rfl (hb hby d15_38)
 refine OFin.go st144 ?_
 have sg145 : zg p e below T144 m 42 (z7 a0 a1 a2) [.ref a2, .ref b104] 41 (z7 a0 a1 a2) [.ref b104] := by
  intro t k
  refine XS.aloadN X144.here hx rfl (hb hby d15_41) rfl rfl ?_
  exact k
 refine OFin.go sg145 ?_
 have fq146 : Exa Z T142.heap a2 "java/util/ArrayList" := (((((((E1s2.ext E104).keep Kq106).wr W108).ext E110).keep Kq112).wr W116).keep Kq142)
 have nq147 : a2 ≠ b104 := (zn (zl E1s2.lt (ze g104.symm)))
 have nq148 : a2 ≠ b110 := (zn (zl (zl E1s2.lt (zt (zt E104.1 Kq106.1) (Keep.of_wr W108).1)) (ze g110.symm)))
 have fq149 : Fld Z T142.heap a2 "java/util/AbstractList" "modCount" "I" (.int m2) := (((((((F1s2.ext E104).keep Kq106 (ninS nq147 nin0)).other W108 (Or.inl hn_a2)).ext E110).keep Kq112 (ninS nq148 nin0)).other W116 (Or.inl hn_a2)).keep Kq142 (ninS nq147 nin0))
 have fq150 : Fld Z T142.heap a2 "java/util/ArrayList" "elementData" "[Ljava/lang/Object;" (.ref d2) := (((((((F2s2.ext E104).keep Kq106 (ninS nq147 nin0)).other W108 (Or.inl hn_a2)).ext E110).keep Kq112 (ninS nq148 nin0)).other W116 (Or.inl hn_a2)).keep Kq142 (ninS nq147 nin0))
 have fq151 : Fld Z T142.heap a2 "java/util/ArrayList" "size" "I" (.int 1) := (((((((F3s2.ext E104).keep Kq106 (ninS nq147 nin0)).other W108 (Or.inl hn_a2)).ext E110).keep Kq112 (ninS nq148 nin0)).other W116 (Or.inl hn_a2)).keep Kq142 (ninS nq147 nin0))
 have nq152 : d2 ≠ b104 := (zn (zl V2.lt (ze g104.symm)))
 have nq153 : d2 ≠ b110 := (zn (zl (zl V2.lt (zt (zt E104.1 Kq106.1) (Keep.of_wr W108).1)) (ze g110.symm)))
 have fq154 : Arv Z T142.heap d2 k2 (.object "java/lang/Object") (10 : Int32) [(.ref x2), .null, .null, .null, .null, .null, .null, .null, .null, .null] .null := (((((((V2.ext E104).keep Kq106 (ninS nq152 nin0)).other W108 hn_d2).ext E110).keep Kq112 (ninS nq153 nin0)).other W116 hn_d2).keep Kq142 (ninS nq152 nin0))
 have fq155 : Exa Z T142.heap d2 "[Ljava/lang/Object;" := (((((((EA2.ext E104).keep Kq106).wr W108).ext E110).keep Kq112).wr W116).keep Kq142)
 have fq156 : Exa Z T142.heap x2 "org/counterpath/model/Variable" := (((((((EX2.ext E104).keep Kq106).wr W108).ext E110).keep Kq112).wr W116).keep Kq142)
 have nq157 : b104 ≠ ed142 := (zn (zl (zl A104.lt (zt (zt (zt (zt Kq106.1 (Keep.of_wr W108).1) E110.1) Kq112.1) (Keep.of_wr W116).1)) R142_0))
 obtain ⟨cq158, kq158, q158a, q158b, q158c⟩ := isOf hZ e144 (fq121.keep Kq142)
 obtain ⟨_, _, ⟨T158, L158, k158, n158⟩, -, X158, ⟨Lc158, hQ158, l158, y158, z158⟩, st158⟩ := X144.interfaceBack hx (xi := (⟨"java/util/List", "addAll", "(Ljava/util/Collection;)Z"⟩ : MethodName)) (y := (⟨"java/util/ArrayList", "addAll", "(Ljava/util/Collection;)Z"⟩ : MethodName)) hown (mvT hZ (zw hw 132 rfl)) (mvT hZ (zw hw 133 rfl)) (mvT hZ (zw hw 134 rfl)) (mvT hZ (zw hw 135 rfl)) (mvT hZ (zw hw 136 rfl)) (mvT hZ (zw hw 137 rfl)) (mvT hZ (zw hw 138 rfl)) (mvT hZ (zw hw 76 rfl)) (by decide) (backOf (W := 0) (rm18B l Z aZ hw [] b104 a2 ed142 ke142 x1 ((0 : Int32) + (1 : Int32)) m2 d2 k2 x2 mr T142.heap n0 (zt Z0 K142.1) (fq121.keep Kq142) P142_0 P142_1 P142_2 P142_3 P142_4 fq146 fq149 fq150 fq151 fq154 fq155 fq156 nq157 hM R142_1 g_b104 g_ed142) hZ (zw hw 139 rfl) (zw hw 47 rfl) (by decide) (by decide)) q158a q158b q158c (g := (mkF m 42 (z7 a0 a1 a2) [.ref a2, .ref b104])) rfl (by rw [hml]; rfl) (Steps.refl _) (argsL := [.ref a2]) (rest := []) (lenOf pd_11 rfl) rfl (by show 2 * 0 + _ ≤ _; exact ze rfl) (hb hby d15_42) (fun _ _ => ⟨rfl, e144, (by decide : 4 + 1 ≤ _), (by decide : 22 + 1 ≤ _)⟩)
 dsimp only [Pt.U, Pt.locs, Pt.cells, Pt.slots] at X158 l158 y158 z158 st158 hQ158
 rw [l158, y158, z158] at X158
 obtain ⟨rfl, N158q, Kq158, P158_0, P158_1, P158_2, P158_3⟩ := hQ158
 have N158 := Fr.app N142 N158q
 refine OFin.tr st158 ?_
 have K158 : Keep h0 T158.heap [a0] := K142.trans Kq158 (allS (Or.inr sz_b104) (allS (Or.inr sz_ed142) all0))
 have sg159 : zg p e below T158 m 50 (z7 a0 a1 a2) [.ref a1, .ref a0] 47 (z7 a0 a1 a2) [.int 1] := by
  intro t k
  refine XS.pop X158.here hx rfl (hb hby d15_47) rfl rfl ?_
  show zs p e below T158 m 48 (z7 a0 a1 a2) [] t
  refine XS.aloadN X158.here hx rfl (hb hby d15_48) rfl rfl ?_
  show zs p e below T158 m 49 (z7 a0 a1 a2) [.ref a0] t
  refine XS.aloadN X158.here hx rfl (hb hby d15_49) rfl rfl ?_
  exact k
 refine OFin.go sg159 ?_
 have nq160 : a1 ≠ ed142 := (zn (zl (zl E1s1.lt (zt (zt (zt (zt (zt E104.1 Kq106.1) (Keep.of_wr W108).1) E110.1) Kq112.1) (Keep.of_wr W116).1)) R142_0))
 obtain ⟨cq161, kq161, q161a, q161b, q161c⟩ := isOf hZ rfl ((fq130.keep Kq142).keep Kq158)
 obtain ⟨_, _, ⟨T161, L161, k161, n161⟩, -, X161, ⟨Lc161, hQ161, l161, y161, z161⟩, st161⟩ := X158.interfaceBack hx (xi := (⟨"java/util/List", "size", "()I"⟩ : MethodName)) (y := (⟨"java/util/ArrayList", "size", "()I"⟩ : MethodName)) hown (mvT hZ (zw hw 172 rfl)) (mvT hZ (zw hw 173 rfl)) (mvT hZ (zw hw 174 rfl)) (mvT hZ (zw hw 175 rfl)) (mvT hZ (zw hw 176 rfl)) (mvT hZ (zw hw 177 rfl)) (mvT hZ (zw hw 178 rfl)) (mvT hZ (zw hw 76 rfl)) (by decide) (backOf (W := 1) (rm23 l Z aZ hw [] a1 (1 : Int32) T158.heap n0 (zt Z0 K158.1) ((fq135.keep Kq142 (ninS nq131 nin0)).keep Kq158 (ninS nq131 (ninS nq160 nin0)))) hZ (zw hw 179 rfl) (zw hw 47 rfl) (by decide) (by decide)) q161a q161b q161c (g := (mkF m 50 (z7 a0 a1 a2) [.ref a1, .ref a0])) rfl (by rw [hml]; rfl) (Steps.refl _) (argsL := []) (rest := [.ref a0]) (lenOf pd_12 rfl) rfl (by show 2 * 0 + _ ≤ _; exact ze rfl) (hb hby d15_50) (fun _ _ => ⟨rfl, rfl, (by decide : 5 + 0 ≤ _), (by decide : 23 + 0 ≤ _)⟩)
 dsimp only [Pt.U, Pt.locs, Pt.cells, Pt.slots] at X161 l161 y161 z161 st161 hQ161
 rw [l161, y161, z161] at X161
 obtain ⟨rfl, N161q, e161⟩ := hQ161
 have N161 := Fr.app N158 N161q
 refine OFin.tr st161 ?_
 have nq162 : a0 ≠ ed142 := (zn (zl (zl E0a.lt (zt (zt (zt (zt (zt E104.1 Kq106.1) (Keep.of_wr W108).1) E110.1) Kq112.1) (Keep.of_wr W116).1)) R142_0))
 have fq163 : Fld Z T158.heap a0 "org/counterpath/engine/Encoding" "_firstInput" "I" (.int 0) := ((((((((G_firstInput.ext E104).keep Kq106 (ninS nq107 nin0)).other W108 (Or.inr (slot_ne (Or.inr (zw hw 181 rfl)) (Or.inr (zw hw 113 rfl)) (by decide) (t := .int) (t' := (.object "java/util/List")) (by decide) (by decide)))).ext E110).keep Kq112 (ninS nq113 nin0)).other W116 (Or.inr (slot_ne (Or.inr (zw hw 181 rfl)) (Or.inr (zw hw 131 rfl)) (by decide) (t := .int) (t' := (.object "java/util/Map")) (by decide) (by decide)))).keep Kq142 (ninS nq107 nin0)).keep Kq158 (ninS nq107 (ninS nq162 nin0)))
 have fq164 : Exa Z T158.heap a0 "org/counterpath/engine/Encoding" := (((fq115.wr W116).keep Kq142).keep Kq158)
 obtain ⟨T165, h165, X165, e165, W165, st165⟩ := putF X161 hx hZ hown (host := "") (Or.inl (zw hw 180 rfl)) Via.refl e161 fq163 fq164 (Or.inr ⟨(zw hw 181 rfl), rfl, hnm⟩) (zw hw 104 rfl) (ty := .int) (by decide) rfl rfl (g := (mkF m 55 (z7 a0 a1 a2) [.int 1, .ref a0])) rfl rfl (hb hby d15_55)
 refine OFin.go st165 ?_
 have F165 := fq163.same W165
 have K165 : Keep h0 h165 [a0] := K158.wr W165 (Or.inl (List.mem_of_getElem? (i := 0) rfl))
 have N165 := Fr.snoc X165 N161 g_a0
 have sg166 : zg p e below T165 m 60 (z7 a0 a1 a2) [.ref a0, .ref a0] 58 (z7 a0 a1 a2) [] := by
  intro t k
  refine XS.aloadN X165.here hx rfl (hb hby d15_58) rfl rfl ?_
  show zs p e below T165 m 59 (z7 a0 a1 a2) [.ref a0] t
  refine XS.aloadN X165.here hx rfl (hb hby d15_59) rfl rfl ?_
  exact k
 refine OFin.go sg166 ?_
 have fq167 : Fld Z h165 a0 "org/counterpath/engine/Encoding" "_variables" "Ljava/util/List;" (.ref b104) := (((fq118.keep Kq142 (ninS nq107 nin0)).keep Kq158 (ninS nq107 (ninS nq162 nin0))).other W165 (Or.inr (slot_ne (Or.inr (zw hw 113 rfl)) (Or.inr (zw hw 181 rfl)) (by decide) (t := (.object "java/util/List")) (t' := .int) (by decide) (by decide))))
 obtain ⟨T168, X168, e168, st168⟩ := getF X165 hx hZ hown (host := "") (Or.inl (zw hw 112 rfl)) Via.refl e165 fq167 (g := (mkF m 60 (z7 a0 a1 a2) [.ref a0, .ref a0])) rfl rfl (hb hby d15_60)
 refine OFin.go st168 ?_
 have fq170 : Exa Z h165 b104 "java/util/ArrayList" := (((fq121.keep Kq142).keep Kq158).wr W165)
 obtain ⟨cq169, kq169, q169a, q169b, q169c⟩ := isOf hZ e168 fq170
 obtain ⟨_, _, ⟨T169, L169, k169, n169⟩, -, X169, ⟨Lc169, hQ169, l169, y169, z169⟩, st169⟩ := X168.interfaceBack hx (xi := (⟨"java/util/List", "size", "()I"⟩ : MethodName)) (y := (⟨"java/util/ArrayList", "size", "()I"⟩ : MethodName)) hown (mvT hZ (zw hw 172 rfl)) (mvT hZ (zw hw 173 rfl)) (mvT hZ (zw hw 174 rfl)) (mvT hZ (zw hw 175 rfl)) (mvT hZ (zw hw 176 rfl)) (mvT hZ (zw hw 177 rfl)) (mvT hZ (zw hw 178 rfl)) (mvT hZ (zw hw 76 rfl)) (by decide) (backOf (W := 1) (rm23 l Z aZ hw [] b104 (2 : Int32) h165 n0 (zt Z0 K165.1) (P158_2.other W165 (Or.inl (Ne.symm nq107)))) hZ (zw hw 179 rfl) (zw hw 47 rfl) (by decide) (by decide)) q169a q169b q169c (g := (mkF m 63 (z7 a0 a1 a2) [.ref b104, .ref a0])) rfl (by rw [hml]; rfl) (Steps.refl _) (argsL := []) (rest := [.ref a0]) (lenOf pd_12 rfl) rfl (by show 2 * 0 + _ ≤ _; exact ze rfl) (hb hby d15_63) (fun _ _ => ⟨rfl, e168, (by decide : 5 + 0 ≤ _), (by decide : 23 + 0 ≤ _)⟩)
 dsimp only [Pt.U, Pt.locs, Pt.cells, Pt.slots] at X169 l169 y169 z169 st169 hQ169
 rw [l169, y169, z169] at X169
 obtain ⟨rfl, N169q, e169⟩ := hQ169
 have N169 := Fr.app N165 N169q
 refine OFin.tr st169 ?_
 have sg171 : zg p e below T169 m 70 (z7 a0 a1 a2) [.int 3, .ref a0] 68 (z7 a0 a1 a2) [.int 2, .ref a0] := by
  intro t k
  refine XS.iconst X169.here hx rfl (hb hby d15_68) ?_
  show zs p e below T169 m 69 (z7 a0 a1 a2) [.int 1, .int 2, .ref a0] t
  refine XS.iadd X169.here hx rfl (hb hby d15_69) rfl ?_
  exact k
 refine OFin.go sg171 ?_
 obtain ⟨T172, h172, k172, X172, e172, E172, A172, st172⟩ := newP X169 hx hZ (zw hw 182 rfl) e169 (g := (mkF m 70 (z7 a0 a1 a2) [.int 3, .ref a0])) rfl (hb hby d15_70) rfl (by decide) (cap := 3) (by decide) (by decide) (by decide) (by decide)
 obtain ⟨b172, g172⟩ : ∃ z, z = h165.size := ⟨_, rfl⟩
 rw [← g172] at A172 st172
 refine OFin.go st172 ?_
 have g_b172 : n0 ≤ b172 := zt (zt Z0 K165.1) (ze g172.symm)
 have sz_b172 : h0.size ≤ b172 := zt K165.1 (ze g172.symm)
 have K172 : Keep h0 h172 [a0] := K165.ext E172
 have V172 : Arv Z h172 b172 k172 .int (3 : Int32) [.int 0, .int 0, .int 0] (.int 0) := (Arv.new A172 (by decide)).pad (pad_rep [] (.int 0) 3)
 have fq173 : Fld Z h172 a0 "org/counterpath/engine/Encoding" "_firstBits" "[I" .null := ((((((((((G_firstBits.ext E104).keep Kq106 (ninS nq107 nin0)).other W108 (Or.inr (slot_ne (Or.inr (zw hw 184 rfl)) (Or.inr (zw hw 113 rfl)) (by decide) (t := (.array .int)) (t' := (.object "java/util/List")) (by decide) (by decide)))).ext E110).keep Kq112 (ninS nq113 nin0)).other W116 (Or.inr (slot_ne (Or.inr (zw hw 184 rfl)) (Or.inr (zw hw 131 rfl)) (by decide) (t := (.array .int)) (t' := (.object "java/util/Map")) (by decide) (by decide)))).keep Kq142 (ninS nq107 nin0)).keep Kq158 (ninS nq107 (ninS nq162 nin0))).other W165 (Or.inr (slot_ne (Or.inr (zw hw 184 rfl)) (Or.inr (zw hw 181 rfl)) (by decide) (t := (.array .int)) (t' := .int) (by decide) (by decide)))).ext E172)
 obtain ⟨T174, h174, X174, e174, W174, st174⟩ := putF X172 hx hZ hown (host := "") (Or.inl (zw hw 183 rfl)) Via.refl e172 fq173 ((fq164.wr W165).ext E172) (Or.inr ⟨(zw hw 184 rfl), rfl, hnm⟩) (zw hw 104 rfl) (ty := (.array .int)) (by decide) rfl rfl (g := (mkF m 72 (z7 a0 a1 a2) [.ref b172, .ref a0])) rfl rfl (hb hby d15_72)
 refine OFin.go st174 ?_
 have F174 := fq173.same W174
 have K174 : Keep h0 h174 [a0] := K172.wr W174 (Or.inl (List.mem_of_getElem? (i := 0) rfl))
 have N174 := Fr.snoc X174 N169 g_a0
 have sg175 : zg p e below T174 m 77 (z7 a0 a1 a2) [.ref a0, .ref a0] 75 (z7 a0 a1 a2) [] := by
  intro t k
  refine XS.aloadN X174.here hx rfl (hb hby d15_75) rfl rfl ?_
  show zs p e below T174 m 76 (z7 a0 a1 a2) [.ref a0] t
  refine XS.aloadN X174.here hx rfl (hb hby d15_76) rfl rfl ?_
  exact k
 refine OFin.go sg175 ?_
 obtain ⟨T176, X176, e176, st176⟩ := getF X174 hx hZ hown (host := "") (Or.inl (zw hw 112 rfl)) Via.refl e174 ((fq167.ext E172).other W174 (Or.inr (slot_ne (Or.inr (zw hw 113 rfl)) (Or.inr (zw hw 184 rfl)) (by decide) (t := (.object "java/util/List")) (t' := (.array .int)) (by decide) (by decide)))) (g := (mkF m 77 (z7 a0 a1 a2) [.ref a0, .ref a0])) rfl rfl (hb hby d15_77)
 refine OFin.go st176 ?_
 have fq177 : Fld Z h174 b104 "java/util/ArrayList" "size" "I" (.int 2) := (((P158_2.other W165 (Or.inl (Ne.symm nq107))).ext E172).other W174 (Or.inl (Ne.symm nq107)))
 obtain ⟨cq178, kq178, q178a, q178b, q178c⟩ := isOf hZ e176 ((fq170.ext E172).wr W174)
 obtain ⟨_, _, ⟨T178, L178, k178, n178⟩, -, X178, ⟨Lc178, hQ178, l178, y178, z178⟩, st178⟩ := X176.interfaceBack hx (xi := (⟨"java/util/List", "size", "()I"⟩ : MethodName)) (y := (⟨"java/util/ArrayList", "size", "()I"⟩ : MethodName)) hown (mvT hZ (zw hw 172 rfl)) (mvT hZ (zw hw 173 rfl)) (mvT hZ (zw hw 174 rfl)) (mvT hZ (zw hw 175 rfl)) (mvT hZ (zw hw 176 rfl)) (mvT hZ (zw hw 177 rfl)) (mvT hZ (zw hw 178 rfl)) (mvT hZ (zw hw 76 rfl)) (by decide) (backOf (W := 1) (rm23 l Z aZ hw [] b104 (2 : Int32) h174 n0 (zt Z0 K174.1) fq177) hZ (zw hw 179 rfl) (zw hw 47 rfl) (by decide) (by decide)) q178a q178b q178c (g := (mkF m 80 (z7 a0 a1 a2) [.ref b104, .ref a0])) rfl (by rw [hml]; rfl) (Steps.refl _) (argsL := []) (rest := [.ref a0]) (lenOf pd_12 rfl) rfl (by show 2 * 0 + _ ≤ _; exact ze rfl) (hb hby d15_80) (fun _ _ => ⟨rfl, e176, (by decide : 6 + 0 ≤ _), (by decide : 26 + 0 ≤ _)⟩)
 dsimp only [Pt.U, Pt.locs, Pt.cells, Pt.slots] at X178 l178 y178 z178 st178 hQ178
 rw [l178, y178, z178] at X178
 obtain ⟨rfl, N178q, e178⟩ := hQ178
 have N178 := Fr.app N174 N178q
 refine OFin.tr st178 ?_
 obtain ⟨T179, h179, k179, X179, e179, E179, A179, st179⟩ := newP X178 hx hZ (zw hw 185 rfl) e178 (g := (mkF m 85 (z7 a0 a1 a2) [.int 2, .ref a0])) rfl (hb hby d15_85) rfl (by decide) (cap := 2) (by decide) (by decide) (by decide) (by decide)
 obtain ⟨b179, g179⟩ : ∃ z, z = h174.size := ⟨_, rfl⟩
 rw [← g179] at A179 st179
 refine OFin.go st179 ?_
 have g_b179 : n0 ≤ b179 := zt (zt Z0 K174.1) (ze g179.symm)
 have sz_b179 : h0.size ≤ b179 := zt K174.1 (ze g179.symm)
 have K179 : Keep h0 h179 [a0] := K174.ext E179
 have V179 : Arv Z h179 b179 k179 .boolean (2 : Int32) [.int 0, .int 0] (.int 0) := (Arv.new A179 (by decide)).pad (pad_rep [] (.int 0) 2)
 have fq180 : Fld Z h179 a0 "org/counterpath/engine/Encoding" "_signed" "[Z" .null := ((((((((((((G_signed.ext E104).keep Kq106 (ninS nq107 nin0)).other W108 (Or.inr (slot_ne (Or.inr (zw hw 187 rfl)) (Or.inr (zw hw 113 rfl)) (by decide) (t := (.array .boolean)) (t' := (.object "java/util/List")) (by decide) (by decide)))).ext E110).keep Kq112 (ninS nq113 nin0)).other W116 (Or.inr (slot_ne (Or.inr (zw hw 187 rfl)) (Or.inr (zw hw 131 rfl)) (by decide) (t := (.array .boolean)) (t' := (.object "java/util/Map")) (by decide) (by decide)))).keep Kq142 (ninS nq107 nin0)).keep Kq158 (ninS nq107 (ninS nq162 nin0))).other W165 (Or.inr (slot_ne (Or.inr (zw hw 187 rfl)) (Or.inr (zw hw 181 rfl)) (by decide) (t := (.array .boolean)) (t' := .int) (by decide) (by decide)))).ext E172).other W174 (Or.inr (slot_ne (Or.inr (zw hw 187 rfl)) (Or.inr (zw hw 184 rfl)) (by decide) (t := (.array .boolean)) (t' := (.array .int)) (by decide) (by decide)))).ext E179)
 have fq181 : Exa Z h179 a0 "org/counterpath/engine/Encoding" := ((((fq164.wr W165).ext E172).wr W174).ext E179)
 obtain ⟨T182, h182, X182, e182, W182, st182⟩ := putF X179 hx hZ hown (host := "") (Or.inl (zw hw 186 rfl)) Via.refl e179 fq180 fq181 (Or.inr ⟨(zw hw 187 rfl), rfl, hnm⟩) (zw hw 104 rfl) (ty := (.array .boolean)) (by decide) rfl rfl (g := (mkF m 87 (z7 a0 a1 a2) [.ref b179, .ref a0])) rfl rfl (hb hby d15_87)
 refine OFin.go st182 ?_
 have F182 := fq180.same W182
 have K182 : Keep h0 h182 [a0] := K179.wr W182 (Or.inl (List.mem_of_getElem? (i := 0) rfl))
 have N182 := Fr.snoc X182 N178 g_a0
 have sg183 : zg p e below T182 m 92 (z7 a0 a1 a2) [.ref a0, .ref a0] 90 (z7 a0 a1 a2) [] := by
  intro t k
  refine XS.aloadN X182.here hx rfl (hb hby d15_90) rfl rfl ?_
  show zs p e below T182 m 91 (z7 a0 a1 a2) [.ref a0] t
  refine XS.aloadN X182.here hx rfl (hb hby d15_91) rfl rfl ?_
  exact k
 refine OFin.go sg183 ?_
 have fq184 : Fld Z h182 a0 "org/counterpath/engine/Encoding" "_variables" "Ljava/util/List;" (.ref b104) := ((((fq167.ext E172).other W174 (Or.inr (slot_ne (Or.inr (zw hw 113 rfl)) (Or.inr (zw hw 184 rfl)) (by decide) (t := (.object "java/util/List")) (t' := (.array .int)) (by decide) (by decide)))).ext E179).other W182 (Or.inr (slot_ne (Or.inr (zw hw 113 rfl)) (Or.inr (zw hw 187 rfl)) (by decide) (t := (.object "java/util/List")) (t' := (.array .boolean)) (by decide) (by decide))))
 obtain ⟨T185, X185, e185, st185⟩ := getF X182 hx hZ hown (host := "") (Or.inl (zw hw 112 rfl)) Via.refl e182 fq184 (g := (mkF m 92 (z7 a0 a1 a2) [.ref a0, .ref a0])) rfl rfl (hb hby d15_92)
 refine OFin.go st185 ?_
 have fq187 : Exa Z h182 b104 "java/util/ArrayList" := ((((fq170.ext E172).wr W174).ext E179).wr W182)
 obtain ⟨cq186, kq186, q186a, q186b, q186c⟩ := isOf hZ e185 fq187
 obtain ⟨_, _, ⟨T186, L186, k186, n186⟩, -, X186, ⟨Lc186, hQ186, l186, y186, z186⟩, st186⟩ := X185.interfaceBack hx (xi := (⟨"java/util/List", "size", "()I"⟩ : MethodName)) (y := (⟨"java/util/ArrayList", "size", "()I"⟩ : MethodName)) hown (mvT hZ (zw hw 172 rfl)) (mvT hZ (zw hw 173 rfl)) (mvT hZ (zw hw 174 rfl)) (mvT hZ (zw hw 175 rfl)) (mvT hZ (zw hw 176 rfl)) (mvT hZ (zw hw 177 rfl)) (mvT hZ (zw hw 178 rfl)) (mvT hZ (zw hw 76 rfl)) (by decide) (backOf (W := 1) (rm23 l Z aZ hw [] b104 (2 : Int32) h182 n0 (zt Z0 K182.1) ((fq177.ext E179).other W182 (Or.inl (Ne.symm nq107)))) hZ (zw hw 179 rfl) (zw hw 47 rfl) (by decide) (by decide)) q186a q186b q186c (g := (mkF m 95 (z7 a0 a1 a2) [.ref b104, .ref a0])) rfl (by rw [hml]; rfl) (Steps.refl _) (argsL := []) (rest := [.ref a0]) (lenOf pd_12 rfl) rfl (by show 2 * 0 + _ ≤ _; exact ze rfl) (hb hby d15_95) (fun _ _ => ⟨rfl, e185, (by decide : 7 + 0 ≤ _), (by decide : 28 + 0 ≤ _)⟩)
 dsimp only [Pt.U, Pt.locs, Pt.cells, Pt.slots] at X186 l186 y186 z186 st186 hQ186
 rw [l186, y186, z186] at X186
 obtain ⟨rfl, N186q, e186⟩ := hQ186
 have N186 := Fr.app N182 N186q
 refine OFin.tr st186 ?_
 obtain ⟨T188, h188, k188, X188, e188, E188, A188, Ex188, O188, st188⟩ := newRA X186 hx hZ hown (C := "[J") (by decide) (zw hw 188 rfl) (zw hw 189 rfl) e186 (g := (mkF m 100 (z7 a0 a1 a2) [.int 2, .ref a0])) rfl (hb hby d15_100) rfl (by decide) (cap := 2) (by decide) (by decide) (by decide) (by decide) (ad := "[[J") (by decide)
 obtain ⟨b188, g188⟩ : ∃ z, z = h182.size := ⟨_, rfl⟩
 rw [← g188] at A188 Ex188 st188
 refine OFin.go st188 ?_
 have g_b188 : n0 ≤ b188 := zt (zt Z0 K182.1) (ze g188.symm)
 have sz_b188 : h0.size ≤ b188 := zt K182.1 (ze g188.symm)
 have K188 : Keep h0 h188 [a0] := K182.ext E188
 have V188 : Arv Z h188 b188 k188 (.array .long) (2 : Int32) [.null, .null] .null := (Arv.new A188 (by decide)).pad (pad_rep [] .null 2)
 have fq189 : Fld Z h188 a0 "org/counterpath/engine/Encoding" "_codes" "[[J" .null := ((((((((((((((G_codes.ext E104).keep Kq106 (ninS nq107 nin0)).other W108 (Or.inr (slot_ne (Or.inr (zw hw 191 rfl)) (Or.inr (zw hw 113 rfl)) (by decide) (t := (.array (.array .long))) (t' := (.object "java/util/List")) (by decide) (by decide)))).ext E110).keep Kq112 (ninS nq113 nin0)).other W116 (Or.inr (slot_ne (Or.inr (zw hw 191 rfl)) (Or.inr (zw hw 131 rfl)) (by decide) (t := (.array (.array .long))) (t' := (.object "java/util/Map")) (by decide) (by decide)))).keep Kq142 (ninS nq107 nin0)).keep Kq158 (ninS nq107 (ninS nq162 nin0))).other W165 (Or.inr (slot_ne (Or.inr (zw hw 191 rfl)) (Or.inr (zw hw 181 rfl)) (by decide) (t := (.array (.array .long))) (t' := .int) (by decide) (by decide)))).ext E172).other W174 (Or.inr (slot_ne (Or.inr (zw hw 191 rfl)) (Or.inr (zw hw 184 rfl)) (by decide) (t := (.array (.array .long))) (t' := (.array .int)) (by decide) (by decide)))).ext E179).other W182 (Or.inr (slot_ne (Or.inr (zw hw 191 rfl)) (Or.inr (zw hw 187 rfl)) (by decide) (t := (.array (.array .long))) (t' := (.array .boolean)) (by decide) (by decide)))).ext E188)
 obtain ⟨T190, h190, X190, e190, W190, st190⟩ := putF X188 hx hZ hown (host := "") (Or.inl (zw hw 190 rfl)) Via.refl e188 fq189 ((fq181.wr W182).ext E188) (Or.inr ⟨(zw hw 191 rfl), rfl, hnm⟩) (zw hw 104 rfl) (ty := (.array (.array .long))) (by decide) rfl rfl (g := (mkF m 103 (z7 a0 a1 a2) [.ref b188, .ref a0])) rfl rfl (hb hby d15_103)
 refine OFin.go st190 ?_
 have F190 := fq189.same W190
 have K190 : Keep h0 h190 [a0] := K188.wr W190 (Or.inl (List.mem_of_getElem? (i := 0) rfl))
 have N190 := Fr.snoc X190 N186 g_a0
 have sg191 : zg p e below T190 m 110 (z30 a0 a1 a2 0) [.ref a0, .int 0] 106 (z7 a0 a1 a2) [] := by
  intro t k
  refine XS.iconst X190.here hx rfl (hb hby d15_106) ?_
  show zs p e below T190 m 107 (z7 a0 a1 a2) [.int 0] t
  refine XS.istoreN X190.here hx rfl (hb hby d15_107) rfl (l' := (z30 a0 a1 a2 0)) rfl ?_
  show zs p e below T190 m 108 (z30 a0 a1 a2 0) [] t
  refine XS.iloadN X190.here hx rfl (hb hby d15_108) rfl ?_
  show zs p e below T190 m 109 (z30 a0 a1 a2 0) [.int 0] t
  refine XS.aloadN X190.here hx rfl (hb hby d15_109) rfl rfl ?_
  exact k
 refine OFin.go sg191 ?_
 obtain ⟨T192, X192, e192, st192⟩ := getF X190 hx hZ hown (host := "") (Or.inl (zw hw 112 rfl)) Via.refl e190 ((fq184.ext E188).other W190 (Or.inr (slot_ne (Or.inr (zw hw 113 rfl)) (Or.inr (zw hw 191 rfl)) (by decide) (t := (.object "java/util/List")) (t' := (.array (.array .long))) (by decide) (by decide)))) (g := (mkF m 110 (z30 a0 a1 a2 0) [.ref a0, .int 0])) rfl rfl (hb hby d15_110)
 refine OFin.go st192 ?_
 have fq193 : Fld Z h190 b104 "java/util/ArrayList" "size" "I" (.int 2) := ((((fq177.ext E179).other W182 (Or.inl (Ne.symm nq107))).ext E188).other W190 (Or.inl (Ne.symm nq107)))
 obtain ⟨cq194, kq194, q194a, q194b, q194c⟩ := isOf hZ e192 ((fq187.ext E188).wr W190)
 obtain ⟨_, _, ⟨T194, L194, k194, n194⟩, -, X194, ⟨Lc194, hQ194, l194, y194, z194⟩, st194⟩ := X192.interfaceBack hx (xi := (⟨"java/util/List", "size", "()I"⟩ : MethodName)) (y := (⟨"java/util/ArrayList", "size", "()I"⟩ : MethodName)) hown (mvT hZ (zw hw 172 rfl)) (mvT hZ (zw hw 173 rfl)) (mvT hZ (zw hw 174 rfl)) (mvT hZ (zw hw 175 rfl)) (mvT hZ (zw hw 176 rfl)) (mvT hZ (zw hw 177 rfl)) (mvT hZ (zw hw 178 rfl)) (mvT hZ (zw hw 76 rfl)) (by decide) (backOf (W := 1) (rm23 l Z aZ hw [] b104 (2 : Int32) h190 n0 (zt Z0 K190.1) fq193) hZ (zw hw 179 rfl) (zw hw 47 rfl) (by decide) (by decide)) q194a q194b q194c (g := (mkF m 113 (z30 a0 a1 a2 0) [.ref b104, .int 0])) rfl (by rw [hml]; rfl) (Steps.refl _) (argsL := []) (rest := [.int 0]) (lenOf pd_12 rfl) rfl (by show 2 * 0 + _ ≤ _; exact ze rfl) (hb hby d15_113) (fun _ _ => ⟨rfl, e192, (by decide : 8 + 0 ≤ _), (by decide : 30 + 0 ≤ _)⟩)
 dsimp only [Pt.U, Pt.locs, Pt.cells, Pt.slots] at X194 l194 y194 z194 st194 hQ194
 rw [l194, y194, z194] at X194
 obtain ⟨rfl, N194q, e194⟩ := hQ194
 have N194 := Fr.app N190 N194q
 refine OFin.tr st194 ?_
 have sg195 : zg p e below T194 m 122 (z30 a0 a1 a2 0) [.ref a0] 118 (z30 a0 a1 a2 0) [.int 2, .int 0] := by
  intro t k
  refine XS.icmpNo X194.here hx rfl (hb hby d15_118) rfl (tlt (by decide : (0 : Int32) < (2 : Int32))).2.1 ?_
  show zs p e below T194 m 121 (z30 a0 a1 a2 0) [] t
  refine XS.aloadN X194.here hx rfl (hb hby d15_121) rfl rfl ?_
  exact k
 refine OFin.go sg195 ?_
 obtain ⟨T196, X196, e196, st196⟩ := getF X194 hx hZ hown (host := "") (Or.inl (zw hw 112 rfl)) Via.refl e194 ((fq184.ext E188).other W190 (Or.inr (slot_ne (Or.inr (zw hw 113 rfl)) (Or.inr (zw hw 191 rfl)) (by decide) (t := (.object "java/util/List")) (t' := (.array (.array .long))) (by decide) (by decide)))) (g := (mkF m 122 (z30 a0 a1 a2 0) [.ref a0])) rfl rfl (hb hby d15_122)
 refine OFin.go st196 ?_
 have sg197 : zg p e below T196 m 126 (z30 a0 a1 a2 0) [.int 0, .ref b104] 125 (z30 a0 a1 a2 0) [.ref b104] := by
  intro t k
  refine XS.iloadN X196.here hx rfl (hb hby d15_125) rfl ?_
  exact k
 refine OFin.go sg197 ?_
 have fq198 : Fld Z h190 b104 "java/util/ArrayList" "elementData" "[Ljava/lang/Object;" (.ref ed142) := (((((((P158_1.other W165 (Or.inl (Ne.symm nq107))).ext E172).other W174 (Or.inl (Ne.symm nq107))).ext E179).other W182 (Or.inl (Ne.symm nq107))).ext E188).other W190 (Or.inl (Ne.symm nq107)))
 have fq199 : Arv Z h190 ed142 ke142 (.object "java/lang/Object") (10 : Int32) [(.ref x1), (.ref x2), .null, .null, .null, .null, .null, .null, .null, .null] .null := (((((((P158_3.other W165 (Ne.symm nq162)).ext E172).other W174 (Ne.symm nq162)).ext E179).other W182 (Ne.symm nq162)).ext E188).other W190 (Ne.symm nq162))
 obtain ⟨cq200, kq200, q200a, q200b, q200c⟩ := isOf hZ e196 ((fq187.ext E188).wr W190)
 obtain ⟨_, _, ⟨T200, L200, k200, n200⟩, -, X200, ⟨Lc200, hQ200, l200, y200, z200⟩, st200⟩ := X196.interfaceBack hx (xi := (⟨"java/util/List", "get", "(I)Ljava/lang/Object;"⟩ : MethodName)) (y := (⟨"java/util/ArrayList", "get", "(I)Ljava/lang/Object;"⟩ : MethodName)) hown (mvT hZ (zw hw 192 rfl)) (mvT hZ (zw hw 193 rfl)) (mvT hZ (zw hw 194 rfl)) (mvT hZ (zw hw 195 rfl)) (mvT hZ (zw hw 196 rfl)) (mvT hZ (zw hw 197 rfl)) (mvT hZ (zw hw 198 rfl)) (mvT hZ (zw hw 76 rfl)) (by decide) (backOf (W := 0) (rm24i0 l Z aZ hw [] b104 ed142 ke142 x1 x2 h190 n0 (zt Z0 K190.1) ((fq187.ext E188).wr W190) fq198 fq193 fq199) hZ (zw hw 199 rfl) (zw hw 47 rfl) (by decide) (by decide)) q200a q200b q200c (g := (mkF m 126 (z30 a0 a1 a2 0) [.int 0, .ref b104])) rfl (by rw [hml]; rfl) (Steps.refl _) (argsL := [.int 0]) (rest := []) (lenOf pd_10 rfl) rfl (by show 2 * 0 + _ ≤ _; exact ze rfl) (hb hby d15_126) (fun _ _ => ⟨rfl, e196, (by decide : 8 + 0 ≤ _), (by decide : 30 + 0 ≤ _)⟩)
 dsimp only [Pt.U, Pt.locs, Pt.cells, Pt.slots] at X200 l200 y200 z200 st200 hQ200
 rw [l200, y200, z200] at X200
 obtain ⟨rfl, N200q, e200⟩ := hQ200
 have N200 := Fr.app N194 N200q
 refine OFin.tr st200 ?_
 have fq201 : Exa Z h190 x1 "org/counterpath/model/Variable" := (((((((((fq140.keep Kq142).keep Kq158).wr W165).ext E172).wr W174).ext E179).wr W182).ext E188).wr W190)
 obtain ⟨T202, X202, e202, st202⟩ := castY X200 hx hZ hown (zw hw 213 rfl) e200 (Ins.self fq201) (g := (mkF m 131 (z30 a0 a1 a2 0) [.ref x1])) rfl rfl (hb hby d15_131)
 refine OFin.go st202 ?_
 have nq203 : x1 ≠ b104 := (zn (zl EX1.lt (ze g104.symm)))
 have nq204 : x1 ≠ b110 := (zn (zl (zl EX1.lt (zt (zt E104.1 Kq106.1) (Keep.of_wr W108).1)) (ze g110.symm)))
 have nq205 : x1 ≠ ed142 := (zn (zl (zl EX1.lt (zt (zt (zt (zt (zt E104.1 Kq106.1) (Keep.of_wr W108).1) E110.1) Kq112.1) (Keep.of_wr W116).1)) R142_0))
 have fq206 : Fld Z h190 x1 "org/counterpath/model/Variable" "type" "Lorg/counterpath/model/Type;" (.ref t1) := (((((((((((((((FT1.ext E104).keep Kq106 (ninS nq203 nin0)).other W108 (Or.inl hn_x1)).ext E110).keep Kq112 (ninS nq204 nin0)).other W116 (Or.inl hn_x1)).keep Kq142 (ninS nq203 nin0)).keep Kq158 (ninS nq203 (ninS nq205 nin0))).other W165 (Or.inl hn_x1)).ext E172).other W174 (Or.inl hn_x1)).ext E179).other W182 (Or.inl hn_x1)).ext E188).other W190 (Or.inl hn_x1))
 obtain ⟨cq207, kq207, q207a, q207b, q207c⟩ := isOf hZ e202 fq201
 obtain ⟨_, _, ⟨T207, L207, k207, n207⟩, -, X207, ⟨Lc207, hQ207, l207, y207, z207⟩, st207⟩ := X202.virtualBack hx (y := (⟨"org/counterpath/model/Variable", "type", "()Lorg/counterpath/model/Type;"⟩ : MethodName)) (z := (⟨"org/counterpath/model/Variable", "type", "()Lorg/counterpath/model/Type;"⟩ : MethodName)) hown (mvT hZ (zw hw 215 rfl)) (mvT hZ (zw hw 216 rfl)) (notFace_of_selects (args := #[]) (mvT hZ (zw hw 218 rfl))) (mvT hZ (zw hw 218 rfl)) (mvT hZ (zw hw 217 rfl)) (by decide) (backOf (W := 0) (rm28 l Z aZ hw [] x1 t1 h190 n0 (zt Z0 K190.1) fq206) hZ (zw hw 219 rfl) (zw hw 9 rfl) (by decide) (by decide)) q207a q207c (g := (mkF m 134 (z30 a0 a1 a2 0) [.ref x1])) rfl (by rw [hml]; rfl) (Steps.refl _) (argsL := []) (rest := []) (lenOf pd_13 rfl) rfl (by show 2 * 0 + _ ≤ _; exact ze rfl) (hb hby d15_134) (fun _ _ => ⟨rfl, e202, (by decide : 8 + 0 ≤ _), (by decide : 30 + 0 ≤ _)⟩)
 dsimp only [Pt.U, Pt.locs, Pt.cells, Pt.slots] at X207 l207 y207 z207 st207 hQ207
 rw [l207, y207, z207] at X207
 obtain ⟨rfl, N207q, e207⟩ := hQ207
 have N207 := Fr.app N200 N207q
 refine OFin.tr st207 ?_
 have sg208 : zg p e below T207 m 147 (z44 a0 a1 a2 0 t1 0 1) [.ref t1] 137 (z30 a0 a1 a2 0) [.ref t1] := by
  intro t k
  refine XS.astore X207.here hx rfl (hb hby d15_137) rfl rfl (l' := #[.val (.ref a0), .val (.ref a1), .val (.ref a2), .val (.int 0), .val (.ref t1), .unset, .unset, .unset, .unset, .unset, .unset, .unset, .unset, .unset, .unset, .unset]) rfl ?_
  show zs p e below T207 m 139 #[.val (.ref a0), .val (.ref a1), .val (.ref a2), .val (.int 0), .val (.ref t1), .unset, .unset, .unset, .unset, .unset, .unset, .unset, .unset, .unset, .unset, .unset] [] t
  refine XS.lconst X207.here hx rfl (hb hby d15_139) ?_
  show zs p e below T207 m 140 #[.val (.ref a0), .val (.ref a1), .val (.ref a2), .val (.int 0), .val (.ref t1), .unset, .unset, .unset, .unset, .unset, .unset, .unset, .unset, .unset, .unset, .unset] [.long 0] t
  refine XS.lstore X207.here hx rfl (hb hby d15_140) rfl (l' := #[.val (.ref a0), .val (.ref a1), .val (.ref a2), .val (.int 0), .val (.ref t1), .val (.long 0), .second, .unset, .unset, .unset, .unset, .unset, .unset, .unset, .unset, .unset]) rfl ?_
  show zs p e below T207 m 142 #[.val (.ref a0), .val (.ref a1), .val (.ref a2), .val (.int 0), .val (.ref t1), .val (.long 0), .second, .unset, .unset, .unset, .unset, .unset, .unset, .unset, .unset, .unset] [] t
  refine XS.lconst X207.here hx rfl (hb hby d15_142) ?_
  show zs p e below T207 m 143 #[.val (.ref a0), .val (.ref a1), .val (.ref a2), .val (.int 0), .val (.ref t1), .val (.long 0), .second, .unset, .unset, .unset, .unset, .unset, .unset, .unset, .unset, .unset] [.long 1] t
  refine XS.lstore X207.here hx rfl (hb hby d15_143) rfl (l' := (z44 a0 a1 a2 0 t1 0 1)) rfl ?_
  show zs p e below T207 m 145 (z44 a0 a1 a2 0 t1 0 1) [] t
  refine XS.aload X207.here hx rfl (hb hby d15_145) rfl rfl ?_
  exact k
 refine OFin.go sg208 ?_
 have fq209 : Exa Z h190 t1 "org/counterpath/model/Type$Range" := (((((((((((((((ET1.ext E104).keep Kq106).wr W108).ext E110).keep Kq112).wr W116).keep Kq142).keep Kq158).wr W165).ext E172).wr W174).ext E179).wr W182).ext E188).wr W190)
 obtain ⟨T210, X210, e210, st210⟩ := instY X207 hx hZ hown (zw hw 220 rfl) e207 (Ins.self fq209) (g := (mkF m 147 (z44 a0 a1 a2 0 t1 0 1) [.ref t1])) rfl rfl (hb hby d15_147)
 refine OFin.go st210 ?_
 have sg211 : zg p e below T210 m 155 (z44 a0 a1 a2 0 t1 0 1) [.ref t1] 150 (z44 a0 a1 a2 0 t1 0 1) [.int 1] := by
  intro t k
  refine XS.ifNo X210.here hx rfl (hb hby d15_150) rfl ((if0 _ _).trans (feq (by decide : ¬ ((1 : Int32) = (0 : Int32)))).1) ?_
  show zs p e below T210 m 153 (z44 a0 a1 a2 0 t1 0 1) [] t
  refine XS.aload X210.here hx rfl (hb hby d15_153) rfl rfl ?_
  exact k
 refine OFin.go sg211 ?_
 obtain ⟨T212, X212, e212, st212⟩ := castY X210 hx hZ hown (zw hw 220 rfl) e210 (Ins.self fq209) (g := (mkF m 155 (z44 a0 a1 a2 0 t1 0 1) [.ref t1])) rfl rfl (hb hby d15_155)
 refine OFin.go st212 ?_
 have sg213 : zg p e below T212 m 162 (z3 a0 a1 a2 0 t1 0 1 t1) [.ref t1] 158 (z44 a0 a1 a2 0 t1 0 1) [.ref t1] := by
  intro t k
  refine XS.astore X212.here hx rfl (hb hby d15_158) rfl rfl (l' := (z3 a0 a1 a2 0 t1 0 1 t1)) rfl ?_
  show zs p e below T212 m 160 (z3 a0 a1 a2 0 t1 0 1 t1) [] t
  refine XS.aload X212.here hx rfl (hb hby d15_160) rfl rfl ?_
  exact k
 refine OFin.go sg213 ?_
 have nq214 : t1 ≠ b104 := (zn (zl ET1.lt (ze g104.symm)))
 have nq215 : t1 ≠ b110 := (zn (zl (zl ET1.lt (zt (zt E104.1 Kq106.1) (Keep.of_wr W108).1)) (ze g110.symm)))
 have nq216 : t1 ≠ ed142 := (zn (zl (zl ET1.lt (zt (zt (zt (zt (zt E104.1 Kq106.1) (Keep.of_wr W108).1) E110.1) Kq112.1) (Keep.of_wr W116).1)) R142_0))
 have fq217 : Fld Z h190 t1 "org/counterpath/model/Type$Range" "low" "J" (.long l1) := (((((((((((((((FL1.ext E104).keep Kq106 (ninS nq214 nin0)).other W108 (Or.inl hn_t1)).ext E110).keep Kq112 (ninS nq215 nin0)).other W116 (Or.inl hn_t1)).keep Kq142 (ninS nq214 nin0)).keep Kq158 (ninS nq214 (ninS nq216 nin0))).other W165 (Or.inl hn_t1)).ext E172).other W174 (Or.inl hn_t1)).ext E179).other W182 (Or.inl hn_t1)).ext E188).other W190 (Or.inl hn_t1))
 obtain ⟨cq218, kq218, q218a, q218b, q218c⟩ := isOf hZ e212 fq209
 obtain ⟨_, _, ⟨T218, L218, k218, n218⟩, -, X218, ⟨Lc218, hQ218, l218, y218, z218⟩, st218⟩ := X212.virtualBack hx (y := (⟨"org/counterpath/model/Type$Range", "low", "()J"⟩ : MethodName)) (z := (⟨"org/counterpath/model/Type$Range", "low", "()J"⟩ : MethodName)) hown (mvT hZ (zw hw 222 rfl)) (mvT hZ (zw hw 223 rfl)) (notFace_of_selects (args := #[]) (mvT hZ (zw hw 225 rfl))) (mvT hZ (zw hw 225 rfl)) (mvT hZ (zw hw 224 rfl)) (by decide) (backOf (W := 0) (rm29 l Z aZ hw [] t1 l1 h190 n0 (zt Z0 K190.1) fq217) hZ (zw hw 226 rfl) (zw hw 20 rfl) (by decide) (by decide)) q218a q218c (g := (mkF m 162 (z3 a0 a1 a2 0 t1 0 1 t1) [.ref t1])) rfl (by rw [hml]; rfl) (Steps.refl _) (argsL := []) (rest := []) (lenOf pd_14 rfl) rfl (by show 2 * 0 + _ ≤ _; exact ze rfl) (hb hby d15_162) (fun _ _ => ⟨rfl, e212, (by decide : 8 + 0 ≤ _), (by decide : 30 + 0 ≤ _)⟩)
 dsimp only [Pt.U, Pt.locs, Pt.cells, Pt.slots] at X218 l218 y218 z218 st218 hQ218
 rw [l218, y218, z218] at X218
 obtain ⟨rfl, N218q, e218⟩ := hQ218
 have N218 := Fr.app N207 N218q
 refine OFin.tr st218 ?_
 have sg219 : zg p e below T218 m 169 (z3 a0 a1 a2 0 t1 l1 1 t1) [.ref t1] 165 (z3 a0 a1 a2 0 t1 0 1 t1) [.long l1] := by
  intro t k
  refine XS.lstore X218.here hx rfl (hb hby d15_165) rfl (l' := (z3 a0 a1 a2 0 t1 l1 1 t1)) rfl ?_
  show zs p e below T218 m 167 (z3 a0 a1 a2 0 t1 l1 1 t1) [] t
  refine XS.aload X218.here hx rfl (hb hby d15_167) rfl rfl ?_
  exact k
 refine OFin.go sg219 ?_
 have fq220 : Fld Z h190 t1 "org/counterpath/model/Type$Range" "high" "J" (.long u1) := (((((((((((((((FH1.ext E104).keep Kq106 (ninS nq214 nin0)).other W108 (Or.inl hn_t1)).ext E110).keep Kq112 (ninS nq215 nin0)).other W116 (Or.inl hn_t1)).keep Kq142 (ninS nq214 nin0)).keep Kq158 (ninS nq214 (ninS nq216 nin0))).other W165 (Or.inl hn_t1)).ext E172).other W174 (Or.inl hn_t1)).ext E179).other W182 (Or.inl hn_t1)).ext E188).other W190 (Or.inl hn_t1))
 obtain ⟨cq221, kq221, q221a, q221b, q221c⟩ := isOf hZ e218 fq209
 obtain ⟨_, _, ⟨T221, L221, k221, n221⟩, -, X221, ⟨Lc221, hQ221, l221, y221, z221⟩, st221⟩ := X218.virtualBack hx (y := (⟨"org/counterpath/model/Type$Range", "high", "()J"⟩ : MethodName)) (z := (⟨"org/counterpath/model/Type$Range", "high", "()J"⟩ : MethodName)) hown (mvT hZ (zw hw 227 rfl)) (mvT hZ (zw hw 228 rfl)) (notFace_of_selects (args := #[]) (mvT hZ (zw hw 230 rfl))) (mvT hZ (zw hw 230 rfl)) (mvT hZ (zw hw 229 rfl)) (by decide) (backOf (W := 0) (rm30 l Z aZ hw [] t1 u1 h190 n0 (zt Z0 K190.1) fq220) hZ (zw hw 231 rfl) (zw hw 20 rfl) (by decide) (by decide)) q221a q221c (g := (mkF m 169 (z3 a0 a1 a2 0 t1 l1 1 t1) [.ref t1])) rfl (by rw [hml]; rfl) (Steps.refl _) (argsL := []) (rest := []) (lenOf pd_14 rfl) rfl (by show 2 * 0 + _ ≤ _; exact ze rfl) (hb hby d15_169) (fun _ _ => ⟨rfl, e218, (by decide : 8 + 0 ≤ _), (by decide : 30 + 0 ≤ _)⟩)
 dsimp only [Pt.U, Pt.locs, Pt.cells, Pt.slots] at X221 l221 y221 z221 st221 hQ221
 rw [l221, y221, z221] at X221
 obtain ⟨rfl, N221q, e221⟩ := hQ221
 have N221 := Fr.app N218 N221q
 refine OFin.tr st221 ?_
 have sg222 : zg p e below T221 m 311 (z3 a0 a1 a2 0 t1 l1 u1 t1) [.ref a0] 172 (z3 a0 a1 a2 0 t1 l1 1 t1) [.long u1] := by
  intro t k
  refine XS.lstore X221.here hx rfl (hb hby d15_172) rfl (l' := (z3 a0 a1 a2 0 t1 l1 u1 t1)) rfl ?_
  show zs p e below T221 m 174 (z3 a0 a1 a2 0 t1 l1 u1 t1) [] t
  refine XS.goto X221.here hx rfl (pc0 := 174) (pc' := 310) rfl (hb hby d15_174) (by decide) (by decide) ?_
  show zs p e below T221 m 310 (z3 a0 a1 a2 0 t1 l1 u1 t1) [] t
  refine XS.aloadN X221.here hx rfl (hb hby d15_310) rfl rfl ?_
  exact k
 refine OFin.go sg222 ?_
 obtain ⟨T223, X223, e223, st223⟩ := getF X221 hx hZ hown (host := "") (Or.inl (zw hw 186 rfl)) Via.refl e221 ((F182.ext E188).other W190 (Or.inr (slot_ne (Or.inr (zw hw 187 rfl)) (Or.inr (zw hw 191 rfl)) (by decide) (t := (.array .boolean)) (t' := (.array (.array .long))) (by decide) (by decide)))) (g := (mkF m 311 (z3 a0 a1 a2 0 t1 l1 u1 t1) [.ref a0])) rfl rfl (hb hby d15_311)
 refine OFin.go st223 ?_
 have sg224 : zg p e below T223 m 319 (z3 a0 a1 a2 0 t1 l1 u1 t1) [.int (lcmpW l1 (0 : Int64)), .int 0, .ref b179] 314 (z3 a0 a1 a2 0 t1 l1 u1 t1) [.ref b179] := by
  intro t k
  refine XS.iloadN X223.here hx rfl (hb hby d15_314) rfl ?_
  show zs p e below T223 m 315 (z3 a0 a1 a2 0 t1 l1 u1 t1) [.int 0, .ref b179] t
  refine XS.lload X223.here hx rfl (hb hby d15_315) rfl ?_
  show zs p e below T223 m 317 (z3 a0 a1 a2 0 t1 l1 u1 t1) [.long l1, .int 0, .ref b179] t
  refine XS.lconst X223.here hx rfl (hb hby d15_317) ?_
  show zs p e below T223 m 318 (z3 a0 a1 a2 0 t1 l1 u1 t1) [.long 0, .long l1, .int 0, .ref b179] t
  refine XS.lcmp X223.here hx rfl (hb hby d15_318) rfl ?_
  exact k
 refine OFin.go sg224 ?_
 by_cases c225 : l1 < (0 : Int64)
 ·have sg226 : zg p e below T223 m 327 (z3 a0 a1 a2 0 t1 l1 u1 t1) [.int 1, .int 0, .ref b179] 319 (z3 a0 a1 a2 0 t1 l1 u1 t1) [.int (lcmpW l1 (0 : Int64)), .int 0, .ref b179] := by
   intro t k
   refine XS.ifNo X223.here hx rfl (hb hby d15_319) rfl ((if0 _ _).trans (tlt ((lw_lt _ _).mpr c225)).2.1) ?_
   show zs p e below T223 m 322 (z3 a0 a1 a2 0 t1 l1 u1 t1) [.int 0, .ref b179] t
   refine XS.iconst X223.here hx rfl (hb hby d15_322) ?_
   show zs p e below T223 m 323 (z3 a0 a1 a2 0 t1 l1 u1 t1) [.int 1, .int 0, .ref b179] t
   refine XS.goto X223.here hx rfl (pc0 := 323) (pc' := 327) rfl (hb hby d15_323) (by decide) (by decide) ?_
   exact k
  refine OFin.go sg226 ?_
  have nq228 : a0 ≠ b179 := (zn (zl (zl E0a.lt (zt (zt (zt (zt (zt (zt (zt (zt (zt (zt E104.1 Kq106.1) (Keep.of_wr W108).1) E110.1) Kq112.1) (Keep.of_wr W116).1) Kq142.1) Kq158.1) (Keep.of_wr W165).1) E172.1) (Keep.of_wr W174).1)) (ze g179.symm)))
  have nq229 : b179 ≠ a0 := (Ne.symm nq228)
  have fq230 : Arv Z h190 b179 k179 .boolean (2 : Int32) [.int 0, .int 0] (.int 0) := (((V179.other W182 nq229).ext E188).other W190 nq229)
  obtain ⟨cl227, Ar227, q227, S227, M227, H227, G227⟩ := id fq230
  have hin227 : ¬ ((0 : Int32) < 0 ∨ cl227.slots.size ≤ ((0 : Int32)).toNatClampNeg) := inb_of S227 ⟨by decide, by decide⟩
  obtain ⟨T227, h227, X227, e227, W227, st227⟩ := stZ X223 hx hZ e223 Ar227 (j := (0 : Int32)) hin227 (g := (mkF m 327 (z3 a0 a1 a2 0 t1 l1 u1 t1) [.int 1, .int 0, .ref b179])) rfl rfl (hb hby d15_327)
  refine OFin.go st227 ?_
  have V227 : Arv Z h227 b179 k179 .boolean (2 : Int32) [.int 1, .int 0] (.int 0) := Arv.set Ar227 q227 S227 M227 H227 G227 (fits_nar_bool _) W227 0 rfl (Nat.le_of_ble_eq_true rfl)
  have K227 : Keep h0 h227 [a0] := K190.wr W227 (Or.inr sz_b179)
  have N227 := Fr.snoc X227 N221 g_b179
  have sg231 : zg p e below T227 m 329 (z3 a0 a1 a2 0 t1 l1 u1 t1) [.ref a0] 328 (z3 a0 a1 a2 0 t1 l1 u1 t1) [] := by
   intro t k
   refine XS.aloadN X227.here hx rfl (hb hby d15_328) rfl rfl ?_
   exact k
  refine OFin.go sg231 ?_
  have fq232 : Fld Z h227 a0 "org/counterpath/engine/Encoding" "_signed" "[Z" (.ref b179) := (((F182.ext E188).other W190 (Or.inr (slot_ne (Or.inr (zw hw 187 rfl)) (Or.inr (zw hw 191 rfl)) (by decide) (t := (.array .boolean)) (t' := (.array (.array .long))) (by decide) (by decide)))).other W227 (Or.inl nq228))
  obtain ⟨T233, X233, e233, st233⟩ := getF X227 hx hZ hown (host := "") (Or.inl (zw hw 186 rfl)) Via.refl e227 fq232 (g := (mkF m 329 (z3 a0 a1 a2 0 t1 l1 u1 t1) [.ref a0])) rfl rfl (hb hby d15_329)
  refine OFin.go st233 ?_
  have sg234 : zg p e below T233 m 333 (z3 a0 a1 a2 0 t1 l1 u1 t1) [.int 0, .ref b179] 332 (z3 a0 a1 a2 0 t1 l1 u1 t1) [.ref b179] := by
   intro t k
   refine XS.iloadN X233.here hx rfl (hb hby d15_332) rfl ?_
   exact k
  refine OFin.go sg234 ?_
  obtain ⟨cl235, Ar235, q235, S235, M235, H235, G235⟩ := id V227
  have hin235 : ¬ ((0 : Int32) < 0 ∨ cl235.slots.size ≤ ((0 : Int32)).toNatClampNeg) := inb_of S235 ⟨by decide, by decide⟩
  have hat235 : cl235.slots[((0 : Int32)).toNatClampNeg]? = some (.int 1) := H235.at hin235 rfl
  have sg236 : zg p e below T233 m 339 (z3 a0 a1 a2 0 t1 l1 u1 t1) [.long l1] 333 (z3 a0 a1 a2 0 t1 l1 u1 t1) [.int 0, .ref b179] := by
   intro t k
   refine X233.baloadBooleans hx (j := (0 : Int32)) (v := (.int 1)) (by rw [e233]; exact Ar235.1) (State.isArrayOf_alike hZ.alike Ar235.2.1) Ar235.2.2 hin235 hat235 (g := (mkF m 333 (z3 a0 a1 a2 0 t1 l1 u1 t1) [.int 0, .ref b179])) rfl rfl (hb hby d15_333) _ ?_
   show zs p e below T233 m 334 (z3 a0 a1 a2 0 t1 l1 u1 t1) [.int 1] t
   refine XS.ifNo X233.here hx rfl (hb hby d15_334) rfl ((if0 _ _).trans (feq (by decide : ¬ ((1 : Int32) = (0 : Int32)))).1) ?_
   show zs p e below T233 m 337 (z3 a0 a1 a2 0 t1 l1 u1 t1) [] t
   refine XS.lload X233.here hx rfl (hb hby d15_337) rfl ?_
   exact k
  refine OFin.go sg236 ?_
  obtain ⟨_, _, ⟨T237, L237, k237, n237⟩, -, X237, ⟨Lc237, hQ237, l237, y237, z237⟩, st237⟩ := Jvm.LawKit.callS X233 hx (y := (⟨"org/counterpath/engine/Words", "width", "(J)I"⟩ : MethodName)) hown (mvT hZ (zw hw 241 rfl)) (mvT hZ (zw hw 242 rfl)) (mvT hZ (zw hw 243 rfl)) (mvT hZ (zw hw 244 rfl)) (by decide) (backOf (W := 0) (rm33 l Z aZ hw [] l1 h227 n0 (zt Z0 K227.1) ) hZ (zw hw 244 rfl) (zw hw 243 rfl) (by decide) (by decide)) (g := (mkF m 339 (z3 a0 a1 a2 0 t1 l1 u1 t1) [.long l1])) rfl (by rw [hml]; rfl) (argsL := [.long l1]) (rest := []) (lenOf pd_1 rfl) rfl (by show 2 * 0 + _ ≤ _; exact ze rfl) (hb hby d15_339) (fun _ _ => ⟨rfl, e233, (by decide : 8 + 0 ≤ _), (by decide : 30 + 0 ≤ _)⟩)
  dsimp only [Pt.U, Pt.locs, Pt.cells, Pt.slots] at X237 l237 y237 z237 st237 hQ237
  rw [l237, y237, z237] at X237
  obtain ⟨rfl, N237q, e237⟩ := hQ237
  have N237 := Fr.app N227 N237q
  refine OFin.go st237 ?_
  have sg238 : zg p e below T237 m 344 (z3 a0 a1 a2 0 t1 l1 u1 t1) [.long u1, .int (own_f33 l1)] 342 (z3 a0 a1 a2 0 t1 l1 u1 t1) [.int (own_f33 l1)] := by
   intro t k
   refine XS.lload X237.here hx rfl (hb hby d15_342) rfl ?_
   exact k
  refine OFin.go sg238 ?_
  obtain ⟨_, _, ⟨T239, L239, k239, n239⟩, -, X239, ⟨Lc239, hQ239, l239, y239, z239⟩, st239⟩ := Jvm.LawKit.callS X237 hx (y := (⟨"org/counterpath/engine/Words", "width", "(J)I"⟩ : MethodName)) hown (mvT hZ (zw hw 241 rfl)) (mvT hZ (zw hw 242 rfl)) (mvT hZ (zw hw 243 rfl)) (mvT hZ (zw hw 244 rfl)) (by decide) (backOf (W := 1) (rm33 l Z aZ hw [] u1 h227 n0 (zt Z0 K227.1) ) hZ (zw hw 244 rfl) (zw hw 243 rfl) (by decide) (by decide)) (g := (mkF m 344 (z3 a0 a1 a2 0 t1 l1 u1 t1) [.long u1, .int (own_f33 l1)])) rfl (by rw [hml]; rfl) (argsL := [.long u1]) (rest := [.int (own_f33 l1)]) (lenOf pd_1 rfl) rfl (by show 2 * 0 + _ ≤ _; exact ze rfl) (hb hby d15_344) (fun _ _ => ⟨rfl, e237, (by decide : 8 + 0 ≤ _), (by decide : 30 + 0 ≤ _)⟩)
  dsimp only [Pt.U, Pt.locs, Pt.cells, Pt.slots] at X239 l239 y239 z239 st239 hQ239
  rw [l239, y239, z239] at X239
  obtain ⟨rfl, N239q, e239⟩ := hQ239
  have N239 := Fr.app N237 N239q
  refine OFin.go st239 ?_
  obtain ⟨_, _, ⟨T240, L240, k240, n240⟩, -, X240, ⟨Lc240, hQ240, l240, y240, z240⟩, st240⟩ := Jvm.LawKit.callS X239 hx (y := (⟨"java/lang/Math", "max", "(II)I"⟩ : MethodName)) hown (mvT hZ (zw hw 247 rfl)) (mvT hZ (zw hw 98 rfl)) (mvT hZ (zw hw 2 rfl)) (mvT hZ (zw hw 99 rfl)) (by decide) (backOf (W := 0) (rm14 l Z aZ hw [] (own_f33 l1) (own_f33 u1) h227 n0 (zt Z0 K227.1) ) hZ (zw hw 99 rfl) (zw hw 2 rfl) (by decide) (by decide)) (g := (mkF m 347 (z3 a0 a1 a2 0 t1 l1 u1 t1) [.int (own_f33 u1), .int (own_f33 l1)])) rfl (by rw [hml]; rfl) (argsL := [.int (own_f33 l1), .int (own_f33 u1)]) (rest := []) (lenOf pd_3 rfl) rfl (by show 2 * 0 + _ ≤ _; exact ze rfl) (hb hby d15_347) (fun _ _ => ⟨rfl, e239, (by decide : 8 + 0 ≤ _), (by decide : 30 + 0 ≤ _)⟩)
  dsimp only [Pt.U, Pt.locs, Pt.cells, Pt.slots] at X240 l240 y240 z240 st240 hQ240
  rw [l240, y240, z240] at X240
  obtain ⟨rfl, N240q, e240⟩ := hQ240
  have N240 := Fr.app N239 N240q
  refine OFin.go st240 ?_
  have sg241 : zg p e below T240 m 364 (z2 a0 a1 a2 0 t1 l1 u1 (own_f14 (own_f33 l1) (own_f33 u1))) [.ref a0] 350 (z3 a0 a1 a2 0 t1 l1 u1 t1) [.int (own_f14 (own_f33 l1) (own_f33 u1))] := by
   intro t k
   refine XS.goto X240.here hx rfl (pc0 := 350) (pc' := 361) rfl (hb hby d15_350) (by decide) (by decide) ?_
   show zs p e below T240 m 361 (z3 a0 a1 a2 0 t1 l1 u1 t1) [.int (own_f14 (own_f33 l1) (own_f33 u1))] t
   refine XS.istore X240.here hx rfl (hb hby d15_361) rfl (l' := (z2 a0 a1 a2 0 t1 l1 u1 (own_f14 (own_f33 l1) (own_f33 u1)))) rfl ?_
   show zs p e below T240 m 363 (z2 a0 a1 a2 0 t1 l1 u1 (own_f14 (own_f33 l1) (own_f33 u1))) [] t
   refine XS.aloadN X240.here hx rfl (hb hby d15_363) rfl rfl ?_
   exact k
  refine OFin.go sg241 ?_
  have fq242 : Fld Z h227 a0 "org/counterpath/engine/Encoding" "_firstBits" "[I" (.ref b172) := (((((F174.ext E179).other W182 (Or.inr (slot_ne (Or.inr (zw hw 184 rfl)) (Or.inr (zw hw 187 rfl)) (by decide) (t := (.array .int)) (t' := (.array .boolean)) (by decide) (by decide)))).ext E188).other W190 (Or.inr (slot_ne (Or.inr (zw hw 184 rfl)) (Or.inr (zw hw 191 rfl)) (by decide) (t := (.array .int)) (t' := (.array (.array .long))) (by decide) (by decide)))).other W227 (Or.inl nq228))
  obtain ⟨T243, X243, e243, st243⟩ := getF X240 hx hZ hown (host := "") (Or.inl (zw hw 183 rfl)) Via.refl e240 fq242 (g := (mkF m 364 (z2 a0 a1 a2 0 t1 l1 u1 (own_f14 (own_f33 l1) (own_f33 u1))) [.ref a0])) rfl rfl (hb hby d15_364)
  refine OFin.go st243 ?_
  have sg244 : zg p e below T243 m 371 (z2 a0 a1 a2 0 t1 l1 u1 (own_f14 (own_f33 l1) (own_f33 u1))) [.ref a0, .int 1, .ref b172] 367 (z2 a0 a1 a2 0 t1 l1 u1 (own_f14 (own_f33 l1) (own_f33 u1))) [.ref b172] := by
   intro t k
   refine XS.iloadN X243.here hx rfl (hb hby d15_367) rfl ?_
   show zs p e below T243 m 368 (z2 a0 a1 a2 0 t1 l1 u1 (own_f14 (own_f33 l1) (own_f33 u1))) [.int 0, .ref b172] t
   refine XS.iconst X243.here hx rfl (hb hby d15_368) ?_
   show zs p e below T243 m 369 (z2 a0 a1 a2 0 t1 l1 u1 (own_f14 (own_f33 l1) (own_f33 u1))) [.int 1, .int 0, .ref b172] t
   refine XS.iadd X243.here hx rfl (hb hby d15_369) rfl ?_
   show zs p e below T243 m 370 (z2 a0 a1 a2 0 t1 l1 u1 (own_f14 (own_f33 l1) (own_f33 u1))) [.int 1, .ref b172] t
   refine XS.aloadN X243.here hx rfl (hb hby d15_370) rfl rfl ?_
   exact k
  refine OFin.go sg244 ?_
  obtain ⟨T245, X245, e245, st245⟩ := getF X243 hx hZ hown (host := "") (Or.inl (zw hw 183 rfl)) Via.refl e243 fq242 (g := (mkF m 371 (z2 a0 a1 a2 0 t1 l1 u1 (own_f14 (own_f33 l1) (own_f33 u1))) [.ref a0, .int 1, .ref b172])) rfl rfl (hb hby d15_371)
  refine OFin.go st245 ?_
  have sg246 : zg p e below T245 m 375 (z2 a0 a1 a2 0 t1 l1 u1 (own_f14 (own_f33 l1) (own_f33 u1))) [.int 0, .ref b172, .int 1, .ref b172] 374 (z2 a0 a1 a2 0 t1 l1 u1 (own_f14 (own_f33 l1) (own_f33 u1))) [.ref b172, .int 1, .ref b172] := by
   intro t k
   refine XS.iloadN X245.here hx rfl (hb hby d15_374) rfl ?_
   exact k
  refine OFin.go sg246 ?_
  have nq248 : a0 ≠ b172 := (zn (zl (zl E0a.lt (zt (zt (zt (zt (zt (zt (zt (zt E104.1 Kq106.1) (Keep.of_wr W108).1) E110.1) Kq112.1) (Keep.of_wr W116).1) Kq142.1) Kq158.1) (Keep.of_wr W165).1)) (ze g172.symm)))
  have nq249 : b172 ≠ a0 := (Ne.symm nq248)
  have nq250 : b172 ≠ b179 := (zn (zl (zl V172.lt (Keep.of_wr W174).1) (ze g179.symm)))
  have fq251 : Arv Z h227 b172 k172 .int (3 : Int32) [.int 0, .int 0, .int 0] (.int 0) := ((((((V172.other W174 nq249).ext E179).other W182 nq249).ext E188).other W190 nq249).other W227 nq250)
  obtain ⟨cl247, Ar247, q247, S247, M247, H247, G247⟩ := id fq251
  have hin247 : ¬ ((0 : Int32) < 0 ∨ cl247.slots.size ≤ ((0 : Int32)).toNatClampNeg) := inb_of S247 ⟨by decide, by decide⟩
  have hat247 : cl247.slots[((0 : Int32)).toNatClampNeg]? = some (.int 0) := H247.at hin247 rfl
  have sg252 : zg p e below T245 m 379 (z2 a0 a1 a2 0 t1 l1 u1 (own_f14 (own_f33 l1) (own_f33 u1))) [.int ((0 : Int32) + (own_f14 (own_f33 l1) (own_f33 u1))), .int 1, .ref b172] 375 (z2 a0 a1 a2 0 t1 l1 u1 (own_f14 (own_f33 l1) (own_f33 u1))) [.int 0, .ref b172, .int 1, .ref b172] := by
   intro t k
   refine X245.iaload hx (j := (0 : Int32)) (v := (.int 0)) (by rw [e245]; exact Ar247.1) (State.isArrayOf_alike hZ.alike Ar247.2.1) Ar247.2.2 hin247 hat247 (g := (mkF m 375 (z2 a0 a1 a2 0 t1 l1 u1 (own_f14 (own_f33 l1) (own_f33 u1))) [.int 0, .ref b172, .int 1, .ref b172])) rfl rfl (hb hby d15_375) _ ?_
   show zs p e below T245 m 376 (z2 a0 a1 a2 0 t1 l1 u1 (own_f14 (own_f33 l1) (own_f33 u1))) [.int 0, .int 1, .ref b172] t
   refine XS.iload X245.here hx rfl (hb hby d15_376) rfl ?_
   show zs p e below T245 m 378 (z2 a0 a1 a2 0 t1 l1 u1 (own_f14 (own_f33 l1) (own_f33 u1))) [.int (own_f14 (own_f33 l1) (own_f33 u1)), .int 0, .int 1, .ref b172] t
   refine XS.iadd X245.here hx rfl (hb hby d15_378) rfl ?_
   exact k
  refine OFin.go sg252 ?_
  obtain ⟨cl253, Ar253, q253, S253, M253, H253, G253⟩ := id fq251
  have hin253 : ¬ ((1 : Int32) < 0 ∨ cl253.slots.size ≤ ((1 : Int32)).toNatClampNeg) := inb_of S253 ⟨by decide, by decide⟩
  obtain ⟨T253, h253, X253, e253, W253, st253⟩ := stI X245 hx hZ e245 Ar253 (j := (1 : Int32)) hin253 (g := (mkF m 379 (z2 a0 a1 a2 0 t1 l1 u1 (own_f14 (own_f33 l1) (own_f33 u1))) [.int ((0 : Int32) + (own_f14 (own_f33 l1) (own_f33 u1))), .int 1, .ref b172])) rfl rfl (hb hby d15_379)
  refine OFin.go st253 ?_
  have V253 : Arv Z h253 b172 k172 .int (3 : Int32) [.int 0, .int ((0 : Int32) + (own_f14 (own_f33 l1) (own_f33 u1))), .int 0] (.int 0) := Arv.set Ar253 q253 S253 M253 H253 G253 rfl W253 1 rfl (Nat.le_of_ble_eq_true rfl)
  have K253 : Keep h0 h253 [a0] := K227.wr W253 (Or.inr sz_b172)
  have N253 := Fr.snoc X253 N240 g_b172
  have sg254 : zg p e below T253 m 110 (z2 a0 a1 a2 1 t1 l1 u1 (own_f14 (own_f33 l1) (own_f33 u1))) [.ref a0, .int 1] 380 (z2 a0 a1 a2 0 t1 l1 u1 (own_f14 (own_f33 l1) (own_f33 u1))) [] := by
   intro t k
   refine XS.iinc X253.here hx rfl (hb hby d15_380) rfl (l' := (z2 a0 a1 a2 1 t1 l1 u1 (own_f14 (own_f33 l1) (own_f33 u1)))) rfl ?_
   show zs p e below T253 m 383 (z2 a0 a1 a2 1 t1 l1 u1 (own_f14 (own_f33 l1) (own_f33 u1))) [] t
   refine XS.goto X253.here hx rfl (pc0 := 383) (pc' := 108) rfl (hb hby d15_383) (by decide) (by decide) ?_
   show zs p e below T253 m 108 (z2 a0 a1 a2 1 t1 l1 u1 (own_f14 (own_f33 l1) (own_f33 u1))) [] t
   refine XS.iloadN X253.here hx rfl (hb hby d15_108) rfl ?_
   show zs p e below T253 m 109 (z2 a0 a1 a2 1 t1 l1 u1 (own_f14 (own_f33 l1) (own_f33 u1))) [.int 1] t
   refine XS.aloadN X253.here hx rfl (hb hby d15_109) rfl rfl ?_
   exact k
  refine OFin.go sg254 ?_
  have fq255 : Fld Z h253 a0 "org/counterpath/engine/Encoding" "_variables" "Ljava/util/List;" (.ref b104) := ((((fq184.ext E188).other W190 (Or.inr (slot_ne (Or.inr (zw hw 113 rfl)) (Or.inr (zw hw 191 rfl)) (by decide) (t := (.object "java/util/List")) (t' := (.array (.array .long))) (by decide) (by decide)))).other W227 (Or.inl nq228)).other W253 (Or.inl nq248))
  obtain ⟨T256, X256, e256, st256⟩ := getF X253 hx hZ hown (host := "") (Or.inl (zw hw 112 rfl)) Via.refl e253 fq255 (g := (mkF m 110 (z2 a0 a1 a2 1 t1 l1 u1 (own_f14 (own_f33 l1) (own_f33 u1))) [.ref a0, .int 1])) rfl rfl (hb hby d15_110)
  refine OFin.go st256 ?_
  have nq257 : b104 ≠ b179 := (zn (zl (zl A104.lt (zt (zt (zt (zt (zt (zt (zt (zt (zt Kq106.1 (Keep.of_wr W108).1) E110.1) Kq112.1) (Keep.of_wr W116).1) Kq142.1) Kq158.1) (Keep.of_wr W165).1) E172.1) (Keep.of_wr W174).1)) (ze g179.symm)))
  have nq258 : b104 ≠ b172 := (zn (zl (zl A104.lt (zt (zt (zt (zt (zt (zt (zt Kq106.1 (Keep.of_wr W108).1) E110.1) Kq112.1) (Keep.of_wr W116).1) Kq142.1) Kq158.1) (Keep.of_wr W165).1)) (ze g172.symm)))
  have fq260 : Exa Z h253 b104 "java/util/ArrayList" := ((((fq187.ext E188).wr W190).wr W227).wr W253)
  obtain ⟨cq259, kq259, q259a, q259b, q259c⟩ := isOf hZ e256 fq260
  obtain ⟨_, _, ⟨T259, L259, k259, n259⟩, -, X259, ⟨Lc259, hQ259, l259, y259, z259⟩, st259⟩ := X256.interfaceBack hx (xi := (⟨"java/util/List", "size", "()I"⟩ : MethodName)) (y := (⟨"java/util/ArrayList", "size", "()I"⟩ : MethodName)) hown (mvT hZ (zw hw 172 rfl)) (mvT hZ (zw hw 173 rfl)) (mvT hZ (zw hw 174 rfl)) (mvT hZ (zw hw 175 rfl)) (mvT hZ (zw hw 176 rfl)) (mvT hZ (zw hw 177 rfl)) (mvT hZ (zw hw 178 rfl)) (mvT hZ (zw hw 76 rfl)) (by decide) (backOf (W := 1) (rm23 l Z aZ hw [] b104 (2 : Int32) h253 n0 (zt Z0 K253.1) ((fq193.other W227 (Or.inl nq257)).other W253 (Or.inl nq258))) hZ (zw hw 179 rfl) (zw hw 47 rfl) (by decide) (by decide)) q259a q259b q259c (g := (mkF m 113 (z2 a0 a1 a2 1 t1 l1 u1 (own_f14 (own_f33 l1) (own_f33 u1))) [.ref b104, .int 1])) rfl (by rw [hml]; rfl) (Steps.refl _) (argsL := []) (rest := [.int 1]) (lenOf pd_12 rfl) rfl (by show 2 * 0 + _ ≤ _; exact ze rfl) (hb hby d15_113) (fun _ _ => ⟨rfl, e256, (by decide : 8 + 0 ≤ _), (by decide : 30 + 0 ≤ _)⟩)
  dsimp only [Pt.U, Pt.locs, Pt.cells, Pt.slots] at X259 l259 y259 z259 st259 hQ259
  rw [l259, y259, z259] at X259
  obtain ⟨rfl, N259q, e259⟩ := hQ259
  have N259 := Fr.app N253 N259q
  refine OFin.tr st259 ?_
  have sg261 : zg p e below T259 m 122 (z2 a0 a1 a2 1 t1 l1 u1 (own_f14 (own_f33 l1) (own_f33 u1))) [.ref a0] 118 (z2 a0 a1 a2 1 t1 l1 u1 (own_f14 (own_f33 l1) (own_f33 u1))) [.int 2, .int 1] := by
   intro t k
   refine XS.icmpNo X259.here hx rfl (hb hby d15_118) rfl (tlt (by decide : (1 : Int32) < (2 : Int32))).2.1 ?_
   show zs p e below T259 m 121 (z2 a0 a1 a2 1 t1 l1 u1 (own_f14 (own_f33 l1) (own_f33 u1))) [] t
   refine XS.aloadN X259.here hx rfl (hb hby d15_121) rfl rfl ?_
   exact k
  refine OFin.go sg261 ?_
  obtain ⟨T262, X262, e262, st262⟩ := getF X259 hx hZ hown (host := "") (Or.inl (zw hw 112 rfl)) Via.refl e259 fq255 (g := (mkF m 122 (z2 a0 a1 a2 1 t1 l1 u1 (own_f14 (own_f33 l1) (own_f33 u1))) [.ref a0])) rfl rfl (hb hby d15_122)
  refine OFin.go st262 ?_
  have sg263 : zg p e below T262 m 126 (z2 a0 a1 a2 1 t1 l1 u1 (own_f14 (own_f33 l1) (own_f33 u1))) [.int 1, .ref b104] 125 (z2 a0 a1 a2 1 t1 l1 u1 (own_f14 (own_f33 l1) (own_f33 u1))) [.ref b104] := by
   intro t k
   refine XS.iloadN X262.here hx rfl (hb hby d15_125) rfl ?_
   exact k
  refine OFin.go sg263 ?_
  have nq264 : ed142 ≠ b179 := (zn (zl (zl P142_3.lt (zt (zt (zt Kq158.1 (Keep.of_wr W165).1) E172.1) (Keep.of_wr W174).1)) (ze g179.symm)))
  have nq265 : ed142 ≠ b172 := (zn (zl (zl P142_3.lt (zt Kq158.1 (Keep.of_wr W165).1)) (ze g172.symm)))
  obtain ⟨cq266, kq266, q266a, q266b, q266c⟩ := isOf hZ e262 fq260
  obtain ⟨_, _, ⟨T266, L266, k266, n266⟩, -, X266, ⟨Lc266, hQ266, l266, y266, z266⟩, st266⟩ := X262.interfaceBack hx (xi := (⟨"java/util/List", "get", "(I)Ljava/lang/Object;"⟩ : MethodName)) (y := (⟨"java/util/ArrayList", "get", "(I)Ljava/lang/Object;"⟩ : MethodName)) hown (mvT hZ (zw hw 192 rfl)) (mvT hZ (zw hw 193 rfl)) (mvT hZ (zw hw 194 rfl)) (mvT hZ (zw hw 195 rfl)) (mvT hZ (zw hw 196 rfl)) (mvT hZ (zw hw 197 rfl)) (mvT hZ (zw hw 198 rfl)) (mvT hZ (zw hw 76 rfl)) (by decide) (backOf (W := 0) (rm24i1 l Z aZ hw [] b104 ed142 ke142 x1 x2 h253 n0 (zt Z0 K253.1) fq260 ((fq198.other W227 (Or.inl nq257)).other W253 (Or.inl nq258)) ((fq193.other W227 (Or.inl nq257)).other W253 (Or.inl nq258)) ((fq199.other W227 nq264).other W253 nq265)) hZ (zw hw 199 rfl) (zw hw 47 rfl) (by decide) (by decide)) q266a q266b q266c (g := (mkF m 126 (z2 a0 a1 a2 1 t1 l1 u1 (own_f14 (own_f33 l1) (own_f33 u1))) [.int 1, .ref b104])) rfl (by rw [hml]; rfl) (Steps.refl _) (argsL := [.int 1]) (rest := []) (lenOf pd_10 rfl) rfl (by show 2 * 0 + _ ≤ _; exact ze rfl) (hb hby d15_126) (fun _ _ => ⟨rfl, e262, (by decide : 8 + 0 ≤ _), (by decide : 30 + 0 ≤ _)⟩)
  dsimp only [Pt.U, Pt.locs, Pt.cells, Pt.slots] at X266 l266 y266 z266 st266 hQ266
  rw [l266, y266, z266] at X266
  obtain ⟨rfl, N266q, e266⟩ := hQ266
  have N266 := Fr.app N259 N266q
  refine OFin.tr st266 ?_
  have fq267 : Exa Z h253 x2 "org/counterpath/model/Variable" := ((((((((((fq156.keep Kq158).wr W165).ext E172).wr W174).ext E179).wr W182).ext E188).wr W190).wr W227).wr W253)
  obtain ⟨T268, X268, e268, st268⟩ := castY X266 hx hZ hown (zw hw 213 rfl) e266 (Ins.self fq267) (g := (mkF m 131 (z2 a0 a1 a2 1 t1 l1 u1 (own_f14 (own_f33 l1) (own_f33 u1))) [.ref x2])) rfl rfl (hb hby d15_131)
  refine OFin.go st268 ?_
  have nq269 : x2 ≠ b104 := (zn (zl EX2.lt (ze g104.symm)))
  have nq270 : x2 ≠ b110 := (zn (zl (zl EX2.lt (zt (zt E104.1 Kq106.1) (Keep.of_wr W108).1)) (ze g110.symm)))
  have nq271 : x2 ≠ ed142 := (zn (zl (zl EX2.lt (zt (zt (zt (zt (zt E104.1 Kq106.1) (Keep.of_wr W108).1) E110.1) Kq112.1) (Keep.of_wr W116).1)) R142_0))
  have nq272 : x2 ≠ b179 := (zn (zl (zl EX2.lt (zt (zt (zt (zt (zt (zt (zt (zt (zt (zt E104.1 Kq106.1) (Keep.of_wr W108).1) E110.1) Kq112.1) (Keep.of_wr W116).1) Kq142.1) Kq158.1) (Keep.of_wr W165).1) E172.1) (Keep.of_wr W174).1)) (ze g179.symm)))
  have nq273 : x2 ≠ b172 := (zn (zl (zl EX2.lt (zt (zt (zt (zt (zt (zt (zt (zt E104.1 Kq106.1) (Keep.of_wr W108).1) E110.1) Kq112.1) (Keep.of_wr W116).1) Kq142.1) Kq158.1) (Keep.of_wr W165).1)) (ze g172.symm)))
  have fq274 : Fld Z h253 x2 "org/counterpath/model/Variable" "type" "Lorg/counterpath/model/Type;" (.ref t2) := (((((((((((((((((FT2.ext E104).keep Kq106 (ninS nq269 nin0)).other W108 (Or.inl hn_x2)).ext E110).keep Kq112 (ninS nq270 nin0)).other W116 (Or.inl hn_x2)).keep Kq142 (ninS nq269 nin0)).keep Kq158 (ninS nq269 (ninS nq271 nin0))).other W165 (Or.inl hn_x2)).ext E172).other W174 (Or.inl hn_x2)).ext E179).other W182 (Or.inl hn_x2)).ext E188).other W190 (Or.inl hn_x2)).other W227 (Or.inl nq272)).other W253 (Or.inl nq273))
  obtain ⟨cq275, kq275, q275a, q275b, q275c⟩ := isOf hZ e268 fq267
  obtain ⟨_, _, ⟨T275, L275, k275, n275⟩, -, X275, ⟨Lc275, hQ275, l275, y275, z275⟩, st275⟩ := X268.virtualBack hx (y := (⟨"org/counterpath/model/Variable", "type", "()Lorg/counterpath/model/Type;"⟩ : MethodName)) (z := (⟨"org/counterpath/model/Variable", "type", "()Lorg/counterpath/model/Type;"⟩ : MethodName)) hown (mvT hZ (zw hw 215 rfl)) (mvT hZ (zw hw 216 rfl)) (notFace_of_selects (args := #[]) (mvT hZ (zw hw 218 rfl))) (mvT hZ (zw hw 218 rfl)) (mvT hZ (zw hw 217 rfl)) (by decide) (backOf (W := 0) (rm28 l Z aZ hw [] x2 t2 h253 n0 (zt Z0 K253.1) fq274) hZ (zw hw 219 rfl) (zw hw 9 rfl) (by decide) (by decide)) q275a q275c (g := (mkF m 134 (z2 a0 a1 a2 1 t1 l1 u1 (own_f14 (own_f33 l1) (own_f33 u1))) [.ref x2])) rfl (by rw [hml]; rfl) (Steps.refl _) (argsL := []) (rest := []) (lenOf pd_13 rfl) rfl (by show 2 * 0 + _ ≤ _; exact ze rfl) (hb hby d15_134) (fun _ _ => ⟨rfl, e268, (by decide : 8 + 0 ≤ _), (by decide : 30 + 0 ≤ _)⟩)
  dsimp only [Pt.U, Pt.locs, Pt.cells, Pt.slots] at X275 l275 y275 z275 st275 hQ275
  rw [l275, y275, z275] at X275
  obtain ⟨rfl, N275q, e275⟩ := hQ275
  have N275 := Fr.app N266 N275q
  refine OFin.tr st275 ?_
  have sg276 : zg p e below T275 m 147 (z2 a0 a1 a2 1 t2 0 1 (own_f14 (own_f33 l1) (own_f33 u1))) [.ref t2] 137 (z2 a0 a1 a2 1 t1 l1 u1 (own_f14 (own_f33 l1) (own_f33 u1))) [.ref t2] := by
   intro t k
   refine XS.astore X275.here hx rfl (hb hby d15_137) rfl rfl (l' := (z2 a0 a1 a2 1 t2 l1 u1 (own_f14 (own_f33 l1) (own_f33 u1)))) rfl ?_
   show zs p e below T275 m 139 (z2 a0 a1 a2 1 t2 l1 u1 (own_f14 (own_f33 l1) (own_f33 u1))) [] t
   refine XS.lconst X275.here hx rfl (hb hby d15_139) ?_
   show zs p e below T275 m 140 (z2 a0 a1 a2 1 t2 l1 u1 (own_f14 (own_f33 l1) (own_f33 u1))) [.long 0] t
   refine XS.lstore X275.here hx rfl (hb hby d15_140) rfl (l' := (z2 a0 a1 a2 1 t2 0 u1 (own_f14 (own_f33 l1) (own_f33 u1)))) rfl ?_
   show zs p e below T275 m 142 (z2 a0 a1 a2 1 t2 0 u1 (own_f14 (own_f33 l1) (own_f33 u1))) [] t
   refine XS.lconst X275.here hx rfl (hb hby d15_142) ?_
   show zs p e below T275 m 143 (z2 a0 a1 a2 1 t2 0 u1 (own_f14 (own_f33 l1) (own_f33 u1))) [.long 1] t
   refine XS.lstore X275.here hx rfl (hb hby d15_143) rfl (l' := (z2 a0 a1 a2 1 t2 0 1 (own_f14 (own_f33 l1) (own_f33 u1)))) rfl ?_
   show zs p e below T275 m 145 (z2 a0 a1 a2 1 t2 0 1 (own_f14 (own_f33 l1) (own_f33 u1))) [] t
   refine XS.aload X275.here hx rfl (hb hby d15_145) rfl rfl ?_
   exact k
  refine OFin.go sg276 ?_
  have fq277 : Exa Z h253 t2 "org/counterpath/model/Type$Range" := (((((((((((((((((ET2.ext E104).keep Kq106).wr W108).ext E110).keep Kq112).wr W116).keep Kq142).keep Kq158).wr W165).ext E172).wr W174).ext E179).wr W182).ext E188).wr W190).wr W227).wr W253)
  obtain ⟨T278, X278, e278, st278⟩ := instY X275 hx hZ hown (zw hw 220 rfl) e275 (Ins.self fq277) (g := (mkF m 147 (z2 a0 a1 a2 1 t2 0 1 (own_f14 (own_f33 l1) (own_f33 u1))) [.ref t2])) rfl rfl (hb hby d15_147)
  refine OFin.go st278 ?_
  have sg279 : zg p e below T278 m 155 (z2 a0 a1 a2 1 t2 0 1 (own_f14 (own_f33 l1) (own_f33 u1))) [.ref t2] 150 (z2 a0 a1 a2 1 t2 0 1 (own_f14 (own_f33 l1) (own_f33 u1))) [.int 1] := by
   intro t k
   refine XS.ifNo X278.here hx rfl (hb hby d15_150) rfl ((if0 _ _).trans (feq (by decide : ¬ ((1 : Int32) = (0 : Int32)))).1) ?_
   show zs p e below T278 m 153 (z2 a0 a1 a2 1 t2 0 1 (own_f14 (own_f33 l1) (own_f33 u1))) [] t
   refine XS.aload X278.here hx rfl (hb hby d15_153) rfl rfl ?_
   exact k
  refine OFin.go sg279 ?_
  obtain ⟨T280, X280, e280, st280⟩ := castY X278 hx hZ hown (zw hw 220 rfl) e278 (Ins.self fq277) (g := (mkF m 155 (z2 a0 a1 a2 1 t2 0 1 (own_f14 (own_f33 l1) (own_f33 u1))) [.ref t2])) rfl rfl (hb hby d15_155)
  refine OFin.go st280 ?_
  have sg281 : zg p e below T280 m 162 (z3 a0 a1 a2 1 t2 0 1 t2) [.ref t2] 158 (z2 a0 a1 a2 1 t2 0 1 (own_f14 (own_f33 l1) (own_f33 u1))) [.ref t2] := by
   intro t k
   refine XS.astore X280.here hx rfl (hb hby d15_158) rfl rfl (l' := (z3 a0 a1 a2 1 t2 0 1 t2)) rfl ?_
   show zs p e below T280 m 160 (z3 a0 a1 a2 1 t2 0 1 t2) [] t
   refine XS.aload X280.here hx rfl (hb hby d15_160) rfl rfl ?_
   exact k
  refine OFin.go sg281 ?_
  have nq282 : t2 ≠ b104 := (zn (zl ET2.lt (ze g104.symm)))
  have nq283 : t2 ≠ b110 := (zn (zl (zl ET2.lt (zt (zt E104.1 Kq106.1) (Keep.of_wr W108).1)) (ze g110.symm)))
  have nq284 : t2 ≠ ed142 := (zn (zl (zl ET2.lt (zt (zt (zt (zt (zt E104.1 Kq106.1) (Keep.of_wr W108).1) E110.1) Kq112.1) (Keep.of_wr W116).1)) R142_0))
  have nq285 : t2 ≠ b179 := (zn (zl (zl ET2.lt (zt (zt (zt (zt (zt (zt (zt (zt (zt (zt E104.1 Kq106.1) (Keep.of_wr W108).1) E110.1) Kq112.1) (Keep.of_wr W116).1) Kq142.1) Kq158.1) (Keep.of_wr W165).1) E172.1) (Keep.of_wr W174).1)) (ze g179.symm)))
  have nq286 : t2 ≠ b172 := (zn (zl (zl ET2.lt (zt (zt (zt (zt (zt (zt (zt (zt E104.1 Kq106.1) (Keep.of_wr W108).1) E110.1) Kq112.1) (Keep.of_wr W116).1) Kq142.1) Kq158.1) (Keep.of_wr W165).1)) (ze g172.symm)))
  have fq287 : Fld Z h253 t2 "org/counterpath/model/Type$Range" "low" "J" (.long l2) := (((((((((((((((((FL2.ext E104).keep Kq106 (ninS nq282 nin0)).other W108 (Or.inl hn_t2)).ext E110).keep Kq112 (ninS nq283 nin0)).other W116 (Or.inl hn_t2)).keep Kq142 (ninS nq282 nin0)).keep Kq158 (ninS nq282 (ninS nq284 nin0))).other W165 (Or.inl hn_t2)).ext E172).other W174 (Or.inl hn_t2)).ext E179).other W182 (Or.inl hn_t2)).ext E188).other W190 (Or.inl hn_t2)).other W227 (Or.inl nq285)).other W253 (Or.inl nq286))
  obtain ⟨cq288, kq288, q288a, q288b, q288c⟩ := isOf hZ e280 fq277
  obtain ⟨_, _, ⟨T288, L288, k288, n288⟩, -, X288, ⟨Lc288, hQ288, l288, y288, z288⟩, st288⟩ := X280.virtualBack hx (y := (⟨"org/counterpath/model/Type$Range", "low", "()J"⟩ : MethodName)) (z := (⟨"org/counterpath/model/Type$Range", "low", "()J"⟩ : MethodName)) hown (mvT hZ (zw hw 222 rfl)) (mvT hZ (zw hw 223 rfl)) (notFace_of_selects (args := #[]) (mvT hZ (zw hw 225 rfl))) (mvT hZ (zw hw 225 rfl)) (mvT hZ (zw hw 224 rfl)) (by decide) (backOf (W := 0) (rm29 l Z aZ hw [] t2 l2 h253 n0 (zt Z0 K253.1) fq287) hZ (zw hw 226 rfl) (zw hw 20 rfl) (by decide) (by decide)) q288a q288c (g := (mkF m 162 (z3 a0 a1 a2 1 t2 0 1 t2) [.ref t2])) rfl (by rw [hml]; rfl) (Steps.refl _) (argsL := []) (rest := []) (lenOf pd_14 rfl) rfl (by show 2 * 0 + _ ≤ _; exact ze rfl) (hb hby d15_162) (fun _ _ => ⟨rfl, e280, (by decide : 8 + 0 ≤ _), (by decide : 30 + 0 ≤ _)⟩)
  dsimp only [Pt.U, Pt.locs, Pt.cells, Pt.slots] at X288 l288 y288 z288 st288 hQ288
  rw [l288, y288, z288] at X288
  obtain ⟨rfl, N288q, e288⟩ := hQ288
  have N288 := Fr.app N275 N288q
  refine OFin.tr st288 ?_
  have sg289 : zg p e below T288 m 169 (z3 a0 a1 a2 1 t2 l2 1 t2) [.ref t2] 165 (z3 a0 a1 a2 1 t2 0 1 t2) [.long l2] := by
   intro t k
   refine XS.lstore X288.here hx rfl (hb hby d15_165) rfl (l' := (z3 a0 a1 a2 1 t2 l2 1 t2)) rfl ?_
   show zs p e below T288 m 167 (z3 a0 a1 a2 1 t2 l2 1 t2) [] t
   refine XS.aload X288.here hx rfl (hb hby d15_167) rfl rfl ?_
   exact k
  refine OFin.go sg289 ?_
  have fq290 : Fld Z h253 t2 "org/counterpath/model/Type$Range" "high" "J" (.long u2) := (((((((((((((((((FH2.ext E104).keep Kq106 (ninS nq282 nin0)).other W108 (Or.inl hn_t2)).ext E110).keep Kq112 (ninS nq283 nin0)).other W116 (Or.inl hn_t2)).keep Kq142 (ninS nq282 nin0)).keep Kq158 (ninS nq282 (ninS nq284 nin0))).other W165 (Or.inl hn_t2)).ext E172).other W174 (Or.inl hn_t2)).ext E179).other W182 (Or.inl hn_t2)).ext E188).other W190 (Or.inl hn_t2)).other W227 (Or.inl nq285)).other W253 (Or.inl nq286))
  obtain ⟨cq291, kq291, q291a, q291b, q291c⟩ := isOf hZ e288 fq277
  obtain ⟨_, _, ⟨T291, L291, k291, n291⟩, -, X291, ⟨Lc291, hQ291, l291, y291, z291⟩, st291⟩ := X288.virtualBack hx (y := (⟨"org/counterpath/model/Type$Range", "high", "()J"⟩ : MethodName)) (z := (⟨"org/counterpath/model/Type$Range", "high", "()J"⟩ : MethodName)) hown (mvT hZ (zw hw 227 rfl)) (mvT hZ (zw hw 228 rfl)) (notFace_of_selects (args := #[]) (mvT hZ (zw hw 230 rfl))) (mvT hZ (zw hw 230 rfl)) (mvT hZ (zw hw 229 rfl)) (by decide) (backOf (W := 0) (rm30 l Z aZ hw [] t2 u2 h253 n0 (zt Z0 K253.1) fq290) hZ (zw hw 231 rfl) (zw hw 20 rfl) (by decide) (by decide)) q291a q291c (g := (mkF m 169 (z3 a0 a1 a2 1 t2 l2 1 t2) [.ref t2])) rfl (by rw [hml]; rfl) (Steps.refl _) (argsL := []) (rest := []) (lenOf pd_14 rfl) rfl (by show 2 * 0 + _ ≤ _; exact ze rfl) (hb hby d15_169) (fun _ _ => ⟨rfl, e288, (by decide : 8 + 0 ≤ _), (by decide : 30 + 0 ≤ _)⟩)
  dsimp only [Pt.U, Pt.locs, Pt.cells, Pt.slots] at X291 l291 y291 z291 st291 hQ291
  rw [l291, y291, z291] at X291
  obtain ⟨rfl, N291q, e291⟩ := hQ291
  have N291 := Fr.app N288 N291q
  refine OFin.tr st291 ?_
  have sg292 : zg p e below T291 m 311 (z3 a0 a1 a2 1 t2 l2 u2 t2) [.ref a0] 172 (z3 a0 a1 a2 1 t2 l2 1 t2) [.long u2] := by
   intro t k
   refine XS.lstore X291.here hx rfl (hb hby d15_172) rfl (l' := (z3 a0 a1 a2 1 t2 l2 u2 t2)) rfl ?_
   show zs p e below T291 m 174 (z3 a0 a1 a2 1 t2 l2 u2 t2) [] t
   refine XS.goto X291.here hx rfl (pc0 := 174) (pc' := 310) rfl (hb hby d15_174) (by decide) (by decide) ?_
   show zs p e below T291 m 310 (z3 a0 a1 a2 1 t2 l2 u2 t2) [] t
   refine XS.aloadN X291.here hx rfl (hb hby d15_310) rfl rfl ?_
   exact k
  refine OFin.go sg292 ?_
  obtain ⟨T293, X293, e293, st293⟩ := getF X291 hx hZ hown (host := "") (Or.inl (zw hw 186 rfl)) Via.refl e291 (fq232.other W253 (Or.inl nq248)) (g := (mkF m 311 (z3 a0 a1 a2 1 t2 l2 u2 t2) [.ref a0])) rfl rfl (hb hby d15_311)
  refine OFin.go st293 ?_
  have sg294 : zg p e below T293 m 319 (z3 a0 a1 a2 1 t2 l2 u2 t2) [.int (lcmpW l2 (0 : Int64)), .int 1, .ref b179] 314 (z3 a0 a1 a2 1 t2 l2 u2 t2) [.ref b179] := by
   intro t k
   refine XS.iloadN X293.here hx rfl (hb hby d15_314) rfl ?_
   show zs p e below T293 m 315 (z3 a0 a1 a2 1 t2 l2 u2 t2) [.int 1, .ref b179] t
   refine XS.lload X293.here hx rfl (hb hby d15_315) rfl ?_
   show zs p e below T293 m 317 (z3 a0 a1 a2 1 t2 l2 u2 t2) [.long l2, .int 1, .ref b179] t
   refine XS.lconst X293.here hx rfl (hb hby d15_317) ?_
   show zs p e below T293 m 318 (z3 a0 a1 a2 1 t2 l2 u2 t2) [.long 0, .long l2, .int 1, .ref b179] t
   refine XS.lcmp X293.here hx rfl (hb hby d15_318) rfl ?_
   exact k
  refine OFin.go sg294 ?_
  by_cases c295 : l2 < (0 : Int64)
  ·have sg296 : zg p e below T293 m 327 (z3 a0 a1 a2 1 t2 l2 u2 t2) [.int 1, .int 1, .ref b179] 319 (z3 a0 a1 a2 1 t2 l2 u2 t2) [.int (lcmpW l2 (0 : Int64)), .int 1, .ref b179] := by
    intro t k
    refine XS.ifNo X293.here hx rfl (hb hby d15_319) rfl ((if0 _ _).trans (tlt ((lw_lt _ _).mpr c295)).2.1) ?_
    show zs p e below T293 m 322 (z3 a0 a1 a2 1 t2 l2 u2 t2) [.int 1, .ref b179] t
    refine XS.iconst X293.here hx rfl (hb hby d15_322) ?_
    show zs p e below T293 m 323 (z3 a0 a1 a2 1 t2 l2 u2 t2) [.int 1, .int 1, .ref b179] t
    refine XS.goto X293.here hx rfl (pc0 := 323) (pc' := 327) rfl (hb hby d15_323) (by decide) (by decide) ?_
    exact k
   refine OFin.go sg296 ?_
   obtain ⟨cl297, Ar297, q297, S297, M297, H297, G297⟩ := id (V227.other W253 (Ne.symm nq250))
   have hin297 : ¬ ((1 : Int32) < 0 ∨ cl297.slots.size ≤ ((1 : Int32)).toNatClampNeg) := inb_of S297 ⟨by decide, by decide⟩
   obtain ⟨T297, h297, X297, e297, W297, st297⟩ := stZ X293 hx hZ e293 Ar297 (j := (1 : Int32)) hin297 (g := (mkF m 327 (z3 a0 a1 a2 1 t2 l2 u2 t2) [.int 1, .int 1, .ref b179])) rfl rfl (hb hby d15_327)
   refine OFin.go st297 ?_
   have V297 : Arv Z h297 b179 k179 .boolean (2 : Int32) [.int 1, .int 1] (.int 0) := Arv.set Ar297 q297 S297 M297 H297 G297 (fits_nar_bool _) W297 1 rfl (Nat.le_of_ble_eq_true rfl)
   have K297 : Keep h0 h297 [a0] := K253.wr W297 (Or.inr sz_b179)
   have N297 := Fr.snoc X297 N291 g_b179
   have sg298 : zg p e below T297 m 329 (z3 a0 a1 a2 1 t2 l2 u2 t2) [.ref a0] 328 (z3 a0 a1 a2 1 t2 l2 u2 t2) [] := by
    intro t k
    refine XS.aloadN X297.here hx rfl (hb hby d15_328) rfl rfl ?_
    exact k
   refine OFin.go sg298 ?_
   obtain ⟨T299, X299, e299, st299⟩ := getF X297 hx hZ hown (host := "") (Or.inl (zw hw 186 rfl)) Via.refl e297 ((fq232.other W253 (Or.inl nq248)).other W297 (Or.inl nq228)) (g := (mkF m 329 (z3 a0 a1 a2 1 t2 l2 u2 t2) [.ref a0])) rfl rfl (hb hby d15_329)
   refine OFin.go st299 ?_
   have sg300 : zg p e below T299 m 333 (z3 a0 a1 a2 1 t2 l2 u2 t2) [.int 1, .ref b179] 332 (z3 a0 a1 a2 1 t2 l2 u2 t2) [.ref b179] := by
    intro t k
    refine XS.iloadN X299.here hx rfl (hb hby d15_332) rfl ?_
    exact k
   refine OFin.go sg300 ?_
   obtain ⟨cl301, Ar301, q301, S301, M301, H301, G301⟩ := id V297
   have hin301 : ¬ ((1 : Int32) < 0 ∨ cl301.slots.size ≤ ((1 : Int32)).toNatClampNeg) := inb_of S301 ⟨by decide, by decide⟩
   have hat301 : cl301.slots[((1 : Int32)).toNatClampNeg]? = some (.int 1) := H301.at hin301 rfl
   have sg302 : zg p e below T299 m 339 (z3 a0 a1 a2 1 t2 l2 u2 t2) [.long l2] 333 (z3 a0 a1 a2 1 t2 l2 u2 t2) [.int 1, .ref b179] := by
    intro t k
    refine X299.baloadBooleans hx (j := (1 : Int32)) (v := (.int 1)) (by rw [e299]; exact Ar301.1) (State.isArrayOf_alike hZ.alike Ar301.2.1) Ar301.2.2 hin301 hat301 (g := (mkF m 333 (z3 a0 a1 a2 1 t2 l2 u2 t2) [.int 1, .ref b179])) rfl rfl (hb hby d15_333) _ ?_
    show zs p e below T299 m 334 (z3 a0 a1 a2 1 t2 l2 u2 t2) [.int 1] t
    refine XS.ifNo X299.here hx rfl (hb hby d15_334) rfl ((if0 _ _).trans (feq (by decide : ¬ ((1 : Int32) = (0 : Int32)))).1) ?_
    show zs p e below T299 m 337 (z3 a0 a1 a2 1 t2 l2 u2 t2) [] t
    refine XS.lload X299.here hx rfl (hb hby d15_337) rfl ?_
    exact k
   refine OFin.go sg302 ?_
   obtain ⟨_, _, ⟨T303, L303, k303, n303⟩, -, X303, ⟨Lc303, hQ303, l303, y303, z303⟩, st303⟩ := Jvm.LawKit.callS X299 hx (y := (⟨"org/counterpath/engine/Words", "width", "(J)I"⟩ : MethodName)) hown (mvT hZ (zw hw 241 rfl)) (mvT hZ (zw hw 242 rfl)) (mvT hZ (zw hw 243 rfl)) (mvT hZ (zw hw 244 rfl)) (by decide) (backOf (W := 0) (rm33 l Z aZ hw [] l2 h297 n0 (zt Z0 K297.1) ) hZ (zw hw 244 rfl) (zw hw 243 rfl) (by decide) (by decide)) (g := (mkF m 339 (z3 a0 a1 a2 1 t2 l2 u2 t2) [.long l2])) rfl (by rw [hml]; rfl) (argsL := [.long l2]) (rest := []) (lenOf pd_1 rfl) rfl (by show 2 * 0 + _ ≤ _; exact ze rfl) (hb hby d15_339) (fun _ _ => ⟨rfl, e299, (by decide : 8 + 0 ≤ _), (by decide : 30 + 0 ≤ _)⟩)
   dsimp only [Pt.U, Pt.locs, Pt.cells, Pt.slots] at X303 l303 y303 z303 st303 hQ303
   rw [l303, y303, z303] at X303
   obtain ⟨rfl, N303q, e303⟩ := hQ303
   have N303 := Fr.app N297 N303q
   refine OFin.go st303 ?_
   have sg304 : zg p e below T303 m 344 (z3 a0 a1 a2 1 t2 l2 u2 t2) [.long u2, .int (own_f33 l2)] 342 (z3 a0 a1 a2 1 t2 l2 u2 t2) [.int (own_f33 l2)] := by
    intro t k
    refine XS.lload X303.here hx rfl (hb hby d15_342) rfl ?_
    exact k
   refine OFin.go sg304 ?_
   obtain ⟨_, _, ⟨T305, L305, k305, n305⟩, -, X305, ⟨Lc305, hQ305, l305, y305, z305⟩, st305⟩ := Jvm.LawKit.callS X303 hx (y := (⟨"org/counterpath/engine/Words", "width", "(J)I"⟩ : MethodName)) hown (mvT hZ (zw hw 241 rfl)) (mvT hZ (zw hw 242 rfl)) (mvT hZ (zw hw 243 rfl)) (mvT hZ (zw hw 244 rfl)) (by decide) (backOf (W := 1) (rm33 l Z aZ hw [] u2 h297 n0 (zt Z0 K297.1) ) hZ (zw hw 244 rfl) (zw hw 243 rfl) (by decide) (by decide)) (g := (mkF m 344 (z3 a0 a1 a2 1 t2 l2 u2 t2) [.long u2, .int (own_f33 l2)])) rfl (by rw [hml]; rfl) (argsL := [.long u2]) (rest := [.int (own_f33 l2)]) (lenOf pd_1 rfl) rfl (by show 2 * 0 + _ ≤ _; exact ze rfl) (hb hby d15_344) (fun _ _ => ⟨rfl, e303, (by decide : 8 + 0 ≤ _), (by decide : 30 + 0 ≤ _)⟩)
   dsimp only [Pt.U, Pt.locs, Pt.cells, Pt.slots] at X305 l305 y305 z305 st305 hQ305
   rw [l305, y305, z305] at X305
   obtain ⟨rfl, N305q, e305⟩ := hQ305
   have N305 := Fr.app N303 N305q
   refine OFin.go st305 ?_
   obtain ⟨_, _, ⟨T306, L306, k306, n306⟩, -, X306, ⟨Lc306, hQ306, l306, y306, z306⟩, st306⟩ := Jvm.LawKit.callS X305 hx (y := (⟨"java/lang/Math", "max", "(II)I"⟩ : MethodName)) hown (mvT hZ (zw hw 247 rfl)) (mvT hZ (zw hw 98 rfl)) (mvT hZ (zw hw 2 rfl)) (mvT hZ (zw hw 99 rfl)) (by decide) (backOf (W := 0) (rm14 l Z aZ hw [] (own_f33 l2) (own_f33 u2) h297 n0 (zt Z0 K297.1) ) hZ (zw hw 99 rfl) (zw hw 2 rfl) (by decide) (by decide)) (g := (mkF m 347 (z3 a0 a1 a2 1 t2 l2 u2 t2) [.int (own_f33 u2), .int (own_f33 l2)])) rfl (by rw [hml]; rfl) (argsL := [.int (own_f33 l2), .int (own_f33 u2)]) (rest := []) (lenOf pd_3 rfl) rfl (by show 2 * 0 + _ ≤ _; exact ze rfl) (hb hby d15_347) (fun _ _ => ⟨rfl, e305, (by decide : 8 + 0 ≤ _), (by decide : 30 + 0 ≤ _)⟩)
   dsimp only [Pt.U, Pt.locs, Pt.cells, Pt.slots] at X306 l306 y306 z306 st306 hQ306
   rw [l306, y306, z306] at X306
   obtain ⟨rfl, N306q, e306⟩ := hQ306
   have N306 := Fr.app N305 N306q
   refine OFin.go st306 ?_
   have sg307 : zg p e below T306 m 364 (z2 a0 a1 a2 1 t2 l2 u2 (own_f14 (own_f33 l2) (own_f33 u2))) [.ref a0] 350 (z3 a0 a1 a2 1 t2 l2 u2 t2) [.int (own_f14 (own_f33 l2) (own_f33 u2))] := by
    intro t k
    refine XS.goto X306.here hx rfl (pc0 := 350) (pc' := 361) rfl (hb hby d15_350) (by decide) (by decide) ?_
    show zs p e below T306 m 361 (z3 a0 a1 a2 1 t2 l2 u2 t2) [.int (own_f14 (own_f33 l2) (own_f33 u2))] t
    refine XS.istore X306.here hx rfl (hb hby d15_361) rfl (l' := (z2 a0 a1 a2 1 t2 l2 u2 (own_f14 (own_f33 l2) (own_f33 u2)))) rfl ?_
    show zs p e below T306 m 363 (z2 a0 a1 a2 1 t2 l2 u2 (own_f14 (own_f33 l2) (own_f33 u2))) [] t
    refine XS.aloadN X306.here hx rfl (hb hby d15_363) rfl rfl ?_
    exact k
   refine OFin.go sg307 ?_
   obtain ⟨T308, X308, e308, st308⟩ := getF X306 hx hZ hown (host := "") (Or.inl (zw hw 183 rfl)) Via.refl e306 ((fq242.other W253 (Or.inl nq248)).other W297 (Or.inl nq228)) (g := (mkF m 364 (z2 a0 a1 a2 1 t2 l2 u2 (own_f14 (own_f33 l2) (own_f33 u2))) [.ref a0])) rfl rfl (hb hby d15_364)
   refine OFin.go st308 ?_
   have sg309 : zg p e below T308 m 371 (z2 a0 a1 a2 1 t2 l2 u2 (own_f14 (own_f33 l2) (own_f33 u2))) [.ref a0, .int 2, .ref b172] 367 (z2 a0 a1 a2 1 t2 l2 u2 (own_f14 (own_f33 l2) (own_f33 u2))) [.ref b172] := by
    intro t k
    refine XS.iloadN X308.here hx rfl (hb hby d15_367) rfl ?_
    show zs p e below T308 m 368 (z2 a0 a1 a2 1 t2 l2 u2 (own_f14 (own_f33 l2) (own_f33 u2))) [.int 1, .ref b172] t
    refine XS.iconst X308.here hx rfl (hb hby d15_368) ?_
    show zs p e below T308 m 369 (z2 a0 a1 a2 1 t2 l2 u2 (own_f14 (own_f33 l2) (own_f33 u2))) [.int 1, .int 1, .ref b172] t
    refine XS.iadd X308.here hx rfl (hb hby d15_369) rfl ?_
    show zs p e below T308 m 370 (z2 a0 a1 a2 1 t2 l2 u2 (own_f14 (own_f33 l2) (own_f33 u2))) [.int 2, .ref b172] t
    refine XS.aloadN X308.here hx rfl (hb hby d15_370) rfl rfl ?_
    exact k
   refine OFin.go sg309 ?_
   obtain ⟨T310, X310, e310, st310⟩ := getF X308 hx hZ hown (host := "") (Or.inl (zw hw 183 rfl)) Via.refl e308 ((fq242.other W253 (Or.inl nq248)).other W297 (Or.inl nq228)) (g := (mkF m 371 (z2 a0 a1 a2 1 t2 l2 u2 (own_f14 (own_f33 l2) (own_f33 u2))) [.ref a0, .int 2, .ref b172])) rfl rfl (hb hby d15_371)
   refine OFin.go st310 ?_
   have sg311 : zg p e below T310 m 375 (z2 a0 a1 a2 1 t2 l2 u2 (own_f14 (own_f33 l2) (own_f33 u2))) [.int 1, .ref b172, .int 2, .ref b172] 374 (z2 a0 a1 a2 1 t2 l2 u2 (own_f14 (own_f33 l2) (own_f33 u2))) [.ref b172, .int 2, .ref b172] := by
    intro t k
    refine XS.iloadN X310.here hx rfl (hb hby d15_374) rfl ?_
    exact k
   refine OFin.go sg311 ?_
   obtain ⟨cl312, Ar312, q312, S312, M312, H312, G312⟩ := id (V253.other W297 nq250)
   have hin312 : ¬ ((1 : Int32) < 0 ∨ cl312.slots.size ≤ ((1 : Int32)).toNatClampNeg) := inb_of S312 ⟨by decide, by decide⟩
   have hat312 : cl312.slots[((1 : Int32)).toNatClampNeg]? = some (.int ((0 : Int32) + (own_f14 (own_f33 l1) (own_f33 u1)))) := H312.at hin312 rfl
   have sg313 : zg p e below T310 m 379 (z2 a0 a1 a2 1 t2 l2 u2 (own_f14 (own_f33 l2) (own_f33 u2))) [.int (((0 : Int32) + (own_f14 (own_f33 l1) (own_f33 u1))) + (own_f14 (own_f33 l2) (own_f33 u2))), .int 2, .ref b172] 375 (z2 a0 a1 a2 1 t2 l2 u2 (own_f14 (own_f33 l2) (own_f33 u2))) [.int 1, .ref b172, .int 2, .ref b172] := by
    intro t k
    refine X310.iaload hx (j := (1 : Int32)) (v := (.int ((0 : Int32) + (own_f14 (own_f33 l1) (own_f33 u1))))) (by rw [e310]; exact Ar312.1) (State.isArrayOf_alike hZ.alike Ar312.2.1) Ar312.2.2 hin312 hat312 (g := (mkF m 375 (z2 a0 a1 a2 1 t2 l2 u2 (own_f14 (own_f33 l2) (own_f33 u2))) [.int 1, .ref b172, .int 2, .ref b172])) rfl rfl (hb hby d15_375) _ ?_
    show zs p e below T310 m 376 (z2 a0 a1 a2 1 t2 l2 u2 (own_f14 (own_f33 l2) (own_f33 u2))) [.int ((0 : Int32) + (own_f14 (own_f33 l1) (own_f33 u1))), .int 2, .ref b172] t
    refine XS.iload X310.here hx rfl (hb hby d15_376) rfl ?_
    show zs p e below T310 m 378 (z2 a0 a1 a2 1 t2 l2 u2 (own_f14 (own_f33 l2) (own_f33 u2))) [.int (own_f14 (own_f33 l2) (own_f33 u2)), .int ((0 : Int32) + (own_f14 (own_f33 l1) (own_f33 u1))), .int 2, .ref b172] t
    refine XS.iadd X310.here hx rfl (hb hby d15_378) rfl ?_
    exact k
   refine OFin.go sg313 ?_
   obtain ⟨cl314, Ar314, q314, S314, M314, H314, G314⟩ := id (V253.other W297 nq250)
   have hin314 : ¬ ((2 : Int32) < 0 ∨ cl314.slots.size ≤ ((2 : Int32)).toNatClampNeg) := inb_of S314 ⟨by decide, by decide⟩
   obtain ⟨T314, h314, X314, e314, W314, st314⟩ := stI X310 hx hZ e310 Ar314 (j := (2 : Int32)) hin314 (g := (mkF m 379 (z2 a0 a1 a2 1 t2 l2 u2 (own_f14 (own_f33 l2) (own_f33 u2))) [.int (((0 : Int32) + (own_f14 (own_f33 l1) (own_f33 u1))) + (own_f14 (own_f33 l2) (own_f33 u2))), .int 2, .ref b172])) rfl rfl (hb hby d15_379)
   refine OFin.go st314 ?_
   have V314 : Arv Z h314 b172 k172 .int (3 : Int32) [.int 0, .int ((0 : Int32) + (own_f14 (own_f33 l1) (own_f33 u1))), .int (((0 : Int32) + (own_f14 (own_f33 l1) (own_f33 u1))) + (own_f14 (own_f33 l2) (own_f33 u2)))] (.int 0) := Arv.set Ar314 q314 S314 M314 H314 G314 rfl W314 2 rfl (Nat.le_of_ble_eq_true rfl)
   have K314 : Keep h0 h314 [a0] := K297.wr W314 (Or.inr sz_b172)
   have N314 := Fr.snoc X314 N306 g_b172
   have sg315 : zg p e below T314 m 110 (z2 a0 a1 a2 2 t2 l2 u2 (own_f14 (own_f33 l2) (own_f33 u2))) [.ref a0, .int 2] 380 (z2 a0 a1 a2 1 t2 l2 u2 (own_f14 (own_f33 l2) (own_f33 u2))) [] := by
    intro t k
    refine XS.iinc X314.here hx rfl (hb hby d15_380) rfl (l' := (z2 a0 a1 a2 2 t2 l2 u2 (own_f14 (own_f33 l2) (own_f33 u2)))) rfl ?_
    show zs p e below T314 m 383 (z2 a0 a1 a2 2 t2 l2 u2 (own_f14 (own_f33 l2) (own_f33 u2))) [] t
    refine XS.goto X314.here hx rfl (pc0 := 383) (pc' := 108) rfl (hb hby d15_383) (by decide) (by decide) ?_
    show zs p e below T314 m 108 (z2 a0 a1 a2 2 t2 l2 u2 (own_f14 (own_f33 l2) (own_f33 u2))) [] t
    refine XS.iloadN X314.here hx rfl (hb hby d15_108) rfl ?_
    show zs p e below T314 m 109 (z2 a0 a1 a2 2 t2 l2 u2 (own_f14 (own_f33 l2) (own_f33 u2))) [.int 2] t
    refine XS.aloadN X314.here hx rfl (hb hby d15_109) rfl rfl ?_
    exact k
   refine OFin.go sg315 ?_
   obtain ⟨T316, X316, e316, st316⟩ := getF X314 hx hZ hown (host := "") (Or.inl (zw hw 112 rfl)) Via.refl e314 ((fq255.other W297 (Or.inl nq228)).other W314 (Or.inl nq248)) (g := (mkF m 110 (z2 a0 a1 a2 2 t2 l2 u2 (own_f14 (own_f33 l2) (own_f33 u2))) [.ref a0, .int 2])) rfl rfl (hb hby d15_110)
   refine OFin.go st316 ?_
   have fq317 : Fld Z h314 b104 "java/util/ArrayList" "size" "I" (.int 2) := ((((fq193.other W227 (Or.inl nq257)).other W253 (Or.inl nq258)).other W297 (Or.inl nq257)).other W314 (Or.inl nq258))
   obtain ⟨cq318, kq318, q318a, q318b, q318c⟩ := isOf hZ e316 ((fq260.wr W297).wr W314)
   obtain ⟨_, _, ⟨T318, L318, k318, n318⟩, -, X318, ⟨Lc318, hQ318, l318, y318, z318⟩, st318⟩ := X316.interfaceBack hx (xi := (⟨"java/util/List", "size", "()I"⟩ : MethodName)) (y := (⟨"java/util/ArrayList", "size", "()I"⟩ : MethodName)) hown (mvT hZ (zw hw 172 rfl)) (mvT hZ (zw hw 173 rfl)) (mvT hZ (zw hw 174 rfl)) (mvT hZ (zw hw 175 rfl)) (mvT hZ (zw hw 176 rfl)) (mvT hZ (zw hw 177 rfl)) (mvT hZ (zw hw 178 rfl)) (mvT hZ (zw hw 76 rfl)) (by decide) (backOf (W := 1) (rm23 l Z aZ hw [] b104 (2 : Int32) h314 n0 (zt Z0 K314.1) fq317) hZ (zw hw 179 rfl) (zw hw 47 rfl) (by decide) (by decide)) q318a q318b q318c (g := (mkF m 113 (z2 a0 a1 a2 2 t2 l2 u2 (own_f14 (own_f33 l2) (own_f33 u2))) [.ref b104, .int 2])) rfl (by rw [hml]; rfl) (Steps.refl _) (argsL := []) (rest := [.int 2]) (lenOf pd_12 rfl) rfl (by show 2 * 0 + _ ≤ _; exact ze rfl) (hb hby d15_113) (fun _ _ => ⟨rfl, e316, (by decide : 8 + 0 ≤ _), (by decide : 30 + 0 ≤ _)⟩)
   dsimp only [Pt.U, Pt.locs, Pt.cells, Pt.slots] at X318 l318 y318 z318 st318 hQ318
   rw [l318, y318, z318] at X318
   obtain ⟨rfl, N318q, e318⟩ := hQ318
   have N318 := Fr.app N314 N318q
   refine OFin.tr st318 ?_
   have sg319 : zg p e below T318 m 386 (z2 a0 a1 a2 2 t2 l2 u2 (own_f14 (own_f33 l2) (own_f33 u2))) [] 118 (z2 a0 a1 a2 2 t2 l2 u2 (own_f14 (own_f33 l2) (own_f33 u2))) [.int 2, .int 2] := by
    intro t k
    refine XS.icmpYes X318.here hx rfl (pc0 := 118) (pc' := 386) rfl (hb hby d15_118) rfl (flt (by decide : ¬ ((2 : Int32) < (2 : Int32)))).2.1 (by decide) (by decide) ?_
    exact k
   refine OFin.go sg319 ?_
   have es1 : own_sg l1 = (1 : Int32) := if_pos c225
   have ew1 : own_wd l1 u1 = _ := if_pos c225
   have es2 : own_sg l2 = (1 : Int32) := if_pos c295
   have ew2 : own_wd l2 u2 = _ := if_pos c295
   have Vz_b172 : Arv Z h314 b172 k172 .int (3 : Int32) [.int 0, .int ((0 : Int32) + (own_wd l1 u1)), .int (((0 : Int32) + (own_wd l1 u1)) + (own_wd l2 u2))] (.int 0) := by rw [ew1, ew2]; exact V314
   have Vz_b179 : Arv Z h314 b179 k179 .boolean (2 : Int32) [.int (own_sg l1), .int (own_sg l2)] (.int 0) := by rw [es1, es2]; exact (V297.other W314 (Ne.symm nq250))
   have fq320 : Fld Z h314 a0 "org/counterpath/engine/Encoding" "_firstBits" "[I" (.ref b172) := (((fq242.other W253 (Or.inl nq248)).other W297 (Or.inl nq228)).other W314 (Or.inl nq248))
   have fq321 : Fld Z h314 a0 "org/counterpath/engine/Encoding" "_signed" "[Z" (.ref b179) := (((fq232.other W253 (Or.inl nq248)).other W297 (Or.inl nq228)).other W314 (Or.inl nq248))
   have fq322 : Fld Z h314 a0 "org/counterpath/engine/Encoding" "_codes" "[[J" (.ref b188) := ((((F190.other W227 (Or.inl nq228)).other W253 (Or.inl nq248)).other W297 (Or.inl nq228)).other W314 (Or.inl nq248))
   have nq323 : a0 ≠ b188 := (zn (zl (zl E0a.lt (zt (zt (zt (zt (zt (zt (zt (zt (zt (zt (zt (zt E104.1 Kq106.1) (Keep.of_wr W108).1) E110.1) Kq112.1) (Keep.of_wr W116).1) Kq142.1) Kq158.1) (Keep.of_wr W165).1) E172.1) (Keep.of_wr W174).1) E179.1) (Keep.of_wr W182).1)) (ze g188.symm)))
   have nq324 : b188 ≠ a0 := (Ne.symm nq323)
   have nq325 : b179 ≠ b188 := (zn (zl (zl V179.lt (Keep.of_wr W182).1) (ze g188.symm)))
   have nq326 : b188 ≠ b179 := (Ne.symm nq325)
   have nq327 : b172 ≠ b188 := (zn (zl (zl V172.lt (zt (zt (Keep.of_wr W174).1 E179.1) (Keep.of_wr W182).1)) (ze g188.symm)))
   have nq328 : b188 ≠ b172 := (Ne.symm nq327)
   have fq329 : Arv Z h314 b188 k188 (.array .long) (2 : Int32) [.null, .null] .null := (((((V188.other W190 nq324).other W227 nq326).other W253 nq328).other W297 nq326).other W314 nq328)
   exact OFin.retV X318 hx hret hlk (hb hby d15_386) (by rw [e318]; exact ⟨b172, k172, b179, k179, b188, k188, rfl, N318, K314, fq320, fq321, fq322, Vz_b172, Vz_b179, fq329, sz_b172, sz_b179, sz_b188⟩) (by decide) (by decide)
  ·have sg330 : zg p e below T293 m 327 (z3 a0 a1 a2 1 t2 l2 u2 t2) [.int 0, .int 1, .ref b179] 319 (z3 a0 a1 a2 1 t2 l2 u2 t2) [.int (lcmpW l2 (0 : Int64)), .int 1, .ref b179] := by
    intro t k
    refine XS.ifYes X293.here hx rfl (pc0 := 319) (pc' := 326) rfl (hb hby d15_319) rfl ((if0 _ _).trans (flt (mt (lw_lt _ _).mp c295)).2.1) (by decide) (by decide) ?_
    show zs p e below T293 m 326 (z3 a0 a1 a2 1 t2 l2 u2 t2) [.int 1, .ref b179] t
    refine XS.iconst X293.here hx rfl (hb hby d15_326) ?_
    exact k
   refine OFin.go sg330 ?_
   obtain ⟨cl331, Ar331, q331, S331, M331, H331, G331⟩ := id (V227.other W253 (Ne.symm nq250))
   have hin331 : ¬ ((1 : Int32) < 0 ∨ cl331.slots.size ≤ ((1 : Int32)).toNatClampNeg) := inb_of S331 ⟨by decide, by decide⟩
   obtain ⟨T331, h331, X331, e331, W331, st331⟩ := stZ X293 hx hZ e293 Ar331 (j := (1 : Int32)) hin331 (g := (mkF m 327 (z3 a0 a1 a2 1 t2 l2 u2 t2) [.int 0, .int 1, .ref b179])) rfl rfl (hb hby d15_327)
   refine OFin.go st331 ?_
   have V331 : Arv Z h331 b179 k179 .boolean (2 : Int32) [.int 1, .int 0] (.int 0) := Arv.set Ar331 q331 S331 M331 H331 G331 (fits_nar_bool _) W331 1 rfl (Nat.le_of_ble_eq_true rfl)
   have K331 : Keep h0 h331 [a0] := K253.wr W331 (Or.inr sz_b179)
   have N331 := Fr.snoc X331 N291 g_b179
   have sg332 : zg p e below T331 m 329 (z3 a0 a1 a2 1 t2 l2 u2 t2) [.ref a0] 328 (z3 a0 a1 a2 1 t2 l2 u2 t2) [] := by
    intro t k
    refine XS.aloadN X331.here hx rfl (hb hby d15_328) rfl rfl ?_
    exact k
   refine OFin.go sg332 ?_
   obtain ⟨T333, X333, e333, st333⟩ := getF X331 hx hZ hown (host := "") (Or.inl (zw hw 186 rfl)) Via.refl e331 ((fq232.other W253 (Or.inl nq248)).other W331 (Or.inl nq228)) (g := (mkF m 329 (z3 a0 a1 a2 1 t2 l2 u2 t2) [.ref a0])) rfl rfl (hb hby d15_329)
   refine OFin.go st333 ?_
   have sg334 : zg p e below T333 m 333 (z3 a0 a1 a2 1 t2 l2 u2 t2) [.int 1, .ref b179] 332 (z3 a0 a1 a2 1 t2 l2 u2 t2) [.ref b179] := by
    intro t k
    refine XS.iloadN X333.here hx rfl (hb hby d15_332) rfl ?_
    exact k
   refine OFin.go sg334 ?_
   obtain ⟨cl335, Ar335, q335, S335, M335, H335, G335⟩ := id V331
   have hin335 : ¬ ((1 : Int32) < 0 ∨ cl335.slots.size ≤ ((1 : Int32)).toNatClampNeg) := inb_of S335 ⟨by decide, by decide⟩
   have hat335 : cl335.slots[((1 : Int32)).toNatClampNeg]? = some (.int 0) := H335.at hin335 rfl
   have sg336 : zg p e below T333 m 357 (z3 a0 a1 a2 1 t2 l2 u2 t2) [.long u2, .int 64] 333 (z3 a0 a1 a2 1 t2 l2 u2 t2) [.int 1, .ref b179] := by
    intro t k
    refine X333.baloadBooleans hx (j := (1 : Int32)) (v := (.int 0)) (by rw [e333]; exact Ar335.1) (State.isArrayOf_alike hZ.alike Ar335.2.1) Ar335.2.2 hin335 hat335 (g := (mkF m 333 (z3 a0 a1 a2 1 t2 l2 u2 t2) [.int 1, .ref b179])) rfl rfl (hb hby d15_333) _ ?_
    show zs p e below T333 m 334 (z3 a0 a1 a2 1 t2 l2 u2 t2) [.int 0] t
    refine XS.ifYes X333.here hx rfl (pc0 := 334) (pc' := 353) rfl (hb hby d15_334) rfl ((if0 _ _).trans (teq (by decide : (0 : Int32) = (0 : Int32))).1) (by decide) (by decide) ?_
    show zs p e below T333 m 353 (z3 a0 a1 a2 1 t2 l2 u2 t2) [] t
    refine XS.bipush X333.here hx rfl (hb hby d15_353) ?_
    show zs p e below T333 m 355 (z3 a0 a1 a2 1 t2 l2 u2 t2) [.int 64] t
    refine XS.lload X333.here hx rfl (hb hby d15_355) rfl ?_
    exact k
   refine OFin.go sg336 ?_
   obtain ⟨_, _, ⟨T337, L337, k337, n337⟩, -, X337, ⟨Lc337, hQ337, l337, y337, z337⟩, st337⟩ := Jvm.LawKit.callS X333 hx (y := (⟨"java/lang/Long", "numberOfLeadingZeros", "(J)I"⟩ : MethodName)) hown (mvT hZ (zw hw 232 rfl)) (mvT hZ (zw hw 233 rfl)) (mvT hZ (zw hw 234 rfl)) (mvT hZ (zw hw 235 rfl)) (by decide) (backOf (W := 1) (rm31 l Z aZ hw [] u2 h331 n0 (zt Z0 K331.1) ) hZ (zw hw 235 rfl) (zw hw 234 rfl) (by decide) (by decide)) (g := (mkF m 357 (z3 a0 a1 a2 1 t2 l2 u2 t2) [.long u2, .int 64])) rfl (by rw [hml]; rfl) (argsL := [.long u2]) (rest := [.int 64]) (lenOf pd_1 rfl) rfl (by show 2 * 0 + _ ≤ _; exact ze rfl) (hb hby d15_357) (fun _ _ => ⟨rfl, e333, (by decide : 8 + 0 ≤ _), (by decide : 30 + 0 ≤ _)⟩)
   dsimp only [Pt.U, Pt.locs, Pt.cells, Pt.slots] at X337 l337 y337 z337 st337 hQ337
   rw [l337, y337, z337] at X337
   obtain ⟨rfl, N337q, e337⟩ := hQ337
   have N337 := Fr.app N331 N337q
   refine OFin.go st337 ?_
   have sg338 : zg p e below T337 m 364 (z2 a0 a1 a2 1 t2 l2 u2 ((64 : Int32) - (own_f31 u2))) [.ref a0] 360 (z3 a0 a1 a2 1 t2 l2 u2 t2) [.int (own_f31 u2), .int 64] := by
    intro t k
    refine XS.isub X337.here hx rfl (hb hby d15_360) rfl ?_
    show zs p e below T337 m 361 (z3 a0 a1 a2 1 t2 l2 u2 t2) [.int ((64 : Int32) - (own_f31 u2))] t
    refine XS.istore X337.here hx rfl (hb hby d15_361) rfl (l' := (z2 a0 a1 a2 1 t2 l2 u2 ((64 : Int32) - (own_f31 u2)))) rfl ?_
    show zs p e below T337 m 363 (z2 a0 a1 a2 1 t2 l2 u2 ((64 : Int32) - (own_f31 u2))) [] t
    refine XS.aloadN X337.here hx rfl (hb hby d15_363) rfl rfl ?_
    exact k
   refine OFin.go sg338 ?_
   obtain ⟨T339, X339, e339, st339⟩ := getF X337 hx hZ hown (host := "") (Or.inl (zw hw 183 rfl)) Via.refl e337 ((fq242.other W253 (Or.inl nq248)).other W331 (Or.inl nq228)) (g := (mkF m 364 (z2 a0 a1 a2 1 t2 l2 u2 ((64 : Int32) - (own_f31 u2))) [.ref a0])) rfl rfl (hb hby d15_364)
   refine OFin.go st339 ?_
   have sg340 : zg p e below T339 m 371 (z2 a0 a1 a2 1 t2 l2 u2 ((64 : Int32) - (own_f31 u2))) [.ref a0, .int 2, .ref b172] 367 (z2 a0 a1 a2 1 t2 l2 u2 ((64 : Int32) - (own_f31 u2))) [.ref b172] := by
    intro t k
    refine XS.iloadN X339.here hx rfl (hb hby d15_367) rfl ?_
    show zs p e below T339 m 368 (z2 a0 a1 a2 1 t2 l2 u2 ((64 : Int32) - (own_f31 u2))) [.int 1, .ref b172] t
    refine XS.iconst X339.here hx rfl (hb hby d15_368) ?_
    show zs p e below T339 m 369 (z2 a0 a1 a2 1 t2 l2 u2 ((64 : Int32) - (own_f31 u2))) [.int 1, .int 1, .ref b172] t
    refine XS.iadd X339.here hx rfl (hb hby d15_369) rfl ?_
    show zs p e below T339 m 370 (z2 a0 a1 a2 1 t2 l2 u2 ((64 : Int32) - (own_f31 u2))) [.int 2, .ref b172] t
    refine XS.aloadN X339.here hx rfl (hb hby d15_370) rfl rfl ?_
    exact k
   refine OFin.go sg340 ?_
   obtain ⟨T341, X341, e341, st341⟩ := getF X339 hx hZ hown (host := "") (Or.inl (zw hw 183 rfl)) Via.refl e339 ((fq242.other W253 (Or.inl nq248)).other W331 (Or.inl nq228)) (g := (mkF m 371 (z2 a0 a1 a2 1 t2 l2 u2 ((64 : Int32) - (own_f31 u2))) [.ref a0, .int 2, .ref b172])) rfl rfl (hb hby d15_371)
   refine OFin.go st341 ?_
   have sg342 : zg p e below T341 m 375 (z2 a0 a1 a2 1 t2 l2 u2 ((64 : Int32) - (own_f31 u2))) [.int 1, .ref b172, .int 2, .ref b172] 374 (z2 a0 a1 a2 1 t2 l2 u2 ((64 : Int32) - (own_f31 u2))) [.ref b172, .int 2, .ref b172] := by
    intro t k
    refine XS.iloadN X341.here hx rfl (hb hby d15_374) rfl ?_
    exact k
   refine OFin.go sg342 ?_
   obtain ⟨cl343, Ar343, q343, S343, M343, H343, G343⟩ := id (V253.other W331 nq250)
   have hin343 : ¬ ((1 : Int32) < 0 ∨ cl343.slots.size ≤ ((1 : Int32)).toNatClampNeg) := inb_of S343 ⟨by decide, by decide⟩
   have hat343 : cl343.slots[((1 : Int32)).toNatClampNeg]? = some (.int ((0 : Int32) + (own_f14 (own_f33 l1) (own_f33 u1)))) := H343.at hin343 rfl
   have sg344 : zg p e below T341 m 379 (z2 a0 a1 a2 1 t2 l2 u2 ((64 : Int32) - (own_f31 u2))) [.int (((0 : Int32) + (own_f14 (own_f33 l1) (own_f33 u1))) + ((64 : Int32) - (own_f31 u2))), .int 2, .ref b172] 375 (z2 a0 a1 a2 1 t2 l2 u2 ((64 : Int32) - (own_f31 u2))) [.int 1, .ref b172, .int 2, .ref b172] := by
    intro t k
    refine X341.iaload hx (j := (1 : Int32)) (v := (.int ((0 : Int32) + (own_f14 (own_f33 l1) (own_f33 u1))))) (by rw [e341]; exact Ar343.1) (State.isArrayOf_alike hZ.alike Ar343.2.1) Ar343.2.2 hin343 hat343 (g := (mkF m 375 (z2 a0 a1 a2 1 t2 l2 u2 ((64 : Int32) - (own_f31 u2))) [.int 1, .ref b172, .int 2, .ref b172])) rfl rfl (hb hby d15_375) _ ?_
    show zs p e below T341 m 376 (z2 a0 a1 a2 1 t2 l2 u2 ((64 : Int32) - (own_f31 u2))) [.int ((0 : Int32) + (own_f14 (own_f33 l1) (own_f33 u1))), .int 2, .ref b172] t
    refine XS.iload X341.here hx rfl (hb hby d15_376) rfl ?_
    show zs p e below T341 m 378 (z2 a0 a1 a2 1 t2 l2 u2 ((64 : Int32) - (own_f31 u2))) [.int ((64 : Int32) - (own_f31 u2)), .int ((0 : Int32) + (own_f14 (own_f33 l1) (own_f33 u1))), .int 2, .ref b172] t
    refine XS.iadd X341.here hx rfl (hb hby d15_378) rfl ?_
    exact k
   refine OFin.go sg344 ?_
   obtain ⟨cl345, Ar345, q345, S345, M345, H345, G345⟩ := id (V253.other W331 nq250)
   have hin345 : ¬ ((2 : Int32) < 0 ∨ cl345.slots.size ≤ ((2 : Int32)).toNatClampNeg) := inb_of S345 ⟨by decide, by decide⟩
   obtain ⟨T345, h345, X345, e345, W345, st345⟩ := stI X341 hx hZ e341 Ar345 (j := (2 : Int32)) hin345 (g := (mkF m 379 (z2 a0 a1 a2 1 t2 l2 u2 ((64 : Int32) - (own_f31 u2))) [.int (((0 : Int32) + (own_f14 (own_f33 l1) (own_f33 u1))) + ((64 : Int32) - (own_f31 u2))), .int 2, .ref b172])) rfl rfl (hb hby d15_379)
   refine OFin.go st345 ?_
   have V345 : Arv Z h345 b172 k172 .int (3 : Int32) [.int 0, .int ((0 : Int32) + (own_f14 (own_f33 l1) (own_f33 u1))), .int (((0 : Int32) + (own_f14 (own_f33 l1) (own_f33 u1))) + ((64 : Int32) - (own_f31 u2)))] (.int 0) := Arv.set Ar345 q345 S345 M345 H345 G345 rfl W345 2 rfl (Nat.le_of_ble_eq_true rfl)
   have K345 : Keep h0 h345 [a0] := K331.wr W345 (Or.inr sz_b172)
   have N345 := Fr.snoc X345 N337 g_b172
   have sg346 : zg p e below T345 m 110 (z2 a0 a1 a2 2 t2 l2 u2 ((64 : Int32) - (own_f31 u2))) [.ref a0, .int 2] 380 (z2 a0 a1 a2 1 t2 l2 u2 ((64 : Int32) - (own_f31 u2))) [] := by
    intro t k
    refine XS.iinc X345.here hx rfl (hb hby d15_380) rfl (l' := (z2 a0 a1 a2 2 t2 l2 u2 ((64 : Int32) - (own_f31 u2)))) rfl ?_
    show zs p e below T345 m 383 (z2 a0 a1 a2 2 t2 l2 u2 ((64 : Int32) - (own_f31 u2))) [] t
    refine XS.goto X345.here hx rfl (pc0 := 383) (pc' := 108) rfl (hb hby d15_383) (by decide) (by decide) ?_
    show zs p e below T345 m 108 (z2 a0 a1 a2 2 t2 l2 u2 ((64 : Int32) - (own_f31 u2))) [] t
    refine XS.iloadN X345.here hx rfl (hb hby d15_108) rfl ?_
    show zs p e below T345 m 109 (z2 a0 a1 a2 2 t2 l2 u2 ((64 : Int32) - (own_f31 u2))) [.int 2] t
    refine XS.aloadN X345.here hx rfl (hb hby d15_109) rfl rfl ?_
    exact k
   refine OFin.go sg346 ?_
   obtain ⟨T347, X347, e347, st347⟩ := getF X345 hx hZ hown (host := "") (Or.inl (zw hw 112 rfl)) Via.refl e345 ((fq255.other W331 (Or.inl nq228)).other W345 (Or.inl nq248)) (g := (mkF m 110 (z2 a0 a1 a2 2 t2 l2 u2 ((64 : Int32) - (own_f31 u2))) [.ref a0, .int 2])) rfl rfl (hb hby d15_110)
   refine OFin.go st347 ?_
   have fq348 : Fld Z h345 b104 "java/util/ArrayList" "size" "I" (.int 2) := ((((fq193.other W227 (Or.inl nq257)).other W253 (Or.inl nq258)).other W331 (Or.inl nq257)).other W345 (Or.inl nq258))
   obtain ⟨cq349, kq349, q349a, q349b, q349c⟩ := isOf hZ e347 ((fq260.wr W331).wr W345)
   obtain ⟨_, _, ⟨T349, L349, k349, n349⟩, -, X349, ⟨Lc349, hQ349, l349, y349, z349⟩, st349⟩ := X347.interfaceBack hx (xi := (⟨"java/util/List", "size", "()I"⟩ : MethodName)) (y := (⟨"java/util/ArrayList", "size", "()I"⟩ : MethodName)) hown (mvT hZ (zw hw 172 rfl)) (mvT hZ (zw hw 173 rfl)) (mvT hZ (zw hw 174 rfl)) (mvT hZ (zw hw 175 rfl)) (mvT hZ (zw hw 176 rfl)) (mvT hZ (zw hw 177 rfl)) (mvT hZ (zw hw 178 rfl)) (mvT hZ (zw hw 76 rfl)) (by decide) (backOf (W := 1) (rm23 l Z aZ hw [] b104 (2 : Int32) h345 n0 (zt Z0 K345.1) fq348) hZ (zw hw 179 rfl) (zw hw 47 rfl) (by decide) (by decide)) q349a q349b q349c (g := (mkF m 113 (z2 a0 a1 a2 2 t2 l2 u2 ((64 : Int32) - (own_f31 u2))) [.ref b104, .int 2])) rfl (by rw [hml]; rfl) (Steps.refl _) (argsL := []) (rest := [.int 2]) (lenOf pd_12 rfl) rfl (by show 2 * 0 + _ ≤ _; exact ze rfl) (hb hby d15_113) (fun _ _ => ⟨rfl, e347, (by decide : 8 + 0 ≤ _), (by decide : 30 + 0 ≤ _)⟩)
   dsimp only [Pt.U, Pt.locs, Pt.cells, Pt.slots] at X349 l349 y349 z349 st349 hQ349
   rw [l349, y349, z349] at X349
   obtain ⟨rfl, N349q, e349⟩ := hQ349
   have N349 := Fr.app N345 N349q
   refine OFin.tr st349 ?_
   have sg350 : zg p e below T349 m 386 (z2 a0 a1 a2 2 t2 l2 u2 ((64 : Int32) - (own_f31 u2))) [] 118 (z2 a0 a1 a2 2 t2 l2 u2 ((64 : Int32) - (own_f31 u2))) [.int 2, .int 2] := by
    intro t k
    refine XS.icmpYes X349.here hx rfl (pc0 := 118) (pc' := 386) rfl (hb hby d15_118) rfl (flt (by decide : ¬ ((2 : Int32) < (2 : Int32)))).2.1 (by decide) (by decide) ?_
    exact k
   refine OFin.go sg350 ?_
   have es1 : own_sg l1 = (1 : Int32) := if_pos c225
   have ew1 : own_wd l1 u1 = _ := if_pos c225
   have es2 : own_sg l2 = (0 : Int32) := if_neg c295
   have ew2 : own_wd l2 u2 = _ := if_neg c295
   have Vz_b172 : Arv Z h345 b172 k172 .int (3 : Int32) [.int 0, .int ((0 : Int32) + (own_wd l1 u1)), .int (((0 : Int32) + (own_wd l1 u1)) + (own_wd l2 u2))] (.int 0) := by rw [ew1, ew2]; exact V345
   have Vz_b179 : Arv Z h345 b179 k179 .boolean (2 : Int32) [.int (own_sg l1), .int (own_sg l2)] (.int 0) := by rw [es1, es2]; exact (V331.other W345 (Ne.symm nq250))
   have fq351 : Fld Z h345 a0 "org/counterpath/engine/Encoding" "_firstBits" "[I" (.ref b172) := (((fq242.other W253 (Or.inl nq248)).other W331 (Or.inl nq228)).other W345 (Or.inl nq248))
   have fq352 : Fld Z h345 a0 "org/counterpath/engine/Encoding" "_signed" "[Z" (.ref b179) := (((fq232.other W253 (Or.inl nq248)).other W331 (Or.inl nq228)).other W345 (Or.inl nq248))
   have fq353 : Fld Z h345 a0 "org/counterpath/engine/Encoding" "_codes" "[[J" (.ref b188) := ((((F190.other W227 (Or.inl nq228)).other W253 (Or.inl nq248)).other W331 (Or.inl nq228)).other W345 (Or.inl nq248))
   have nq354 : a0 ≠ b188 := (zn (zl (zl E0a.lt (zt (zt (zt (zt (zt (zt (zt (zt (zt (zt (zt (zt E104.1 Kq106.1) (Keep.of_wr W108).1) E110.1) Kq112.1) (Keep.of_wr W116).1) Kq142.1) Kq158.1) (Keep.of_wr W165).1) E172.1) (Keep.of_wr W174).1) E179.1) (Keep.of_wr W182).1)) (ze g188.symm)))
   have nq355 : b188 ≠ a0 := (Ne.symm nq354)
   have nq356 : b179 ≠ b188 := (zn (zl (zl V179.lt (Keep.of_wr W182).1) (ze g188.symm)))
   have nq357 : b188 ≠ b179 := (Ne.symm nq356)
   have nq358 : b172 ≠ b188 := (zn (zl (zl V172.lt (zt (zt (Keep.of_wr W174).1 E179.1) (Keep.of_wr W182).1)) (ze g188.symm)))
   have nq359 : b188 ≠ b172 := (Ne.symm nq358)
   have fq360 : Arv Z h345 b188 k188 (.array .long) (2 : Int32) [.null, .null] .null := (((((V188.other W190 nq355).other W227 nq357).other W253 nq359).other W331 nq357).other W345 nq359)
   exact OFin.retV X349 hx hret hlk (hb hby d15_386) (by rw [e349]; exact ⟨b172, k172, b179, k179, b188, k188, rfl, N349, K345, fq351, fq352, fq353, Vz_b172, Vz_b179, fq360, sz_b172, sz_b179, sz_b188⟩) (by decide) (by decide)
 ·have sg361 : zg p e below T223 m 327 (z3 a0 a1 a2 0 t1 l1 u1 t1) [.int 0, .int 0, .ref b179] 319 (z3 a0 a1 a2 0 t1 l1 u1 t1) [.int (lcmpW l1 (0 : Int64)), .int 0, .ref b179] := by
   intro t k
   refine XS.ifYes X223.here hx rfl (pc0 := 319) (pc' := 326) rfl (hb hby d15_319) rfl ((if0 _ _).trans (flt (mt (lw_lt _ _).mp c225)).2.1) (by decide) (by decide) ?_
   show zs p e below T223 m 326 (z3 a0 a1 a2 0 t1 l1 u1 t1) [.int 0, .ref b179] t
   refine XS.iconst X223.here hx rfl (hb hby d15_326) ?_
   exact k
  refine OFin.go sg361 ?_
  have nq363 : a0 ≠ b179 := (zn (zl (zl E0a.lt (zt (zt (zt (zt (zt (zt (zt (zt (zt (zt E104.1 Kq106.1) (Keep.of_wr W108).1) E110.1) Kq112.1) (Keep.of_wr W116).1) Kq142.1) Kq158.1) (Keep.of_wr W165).1) E172.1) (Keep.of_wr W174).1)) (ze g179.symm)))
  have nq364 : b179 ≠ a0 := (Ne.symm nq363)
  have fq365 : Arv Z h190 b179 k179 .boolean (2 : Int32) [.int 0, .int 0] (.int 0) := (((V179.other W182 nq364).ext E188).other W190 nq364)
  obtain ⟨cl362, Ar362, q362, S362, M362, H362, G362⟩ := id fq365
  have hin362 : ¬ ((0 : Int32) < 0 ∨ cl362.slots.size ≤ ((0 : Int32)).toNatClampNeg) := inb_of S362 ⟨by decide, by decide⟩
  obtain ⟨T362, h362, X362, e362, W362, st362⟩ := stZ X223 hx hZ e223 Ar362 (j := (0 : Int32)) hin362 (g := (mkF m 327 (z3 a0 a1 a2 0 t1 l1 u1 t1) [.int 0, .int 0, .ref b179])) rfl rfl (hb hby d15_327)
  refine OFin.go st362 ?_
  have V362 : Arv Z h362 b179 k179 .boolean (2 : Int32) [.int 0, .int 0] (.int 0) := Arv.set Ar362 q362 S362 M362 H362 G362 (fits_nar_bool _) W362 0 rfl (Nat.le_of_ble_eq_true rfl)
  have K362 : Keep h0 h362 [a0] := K190.wr W362 (Or.inr sz_b179)
  have N362 := Fr.snoc X362 N221 g_b179
  have sg366 : zg p e below T362 m 329 (z3 a0 a1 a2 0 t1 l1 u1 t1) [.ref a0] 328 (z3 a0 a1 a2 0 t1 l1 u1 t1) [] := by
   intro t k
   refine XS.aloadN X362.here hx rfl (hb hby d15_328) rfl rfl ?_
   exact k
  refine OFin.go sg366 ?_
  have fq367 : Fld Z h362 a0 "org/counterpath/engine/Encoding" "_signed" "[Z" (.ref b179) := (((F182.ext E188).other W190 (Or.inr (slot_ne (Or.inr (zw hw 187 rfl)) (Or.inr (zw hw 191 rfl)) (by decide) (t := (.array .boolean)) (t' := (.array (.array .long))) (by decide) (by decide)))).other W362 (Or.inl nq363))
  obtain ⟨T368, X368, e368, st368⟩ := getF X362 hx hZ hown (host := "") (Or.inl (zw hw 186 rfl)) Via.refl e362 fq367 (g := (mkF m 329 (z3 a0 a1 a2 0 t1 l1 u1 t1) [.ref a0])) rfl rfl (hb hby d15_329)
  refine OFin.go st368 ?_
  have sg369 : zg p e below T368 m 333 (z3 a0 a1 a2 0 t1 l1 u1 t1) [.int 0, .ref b179] 332 (z3 a0 a1 a2 0 t1 l1 u1 t1) [.ref b179] := by
   intro t k
   refine XS.iloadN X368.here hx rfl (hb hby d15_332) rfl ?_
   exact k
  refine OFin.go sg369 ?_
  obtain ⟨cl370, Ar370, q370, S370, M370, H370, G370⟩ := id V362
  have hin370 : ¬ ((0 : Int32) < 0 ∨ cl370.slots.size ≤ ((0 : Int32)).toNatClampNeg) := inb_of S370 ⟨by decide, by decide⟩
  have hat370 : cl370.slots[((0 : Int32)).toNatClampNeg]? = some (.int 0) := H370.at hin370 rfl
  have sg371 : zg p e below T368 m 357 (z3 a0 a1 a2 0 t1 l1 u1 t1) [.long u1, .int 64] 333 (z3 a0 a1 a2 0 t1 l1 u1 t1) [.int 0, .ref b179] := by
   intro t k
   refine X368.baloadBooleans hx (j := (0 : Int32)) (v := (.int 0)) (by rw [e368]; exact Ar370.1) (State.isArrayOf_alike hZ.alike Ar370.2.1) Ar370.2.2 hin370 hat370 (g := (mkF m 333 (z3 a0 a1 a2 0 t1 l1 u1 t1) [.int 0, .ref b179])) rfl rfl (hb hby d15_333) _ ?_
   show zs p e below T368 m 334 (z3 a0 a1 a2 0 t1 l1 u1 t1) [.int 0] t
   refine XS.ifYes X368.here hx rfl (pc0 := 334) (pc' := 353) rfl (hb hby d15_334) rfl ((if0 _ _).trans (teq (by decide : (0 : Int32) = (0 : Int32))).1) (by decide) (by decide) ?_
   show zs p e below T368 m 353 (z3 a0 a1 a2 0 t1 l1 u1 t1) [] t
   refine XS.bipush X368.here hx rfl (hb hby d15_353) ?_
   show zs p e below T368 m 355 (z3 a0 a1 a2 0 t1 l1 u1 t1) [.int 64] t
   refine XS.lload X368.here hx rfl (hb hby d15_355) rfl ?_
   exact k
  refine OFin.go sg371 ?_
  obtain ⟨_, _, ⟨T372, L372, k372, n372⟩, -, X372, ⟨Lc372, hQ372, l372, y372, z372⟩, st372⟩ := Jvm.LawKit.callS X368 hx (y := (⟨"java/lang/Long", "numberOfLeadingZeros", "(J)I"⟩ : MethodName)) hown (mvT hZ (zw hw 232 rfl)) (mvT hZ (zw hw 233 rfl)) (mvT hZ (zw hw 234 rfl)) (mvT hZ (zw hw 235 rfl)) (by decide) (backOf (W := 1) (rm31 l Z aZ hw [] u1 h362 n0 (zt Z0 K362.1) ) hZ (zw hw 235 rfl) (zw hw 234 rfl) (by decide) (by decide)) (g := (mkF m 357 (z3 a0 a1 a2 0 t1 l1 u1 t1) [.long u1, .int 64])) rfl (by rw [hml]; rfl) (argsL := [.long u1]) (rest := [.int 64]) (lenOf pd_1 rfl) rfl (by show 2 * 0 + _ ≤ _; exact ze rfl) (hb hby d15_357) (fun _ _ => ⟨rfl, e368, (by decide : 8 + 0 ≤ _), (by decide : 30 + 0 ≤ _)⟩)
  dsimp only [Pt.U, Pt.locs, Pt.cells, Pt.slots] at X372 l372 y372 z372 st372 hQ372
  rw [l372, y372, z372] at X372
  obtain ⟨rfl, N372q, e372⟩ := hQ372
  have N372 := Fr.app N362 N372q
  refine OFin.go st372 ?_
  have sg373 : zg p e below T372 m 364 (z2 a0 a1 a2 0 t1 l1 u1 ((64 : Int32) - (own_f31 u1))) [.ref a0] 360 (z3 a0 a1 a2 0 t1 l1 u1 t1) [.int (own_f31 u1), .int 64] := by
   intro t k
   refine XS.isub X372.here hx rfl (hb hby d15_360) rfl ?_
   show zs p e below T372 m 361 (z3 a0 a1 a2 0 t1 l1 u1 t1) [.int ((64 : Int32) - (own_f31 u1))] t
   refine XS.istore X372.here hx rfl (hb hby d15_361) rfl (l' := (z2 a0 a1 a2 0 t1 l1 u1 ((64 : Int32) - (own_f31 u1)))) rfl ?_
   show zs p e below T372 m 363 (z2 a0 a1 a2 0 t1 l1 u1 ((64 : Int32) - (own_f31 u1))) [] t
   refine XS.aloadN X372.here hx rfl (hb hby d15_363) rfl rfl ?_
   exact k
  refine OFin.go sg373 ?_
  have fq374 : Fld Z h362 a0 "org/counterpath/engine/Encoding" "_firstBits" "[I" (.ref b172) := (((((F174.ext E179).other W182 (Or.inr (slot_ne (Or.inr (zw hw 184 rfl)) (Or.inr (zw hw 187 rfl)) (by decide) (t := (.array .int)) (t' := (.array .boolean)) (by decide) (by decide)))).ext E188).other W190 (Or.inr (slot_ne (Or.inr (zw hw 184 rfl)) (Or.inr (zw hw 191 rfl)) (by decide) (t := (.array .int)) (t' := (.array (.array .long))) (by decide) (by decide)))).other W362 (Or.inl nq363))
  obtain ⟨T375, X375, e375, st375⟩ := getF X372 hx hZ hown (host := "") (Or.inl (zw hw 183 rfl)) Via.refl e372 fq374 (g := (mkF m 364 (z2 a0 a1 a2 0 t1 l1 u1 ((64 : Int32) - (own_f31 u1))) [.ref a0])) rfl rfl (hb hby d15_364)
  refine OFin.go st375 ?_
  have sg376 : zg p e below T375 m 371 (z2 a0 a1 a2 0 t1 l1 u1 ((64 : Int32) - (own_f31 u1))) [.ref a0, .int 1, .ref b172] 367 (z2 a0 a1 a2 0 t1 l1 u1 ((64 : Int32) - (own_f31 u1))) [.ref b172] := by
   intro t k
   refine XS.iloadN X375.here hx rfl (hb hby d15_367) rfl ?_
   show zs p e below T375 m 368 (z2 a0 a1 a2 0 t1 l1 u1 ((64 : Int32) - (own_f31 u1))) [.int 0, .ref b172] t
   refine XS.iconst X375.here hx rfl (hb hby d15_368) ?_
   show zs p e below T375 m 369 (z2 a0 a1 a2 0 t1 l1 u1 ((64 : Int32) - (own_f31 u1))) [.int 1, .int 0, .ref b172] t
   refine XS.iadd X375.here hx rfl (hb hby d15_369) rfl ?_
   show zs p e below T375 m 370 (z2 a0 a1 a2 0 t1 l1 u1 ((64 : Int32) - (own_f31 u1))) [.int 1, .ref b172] t
   refine XS.aloadN X375.here hx rfl (hb hby d15_370) rfl rfl ?_
   exact k
  refine OFin.go sg376 ?_
  obtain ⟨T377, X377, e377, st377⟩ := getF X375 hx hZ hown (host := "") (Or.inl (zw hw 183 rfl)) Via.refl e375 fq374 (g := (mkF m 371 (z2 a0 a1 a2 0 t1 l1 u1 ((64 : Int32) - (own_f31 u1))) [.ref a0, .int 1, .ref b172])) rfl rfl (hb hby d15_371)
  refine OFin.go st377 ?_
  have sg378 : zg p e below T377 m 375 (z2 a0 a1 a2 0 t1 l1 u1 ((64 : Int32) - (own_f31 u1))) [.int 0, .ref b172, .int 1, .ref b172] 374 (z2 a0 a1 a2 0 t1 l1 u1 ((64 : Int32) - (own_f31 u1))) [.ref b172, .int 1, .ref b172] := by
   intro t k
   refine XS.iloadN X377.here hx rfl (hb hby d15_374) rfl ?_
   exact k
  refine OFin.go sg378 ?_
  have nq380 : a0 ≠ b172 := (zn (zl (zl E0a.lt (zt (zt (zt (zt (zt (zt (zt (zt E104.1 Kq106.1) (Keep.of_wr W108).1) E110.1) Kq112.1) (Keep.of_wr W116).1) Kq142.1) Kq158.1) (Keep.of_wr W165).1)) (ze g172.symm)))
  have nq381 : b172 ≠ a0 := (Ne.symm nq380)
  have nq382 : b172 ≠ b179 := (zn (zl (zl V172.lt (Keep.of_wr W174).1) (ze g179.symm)))
  have fq383 : Arv Z h362 b172 k172 .int (3 : Int32) [.int 0, .int 0, .int 0] (.int 0) := ((((((V172.other W174 nq381).ext E179).other W182 nq381).ext E188).other W190 nq381).other W362 nq382)
  obtain ⟨cl379, Ar379, q379, S379, M379, H379, G379⟩ := id fq383
  have hin379 : ¬ ((0 : Int32) < 0 ∨ cl379.slots.size ≤ ((0 : Int32)).toNatClampNeg) := inb_of S379 ⟨by decide, by decide⟩
  have hat379 : cl379.slots[((0 : Int32)).toNatClampNeg]? = some (.int 0) := H379.at hin379 rfl
  have sg384 : zg p e below T377 m 379 (z2 a0 a1 a2 0 t1 l1 u1 ((64 : Int32) - (own_f31 u1))) [.int ((0 : Int32) + ((64 : Int32) - (own_f31 u1))), .int 1, .ref b172] 375 (z2 a0 a1 a2 0 t1 l1 u1 ((64 : Int32) - (own_f31 u1))) [.int 0, .ref b172, .int 1, .ref b172] := by
   intro t k
   refine X377.iaload hx (j := (0 : Int32)) (v := (.int 0)) (by rw [e377]; exact Ar379.1) (State.isArrayOf_alike hZ.alike Ar379.2.1) Ar379.2.2 hin379 hat379 (g := (mkF m 375 (z2 a0 a1 a2 0 t1 l1 u1 ((64 : Int32) - (own_f31 u1))) [.int 0, .ref b172, .int 1, .ref b172])) rfl rfl (hb hby d15_375) _ ?_
   show zs p e below T377 m 376 (z2 a0 a1 a2 0 t1 l1 u1 ((64 : Int32) - (own_f31 u1))) [.int 0, .int 1, .ref b172] t
   refine XS.iload X377.here hx rfl (hb hby d15_376) rfl ?_
   show zs p e below T377 m 378 (z2 a0 a1 a2 0 t1 l1 u1 ((64 : Int32) - (own_f31 u1))) [.int ((64 : Int32) - (own_f31 u1)), .int 0, .int 1, .ref b172] t
   refine XS.iadd X377.here hx rfl (hb hby d15_378) rfl ?_
   exact k
  refine OFin.go sg384 ?_
  obtain ⟨cl385, Ar385, q385, S385, M385, H385, G385⟩ := id fq383
  have hin385 : ¬ ((1 : Int32) < 0 ∨ cl385.slots.size ≤ ((1 : Int32)).toNatClampNeg) := inb_of S385 ⟨by decide, by decide⟩
  obtain ⟨T385, h385, X385, e385, W385, st385⟩ := stI X377 hx hZ e377 Ar385 (j := (1 : Int32)) hin385 (g := (mkF m 379 (z2 a0 a1 a2 0 t1 l1 u1 ((64 : Int32) - (own_f31 u1))) [.int ((0 : Int32) + ((64 : Int32) - (own_f31 u1))), .int 1, .ref b172])) rfl rfl (hb hby d15_379)
  refine OFin.go st385 ?_
  have V385 : Arv Z h385 b172 k172 .int (3 : Int32) [.int 0, .int ((0 : Int32) + ((64 : Int32) - (own_f31 u1))), .int 0] (.int 0) := Arv.set Ar385 q385 S385 M385 H385 G385 rfl W385 1 rfl (Nat.le_of_ble_eq_true rfl)
  have K385 : Keep h0 h385 [a0] := K362.wr W385 (Or.inr sz_b172)
  have N385 := Fr.snoc X385 N372 g_b172
  have sg386 : zg p e below T385 m 110 (z2 a0 a1 a2 1 t1 l1 u1 ((64 : Int32) - (own_f31 u1))) [.ref a0, .int 1] 380 (z2 a0 a1 a2 0 t1 l1 u1 ((64 : Int32) - (own_f31 u1))) [] := by
   intro t k
   refine XS.iinc X385.here hx rfl (hb hby d15_380) rfl (l' := (z2 a0 a1 a2 1 t1 l1 u1 ((64 : Int32) - (own_f31 u1)))) rfl ?_
   show zs p e below T385 m 383 (z2 a0 a1 a2 1 t1 l1 u1 ((64 : Int32) - (own_f31 u1))) [] t
   refine XS.goto X385.here hx rfl (pc0 := 383) (pc' := 108) rfl (hb hby d15_383) (by decide) (by decide) ?_
   show zs p e below T385 m 108 (z2 a0 a1 a2 1 t1 l1 u1 ((64 : Int32) - (own_f31 u1))) [] t
   refine XS.iloadN X385.here hx rfl (hb hby d15_108) rfl ?_
   show zs p e below T385 m 109 (z2 a0 a1 a2 1 t1 l1 u1 ((64 : Int32) - (own_f31 u1))) [.int 1] t
   refine XS.aloadN X385.here hx rfl (hb hby d15_109) rfl rfl ?_
   exact k
  refine OFin.go sg386 ?_
  have fq387 : Fld Z h385 a0 "org/counterpath/engine/Encoding" "_variables" "Ljava/util/List;" (.ref b104) := ((((fq184.ext E188).other W190 (Or.inr (slot_ne (Or.inr (zw hw 113 rfl)) (Or.inr (zw hw 191 rfl)) (by decide) (t := (.object "java/util/List")) (t' := (.array (.array .long))) (by decide) (by decide)))).other W362 (Or.inl nq363)).other W385 (Or.inl nq380))
  obtain ⟨T388, X388, e388, st388⟩ := getF X385 hx hZ hown (host := "") (Or.inl (zw hw 112 rfl)) Via.refl e385 fq387 (g := (mkF m 110 (z2 a0 a1 a2 1 t1 l1 u1 ((64 : Int32) - (own_f31 u1))) [.ref a0, .int 1])) rfl rfl (hb hby d15_110)
  refine OFin.go st388 ?_
  have nq389 : b104 ≠ b179 := (zn (zl (zl A104.lt (zt (zt (zt (zt (zt (zt (zt (zt (zt Kq106.1 (Keep.of_wr W108).1) E110.1) Kq112.1) (Keep.of_wr W116).1) Kq142.1) Kq158.1) (Keep.of_wr W165).1) E172.1) (Keep.of_wr W174).1)) (ze g179.symm)))
  have nq390 : b104 ≠ b172 := (zn (zl (zl A104.lt (zt (zt (zt (zt (zt (zt (zt Kq106.1 (Keep.of_wr W108).1) E110.1) Kq112.1) (Keep.of_wr W116).1) Kq142.1) Kq158.1) (Keep.of_wr W165).1)) (ze g172.symm)))
  have fq392 : Exa Z h385 b104 "java/util/ArrayList" := ((((fq187.ext E188).wr W190).wr W362).wr W385)
  obtain ⟨cq391, kq391, q391a, q391b, q391c⟩ := isOf hZ e388 fq392
  obtain ⟨_, _, ⟨T391, L391, k391, n391⟩, -, X391, ⟨Lc391, hQ391, l391, y391, z391⟩, st391⟩ := X388.interfaceBack hx (xi := (⟨"java/util/List", "size", "()I"⟩ : MethodName)) (y := (⟨"java/util/ArrayList", "size", "()I"⟩ : MethodName)) hown (mvT hZ (zw hw 172 rfl)) (mvT hZ (zw hw 173 rfl)) (mvT hZ (zw hw 174 rfl)) (mvT hZ (zw hw 175 rfl)) (mvT hZ (zw hw 176 rfl)) (mvT hZ (zw hw 177 rfl)) (mvT hZ (zw hw 178 rfl)) (mvT hZ (zw hw 76 rfl)) (by decide) (backOf (W := 1) (rm23 l Z aZ hw [] b104 (2 : Int32) h385 n0 (zt Z0 K385.1) ((fq193.other W362 (Or.inl nq389)).other W385 (Or.inl nq390))) hZ (zw hw 179 rfl) (zw hw 47 rfl) (by decide) (by decide)) q391a q391b q391c (g := (mkF m 113 (z2 a0 a1 a2 1 t1 l1 u1 ((64 : Int32) - (own_f31 u1))) [.ref b104, .int 1])) rfl (by rw [hml]; rfl) (Steps.refl _) (argsL := []) (rest := [.int 1]) (lenOf pd_12 rfl) rfl (by show 2 * 0 + _ ≤ _; exact ze rfl) (hb hby d15_113) (fun _ _ => ⟨rfl, e388, (by decide : 8 + 0 ≤ _), (by decide : 30 + 0 ≤ _)⟩)
  dsimp only [Pt.U, Pt.locs, Pt.cells, Pt.slots] at X391 l391 y391 z391 st391 hQ391
  rw [l391, y391, z391] at X391
  obtain ⟨rfl, N391q, e391⟩ := hQ391
  have N391 := Fr.app N385 N391q
  refine OFin.tr st391 ?_
  have sg393 : zg p e below T391 m 122 (z2 a0 a1 a2 1 t1 l1 u1 ((64 : Int32) - (own_f31 u1))) [.ref a0] 118 (z2 a0 a1 a2 1 t1 l1 u1 ((64 : Int32) - (own_f31 u1))) [.int 2, .int 1] := by
   intro t k
   refine XS.icmpNo X391.here hx rfl (hb hby d15_118) rfl (tlt (by decide : (1 : Int32) < (2 : Int32))).2.1 ?_
   show zs p e below T391 m 121 (z2 a0 a1 a2 1 t1 l1 u1 ((64 : Int32) - (own_f31 u1))) [] t
   refine XS.aloadN X391.here hx rfl (hb hby d15_121) rfl rfl ?_
   exact k
  refine OFin.go sg393 ?_
  obtain ⟨T394, X394, e394, st394⟩ := getF X391 hx hZ hown (host := "") (Or.inl (zw hw 112 rfl)) Via.refl e391 fq387 (g := (mkF m 122 (z2 a0 a1 a2 1 t1 l1 u1 ((64 : Int32) - (own_f31 u1))) [.ref a0])) rfl rfl (hb hby d15_122)
  refine OFin.go st394 ?_
  have sg395 : zg p e below T394 m 126 (z2 a0 a1 a2 1 t1 l1 u1 ((64 : Int32) - (own_f31 u1))) [.int 1, .ref b104] 125 (z2 a0 a1 a2 1 t1 l1 u1 ((64 : Int32) - (own_f31 u1))) [.ref b104] := by
   intro t k
   refine XS.iloadN X394.here hx rfl (hb hby d15_125) rfl ?_
   exact k
  refine OFin.go sg395 ?_
  have nq396 : ed142 ≠ b179 := (zn (zl (zl P142_3.lt (zt (zt (zt Kq158.1 (Keep.of_wr W165).1) E172.1) (Keep.of_wr W174).1)) (ze g179.symm)))
  have nq397 : ed142 ≠ b172 := (zn (zl (zl P142_3.lt (zt Kq158.1 (Keep.of_wr W165).1)) (ze g172.symm)))
  obtain ⟨cq398, kq398, q398a, q398b, q398c⟩ := isOf hZ e394 fq392
  obtain ⟨_, _, ⟨T398, L398, k398, n398⟩, -, X398, ⟨Lc398, hQ398, l398, y398, z398⟩, st398⟩ := X394.interfaceBack hx (xi := (⟨"java/util/List", "get", "(I)Ljava/lang/Object;"⟩ : MethodName)) (y := (⟨"java/util/ArrayList", "get", "(I)Ljava/lang/Object;"⟩ : MethodName)) hown (mvT hZ (zw hw 192 rfl)) (mvT hZ (zw hw 193 rfl)) (mvT hZ (zw hw 194 rfl)) (mvT hZ (zw hw 195 rfl)) (mvT hZ (zw hw 196 rfl)) (mvT hZ (zw hw 197 rfl)) (mvT hZ (zw hw 198 rfl)) (mvT hZ (zw hw 76 rfl)) (by decide) (backOf (W := 0) (rm24i1 l Z aZ hw [] b104 ed142 ke142 x1 x2 h385 n0 (zt Z0 K385.1) fq392 ((fq198.other W362 (Or.inl nq389)).other W385 (Or.inl nq390)) ((fq193.other W362 (Or.inl nq389)).other W385 (Or.inl nq390)) ((fq199.other W362 nq396).other W385 nq397)) hZ (zw hw 199 rfl) (zw hw 47 rfl) (by decide) (by decide)) q398a q398b q398c (g := (mkF m 126 (z2 a0 a1 a2 1 t1 l1 u1 ((64 : Int32) - (own_f31 u1))) [.int 1, .ref b104])) rfl (by rw [hml]; rfl) (Steps.refl _) (argsL := [.int 1]) (rest := []) (lenOf pd_10 rfl) rfl (by show 2 * 0 + _ ≤ _; exact ze rfl) (hb hby d15_126) (fun _ _ => ⟨rfl, e394, (by decide : 8 + 0 ≤ _), (by decide : 30 + 0 ≤ _)⟩)
  dsimp only [Pt.U, Pt.locs, Pt.cells, Pt.slots] at X398 l398 y398 z398 st398 hQ398
  rw [l398, y398, z398] at X398
  obtain ⟨rfl, N398q, e398⟩ := hQ398
  have N398 := Fr.app N391 N398q
  refine OFin.tr st398 ?_
  have fq399 : Exa Z h385 x2 "org/counterpath/model/Variable" := ((((((((((fq156.keep Kq158).wr W165).ext E172).wr W174).ext E179).wr W182).ext E188).wr W190).wr W362).wr W385)
  obtain ⟨T400, X400, e400, st400⟩ := castY X398 hx hZ hown (zw hw 213 rfl) e398 (Ins.self fq399) (g := (mkF m 131 (z2 a0 a1 a2 1 t1 l1 u1 ((64 : Int32) - (own_f31 u1))) [.ref x2])) rfl rfl (hb hby d15_131)
  refine OFin.go st400 ?_
  have nq401 : x2 ≠ b104 := (zn (zl EX2.lt (ze g104.symm)))
  have nq402 : x2 ≠ b110 := (zn (zl (zl EX2.lt (zt (zt E104.1 Kq106.1) (Keep.of_wr W108).1)) (ze g110.symm)))
  have nq403 : x2 ≠ ed142 := (zn (zl (zl EX2.lt (zt (zt (zt (zt (zt E104.1 Kq106.1) (Keep.of_wr W108).1) E110.1) Kq112.1) (Keep.of_wr W116).1)) R142_0))
  have nq404 : x2 ≠ b179 := (zn (zl (zl EX2.lt (zt (zt (zt (zt (zt (zt (zt (zt (zt (zt E104.1 Kq106.1) (Keep.of_wr W108).1) E110.1) Kq112.1) (Keep.of_wr W116).1) Kq142.1) Kq158.1) (Keep.of_wr W165).1) E172.1) (Keep.of_wr W174).1)) (ze g179.symm)))
  have nq405 : x2 ≠ b172 := (zn (zl (zl EX2.lt (zt (zt (zt (zt (zt (zt (zt (zt E104.1 Kq106.1) (Keep.of_wr W108).1) E110.1) Kq112.1) (Keep.of_wr W116).1) Kq142.1) Kq158.1) (Keep.of_wr W165).1)) (ze g172.symm)))
  have fq406 : Fld Z h385 x2 "org/counterpath/model/Variable" "type" "Lorg/counterpath/model/Type;" (.ref t2) := (((((((((((((((((FT2.ext E104).keep Kq106 (ninS nq401 nin0)).other W108 (Or.inl hn_x2)).ext E110).keep Kq112 (ninS nq402 nin0)).other W116 (Or.inl hn_x2)).keep Kq142 (ninS nq401 nin0)).keep Kq158 (ninS nq401 (ninS nq403 nin0))).other W165 (Or.inl hn_x2)).ext E172).other W174 (Or.inl hn_x2)).ext E179).other W182 (Or.inl hn_x2)).ext E188).other W190 (Or.inl hn_x2)).other W362 (Or.inl nq404)).other W385 (Or.inl nq405))
  obtain ⟨cq407, kq407, q407a, q407b, q407c⟩ := isOf hZ e400 fq399
  obtain ⟨_, _, ⟨T407, L407, k407, n407⟩, -, X407, ⟨Lc407, hQ407, l407, y407, z407⟩, st407⟩ := X400.virtualBack hx (y := (⟨"org/counterpath/model/Variable", "type", "()Lorg/counterpath/model/Type;"⟩ : MethodName)) (z := (⟨"org/counterpath/model/Variable", "type", "()Lorg/counterpath/model/Type;"⟩ : MethodName)) hown (mvT hZ (zw hw 215 rfl)) (mvT hZ (zw hw 216 rfl)) (notFace_of_selects (args := #[]) (mvT hZ (zw hw 218 rfl))) (mvT hZ (zw hw 218 rfl)) (mvT hZ (zw hw 217 rfl)) (by decide) (backOf (W := 0) (rm28 l Z aZ hw [] x2 t2 h385 n0 (zt Z0 K385.1) fq406) hZ (zw hw 219 rfl) (zw hw 9 rfl) (by decide) (by decide)) q407a q407c (g := (mkF m 134 (z2 a0 a1 a2 1 t1 l1 u1 ((64 : Int32) - (own_f31 u1))) [.ref x2])) rfl (by rw [hml]; rfl) (Steps.refl _) (argsL := []) (rest := []) (lenOf pd_13 rfl) rfl (by show 2 * 0 + _ ≤ _; exact ze rfl) (hb hby d15_134) (fun _ _ => ⟨rfl, e400, (by decide : 8 + 0 ≤ _), (by decide : 30 + 0 ≤ _)⟩)
  dsimp only [Pt.U, Pt.locs, Pt.cells, Pt.slots] at X407 l407 y407 z407 st407 hQ407
  rw [l407, y407, z407] at X407
  obtain ⟨rfl, N407q, e407⟩ := hQ407
  have N407 := Fr.app N398 N407q
  refine OFin.tr st407 ?_
  have sg408 : zg p e below T407 m 147 (z2 a0 a1 a2 1 t2 0 1 ((64 : Int32) - (own_f31 u1))) [.ref t2] 137 (z2 a0 a1 a2 1 t1 l1 u1 ((64 : Int32) - (own_f31 u1))) [.ref t2] := by
   intro t k
   refine XS.astore X407.here hx rfl (hb hby d15_137) rfl rfl (l' := (z2 a0 a1 a2 1 t2 l1 u1 ((64 : Int32) - (own_f31 u1)))) rfl ?_
   show zs p e below T407 m 139 (z2 a0 a1 a2 1 t2 l1 u1 ((64 : Int32) - (own_f31 u1))) [] t
   refine XS.lconst X407.here hx rfl (hb hby d15_139) ?_
   show zs p e below T407 m 140 (z2 a0 a1 a2 1 t2 l1 u1 ((64 : Int32) - (own_f31 u1))) [.long 0] t
   refine XS.lstore X407.here hx rfl (hb hby d15_140) rfl (l' := (z2 a0 a1 a2 1 t2 0 u1 ((64 : Int32) - (own_f31 u1)))) rfl ?_
   show zs p e below T407 m 142 (z2 a0 a1 a2 1 t2 0 u1 ((64 : Int32) - (own_f31 u1))) [] t
   refine XS.lconst X407.here hx rfl (hb hby d15_142) ?_
   show zs p e below T407 m 143 (z2 a0 a1 a2 1 t2 0 u1 ((64 : Int32) - (own_f31 u1))) [.long 1] t
   refine XS.lstore X407.here hx rfl (hb hby d15_143) rfl (l' := (z2 a0 a1 a2 1 t2 0 1 ((64 : Int32) - (own_f31 u1)))) rfl ?_
   show zs p e below T407 m 145 (z2 a0 a1 a2 1 t2 0 1 ((64 : Int32) - (own_f31 u1))) [] t
   refine XS.aload X407.here hx rfl (hb hby d15_145) rfl rfl ?_
   exact k
  refine OFin.go sg408 ?_
  have fq409 : Exa Z h385 t2 "org/counterpath/model/Type$Range" := (((((((((((((((((ET2.ext E104).keep Kq106).wr W108).ext E110).keep Kq112).wr W116).keep Kq142).keep Kq158).wr W165).ext E172).wr W174).ext E179).wr W182).ext E188).wr W190).wr W362).wr W385)
  obtain ⟨T410, X410, e410, st410⟩ := instY X407 hx hZ hown (zw hw 220 rfl) e407 (Ins.self fq409) (g := (mkF m 147 (z2 a0 a1 a2 1 t2 0 1 ((64 : Int32) - (own_f31 u1))) [.ref t2])) rfl rfl (hb hby d15_147)
  refine OFin.go st410 ?_
  have sg411 : zg p e below T410 m 155 (z2 a0 a1 a2 1 t2 0 1 ((64 : Int32) - (own_f31 u1))) [.ref t2] 150 (z2 a0 a1 a2 1 t2 0 1 ((64 : Int32) - (own_f31 u1))) [.int 1] := by
   intro t k
   refine XS.ifNo X410.here hx rfl (hb hby d15_150) rfl ((if0 _ _).trans (feq (by decide : ¬ ((1 : Int32) = (0 : Int32)))).1) ?_
   show zs p e below T410 m 153 (z2 a0 a1 a2 1 t2 0 1 ((64 : Int32) - (own_f31 u1))) [] t
   refine XS.aload X410.here hx rfl (hb hby d15_153) rfl rfl ?_
   exact k
  refine OFin.go sg411 ?_
  obtain ⟨T412, X412, e412, st412⟩ := castY X410 hx hZ hown (zw hw 220 rfl) e410 (Ins.self fq409) (g := (mkF m 155 (z2 a0 a1 a2 1 t2 0 1 ((64 : Int32) - (own_f31 u1))) [.ref t2])) rfl rfl (hb hby d15_155)
  refine OFin.go st412 ?_
  have sg413 : zg p e below T412 m 162 (z3 a0 a1 a2 1 t2 0 1 t2) [.ref t2] 158 (z2 a0 a1 a2 1 t2 0 1 ((64 : Int32) - (own_f31 u1))) [.ref t2] := by
   intro t k
   refine XS.astore X412.here hx rfl (hb hby d15_158) rfl rfl (l' := (z3 a0 a1 a2 1 t2 0 1 t2)) rfl ?_
   show zs p e below T412 m 160 (z3 a0 a1 a2 1 t2 0 1 t2) [] t
   refine XS.aload X412.here hx rfl (hb hby d15_160) rfl rfl ?_
   exact k
  refine OFin.go sg413 ?_
  have nq414 : t2 ≠ b104 := (zn (zl ET2.lt (ze g104.symm)))
  have nq415 : t2 ≠ b110 := (zn (zl (zl ET2.lt (zt (zt E104.1 Kq106.1) (Keep.of_wr W108).1)) (ze g110.symm)))
  have nq416 : t2 ≠ ed142 := (zn (zl (zl ET2.lt (zt (zt (zt (zt (zt E104.1 Kq106.1) (Keep.of_wr W108).1) E110.1) Kq112.1) (Keep.of_wr W116).1)) R142_0))
  have nq417 : t2 ≠ b179 := (zn (zl (zl ET2.lt (zt (zt (zt (zt (zt (zt (zt (zt (zt (zt E104.1 Kq106.1) (Keep.of_wr W108).1) E110.1) Kq112.1) (Keep.of_wr W116).1) Kq142.1) Kq158.1) (Keep.of_wr W165).1) E172.1) (Keep.of_wr W174).1)) (ze g179.symm)))
  have nq418 : t2 ≠ b172 := (zn (zl (zl ET2.lt (zt (zt (zt (zt (zt (zt (zt (zt E104.1 Kq106.1) (Keep.of_wr W108).1) E110.1) Kq112.1) (Keep.of_wr W116).1) Kq142.1) Kq158.1) (Keep.of_wr W165).1)) (ze g172.symm)))
  have fq419 : Fld Z h385 t2 "org/counterpath/model/Type$Range" "low" "J" (.long l2) := (((((((((((((((((FL2.ext E104).keep Kq106 (ninS nq414 nin0)).other W108 (Or.inl hn_t2)).ext E110).keep Kq112 (ninS nq415 nin0)).other W116 (Or.inl hn_t2)).keep Kq142 (ninS nq414 nin0)).keep Kq158 (ninS nq414 (ninS nq416 nin0))).other W165 (Or.inl hn_t2)).ext E172).other W174 (Or.inl hn_t2)).ext E179).other W182 (Or.inl hn_t2)).ext E188).other W190 (Or.inl hn_t2)).other W362 (Or.inl nq417)).other W385 (Or.inl nq418))
  obtain ⟨cq420, kq420, q420a, q420b, q420c⟩ := isOf hZ e412 fq409
  obtain ⟨_, _, ⟨T420, L420, k420, n420⟩, -, X420, ⟨Lc420, hQ420, l420, y420, z420⟩, st420⟩ := X412.virtualBack hx (y := (⟨"org/counterpath/model/Type$Range", "low", "()J"⟩ : MethodName)) (z := (⟨"org/counterpath/model/Type$Range", "low", "()J"⟩ : MethodName)) hown (mvT hZ (zw hw 222 rfl)) (mvT hZ (zw hw 223 rfl)) (notFace_of_selects (args := #[]) (mvT hZ (zw hw 225 rfl))) (mvT hZ (zw hw 225 rfl)) (mvT hZ (zw hw 224 rfl)) (by decide) (backOf (W := 0) (rm29 l Z aZ hw [] t2 l2 h385 n0 (zt Z0 K385.1) fq419) hZ (zw hw 226 rfl) (zw hw 20 rfl) (by decide) (by decide)) q420a q420c (g := (mkF m 162 (z3 a0 a1 a2 1 t2 0 1 t2) [.ref t2])) rfl (by rw [hml]; rfl) (Steps.refl _) (argsL := []) (rest := []) (lenOf pd_14 rfl) rfl (by show 2 * 0 + _ ≤ _; exact ze rfl) (hb hby d15_162) (fun _ _ => ⟨rfl, e412, (by decide : 8 + 0 ≤ _), (by decide : 30 + 0 ≤ _)⟩)
  dsimp only [Pt.U, Pt.locs, Pt.cells, Pt.slots] at X420 l420 y420 z420 st420 hQ420
  rw [l420, y420, z420] at X420
  obtain ⟨rfl, N420q, e420⟩ := hQ420
  have N420 := Fr.app N407 N420q
  refine OFin.tr st420 ?_
  have sg421 : zg p e below T420 m 169 (z3 a0 a1 a2 1 t2 l2 1 t2) [.ref t2] 165 (z3 a0 a1 a2 1 t2 0 1 t2) [.long l2] := by
   intro t k
   refine XS.lstore X420.here hx rfl (hb hby d15_165) rfl (l' := (z3 a0 a1 a2 1 t2 l2 1 t2)) rfl ?_
   show zs p e below T420 m 167 (z3 a0 a1 a2 1 t2 l2 1 t2) [] t
   refine XS.aload X420.here hx rfl (hb hby d15_167) rfl rfl ?_
   exact k
  refine OFin.go sg421 ?_
  have fq422 : Fld Z h385 t2 "org/counterpath/model/Type$Range" "high" "J" (.long u2) := (((((((((((((((((FH2.ext E104).keep Kq106 (ninS nq414 nin0)).other W108 (Or.inl hn_t2)).ext E110).keep Kq112 (ninS nq415 nin0)).other W116 (Or.inl hn_t2)).keep Kq142 (ninS nq414 nin0)).keep Kq158 (ninS nq414 (ninS nq416 nin0))).other W165 (Or.inl hn_t2)).ext E172).other W174 (Or.inl hn_t2)).ext E179).other W182 (Or.inl hn_t2)).ext E188).other W190 (Or.inl hn_t2)).other W362 (Or.inl nq417)).other W385 (Or.inl nq418))
  obtain ⟨cq423, kq423, q423a, q423b, q423c⟩ := isOf hZ e420 fq409
  obtain ⟨_, _, ⟨T423, L423, k423, n423⟩, -, X423, ⟨Lc423, hQ423, l423, y423, z423⟩, st423⟩ := X420.virtualBack hx (y := (⟨"org/counterpath/model/Type$Range", "high", "()J"⟩ : MethodName)) (z := (⟨"org/counterpath/model/Type$Range", "high", "()J"⟩ : MethodName)) hown (mvT hZ (zw hw 227 rfl)) (mvT hZ (zw hw 228 rfl)) (notFace_of_selects (args := #[]) (mvT hZ (zw hw 230 rfl))) (mvT hZ (zw hw 230 rfl)) (mvT hZ (zw hw 229 rfl)) (by decide) (backOf (W := 0) (rm30 l Z aZ hw [] t2 u2 h385 n0 (zt Z0 K385.1) fq422) hZ (zw hw 231 rfl) (zw hw 20 rfl) (by decide) (by decide)) q423a q423c (g := (mkF m 169 (z3 a0 a1 a2 1 t2 l2 1 t2) [.ref t2])) rfl (by rw [hml]; rfl) (Steps.refl _) (argsL := []) (rest := []) (lenOf pd_14 rfl) rfl (by show 2 * 0 + _ ≤ _; exact ze rfl) (hb hby d15_169) (fun _ _ => ⟨rfl, e420, (by decide : 8 + 0 ≤ _), (by decide : 30 + 0 ≤ _)⟩)
  dsimp only [Pt.U, Pt.locs, Pt.cells, Pt.slots] at X423 l423 y423 z423 st423 hQ423
  rw [l423, y423, z423] at X423
  obtain ⟨rfl, N423q, e423⟩ := hQ423
  have N423 := Fr.app N420 N423q
  refine OFin.tr st423 ?_
  have sg424 : zg p e below T423 m 311 (z3 a0 a1 a2 1 t2 l2 u2 t2) [.ref a0] 172 (z3 a0 a1 a2 1 t2 l2 1 t2) [.long u2] := by
   intro t k
   refine XS.lstore X423.here hx rfl (hb hby d15_172) rfl (l' := (z3 a0 a1 a2 1 t2 l2 u2 t2)) rfl ?_
   show zs p e below T423 m 174 (z3 a0 a1 a2 1 t2 l2 u2 t2) [] t
   refine XS.goto X423.here hx rfl (pc0 := 174) (pc' := 310) rfl (hb hby d15_174) (by decide) (by decide) ?_
   show zs p e below T423 m 310 (z3 a0 a1 a2 1 t2 l2 u2 t2) [] t
   refine XS.aloadN X423.here hx rfl (hb hby d15_310) rfl rfl ?_
   exact k
  refine OFin.go sg424 ?_
  obtain ⟨T425, X425, e425, st425⟩ := getF X423 hx hZ hown (host := "") (Or.inl (zw hw 186 rfl)) Via.refl e423 (fq367.other W385 (Or.inl nq380)) (g := (mkF m 311 (z3 a0 a1 a2 1 t2 l2 u2 t2) [.ref a0])) rfl rfl (hb hby d15_311)
  refine OFin.go st425 ?_
  have sg426 : zg p e below T425 m 319 (z3 a0 a1 a2 1 t2 l2 u2 t2) [.int (lcmpW l2 (0 : Int64)), .int 1, .ref b179] 314 (z3 a0 a1 a2 1 t2 l2 u2 t2) [.ref b179] := by
   intro t k
   refine XS.iloadN X425.here hx rfl (hb hby d15_314) rfl ?_
   show zs p e below T425 m 315 (z3 a0 a1 a2 1 t2 l2 u2 t2) [.int 1, .ref b179] t
   refine XS.lload X425.here hx rfl (hb hby d15_315) rfl ?_
   show zs p e below T425 m 317 (z3 a0 a1 a2 1 t2 l2 u2 t2) [.long l2, .int 1, .ref b179] t
   refine XS.lconst X425.here hx rfl (hb hby d15_317) ?_
   show zs p e below T425 m 318 (z3 a0 a1 a2 1 t2 l2 u2 t2) [.long 0, .long l2, .int 1, .ref b179] t
   refine XS.lcmp X425.here hx rfl (hb hby d15_318) rfl ?_
   exact k
  refine OFin.go sg426 ?_
  by_cases c427 : l2 < (0 : Int64)
  ·have sg428 : zg p e below T425 m 327 (z3 a0 a1 a2 1 t2 l2 u2 t2) [.int 1, .int 1, .ref b179] 319 (z3 a0 a1 a2 1 t2 l2 u2 t2) [.int (lcmpW l2 (0 : Int64)), .int 1, .ref b179] := by
    intro t k
    refine XS.ifNo X425.here hx rfl (hb hby d15_319) rfl ((if0 _ _).trans (tlt ((lw_lt _ _).mpr c427)).2.1) ?_
    show zs p e below T425 m 322 (z3 a0 a1 a2 1 t2 l2 u2 t2) [.int 1, .ref b179] t
    refine XS.iconst X425.here hx rfl (hb hby d15_322) ?_
    show zs p e below T425 m 323 (z3 a0 a1 a2 1 t2 l2 u2 t2) [.int 1, .int 1, .ref b179] t
    refine XS.goto X425.here hx rfl (pc0 := 323) (pc' := 327) rfl (hb hby d15_323) (by decide) (by decide) ?_
    exact k
   refine OFin.go sg428 ?_
   obtain ⟨cl429, Ar429, q429, S429, M429, H429, G429⟩ := id (V362.other W385 (Ne.symm nq382))
   have hin429 : ¬ ((1 : Int32) < 0 ∨ cl429.slots.size ≤ ((1 : Int32)).toNatClampNeg) := inb_of S429 ⟨by decide, by decide⟩
   obtain ⟨T429, h429, X429, e429, W429, st429⟩ := stZ X425 hx hZ e425 Ar429 (j := (1 : Int32)) hin429 (g := (mkF m 327 (z3 a0 a1 a2 1 t2 l2 u2 t2) [.int 1, .int 1, .ref b179])) rfl rfl (hb hby d15_327)
   refine OFin.go st429 ?_
   have V429 : Arv Z h429 b179 k179 .boolean (2 : Int32) [.int 0, .int 1] (.int 0) := Arv.set Ar429 q429 S429 M429 H429 G429 (fits_nar_bool _) W429 1 rfl (Nat.le_of_ble_eq_true rfl)
   have K429 : Keep h0 h429 [a0] := K385.wr W429 (Or.inr sz_b179)
   have N429 := Fr.snoc X429 N423 g_b179
   have sg430 : zg p e below T429 m 329 (z3 a0 a1 a2 1 t2 l2 u2 t2) [.ref a0] 328 (z3 a0 a1 a2 1 t2 l2 u2 t2) [] := by
    intro t k
    refine XS.aloadN X429.here hx rfl (hb hby d15_328) rfl rfl ?_
    exact k
   refine OFin.go sg430 ?_
   obtain ⟨T431, X431, e431, st431⟩ := getF X429 hx hZ hown (host := "") (Or.inl (zw hw 186 rfl)) Via.refl e429 ((fq367.other W385 (Or.inl nq380)).other W429 (Or.inl nq363)) (g := (mkF m 329 (z3 a0 a1 a2 1 t2 l2 u2 t2) [.ref a0])) rfl rfl (hb hby d15_329)
   refine OFin.go st431 ?_
   have sg432 : zg p e below T431 m 333 (z3 a0 a1 a2 1 t2 l2 u2 t2) [.int 1, .ref b179] 332 (z3 a0 a1 a2 1 t2 l2 u2 t2) [.ref b179] := by
    intro t k
    refine XS.iloadN X431.here hx rfl (hb hby d15_332) rfl ?_
    exact k
   refine OFin.go sg432 ?_
   obtain ⟨cl433, Ar433, q433, S433, M433, H433, G433⟩ := id V429
   have hin433 : ¬ ((1 : Int32) < 0 ∨ cl433.slots.size ≤ ((1 : Int32)).toNatClampNeg) := inb_of S433 ⟨by decide, by decide⟩
   have hat433 : cl433.slots[((1 : Int32)).toNatClampNeg]? = some (.int 1) := H433.at hin433 rfl
   have sg434 : zg p e below T431 m 339 (z3 a0 a1 a2 1 t2 l2 u2 t2) [.long l2] 333 (z3 a0 a1 a2 1 t2 l2 u2 t2) [.int 1, .ref b179] := by
    intro t k
    refine X431.baloadBooleans hx (j := (1 : Int32)) (v := (.int 1)) (by rw [e431]; exact Ar433.1) (State.isArrayOf_alike hZ.alike Ar433.2.1) Ar433.2.2 hin433 hat433 (g := (mkF m 333 (z3 a0 a1 a2 1 t2 l2 u2 t2) [.int 1, .ref b179])) rfl rfl (hb hby d15_333) _ ?_
    show zs p e below T431 m 334 (z3 a0 a1 a2 1 t2 l2 u2 t2) [.int 1] t
    refine XS.ifNo X431.here hx rfl (hb hby d15_334) rfl ((if0 _ _).trans (feq (by decide : ¬ ((1 : Int32) = (0 : Int32)))).1) ?_
    show zs p e below T431 m 337 (z3 a0 a1 a2 1 t2 l2 u2 t2) [] t
    refine XS.lload X431.here hx rfl (hb hby d15_337) rfl ?_
    exact k
   refine OFin.go sg434 ?_
   obtain ⟨_, _, ⟨T435, L435, k435, n435⟩, -, X435, ⟨Lc435, hQ435, l435, y435, z435⟩, st435⟩ := Jvm.LawKit.callS X431 hx (y := (⟨"org/counterpath/engine/Words", "width", "(J)I"⟩ : MethodName)) hown (mvT hZ (zw hw 241 rfl)) (mvT hZ (zw hw 242 rfl)) (mvT hZ (zw hw 243 rfl)) (mvT hZ (zw hw 244 rfl)) (by decide) (backOf (W := 0) (rm33 l Z aZ hw [] l2 h429 n0 (zt Z0 K429.1) ) hZ (zw hw 244 rfl) (zw hw 243 rfl) (by decide) (by decide)) (g := (mkF m 339 (z3 a0 a1 a2 1 t2 l2 u2 t2) [.long l2])) rfl (by rw [hml]; rfl) (argsL := [.long l2]) (rest := []) (lenOf pd_1 rfl) rfl (by show 2 * 0 + _ ≤ _; exact ze rfl) (hb hby d15_339) (fun _ _ => ⟨rfl, e431, (by decide : 8 + 0 ≤ _), (by decide : 30 + 0 ≤ _)⟩)
   dsimp only [Pt.U, Pt.locs, Pt.cells, Pt.slots] at X435 l435 y435 z435 st435 hQ435
   rw [l435, y435, z435] at X435
   obtain ⟨rfl, N435q, e435⟩ := hQ435
   have N435 := Fr.app N429 N435q
   refine OFin.go st435 ?_
   have sg436 : zg p e below T435 m 344 (z3 a0 a1 a2 1 t2 l2 u2 t2) [.long u2, .int (own_f33 l2)] 342 (z3 a0 a1 a2 1 t2 l2 u2 t2) [.int (own_f33 l2)] := by
    intro t k
    refine XS.lload X435.here hx rfl (hb hby d15_342) rfl ?_
    exact k
   refine OFin.go sg436 ?_
   obtain ⟨_, _, ⟨T437, L437, k437, n437⟩, -, X437, ⟨Lc437, hQ437, l437, y437, z437⟩, st437⟩ := Jvm.LawKit.callS X435 hx (y := (⟨"org/counterpath/engine/Words", "width", "(J)I"⟩ : MethodName)) hown (mvT hZ (zw hw 241 rfl)) (mvT hZ (zw hw 242 rfl)) (mvT hZ (zw hw 243 rfl)) (mvT hZ (zw hw 244 rfl)) (by decide) (backOf (W := 1) (rm33 l Z aZ hw [] u2 h429 n0 (zt Z0 K429.1) ) hZ (zw hw 244 rfl) (zw hw 243 rfl) (by decide) (by decide)) (g := (mkF m 344 (z3 a0 a1 a2 1 t2 l2 u2 t2) [.long u2, .int (own_f33 l2)])) rfl (by rw [hml]; rfl) (argsL := [.long u2]) (rest := [.int (own_f33 l2)]) (lenOf pd_1 rfl) rfl (by show 2 * 0 + _ ≤ _; exact ze rfl) (hb hby d15_344) (fun _ _ => ⟨rfl, e435, (by decide : 8 + 0 ≤ _), (by decide : 30 + 0 ≤ _)⟩)
   dsimp only [Pt.U, Pt.locs, Pt.cells, Pt.slots] at X437 l437 y437 z437 st437 hQ437
   rw [l437, y437, z437] at X437
   obtain ⟨rfl, N437q, e437⟩ := hQ437
   have N437 := Fr.app N435 N437q
   refine OFin.go st437 ?_
   obtain ⟨_, _, ⟨T438, L438, k438, n438⟩, -, X438, ⟨Lc438, hQ438, l438, y438, z438⟩, st438⟩ := Jvm.LawKit.callS X437 hx (y := (⟨"java/lang/Math", "max", "(II)I"⟩ : MethodName)) hown (mvT hZ (zw hw 247 rfl)) (mvT hZ (zw hw 98 rfl)) (mvT hZ (zw hw 2 rfl)) (mvT hZ (zw hw 99 rfl)) (by decide) (backOf (W := 0) (rm14 l Z aZ hw [] (own_f33 l2) (own_f33 u2) h429 n0 (zt Z0 K429.1) ) hZ (zw hw 99 rfl) (zw hw 2 rfl) (by decide) (by decide)) (g := (mkF m 347 (z3 a0 a1 a2 1 t2 l2 u2 t2) [.int (own_f33 u2), .int (own_f33 l2)])) rfl (by rw [hml]; rfl) (argsL := [.int (own_f33 l2), .int (own_f33 u2)]) (rest := []) (lenOf pd_3 rfl) rfl (by show 2 * 0 + _ ≤ _; exact ze rfl) (hb hby d15_347) (fun _ _ => ⟨rfl, e437, (by decide : 8 + 0 ≤ _), (by decide : 30 + 0 ≤ _)⟩)
   dsimp only [Pt.U, Pt.locs, Pt.cells, Pt.slots] at X438 l438 y438 z438 st438 hQ438
   rw [l438, y438, z438] at X438
   obtain ⟨rfl, N438q, e438⟩ := hQ438
   have N438 := Fr.app N437 N438q
   refine OFin.go st438 ?_
   have sg439 : zg p e below T438 m 364 (z2 a0 a1 a2 1 t2 l2 u2 (own_f14 (own_f33 l2) (own_f33 u2))) [.ref a0] 350 (z3 a0 a1 a2 1 t2 l2 u2 t2) [.int (own_f14 (own_f33 l2) (own_f33 u2))] := by
    intro t k
    refine XS.goto X438.here hx rfl (pc0 := 350) (pc' := 361) rfl (hb hby d15_350) (by decide) (by decide) ?_
    show zs p e below T438 m 361 (z3 a0 a1 a2 1 t2 l2 u2 t2) [.int (own_f14 (own_f33 l2) (own_f33 u2))] t
    refine XS.istore X438.here hx rfl (hb hby d15_361) rfl (l' := (z2 a0 a1 a2 1 t2 l2 u2 (own_f14 (own_f33 l2) (own_f33 u2)))) rfl ?_
    show zs p e below T438 m 363 (z2 a0 a1 a2 1 t2 l2 u2 (own_f14 (own_f33 l2) (own_f33 u2))) [] t
    refine XS.aloadN X438.here hx rfl (hb hby d15_363) rfl rfl ?_
    exact k
   refine OFin.go sg439 ?_
   obtain ⟨T440, X440, e440, st440⟩ := getF X438 hx hZ hown (host := "") (Or.inl (zw hw 183 rfl)) Via.refl e438 ((fq374.other W385 (Or.inl nq380)).other W429 (Or.inl nq363)) (g := (mkF m 364 (z2 a0 a1 a2 1 t2 l2 u2 (own_f14 (own_f33 l2) (own_f33 u2))) [.ref a0])) rfl rfl (hb hby d15_364)
   refine OFin.go st440 ?_
   have sg441 : zg p e below T440 m 371 (z2 a0 a1 a2 1 t2 l2 u2 (own_f14 (own_f33 l2) (own_f33 u2))) [.ref a0, .int 2, .ref b172] 367 (z2 a0 a1 a2 1 t2 l2 u2 (own_f14 (own_f33 l2) (own_f33 u2))) [.ref b172] := by
    intro t k
    refine XS.iloadN X440.here hx rfl (hb hby d15_367) rfl ?_
    show zs p e below T440 m 368 (z2 a0 a1 a2 1 t2 l2 u2 (own_f14 (own_f33 l2) (own_f33 u2))) [.int 1, .ref b172] t
    refine XS.iconst X440.here hx rfl (hb hby d15_368) ?_
    show zs p e below T440 m 369 (z2 a0 a1 a2 1 t2 l2 u2 (own_f14 (own_f33 l2) (own_f33 u2))) [.int 1, .int 1, .ref b172] t
    refine XS.iadd X440.here hx rfl (hb hby d15_369) rfl ?_
    show zs p e below T440 m 370 (z2 a0 a1 a2 1 t2 l2 u2 (own_f14 (own_f33 l2) (own_f33 u2))) [.int 2, .ref b172] t
    refine XS.aloadN X440.here hx rfl (hb hby d15_370) rfl rfl ?_
    exact k
   refine OFin.go sg441 ?_
   obtain ⟨T442, X442, e442, st442⟩ := getF X440 hx hZ hown (host := "") (Or.inl (zw hw 183 rfl)) Via.refl e440 ((fq374.other W385 (Or.inl nq380)).other W429 (Or.inl nq363)) (g := (mkF m 371 (z2 a0 a1 a2 1 t2 l2 u2 (own_f14 (own_f33 l2) (own_f33 u2))) [.ref a0, .int 2, .ref b172])) rfl rfl (hb hby d15_371)
   refine OFin.go st442 ?_
   have sg443 : zg p e below T442 m 375 (z2 a0 a1 a2 1 t2 l2 u2 (own_f14 (own_f33 l2) (own_f33 u2))) [.int 1, .ref b172, .int 2, .ref b172] 374 (z2 a0 a1 a2 1 t2 l2 u2 (own_f14 (own_f33 l2) (own_f33 u2))) [.ref b172, .int 2, .ref b172] := by
    intro t k
    refine XS.iloadN X442.here hx rfl (hb hby d15_374) rfl ?_
    exact k
   refine OFin.go sg443 ?_
   obtain ⟨cl444, Ar444, q444, S444, M444, H444, G444⟩ := id (V385.other W429 nq382)
   have hin444 : ¬ ((1 : Int32) < 0 ∨ cl444.slots.size ≤ ((1 : Int32)).toNatClampNeg) := inb_of S444 ⟨by decide, by decide⟩
   have hat444 : cl444.slots[((1 : Int32)).toNatClampNeg]? = some (.int ((0 : Int32) + ((64 : Int32) - (own_f31 u1)))) := H444.at hin444 rfl
   have sg445 : zg p e below T442 m 379 (z2 a0 a1 a2 1 t2 l2 u2 (own_f14 (own_f33 l2) (own_f33 u2))) [.int (((0 : Int32) + ((64 : Int32) - (own_f31 u1))) + (own_f14 (own_f33 l2) (own_f33 u2))), .int 2, .ref b172] 375 (z2 a0 a1 a2 1 t2 l2 u2 (own_f14 (own_f33 l2) (own_f33 u2))) [.int 1, .ref b172, .int 2, .ref b172] := by
    intro t k
    refine X442.iaload hx (j := (1 : Int32)) (v := (.int ((0 : Int32) + ((64 : Int32) - (own_f31 u1))))) (by rw [e442]; exact Ar444.1) (State.isArrayOf_alike hZ.alike Ar444.2.1) Ar444.2.2 hin444 hat444 (g := (mkF m 375 (z2 a0 a1 a2 1 t2 l2 u2 (own_f14 (own_f33 l2) (own_f33 u2))) [.int 1, .ref b172, .int 2, .ref b172])) rfl rfl (hb hby d15_375) _ ?_
    show zs p e below T442 m 376 (z2 a0 a1 a2 1 t2 l2 u2 (own_f14 (own_f33 l2) (own_f33 u2))) [.int ((0 : Int32) + ((64 : Int32) - (own_f31 u1))), .int 2, .ref b172] t
    refine XS.iload X442.here hx rfl (hb hby d15_376) rfl ?_
    show zs p e below T442 m 378 (z2 a0 a1 a2 1 t2 l2 u2 (own_f14 (own_f33 l2) (own_f33 u2))) [.int (own_f14 (own_f33 l2) (own_f33 u2)), .int ((0 : Int32) + ((64 : Int32) - (own_f31 u1))), .int 2, .ref b172] t
    refine XS.iadd X442.here hx rfl (hb hby d15_378) rfl ?_
    exact k
   refine OFin.go sg445 ?_
   obtain ⟨cl446, Ar446, q446, S446, M446, H446, G446⟩ := id (V385.other W429 nq382)
   have hin446 : ¬ ((2 : Int32) < 0 ∨ cl446.slots.size ≤ ((2 : Int32)).toNatClampNeg) := inb_of S446 ⟨by decide, by decide⟩
   obtain ⟨T446, h446, X446, e446, W446, st446⟩ := stI X442 hx hZ e442 Ar446 (j := (2 : Int32)) hin446 (g := (mkF m 379 (z2 a0 a1 a2 1 t2 l2 u2 (own_f14 (own_f33 l2) (own_f33 u2))) [.int (((0 : Int32) + ((64 : Int32) - (own_f31 u1))) + (own_f14 (own_f33 l2) (own_f33 u2))), .int 2, .ref b172])) rfl rfl (hb hby d15_379)
   refine OFin.go st446 ?_
   have V446 : Arv Z h446 b172 k172 .int (3 : Int32) [.int 0, .int ((0 : Int32) + ((64 : Int32) - (own_f31 u1))), .int (((0 : Int32) + ((64 : Int32) - (own_f31 u1))) + (own_f14 (own_f33 l2) (own_f33 u2)))] (.int 0) := Arv.set Ar446 q446 S446 M446 H446 G446 rfl W446 2 rfl (Nat.le_of_ble_eq_true rfl)
   have K446 : Keep h0 h446 [a0] := K429.wr W446 (Or.inr sz_b172)
   have N446 := Fr.snoc X446 N438 g_b172
   have sg447 : zg p e below T446 m 110 (z2 a0 a1 a2 2 t2 l2 u2 (own_f14 (own_f33 l2) (own_f33 u2))) [.ref a0, .int 2] 380 (z2 a0 a1 a2 1 t2 l2 u2 (own_f14 (own_f33 l2) (own_f33 u2))) [] := by
    intro t k
    refine XS.iinc X446.here hx rfl (hb hby d15_380) rfl (l' := (z2 a0 a1 a2 2 t2 l2 u2 (own_f14 (own_f33 l2) (own_f33 u2)))) rfl ?_
    show zs p e below T446 m 383 (z2 a0 a1 a2 2 t2 l2 u2 (own_f14 (own_f33 l2) (own_f33 u2))) [] t
    refine XS.goto X446.here hx rfl (pc0 := 383) (pc' := 108) rfl (hb hby d15_383) (by decide) (by decide) ?_
    show zs p e below T446 m 108 (z2 a0 a1 a2 2 t2 l2 u2 (own_f14 (own_f33 l2) (own_f33 u2))) [] t
    refine XS.iloadN X446.here hx rfl (hb hby d15_108) rfl ?_
    show zs p e below T446 m 109 (z2 a0 a1 a2 2 t2 l2 u2 (own_f14 (own_f33 l2) (own_f33 u2))) [.int 2] t
    refine XS.aloadN X446.here hx rfl (hb hby d15_109) rfl rfl ?_
    exact k
   refine OFin.go sg447 ?_
   obtain ⟨T448, X448, e448, st448⟩ := getF X446 hx hZ hown (host := "") (Or.inl (zw hw 112 rfl)) Via.refl e446 ((fq387.other W429 (Or.inl nq363)).other W446 (Or.inl nq380)) (g := (mkF m 110 (z2 a0 a1 a2 2 t2 l2 u2 (own_f14 (own_f33 l2) (own_f33 u2))) [.ref a0, .int 2])) rfl rfl (hb hby d15_110)
   refine OFin.go st448 ?_
   have fq449 : Fld Z h446 b104 "java/util/ArrayList" "size" "I" (.int 2) := ((((fq193.other W362 (Or.inl nq389)).other W385 (Or.inl nq390)).other W429 (Or.inl nq389)).other W446 (Or.inl nq390))
   obtain ⟨cq450, kq450, q450a, q450b, q450c⟩ := isOf hZ e448 ((fq392.wr W429).wr W446)
   obtain ⟨_, _, ⟨T450, L450, k450, n450⟩, -, X450, ⟨Lc450, hQ450, l450, y450, z450⟩, st450⟩ := X448.interfaceBack hx (xi := (⟨"java/util/List", "size", "()I"⟩ : MethodName)) (y := (⟨"java/util/ArrayList", "size", "()I"⟩ : MethodName)) hown (mvT hZ (zw hw 172 rfl)) (mvT hZ (zw hw 173 rfl)) (mvT hZ (zw hw 174 rfl)) (mvT hZ (zw hw 175 rfl)) (mvT hZ (zw hw 176 rfl)) (mvT hZ (zw hw 177 rfl)) (mvT hZ (zw hw 178 rfl)) (mvT hZ (zw hw 76 rfl)) (by decide) (backOf (W := 1) (rm23 l Z aZ hw [] b104 (2 : Int32) h446 n0 (zt Z0 K446.1) fq449) hZ (zw hw 179 rfl) (zw hw 47 rfl) (by decide) (by decide)) q450a q450b q450c (g := (mkF m 113 (z2 a0 a1 a2 2 t2 l2 u2 (own_f14 (own_f33 l2) (own_f33 u2))) [.ref b104, .int 2])) rfl (by rw [hml]; rfl) (Steps.refl _) (argsL := []) (rest := [.int 2]) (lenOf pd_12 rfl) rfl (by show 2 * 0 + _ ≤ _; exact ze rfl) (hb hby d15_113) (fun _ _ => ⟨rfl, e448, (by decide : 8 + 0 ≤ _), (by decide : 30 + 0 ≤ _)⟩)
   dsimp only [Pt.U, Pt.locs, Pt.cells, Pt.slots] at X450 l450 y450 z450 st450 hQ450
   rw [l450, y450, z450] at X450
   obtain ⟨rfl, N450q, e450⟩ := hQ450
   have N450 := Fr.app N446 N450q
   refine OFin.tr st450 ?_
   have sg451 : zg p e below T450 m 386 (z2 a0 a1 a2 2 t2 l2 u2 (own_f14 (own_f33 l2) (own_f33 u2))) [] 118 (z2 a0 a1 a2 2 t2 l2 u2 (own_f14 (own_f33 l2) (own_f33 u2))) [.int 2, .int 2] := by
    intro t k
    refine XS.icmpYes X450.here hx rfl (pc0 := 118) (pc' := 386) rfl (hb hby d15_118) rfl (flt (by decide : ¬ ((2 : Int32) < (2 : Int32)))).2.1 (by decide) (by decide) ?_
    exact k
   refine OFin.go sg451 ?_
   have es1 : own_sg l1 = (0 : Int32) := if_neg c225
   have ew1 : own_wd l1 u1 = _ := if_neg c225
   have es2 : own_sg l2 = (1 : Int32) := if_pos c427
   have ew2 : own_wd l2 u2 = _ := if_pos c427
   have Vz_b172 : Arv Z h446 b172 k172 .int (3 : Int32) [.int 0, .int ((0 : Int32) + (own_wd l1 u1)), .int (((0 : Int32) + (own_wd l1 u1)) + (own_wd l2 u2))] (.int 0) := by rw [ew1, ew2]; exact V446
   have Vz_b179 : Arv Z h446 b179 k179 .boolean (2 : Int32) [.int (own_sg l1), .int (own_sg l2)] (.int 0) := by rw [es1, es2]; exact (V429.other W446 (Ne.symm nq382))
   have fq452 : Fld Z h446 a0 "org/counterpath/engine/Encoding" "_firstBits" "[I" (.ref b172) := (((fq374.other W385 (Or.inl nq380)).other W429 (Or.inl nq363)).other W446 (Or.inl nq380))
   have fq453 : Fld Z h446 a0 "org/counterpath/engine/Encoding" "_signed" "[Z" (.ref b179) := (((fq367.other W385 (Or.inl nq380)).other W429 (Or.inl nq363)).other W446 (Or.inl nq380))
   have fq454 : Fld Z h446 a0 "org/counterpath/engine/Encoding" "_codes" "[[J" (.ref b188) := ((((F190.other W362 (Or.inl nq363)).other W385 (Or.inl nq380)).other W429 (Or.inl nq363)).other W446 (Or.inl nq380))
   have nq455 : a0 ≠ b188 := (zn (zl (zl E0a.lt (zt (zt (zt (zt (zt (zt (zt (zt (zt (zt (zt (zt E104.1 Kq106.1) (Keep.of_wr W108).1) E110.1) Kq112.1) (Keep.of_wr W116).1) Kq142.1) Kq158.1) (Keep.of_wr W165).1) E172.1) (Keep.of_wr W174).1) E179.1) (Keep.of_wr W182).1)) (ze g188.symm)))
   have nq456 : b188 ≠ a0 := (Ne.symm nq455)
   have nq457 : b179 ≠ b188 := (zn (zl (zl V179.lt (Keep.of_wr W182).1) (ze g188.symm)))
   have nq458 : b188 ≠ b179 := (Ne.symm nq457)
   have nq459 : b172 ≠ b188 := (zn (zl (zl V172.lt (zt (zt (Keep.of_wr W174).1 E179.1) (Keep.of_wr W182).1)) (ze g188.symm)))
   have nq460 : b188 ≠ b172 := (Ne.symm nq459)
   have fq461 : Arv Z h446 b188 k188 (.array .long) (2 : Int32) [.null, .null] .null := (((((V188.other W190 nq456).other W362 nq458).other W385 nq460).other W429 nq458).other W446 nq460)
   exact OFin.retV X450 hx hret hlk (hb hby d15_386) (by rw [e450]; exact ⟨b172, k172, b179, k179, b188, k188, rfl, N450, K446, fq452, fq453, fq454, Vz_b172, Vz_b179, fq461, sz_b172, sz_b179, sz_b188⟩) (by decide) (by decide)
  ·have sg462 : zg p e below T425 m 327 (z3 a0 a1 a2 1 t2 l2 u2 t2) [.int 0, .int 1, .ref b179] 319 (z3 a0 a1 a2 1 t2 l2 u2 t2) [.int (lcmpW l2 (0 : Int64)), .int 1, .ref b179] := by
    intro t k
    refine XS.ifYes X425.here hx rfl (pc0 := 319) (pc' := 326) rfl (hb hby d15_319) rfl ((if0 _ _).trans (flt (mt (lw_lt _ _).mp c427)).2.1) (by decide) (by decide) ?_
    show zs p e below T425 m 326 (z3 a0 a1 a2 1 t2 l2 u2 t2) [.int 1, .ref b179] t
    refine XS.iconst X425.here hx rfl (hb hby d15_326) ?_
    exact k
   refine OFin.go sg462 ?_
   obtain ⟨cl463, Ar463, q463, S463, M463, H463, G463⟩ := id (V362.other W385 (Ne.symm nq382))
   have hin463 : ¬ ((1 : Int32) < 0 ∨ cl463.slots.size ≤ ((1 : Int32)).toNatClampNeg) := inb_of S463 ⟨by decide, by decide⟩
   obtain ⟨T463, h463, X463, e463, W463, st463⟩ := stZ X425 hx hZ e425 Ar463 (j := (1 : Int32)) hin463 (g := (mkF m 327 (z3 a0 a1 a2 1 t2 l2 u2 t2) [.int 0, .int 1, .ref b179])) rfl rfl (hb hby d15_327)
   refine OFin.go st463 ?_
   have V463 : Arv Z h463 b179 k179 .boolean (2 : Int32) [.int 0, .int 0] (.int 0) := Arv.set Ar463 q463 S463 M463 H463 G463 (fits_nar_bool _) W463 1 rfl (Nat.le_of_ble_eq_true rfl)
   have K463 : Keep h0 h463 [a0] := K385.wr W463 (Or.inr sz_b179)
   have N463 := Fr.snoc X463 N423 g_b179
   have sg464 : zg p e below T463 m 329 (z3 a0 a1 a2 1 t2 l2 u2 t2) [.ref a0] 328 (z3 a0 a1 a2 1 t2 l2 u2 t2) [] := by
    intro t k
    refine XS.aloadN X463.here hx rfl (hb hby d15_328) rfl rfl ?_
    exact k
   refine OFin.go sg464 ?_
   obtain ⟨T465, X465, e465, st465⟩ := getF X463 hx hZ hown (host := "") (Or.inl (zw hw 186 rfl)) Via.refl e463 ((fq367.other W385 (Or.inl nq380)).other W463 (Or.inl nq363)) (g := (mkF m 329 (z3 a0 a1 a2 1 t2 l2 u2 t2) [.ref a0])) rfl rfl (hb hby d15_329)
   refine OFin.go st465 ?_
   have sg466 : zg p e below T465 m 333 (z3 a0 a1 a2 1 t2 l2 u2 t2) [.int 1, .ref b179] 332 (z3 a0 a1 a2 1 t2 l2 u2 t2) [.ref b179] := by
    intro t k
    refine XS.iloadN X465.here hx rfl (hb hby d15_332) rfl ?_
    exact k
   refine OFin.go sg466 ?_
   obtain ⟨cl467, Ar467, q467, S467, M467, H467, G467⟩ := id V463
   have hin467 : ¬ ((1 : Int32) < 0 ∨ cl467.slots.size ≤ ((1 : Int32)).toNatClampNeg) := inb_of S467 ⟨by decide, by decide⟩
   have hat467 : cl467.slots[((1 : Int32)).toNatClampNeg]? = some (.int 0) := H467.at hin467 rfl
   have sg468 : zg p e below T465 m 357 (z3 a0 a1 a2 1 t2 l2 u2 t2) [.long u2, .int 64] 333 (z3 a0 a1 a2 1 t2 l2 u2 t2) [.int 1, .ref b179] := by
    intro t k
    refine X465.baloadBooleans hx (j := (1 : Int32)) (v := (.int 0)) (by rw [e465]; exact Ar467.1) (State.isArrayOf_alike hZ.alike Ar467.2.1) Ar467.2.2 hin467 hat467 (g := (mkF m 333 (z3 a0 a1 a2 1 t2 l2 u2 t2) [.int 1, .ref b179])) rfl rfl (hb hby d15_333) _ ?_
    show zs p e below T465 m 334 (z3 a0 a1 a2 1 t2 l2 u2 t2) [.int 0] t
    refine XS.ifYes X465.here hx rfl (pc0 := 334) (pc' := 353) rfl (hb hby d15_334) rfl ((if0 _ _).trans (teq (by decide : (0 : Int32) = (0 : Int32))).1) (by decide) (by decide) ?_
    show zs p e below T465 m 353 (z3 a0 a1 a2 1 t2 l2 u2 t2) [] t
    refine XS.bipush X465.here hx rfl (hb hby d15_353) ?_
    show zs p e below T465 m 355 (z3 a0 a1 a2 1 t2 l2 u2 t2) [.int 64] t
    refine XS.lload X465.here hx rfl (hb hby d15_355) rfl ?_
    exact k
   refine OFin.go sg468 ?_
   obtain ⟨_, _, ⟨T469, L469, k469, n469⟩, -, X469, ⟨Lc469, hQ469, l469, y469, z469⟩, st469⟩ := Jvm.LawKit.callS X465 hx (y := (⟨"java/lang/Long", "numberOfLeadingZeros", "(J)I"⟩ : MethodName)) hown (mvT hZ (zw hw 232 rfl)) (mvT hZ (zw hw 233 rfl)) (mvT hZ (zw hw 234 rfl)) (mvT hZ (zw hw 235 rfl)) (by decide) (backOf (W := 1) (rm31 l Z aZ hw [] u2 h463 n0 (zt Z0 K463.1) ) hZ (zw hw 235 rfl) (zw hw 234 rfl) (by decide) (by decide)) (g := (mkF m 357 (z3 a0 a1 a2 1 t2 l2 u2 t2) [.long u2, .int 64])) rfl (by rw [hml]; rfl) (argsL := [.long u2]) (rest := [.int 64]) (lenOf pd_1 rfl) rfl (by show 2 * 0 + _ ≤ _; exact ze rfl) (hb hby d15_357) (fun _ _ => ⟨rfl, e465, (by decide : 8 + 0 ≤ _), (by decide : 30 + 0 ≤ _)⟩)
   dsimp only [Pt.U, Pt.locs, Pt.cells, Pt.slots] at X469 l469 y469 z469 st469 hQ469
   rw [l469, y469, z469] at X469
   obtain ⟨rfl, N469q, e469⟩ := hQ469
   have N469 := Fr.app N463 N469q
   refine OFin.go st469 ?_
   have sg470 : zg p e below T469 m 364 (z2 a0 a1 a2 1 t2 l2 u2 ((64 : Int32) - (own_f31 u2))) [.ref a0] 360 (z3 a0 a1 a2 1 t2 l2 u2 t2) [.int (own_f31 u2), .int 64] := by
    intro t k
    refine XS.isub X469.here hx rfl (hb hby d15_360) rfl ?_
    show zs p e below T469 m 361 (z3 a0 a1 a2 1 t2 l2 u2 t2) [.int ((64 : Int32) - (own_f31 u2))] t
    refine XS.istore X469.here hx rfl (hb hby d15_361) rfl (l' := (z2 a0 a1 a2 1 t2 l2 u2 ((64 : Int32) - (own_f31 u2)))) rfl ?_
    show zs p e below T469 m 363 (z2 a0 a1 a2 1 t2 l2 u2 ((64 : Int32) - (own_f31 u2))) [] t
    refine XS.aloadN X469.here hx rfl (hb hby d15_363) rfl rfl ?_
    exact k
   refine OFin.go sg470 ?_
   obtain ⟨T471, X471, e471, st471⟩ := getF X469 hx hZ hown (host := "") (Or.inl (zw hw 183 rfl)) Via.refl e469 ((fq374.other W385 (Or.inl nq380)).other W463 (Or.inl nq363)) (g := (mkF m 364 (z2 a0 a1 a2 1 t2 l2 u2 ((64 : Int32) - (own_f31 u2))) [.ref a0])) rfl rfl (hb hby d15_364)
   refine OFin.go st471 ?_
   have sg472 : zg p e below T471 m 371 (z2 a0 a1 a2 1 t2 l2 u2 ((64 : Int32) - (own_f31 u2))) [.ref a0, .int 2, .ref b172] 367 (z2 a0 a1 a2 1 t2 l2 u2 ((64 : Int32) - (own_f31 u2))) [.ref b172] := by
    intro t k
    refine XS.iloadN X471.here hx rfl (hb hby d15_367) rfl ?_
    show zs p e below T471 m 368 (z2 a0 a1 a2 1 t2 l2 u2 ((64 : Int32) - (own_f31 u2))) [.int 1, .ref b172] t
    refine XS.iconst X471.here hx rfl (hb hby d15_368) ?_
    show zs p e below T471 m 369 (z2 a0 a1 a2 1 t2 l2 u2 ((64 : Int32) - (own_f31 u2))) [.int 1, .int 1, .ref b172] t
    refine XS.iadd X471.here hx rfl (hb hby d15_369) rfl ?_
    show zs p e below T471 m 370 (z2 a0 a1 a2 1 t2 l2 u2 ((64 : Int32) - (own_f31 u2))) [.int 2, .ref b172] t
    refine XS.aloadN X471.here hx rfl (hb hby d15_370) rfl rfl ?_
    exact k
   refine OFin.go sg472 ?_
   obtain ⟨T473, X473, e473, st473⟩ := getF X471 hx hZ hown (host := "") (Or.inl (zw hw 183 rfl)) Via.refl e471 ((fq374.other W385 (Or.inl nq380)).other W463 (Or.inl nq363)) (g := (mkF m 371 (z2 a0 a1 a2 1 t2 l2 u2 ((64 : Int32) - (own_f31 u2))) [.ref a0, .int 2, .ref b172])) rfl rfl (hb hby d15_371)
   refine OFin.go st473 ?_
   have sg474 : zg p e below T473 m 375 (z2 a0 a1 a2 1 t2 l2 u2 ((64 : Int32) - (own_f31 u2))) [.int 1, .ref b172, .int 2, .ref b172] 374 (z2 a0 a1 a2 1 t2 l2 u2 ((64 : Int32) - (own_f31 u2))) [.ref b172, .int 2, .ref b172] := by
    intro t k
    refine XS.iloadN X473.here hx rfl (hb hby d15_374) rfl ?_
    exact k
   refine OFin.go sg474 ?_
   obtain ⟨cl475, Ar475, q475, S475, M475, H475, G475⟩ := id (V385.other W463 nq382)
   have hin475 : ¬ ((1 : Int32) < 0 ∨ cl475.slots.size ≤ ((1 : Int32)).toNatClampNeg) := inb_of S475 ⟨by decide, by decide⟩
   have hat475 : cl475.slots[((1 : Int32)).toNatClampNeg]? = some (.int ((0 : Int32) + ((64 : Int32) - (own_f31 u1)))) := H475.at hin475 rfl
   have sg476 : zg p e below T473 m 379 (z2 a0 a1 a2 1 t2 l2 u2 ((64 : Int32) - (own_f31 u2))) [.int (((0 : Int32) + ((64 : Int32) - (own_f31 u1))) + ((64 : Int32) - (own_f31 u2))), .int 2, .ref b172] 375 (z2 a0 a1 a2 1 t2 l2 u2 ((64 : Int32) - (own_f31 u2))) [.int 1, .ref b172, .int 2, .ref b172] := by
    intro t k
    refine X473.iaload hx (j := (1 : Int32)) (v := (.int ((0 : Int32) + ((64 : Int32) - (own_f31 u1))))) (by rw [e473]; exact Ar475.1) (State.isArrayOf_alike hZ.alike Ar475.2.1) Ar475.2.2 hin475 hat475 (g := (mkF m 375 (z2 a0 a1 a2 1 t2 l2 u2 ((64 : Int32) - (own_f31 u2))) [.int 1, .ref b172, .int 2, .ref b172])) rfl rfl (hb hby d15_375) _ ?_
    show zs p e below T473 m 376 (z2 a0 a1 a2 1 t2 l2 u2 ((64 : Int32) - (own_f31 u2))) [.int ((0 : Int32) + ((64 : Int32) - (own_f31 u1))), .int 2, .ref b172] t
    refine XS.iload X473.here hx rfl (hb hby d15_376) rfl ?_
    show zs p e below T473 m 378 (z2 a0 a1 a2 1 t2 l2 u2 ((64 : Int32) - (own_f31 u2))) [.int ((64 : Int32) - (own_f31 u2)), .int ((0 : Int32) + ((64 : Int32) - (own_f31 u1))), .int 2, .ref b172] t
    refine XS.iadd X473.here hx rfl (hb hby d15_378) rfl ?_
    exact k
   refine OFin.go sg476 ?_
   obtain ⟨cl477, Ar477, q477, S477, M477, H477, G477⟩ := id (V385.other W463 nq382)
   have hin477 : ¬ ((2 : Int32) < 0 ∨ cl477.slots.size ≤ ((2 : Int32)).toNatClampNeg) := inb_of S477 ⟨by decide, by decide⟩
   obtain ⟨T477, h477, X477, e477, W477, st477⟩ := stI X473 hx hZ e473 Ar477 (j := (2 : Int32)) hin477 (g := (mkF m 379 (z2 a0 a1 a2 1 t2 l2 u2 ((64 : Int32) - (own_f31 u2))) [.int (((0 : Int32) + ((64 : Int32) - (own_f31 u1))) + ((64 : Int32) - (own_f31 u2))), .int 2, .ref b172])) rfl rfl (hb hby d15_379)
   refine OFin.go st477 ?_
   have V477 : Arv Z h477 b172 k172 .int (3 : Int32) [.int 0, .int ((0 : Int32) + ((64 : Int32) - (own_f31 u1))), .int (((0 : Int32) + ((64 : Int32) - (own_f31 u1))) + ((64 : Int32) - (own_f31 u2)))] (.int 0) := Arv.set Ar477 q477 S477 M477 H477 G477 rfl W477 2 rfl (Nat.le_of_ble_eq_true rfl)
   have K477 : Keep h0 h477 [a0] := K463.wr W477 (Or.inr sz_b172)
   have N477 := Fr.snoc X477 N469 g_b172
   have sg478 : zg p e below T477 m 110 (z2 a0 a1 a2 2 t2 l2 u2 ((64 : Int32) - (own_f31 u2))) [.ref a0, .int 2] 380 (z2 a0 a1 a2 1 t2 l2 u2 ((64 : Int32) - (own_f31 u2))) [] := by
    intro t k
    refine XS.iinc X477.here hx rfl (hb hby d15_380) rfl (l' := (z2 a0 a1 a2 2 t2 l2 u2 ((64 : Int32) - (own_f31 u2)))) rfl ?_
    show zs p e below T477 m 383 (z2 a0 a1 a2 2 t2 l2 u2 ((64 : Int32) - (own_f31 u2))) [] t
    refine XS.goto X477.here hx rfl (pc0 := 383) (pc' := 108) rfl (hb hby d15_383) (by decide) (by decide) ?_
    show zs p e below T477 m 108 (z2 a0 a1 a2 2 t2 l2 u2 ((64 : Int32) - (own_f31 u2))) [] t
    refine XS.iloadN X477.here hx rfl (hb hby d15_108) rfl ?_
    show zs p e below T477 m 109 (z2 a0 a1 a2 2 t2 l2 u2 ((64 : Int32) - (own_f31 u2))) [.int 2] t
    refine XS.aloadN X477.here hx rfl (hb hby d15_109) rfl rfl ?_
    exact k
   refine OFin.go sg478 ?_
   obtain ⟨T479, X479, e479, st479⟩ := getF X477 hx hZ hown (host := "") (Or.inl (zw hw 112 rfl)) Via.refl e477 ((fq387.other W463 (Or.inl nq363)).other W477 (Or.inl nq380)) (g := (mkF m 110 (z2 a0 a1 a2 2 t2 l2 u2 ((64 : Int32) - (own_f31 u2))) [.ref a0, .int 2])) rfl rfl (hb hby d15_110)
   refine OFin.go st479 ?_
   have fq480 : Fld Z h477 b104 "java/util/ArrayList" "size" "I" (.int 2) := ((((fq193.other W362 (Or.inl nq389)).other W385 (Or.inl nq390)).other W463 (Or.inl nq389)).other W477 (Or.inl nq390))
   obtain ⟨cq481, kq481, q481a, q481b, q481c⟩ := isOf hZ e479 ((fq392.wr W463).wr W477)
   obtain ⟨_, _, ⟨T481, L481, k481, n481⟩, -, X481, ⟨Lc481, hQ481, l481, y481, z481⟩, st481⟩ := X479.interfaceBack hx (xi := (⟨"java/util/List", "size", "()I"⟩ : MethodName)) (y := (⟨"java/util/ArrayList", "size", "()I"⟩ : MethodName)) hown (mvT hZ (zw hw 172 rfl)) (mvT hZ (zw hw 173 rfl)) (mvT hZ (zw hw 174 rfl)) (mvT hZ (zw hw 175 rfl)) (mvT hZ (zw hw 176 rfl)) (mvT hZ (zw hw 177 rfl)) (mvT hZ (zw hw 178 rfl)) (mvT hZ (zw hw 76 rfl)) (by decide) (backOf (W := 1) (rm23 l Z aZ hw [] b104 (2 : Int32) h477 n0 (zt Z0 K477.1) fq480) hZ (zw hw 179 rfl) (zw hw 47 rfl) (by decide) (by decide)) q481a q481b q481c (g := (mkF m 113 (z2 a0 a1 a2 2 t2 l2 u2 ((64 : Int32) - (own_f31 u2))) [.ref b104, .int 2])) rfl (by rw [hml]; rfl) (Steps.refl _) (argsL := []) (rest := [.int 2]) (lenOf pd_12 rfl) rfl (by show 2 * 0 + _ ≤ _; exact ze rfl) (hb hby d15_113) (fun _ _ => ⟨rfl, e479, (by decide : 8 + 0 ≤ _), (by decide : 30 + 0 ≤ _)⟩)
   dsimp only [Pt.U, Pt.locs, Pt.cells, Pt.slots] at X481 l481 y481 z481 st481 hQ481
   rw [l481, y481, z481] at X481
   obtain ⟨rfl, N481q, e481⟩ := hQ481
   have N481 := Fr.app N477 N481q
   refine OFin.tr st481 ?_
   have sg482 : zg p e below T481 m 386 (z2 a0 a1 a2 2 t2 l2 u2 ((64 : Int32) - (own_f31 u2))) [] 118 (z2 a0 a1 a2 2 t2 l2 u2 ((64 : Int32) - (own_f31 u2))) [.int 2, .int 2] := by
    intro t k
    refine XS.icmpYes X481.here hx rfl (pc0 := 118) (pc' := 386) rfl (hb hby d15_118) rfl (flt (by decide : ¬ ((2 : Int32) < (2 : Int32)))).2.1 (by decide) (by decide) ?_
    exact k
   refine OFin.go sg482 ?_
   have es1 : own_sg l1 = (0 : Int32) := if_neg c225
   have ew1 : own_wd l1 u1 = _ := if_neg c225
   have es2 : own_sg l2 = (0 : Int32) := if_neg c427
   have ew2 : own_wd l2 u2 = _ := if_neg c427
   have Vz_b172 : Arv Z h477 b172 k172 .int (3 : Int32) [.int 0, .int ((0 : Int32) + (own_wd l1 u1)), .int (((0 : Int32) + (own_wd l1 u1)) + (own_wd l2 u2))] (.int 0) := by rw [ew1, ew2]; exact V477
   have Vz_b179 : Arv Z h477 b179 k179 .boolean (2 : Int32) [.int (own_sg l1), .int (own_sg l2)] (.int 0) := by rw [es1, es2]; exact (V463.other W477 (Ne.symm nq382))
   have fq483 : Fld Z h477 a0 "org/counterpath/engine/Encoding" "_firstBits" "[I" (.ref b172) := (((fq374.other W385 (Or.inl nq380)).other W463 (Or.inl nq363)).other W477 (Or.inl nq380))
   have fq484 : Fld Z h477 a0 "org/counterpath/engine/Encoding" "_signed" "[Z" (.ref b179) := (((fq367.other W385 (Or.inl nq380)).other W463 (Or.inl nq363)).other W477 (Or.inl nq380))
   have fq485 : Fld Z h477 a0 "org/counterpath/engine/Encoding" "_codes" "[[J" (.ref b188) := ((((F190.other W362 (Or.inl nq363)).other W385 (Or.inl nq380)).other W463 (Or.inl nq363)).other W477 (Or.inl nq380))
   have nq486 : a0 ≠ b188 := (zn (zl (zl E0a.lt (zt (zt (zt (zt (zt (zt (zt (zt (zt (zt (zt (zt E104.1 Kq106.1) (Keep.of_wr W108).1) E110.1) Kq112.1) (Keep.of_wr W116).1) Kq142.1) Kq158.1) (Keep.of_wr W165).1) E172.1) (Keep.of_wr W174).1) E179.1) (Keep.of_wr W182).1)) (ze g188.symm)))
   have nq487 : b188 ≠ a0 := (Ne.symm nq486)
   have nq488 : b179 ≠ b188 := (zn (zl (zl V179.lt (Keep.of_wr W182).1) (ze g188.symm)))
   have nq489 : b188 ≠ b179 := (Ne.symm nq488)
   have nq490 : b172 ≠ b188 := (zn (zl (zl V172.lt (zt (zt (Keep.of_wr W174).1 E179.1) (Keep.of_wr W182).1)) (ze g188.symm)))
   have nq491 : b188 ≠ b172 := (Ne.symm nq490)
   have fq492 : Arv Z h477 b188 k188 (.array .long) (2 : Int32) [.null, .null] .null := (((((V188.other W190 nq487).other W362 nq489).other W385 nq491).other W463 nq489).other W477 nq491)
   exact OFin.retV X481 hx hret hlk (hb hby d15_386) (by rw [e481]; exact ⟨b172, k172, b179, k179, b188, k188, rfl, N481, K477, fq483, fq484, fq485, Vz_b172, Vz_b179, fq492, sz_b172, sz_b179, sz_b188⟩) (by decide) (by decide)
def own_bit (v : Int64) (j : Int32) : Int32 := if ((v >>> (j &&& 0x3f).toInt64) &&& (1 : Int64)) = (0 : Int64) then (0 : Int32) else (1 : Int32)
def own_hold (v : Int64) (f : Int32) : Nat → Int32 → List Int32 → List Int32
  | 0, _, ls => ls
  | n + 1, i, ls => own_hold v f n (i + (1 : Int32)) (ls.set i.toNatClampNeg (own_bit v (i - f)))
def own_val (ls : List Int32) (f : Int32) : Nat → Int32 → Int64 → Int64
  | 0, _, a => a
  | n + 1, i, a => own_val ls f n (i + (1 : Int32)) (a ||| (if (ls.getD (f + i).toNatClampNeg (0 : Int32)) = (0 : Int32) then (0 : Int64) else ((1 : Int64) <<< (i &&& 0x3f).toInt64)))
def own_value (s f e : Int32) (ls : List Int32) : Int64 :=
  if s = (0 : Int32) then own_val ls f (e.toInt - f.toInt).toNat (0 : Int32) (0 : Int64) else if (e - f) < (64 : Int32) then
    (if (ls.getD ((f + (e - f)) - (1 : Int32)).toNatClampNeg (0 : Int32)) = (0 : Int32) then own_val ls f (e.toInt - f.toInt).toNat (0 : Int32) (0 : Int64) else (own_val ls f (e.toInt - f.toInt).toNat (0 : Int32) (0 : Int64) ||| ((-1 : Int64) <<< ((e - f) &&& 0x3f).toInt64)))
  else own_val ls f (e.toInt - f.toInt).toNat (0 : Int32) (0 : Int64)
theorem own_narb (P : Prop) [Decidable P] : nar .boolean (if P then (0 : Int32) else (1 : Int32)) = if P then (0 : Int32) else (1 : Int32) := by
  by_cases q : P
  · rw [if_pos q]; rfl
  · rw [if_neg q]; rfl
theorem own_getD (ls : List Int32) (j : Nat) : (ls.map Value.int).getD j (.int 0) = .int (ls.getD j (0 : Int32)) := by
  simp only [List.getD_eq_getElem?_getD, List.getElem?_map]
  cases ls[j]? <;> rfl
theorem own_inc {i : Int32} (h0 : 0 ≤ i.toInt) (h1 : i.toInt < 1000) : (i + (1 : Int32)).toInt = i.toInt + 1 := by
  rw [Int32.toInt_add, show (1 : Int32).toInt = 1 from rfl, Int.bmod_def]
  omega
theorem own_addi {i f : Int32} (h0 : 0 ≤ i.toInt) (h1 : i.toInt < 1000) (g0 : 0 ≤ f.toInt) (g1 : f.toInt < 1000) : (f + i).toInt = f.toInt + i.toInt := by
  rw [Int32.toInt_add, Int.bmod_def]
  omega
theorem own_subi {e f : Int32} (h0 : 0 ≤ e.toInt) (h1 : e.toInt < 1000) (g0 : 0 ≤ f.toInt) (g1 : f.toInt < 1000) : (e - f).toInt = e.toInt - f.toInt := by
  rw [Int32.toInt_sub, Int.bmod_def]
  omega
theorem own_inb {i : Int32} (h0 : 0 ≤ i.toInt) (h1 : i.toInt < 128) : ¬ i < 0 ∧ i < (128 : Int32) := by
  rw [Int32.lt_iff_toInt_lt, Int32.lt_iff_toInt_lt]
  simp only [show (0 : Int32).toInt = 0 from rfl, show (128 : Int32).toInt = 128 from rfl]
  omega
theorem own_clt {i : Int32} {ls : List Int32} (hl : ls.length = 128) (h0 : 0 ≤ i.toInt) (h1 : i.toInt < 128) : i.toNatClampNeg < (ls.map Value.int).length := by
  rw [List.length_map, hl]
  simp only [Int32.toNatClampNeg]
  omega
theorem own_sham : ∀ t : Fin 64, ((Int32.ofNat t.val &&& 0x3f).toInt64.toBitVec.smod 64).toNat = t.val := by decide +kernel
theorem own_ofI {j : Int32} (h0 : 0 ≤ j.toInt) (h1 : j.toInt < 64) : ∃ t : Fin 64, j = Int32.ofNat t.val ∧ j.toNatClampNeg = t.val := by
  refine ⟨⟨j.toInt.toNat, by omega⟩, ?_, rfl⟩
  apply Int32.toInt_inj.mp
  rw [Int32.toInt_ofNat_of_lt (by show j.toInt.toNat < 2 ^ 31; omega)]
  show j.toInt = (j.toInt.toNat : Int)
  omega
theorem own_shr (v : Int64) (t : Fin 64) : (v >>> (Int32.ofNat t.val &&& 0x3f).toInt64).toBitVec.getLsbD 0 = v.toBitVec.getLsbD t.val := by
  rw [Int64.toBitVec_shiftRight, BitVec.sshiftRight', BitVec.getLsbD_sshiftRight, own_sham t]
  simp [t.isLt]
theorem own_shl (v : Int64) (t : Fin 64) (k : Nat) : (v <<< (Int32.ofNat t.val &&& 0x3f).toInt64).toBitVec.getLsbD k = (decide (k < 64) && !decide (k < t.val) && v.toBitVec.getLsbD (k - t.val)) := by
  rw [Int64.toBitVec_shiftLeft, BitVec.shiftLeft_eq', BitVec.getLsbD_shiftLeft, own_sham t]
theorem own_and1 (y : Int64) : (y &&& (1 : Int64)) = (0 : Int64) ↔ y.toBitVec.getLsbD 0 = false := by
  rw [← Int64.toBitVec_inj]
  show y.toBitVec &&& 1#64 = 0#64 ↔ _
  constructor
  · intro h
    have := congrArg (fun b => b.getLsbD 0) h
    simpa using this
  · intro h
    apply BitVec.eq_of_getLsbD_eq
    intro i hi
    rw [BitVec.getLsbD_and]
    by_cases q : i = 0
    · subst q; rw [h]; simp
    · simp [BitVec.getLsbD_one, q]
def own_nb (v : Int64) (t : Nat) : Int32 := if v.toBitVec.getLsbD t = false then (0 : Int32) else (1 : Int32)
theorem own_bit_nb {v : Int64} {j : Int32} (h0 : 0 ≤ j.toInt) (h1 : j.toInt < 64) : own_bit v j = own_nb v j.toNatClampNeg := by
  obtain ⟨t, e1, e2⟩ := own_ofI h0 h1
  rw [e2, e1]
  unfold own_bit own_nb
  have a := own_and1 (v >>> (Int32.ofNat t.val &&& 0x3f).toInt64)
  rw [own_shr] at a
  by_cases q : v.toBitVec.getLsbD t.val = false
  · rw [if_pos (a.mpr q), if_pos q]
  · rw [if_neg (mt a.mp q), if_neg q]
theorem own_f37_nb {v : Int64} {j : Int32} (h0 : 0 ≤ j.toInt) (h1 : j.toInt < 64) : own_f37 v j = own_nb v j.toNatClampNeg := by
  obtain ⟨t, e1, e2⟩ := own_ofI h0 h1
  rw [e2, e1]
  unfold own_f37 own_nb
  have a : (v &&& ((1 : Int64) <<< (Int32.ofNat t.val &&& 0x3f).toInt64)) = (0 : Int64) ↔ v.toBitVec.getLsbD t.val = false := by
    rw [← Int64.toBitVec_inj]
    show v.toBitVec &&& ((1 : Int64) <<< (Int32.ofNat t.val &&& 0x3f).toInt64).toBitVec = 0#64 ↔ _
    have s := own_shl 1 t
    rw [show (1 : Int64).toBitVec = 1#64 from rfl] at s
    constructor
    · intro h
      have := congrArg (fun b => b.getLsbD t.val) h
      simp only [BitVec.getLsbD_and, s] at this
      simpa using this
    · intro h
      apply BitVec.eq_of_getLsbD_eq
      intro i hi
      rw [BitVec.getLsbD_and, s]
      by_cases q : i = t.val
      · rw [q, h]; simp
      · have : ¬ (i < t.val) → ¬ (i - t.val = 0) := by omega
        by_cases u : i < t.val
        · simp [u]
        · simp [BitVec.getLsbD_one, this u]
  by_cases q : v.toBitVec.getLsbD t.val = false
  · rw [if_pos (a.mpr q), if_pos q]
  · rw [if_neg (mt a.mp q), if_neg q]
theorem own_hold_len (v : Int64) (f : Int32) : ∀ (n : Nat) (i : Int32) (ls : List Int32), (own_hold v f n i ls).length = ls.length
  | 0, _, _ => rfl
  | n + 1, i, ls => by rw [own_hold, own_hold_len, List.length_set]
theorem own_hold_get (v : Int64) (f : Int32) (hf : 0 ≤ f.toInt) (j : Nat) : ∀ (n : Nat) (i : Int32) (ls : List Int32), ls.length = 128 → f.toInt ≤ i.toInt → i.toInt + n ≤ 128 → i.toInt + n - f.toInt ≤ 64 →
    (own_hold v f n i ls).getD j (0 : Int32) = if i.toNatClampNeg ≤ j ∧ j < i.toNatClampNeg + n then own_nb v (j - f.toNatClampNeg) else ls.getD j (0 : Int32)
  | 0, i, ls, _, _, _, _ => by rw [own_hold, if_neg (by omega)]
  | n + 1, i, ls, hl, hi, hn, hw => by
    have e := own_inc (i := i) (by omega) (by omega)
    have es := own_subi (e := i) (f := f) (by omega) (by omega) hf (by omega)
    rw [own_hold, own_hold_get v f hf j n _ _ (by rw [List.length_set]; exact hl) (by omega) (by omega) (by omega)]
    rw [own_bit_nb (by omega) (by omega)]
    simp only [Int32.toNatClampNeg, e, es]
    by_cases a : j = i.toInt.toNat
    · rw [if_neg (by omega), if_pos (by omega), a, List.getD_eq_getElem?_getD, List.getElem?_set_self (by omega)]
      simp only [Option.getD_some]
      congr 1; omega
    · by_cases b : i.toInt.toNat ≤ j ∧ j < i.toInt.toNat + (n + 1)
      · rw [if_pos (by omega), if_pos b]
      · rw [if_neg (by omega), if_neg b, List.getD_eq_getElem?_getD, List.getElem?_set_ne (by omega), List.getD_eq_getElem?_getD]
theorem own_nb0 (v : Int64) (t : Nat) : own_nb v t = (0 : Int32) ↔ v.toBitVec.getLsbD t = false := by
  unfold own_nb
  by_cases q : v.toBitVec.getLsbD t = false
  · rw [if_pos q]; exact ⟨fun _ => q, fun _ => rfl⟩
  · rw [if_neg q]; exact ⟨fun h => absurd h (by decide), fun h => absurd h q⟩
theorem own_val_bits (v : Int64) (f : Int32) (ls : List Int32) (N : Nat) (hf : 0 ≤ f.toInt) (hN : f.toInt + N ≤ 128) (h64 : N ≤ 64) (hb : ∀ t, t < N → ls.getD (f.toNatClampNeg + t) (0 : Int32) = own_nb v t) (k : Nat) :
    ∀ (n : Nat) (i : Int32) (a : Int64), 0 ≤ i.toInt → i.toInt + n = N → a.toBitVec.getLsbD k = (decide (k < i.toNatClampNeg) && v.toBitVec.getLsbD k) → (own_val ls f n i a).toBitVec.getLsbD k = (decide (k < N) && v.toBitVec.getLsbD k)
  | 0, i, a, h0, hn, ha => by
    rw [own_val, ha, show i.toNatClampNeg = N by simp only [Int32.toNatClampNeg]; omega]
  | n + 1, i, a, h0, hn, ha => by
    have e := own_inc (i := i) h0 (by omega)
    have ea := own_addi (i := i) (f := f) h0 (by omega) hf (by omega)
    obtain ⟨t, e1, e2⟩ := own_ofI (j := i) h0 (by omega)
    have et : i.toInt.toNat = t.val := e2
    have eg : ls.getD (f + i).toNatClampNeg (0 : Int32) = own_nb v t.val := by
      rw [← hb t.val (by omega)]
      congr 1
      simp only [Int32.toNatClampNeg, ea]; omega
    rw [own_val]
    refine own_val_bits v f ls N hf hN h64 hb k n _ _ (by omega) (by omega) ?_
    rw [eg, show (i + (1 : Int32)).toNatClampNeg = t.val + 1 by simp only [Int32.toNatClampNeg, e]; omega]
    rw [e2] at ha
    rw [e1]
    have s := own_shl 1 t k
    rw [show (1 : Int64).toBitVec = 1#64 from rfl] at s
    show (a.toBitVec ||| (if own_nb v t.val = (0 : Int32) then (0 : Int64) else ((1 : Int64) <<< (Int32.ofNat t.val &&& 0x3f).toInt64)).toBitVec).getLsbD k = _
    rw [BitVec.getLsbD_or, ha]
    by_cases q : v.toBitVec.getLsbD t.val = false
    · rw [if_pos ((own_nb0 v t.val).mpr q)]
      show (_ || (0#64).getLsbD k) = _
      rw [BitVec.getLsbD_zero, Bool.or_false]
      by_cases u : k = t.val
      · rw [u, q]; simp
      · rw [show decide (k < t.val + 1) = decide (k < t.val) from decide_eq_decide.mpr (by omega)]
    · rw [if_neg (mt (own_nb0 v t.val).mp q), s]
      have q' : v.toBitVec.getLsbD t.val = true := by simpa using q
      by_cases u : k = t.val
      · rw [u, q']; simp
      · have w : BitVec.getLsbD 1#64 (k - t.val) = (decide (k - t.val = 0)) := by rw [BitVec.getLsbD_one]; simp
        rw [w]
        by_cases x : k < t.val
        · simp [x, show k < t.val + 1 by omega]
        · simp [x, show ¬ (k < t.val + 1) by omega, show ¬ (k - t.val = 0) by omega]
theorem own_zbits {v : Int64} {k t : Nat} (h : v.toUInt64.toNat < 2 ^ k) (ht : k ≤ t) : v.toBitVec.getLsbD t = false := by
  show v.toUInt64.toNat.testBit t = false
  exact Nat.testBit_lt_two_pow (Nat.lt_of_lt_of_le h (Nat.pow_le_pow_right (by decide) ht))
theorem own_sbits {v : Int64} {k t : Nat} (h1 : -((2 ^ k : Nat) : Int) ≤ v.toInt) (h2 : v.toInt < ((2 ^ k : Nat) : Int)) (ht : k ≤ t) (h64 : t < 64) : v.toBitVec.getLsbD t = decide (v.toInt < 0) := by
  have e := own_i64 v
  have hlt : v.toUInt64.toNat < 2 ^ 64 := v.toUInt64.toNat_lt
  by_cases q : v.toInt < 0
  · rw [decide_eq_true q]
    have hge : ¬ (2 * v.toUInt64.toNat < 2 ^ 64) := fun u => by rw [if_pos u] at e; omega
    rw [if_neg hge] at e
    show v.toUInt64.toNat.testBit t = true
    have en : v.toUInt64.toNat = 2 ^ 64 - ((2 ^ 64 - 1 - v.toUInt64.toNat) + 1) := by omega
    rw [en, Nat.testBit_two_pow_sub_succ (by omega), Nat.testBit_lt_two_pow (Nat.lt_of_lt_of_le (by omega : 2 ^ 64 - 1 - v.toUInt64.toNat < 2 ^ k) (Nat.pow_le_pow_right (by decide) ht))]
    simp [h64]
  · rw [decide_eq_false q]
    have h63 := own_pos64 (x := v) (by omega)
    rw [if_pos (by omega)] at e
    exact own_zbits (k := k) (by omega) ht
theorem own_back_value (lo hi v : Int64) (h1 : lo.toInt ≤ v.toInt) (h2 : v.toInt ≤ hi.toInt) (f e : Int32) (ls : List Int32) (hl : ls.length = 128) (hf : 0 ≤ f.toInt) (he : e.toInt = f.toInt + (own_wd lo hi).toInt) (h128 : e.toInt ≤ 128) :
    own_value (own_sg lo) f e (own_hold v f (e.toInt - f.toInt).toNat f ls) = v := by
  obtain ⟨k, hk, ek, hc⟩ := own_fit lo hi v h1 h2
  have en : (e.toInt - f.toInt).toNat = k := by omega
  have ew := own_subi (e := e) (f := f) (by omega) (by omega) hf (by omega)
  have hg : ∀ t, t < k → (own_hold v f k f ls).getD (f.toNatClampNeg + t) (0 : Int32) = own_nb v t := fun t ht => by
    rw [own_hold_get v f hf _ k f ls hl (Int.le_refl _) (by omega) (by omega), if_pos (by omega)]; congr 1; omega
  have hv : ∀ t, (own_val (own_hold v f k f ls) f k (0 : Int32) (0 : Int64)).toBitVec.getLsbD t = (decide (t < k) && v.toBitVec.getLsbD t) := fun t => by
    refine own_val_bits v f _ k hf (by omega) hk hg t k 0 0 (by decide) (by rw [show (0 : Int32).toInt = 0 from rfl]; omega) ?_
    show (0#64).getLsbD t = _
    rw [BitVec.getLsbD_zero]; rfl
  have fin : ∀ r : Int64, (∀ t, t < 64 → r.toBitVec.getLsbD t = v.toBitVec.getLsbD t) → r = v := fun r hr => Int64.toBitVec_inj.mp (BitVec.eq_of_getLsbD_eq fun t ht => hr t ht)
  unfold own_value
  rw [en]
  rcases hc with ⟨s1, k1, b1, b2⟩ | ⟨s0, b⟩
  · rw [s1, if_neg (by decide)]
    by_cases q : (e - f) < (64 : Int32)
    · rw [if_pos q]
      rw [Int32.lt_iff_toInt_lt, show (64 : Int32).toInt = 64 from rfl] at q
      have ea := own_addi (i := e - f) (f := f) (by omega) (by omega) hf (by omega)
      have ex : ((f + (e - f)) - (1 : Int32)).toInt = (f + (e - f)).toInt - 1 := own_subi (f := 1) (by omega) (by omega) (by decide) (by decide)
      rw [show ((f + (e - f)) - (1 : Int32)).toNatClampNeg = f.toNatClampNeg + (k - 1) by simp only [Int32.toNatClampNeg]; omega, hg (k - 1) (by omega)]
      have sb := fun t (u : k - 1 ≤ t) (w : t < 64) => own_sbits (v := v) (k := k - 1) b1 b2 u w
      obtain ⟨t, e1, e2⟩ := own_ofI (j := e - f) (by omega) (by omega)
      have et : t.val = k := by rw [← e2]; simp only [Int32.toNatClampNeg]; omega
      by_cases z : v.toBitVec.getLsbD (k - 1) = false
      · rw [if_pos ((own_nb0 _ _).mpr z)]
        refine fin _ fun u hu => ?_
        rw [hv]
        by_cases w : u < k
        · simp [w]
        · rw [sb u (by omega) hu, ← sb (k - 1) (by omega) (by omega), z]; simp
      · rw [if_neg (mt (own_nb0 _ _).mp z)]
        refine fin _ fun u hu => ?_
        rw [e1]
        show (_ ||| ((-1 : Int64) <<< (Int32.ofNat t.val &&& 0x3f).toInt64).toBitVec : BitVec 64).getLsbD u = _
        rw [BitVec.getLsbD_or, hv, own_shl, et, show (-1 : Int64).toBitVec = BitVec.allOnes 64 by decide, BitVec.getLsbD_allOnes]
        by_cases w : u < k
        · simp [w]
        · rw [sb u (by omega) hu, ← sb (k - 1) (by omega) (by omega)]
          have z' : v.toBitVec.getLsbD (k - 1) = true := by simpa using z
          rw [z']; simp [w, hu, show u - k < 64 by omega]
    · rw [if_neg q]
      rw [Int32.lt_iff_toInt_lt, show (64 : Int32).toInt = 64 from rfl] at q
      exact fin _ fun u hu => by rw [hv]; simp [show u < k by omega]
  · rw [s0, if_pos rfl]
    refine fin _ fun u hu => ?_
    rw [hv]
    by_cases w : u < k
    · simp [w]
    · rw [own_zbits b (by omega)]; simp
theorem d35_0 : decode prog_58_method_14_code 0 = .ok (.aload_n 0, 1) := by decide +kernel
theorem d35_1 : decode prog_58_method_14_code 1 = .ok (.getfield 37, 3) := by decide +kernel
theorem d35_4 : decode prog_58_method_14_code 4 = .ok (.iload_n 1, 1) := by decide +kernel
theorem d35_5 : decode prog_58_method_14_code 5 = .ok (.iaload, 1) := by decide +kernel
theorem d35_6 : decode prog_58_method_14_code 6 = .ok (.ireturn, 1) := by decide +kernel
theorem ef_35v0 (m : MethodId) (x0 : Addr) (x1 : Int32) : entryFrame m #[(.ref x0), (.int x1)] 2 = mkF m 0 #[.val (.ref x0), .val (.int x1)] [] := by first | (simp [entryFrame, mkF, argsToLocals, Value.category]; done) | rfl
def Q35v0 (Z : State) (a0 : Addr) (fb : Addr) (kf : ClassId) (f0 : Int32) (f1 : Int32) (f2 : Int32) (h0 : Heap) (n0 : Nat) (v : Option Value) (h : Heap) (L : List Loc) : Prop := v = some (.int f0) ∧ Fr n0 L ∧ h = h0
set_option maxHeartbeats 40000000 in
theorem rm35v0 (l : Launch) (Z : State) (aZ : Array Value) (hw : ∀ d ∈ tables_1, d.before aZ Z = true) (ws : List Jvm.Cond) (a0 : Addr) (fb : Addr) (kf : ClassId) (f0 : Int32) (f1 : Int32) (f2 : Int32) (h0 : Heap) (n0 : Nat) (Z0 : n0 ≤ h0.size) (G1 : Fld Z h0 a0 "org/counterpath/engine/Encoding" "_firstBits" "[I" (.ref fb)) (VF : Arv Z h0 fb kf .int (3 : Int32) [(.int f0), (.int f1), (.int f2)] (.int 0)) :
  MetFree l (⟨"org/counterpath/engine/Encoding", "firstBit", "(I)I"⟩ : MethodName) (head1 (Jvm.Cond.code (⟨"org/counterpath/engine/Encoding", "firstBit", "(I)I"⟩ : MethodName) prog_58_method_14_code 2 (some .int) :: ws) ({ frames := 0, cells := 0, slots := 0, locals := 0 } : Room)) (fun a U => a = #[.ref a0, .int 0] ∧ Z.Warmed39 U.vm ∧ U.heap = h0) (fun _ _ _ _ _ => True) (fun _ U o U' => ∃ v L, o = .returned v ∧ Q35v0 Z a0 fb kf f0 f1 f2 h0 n0 v U'.heap L ∧ FrameEnd U o U' L ({ frames := 0, cells := 0, slots := 0, locals := 0 } : Room).cells ({ frames := 0, cells := 0, slots := 0, locals := 0 } : Room).slots) := by
 refine MetFree.of_bodySF (plainFor_of_name pn_15) hisR ?_
 intro p e s m args below meth c s₁ Bd hml0 hP hK
 obtain ⟨rfl, hZ, hh⟩ := hP
 have hx := Bd.exec
 have hby := Bd.bytes
 have hret := Bd.returns
 have hlk : meth.locks = false := BodyLoose.notSynchronized Bd
 have hml : c.maxLocals = 2 := hml0
 have hown : s.vm.findClass "org/counterpath/engine/Encoding" = some m.cls := findClass_of_methodNamed Bd.named
 have hnm := (name_of_methodNamed Bd.named Bd.method).1
 have X0 : Stand p l e ({ frames := 0, cells := 0, slots := 0, locals := 0 } : Room) s m #[.ref a0, .int 0] below meth c s₁ [] 0 0 := Stand.of_body Bd
 have e0 : s₁.heap = h0 := by rw [← hh, Bd.state]; rfl
 have N0 := Fr.nil n0
 have K0 : Keep h0 h0 [] := Keep.refl _ _
 have pre0 : ∀ t, zs p e below s₁ m 0 (z6 a0 0) [] t → Steps p.tables e below (s₁.setTop (entryFrame m #[.ref a0, .int 0] 2)) t := fun t k => castTop (ef_35v0 m a0 (0 : Int32)) k
 show OFin p e below s (Q35v0 Z a0 fb kf f0 f1 f2 h0 n0) ({ frames := 0, cells := 0, slots := 0, locals := 0 } : Room).cells ({ frames := 0, cells := 0, slots := 0, locals := 0 } : Room).slots _
 refine OFin.go pre0 ?_
 have sg101 : zg p e below s₁ m 1 (z6 a0 0) [.ref a0] 0 (z6 a0 0) [] := by
  intro t k
  refine XS.aloadN X0.here hx rfl (hb hby d35_0) rfl rfl ?_
  exact k
 refine OFin.go sg101 ?_
 obtain ⟨T102, X102, e102, st102⟩ := getF X0 hx hZ hown (host := "") (Or.inl (zw hw 183 rfl)) Via.refl e0 G1 (g := (mkF m 1 (z6 a0 0) [.ref a0])) rfl rfl (hb hby d35_1)
 refine OFin.go st102 ?_
 have sg103 : zg p e below T102 m 5 (z6 a0 0) [.int 0, .ref fb] 4 (z6 a0 0) [.ref fb] := by
  intro t k
  refine XS.iloadN X102.here hx rfl (hb hby d35_4) rfl ?_
  exact k
 refine OFin.go sg103 ?_
 obtain ⟨cl104, Ar104, q104, S104, M104, H104, G104⟩ := id VF
 have hin104 : ¬ ((0 : Int32) < 0 ∨ cl104.slots.size ≤ ((0 : Int32)).toNatClampNeg) := inb_of S104 ⟨by decide, by decide⟩
 have hat104 : cl104.slots[((0 : Int32)).toNatClampNeg]? = some (.int f0) := H104.at hin104 rfl
 have sg105 : zg p e below T102 m 6 (z6 a0 0) [.int f0] 5 (z6 a0 0) [.int 0, .ref fb] := by
  intro t k
  refine X102.iaload hx (j := (0 : Int32)) (v := (.int f0)) (by rw [e102]; exact Ar104.1) (State.isArrayOf_alike hZ.alike Ar104.2.1) Ar104.2.2 hin104 hat104 (g := (mkF m 5 (z6 a0 0) [.int 0, .ref fb])) rfl rfl (hb hby d35_5) _ ?_
  exact k
 refine OFin.go sg105 ?_
 exact OFin.retI X102 hx hret hlk (hb hby d35_6) (by rw [e102]; exact ⟨rfl, N0, rfl⟩) (by decide) (by decide)
theorem ef_35v1 (m : MethodId) (x0 : Addr) (x1 : Int32) : entryFrame m #[(.ref x0), (.int x1)] 2 = mkF m 0 #[.val (.ref x0), .val (.int x1)] [] := by first | (simp [entryFrame, mkF, argsToLocals, Value.category]; done) | rfl
def Q35v1 (Z : State) (a0 : Addr) (fb : Addr) (kf : ClassId) (f0 : Int32) (f1 : Int32) (f2 : Int32) (h0 : Heap) (n0 : Nat) (v : Option Value) (h : Heap) (L : List Loc) : Prop := v = some (.int f1) ∧ Fr n0 L ∧ h = h0
set_option maxHeartbeats 40000000 in
theorem rm35v1 (l : Launch) (Z : State) (aZ : Array Value) (hw : ∀ d ∈ tables_1, d.before aZ Z = true) (ws : List Jvm.Cond) (a0 : Addr) (fb : Addr) (kf : ClassId) (f0 : Int32) (f1 : Int32) (f2 : Int32) (h0 : Heap) (n0 : Nat) (Z0 : n0 ≤ h0.size) (G1 : Fld Z h0 a0 "org/counterpath/engine/Encoding" "_firstBits" "[I" (.ref fb)) (VF : Arv Z h0 fb kf .int (3 : Int32) [(.int f0), (.int f1), (.int f2)] (.int 0)) :
  MetFree l (⟨"org/counterpath/engine/Encoding", "firstBit", "(I)I"⟩ : MethodName) (head1 (Jvm.Cond.code (⟨"org/counterpath/engine/Encoding", "firstBit", "(I)I"⟩ : MethodName) prog_58_method_14_code 2 (some .int) :: ws) ({ frames := 0, cells := 0, slots := 0, locals := 0 } : Room)) (fun a U => a = #[.ref a0, .int 1] ∧ Z.Warmed39 U.vm ∧ U.heap = h0) (fun _ _ _ _ _ => True) (fun _ U o U' => ∃ v L, o = .returned v ∧ Q35v1 Z a0 fb kf f0 f1 f2 h0 n0 v U'.heap L ∧ FrameEnd U o U' L ({ frames := 0, cells := 0, slots := 0, locals := 0 } : Room).cells ({ frames := 0, cells := 0, slots := 0, locals := 0 } : Room).slots) := by
 refine MetFree.of_bodySF (plainFor_of_name pn_15) hisR ?_
 intro p e s m args below meth c s₁ Bd hml0 hP hK
 obtain ⟨rfl, hZ, hh⟩ := hP
 have hx := Bd.exec
 have hby := Bd.bytes
 have hret := Bd.returns
 have hlk : meth.locks = false := BodyLoose.notSynchronized Bd
 have hml : c.maxLocals = 2 := hml0
 have hown : s.vm.findClass "org/counterpath/engine/Encoding" = some m.cls := findClass_of_methodNamed Bd.named
 have hnm := (name_of_methodNamed Bd.named Bd.method).1
 have X0 : Stand p l e ({ frames := 0, cells := 0, slots := 0, locals := 0 } : Room) s m #[.ref a0, .int 1] below meth c s₁ [] 0 0 := Stand.of_body Bd
 have e0 : s₁.heap = h0 := by rw [← hh, Bd.state]; rfl
 have N0 := Fr.nil n0
 have K0 : Keep h0 h0 [] := Keep.refl _ _
 have pre0 : ∀ t, zs p e below s₁ m 0 (z6 a0 1) [] t → Steps p.tables e below (s₁.setTop (entryFrame m #[.ref a0, .int 1] 2)) t := fun t k => castTop (ef_35v1 m a0 (1 : Int32)) k
 show OFin p e below s (Q35v1 Z a0 fb kf f0 f1 f2 h0 n0) ({ frames := 0, cells := 0, slots := 0, locals := 0 } : Room).cells ({ frames := 0, cells := 0, slots := 0, locals := 0 } : Room).slots _
 refine OFin.go pre0 ?_
 have sg101 : zg p e below s₁ m 1 (z6 a0 1) [.ref a0] 0 (z6 a0 1) [] := by
  intro t k
  refine XS.aloadN X0.here hx rfl (hb hby d35_0) rfl rfl ?_
  exact k
 refine OFin.go sg101 ?_
 obtain ⟨T102, X102, e102, st102⟩ := getF X0 hx hZ hown (host := "") (Or.inl (zw hw 183 rfl)) Via.refl e0 G1 (g := (mkF m 1 (z6 a0 1) [.ref a0])) rfl rfl (hb hby d35_1)
 refine OFin.go st102 ?_
 have sg103 : zg p e below T102 m 5 (z6 a0 1) [.int 1, .ref fb] 4 (z6 a0 1) [.ref fb] := by
  intro t k
  refine XS.iloadN X102.here hx rfl (hb hby d35_4) rfl ?_
  exact k
 refine OFin.go sg103 ?_
 obtain ⟨cl104, Ar104, q104, S104, M104, H104, G104⟩ := id VF
 have hin104 : ¬ ((1 : Int32) < 0 ∨ cl104.slots.size ≤ ((1 : Int32)).toNatClampNeg) := inb_of S104 ⟨by decide, by decide⟩
 have hat104 : cl104.slots[((1 : Int32)).toNatClampNeg]? = some (.int f1) := H104.at hin104 rfl
 have sg105 : zg p e below T102 m 6 (z6 a0 1) [.int f1] 5 (z6 a0 1) [.int 1, .ref fb] := by
  intro t k
  refine X102.iaload hx (j := (1 : Int32)) (v := (.int f1)) (by rw [e102]; exact Ar104.1) (State.isArrayOf_alike hZ.alike Ar104.2.1) Ar104.2.2 hin104 hat104 (g := (mkF m 5 (z6 a0 1) [.int 1, .ref fb])) rfl rfl (hb hby d35_5) _ ?_
  exact k
 refine OFin.go sg105 ?_
 exact OFin.retI X102 hx hret hlk (hb hby d35_6) (by rw [e102]; exact ⟨rfl, N0, rfl⟩) (by decide) (by decide)
theorem ef_35v2 (m : MethodId) (x0 : Addr) (x1 : Int32) : entryFrame m #[(.ref x0), (.int x1)] 2 = mkF m 0 #[.val (.ref x0), .val (.int x1)] [] := by first | (simp [entryFrame, mkF, argsToLocals, Value.category]; done) | rfl
def Q35v2 (Z : State) (a0 : Addr) (fb : Addr) (kf : ClassId) (f0 : Int32) (f1 : Int32) (f2 : Int32) (h0 : Heap) (n0 : Nat) (v : Option Value) (h : Heap) (L : List Loc) : Prop := v = some (.int f2) ∧ Fr n0 L ∧ h = h0
set_option maxHeartbeats 40000000 in
theorem rm35v2 (l : Launch) (Z : State) (aZ : Array Value) (hw : ∀ d ∈ tables_1, d.before aZ Z = true) (ws : List Jvm.Cond) (a0 : Addr) (fb : Addr) (kf : ClassId) (f0 : Int32) (f1 : Int32) (f2 : Int32) (h0 : Heap) (n0 : Nat) (Z0 : n0 ≤ h0.size) (G1 : Fld Z h0 a0 "org/counterpath/engine/Encoding" "_firstBits" "[I" (.ref fb)) (VF : Arv Z h0 fb kf .int (3 : Int32) [(.int f0), (.int f1), (.int f2)] (.int 0)) :
  MetFree l (⟨"org/counterpath/engine/Encoding", "firstBit", "(I)I"⟩ : MethodName) (head1 (Jvm.Cond.code (⟨"org/counterpath/engine/Encoding", "firstBit", "(I)I"⟩ : MethodName) prog_58_method_14_code 2 (some .int) :: ws) ({ frames := 0, cells := 0, slots := 0, locals := 0 } : Room)) (fun a U => a = #[.ref a0, .int 2] ∧ Z.Warmed39 U.vm ∧ U.heap = h0) (fun _ _ _ _ _ => True) (fun _ U o U' => ∃ v L, o = .returned v ∧ Q35v2 Z a0 fb kf f0 f1 f2 h0 n0 v U'.heap L ∧ FrameEnd U o U' L ({ frames := 0, cells := 0, slots := 0, locals := 0 } : Room).cells ({ frames := 0, cells := 0, slots := 0, locals := 0 } : Room).slots) := by
 refine MetFree.of_bodySF (plainFor_of_name pn_15) hisR ?_
 intro p e s m args below meth c s₁ Bd hml0 hP hK
 obtain ⟨rfl, hZ, hh⟩ := hP
 have hx := Bd.exec
 have hby := Bd.bytes
 have hret := Bd.returns
 have hlk : meth.locks = false := BodyLoose.notSynchronized Bd
 have hml : c.maxLocals = 2 := hml0
 have hown : s.vm.findClass "org/counterpath/engine/Encoding" = some m.cls := findClass_of_methodNamed Bd.named
 have hnm := (name_of_methodNamed Bd.named Bd.method).1
 have X0 : Stand p l e ({ frames := 0, cells := 0, slots := 0, locals := 0 } : Room) s m #[.ref a0, .int 2] below meth c s₁ [] 0 0 := Stand.of_body Bd
 have e0 : s₁.heap = h0 := by rw [← hh, Bd.state]; rfl
 have N0 := Fr.nil n0
 have K0 : Keep h0 h0 [] := Keep.refl _ _
 have pre0 : ∀ t, zs p e below s₁ m 0 (z6 a0 2) [] t → Steps p.tables e below (s₁.setTop (entryFrame m #[.ref a0, .int 2] 2)) t := fun t k => castTop (ef_35v2 m a0 (2 : Int32)) k
 show OFin p e below s (Q35v2 Z a0 fb kf f0 f1 f2 h0 n0) ({ frames := 0, cells := 0, slots := 0, locals := 0 } : Room).cells ({ frames := 0, cells := 0, slots := 0, locals := 0 } : Room).slots _
 refine OFin.go pre0 ?_
 have sg101 : zg p e below s₁ m 1 (z6 a0 2) [.ref a0] 0 (z6 a0 2) [] := by
  intro t k
  refine XS.aloadN X0.here hx rfl (hb hby d35_0) rfl rfl ?_
  exact k
 refine OFin.go sg101 ?_
 obtain ⟨T102, X102, e102, st102⟩ := getF X0 hx hZ hown (host := "") (Or.inl (zw hw 183 rfl)) Via.refl e0 G1 (g := (mkF m 1 (z6 a0 2) [.ref a0])) rfl rfl (hb hby d35_1)
 refine OFin.go st102 ?_
 have sg103 : zg p e below T102 m 5 (z6 a0 2) [.int 2, .ref fb] 4 (z6 a0 2) [.ref fb] := by
  intro t k
  refine XS.iloadN X102.here hx rfl (hb hby d35_4) rfl ?_
  exact k
 refine OFin.go sg103 ?_
 obtain ⟨cl104, Ar104, q104, S104, M104, H104, G104⟩ := id VF
 have hin104 : ¬ ((2 : Int32) < 0 ∨ cl104.slots.size ≤ ((2 : Int32)).toNatClampNeg) := inb_of S104 ⟨by decide, by decide⟩
 have hat104 : cl104.slots[((2 : Int32)).toNatClampNeg]? = some (.int f2) := H104.at hin104 rfl
 have sg105 : zg p e below T102 m 6 (z6 a0 2) [.int f2] 5 (z6 a0 2) [.int 2, .ref fb] := by
  intro t k
  refine X102.iaload hx (j := (2 : Int32)) (v := (.int f2)) (by rw [e102]; exact Ar104.1) (State.isArrayOf_alike hZ.alike Ar104.2.1) Ar104.2.2 hin104 hat104 (g := (mkF m 5 (z6 a0 2) [.int 2, .ref fb])) rfl rfl (hb hby d35_5) _ ?_
  exact k
 refine OFin.go sg105 ?_
 exact OFin.retI X102 hx hret hlk (hb hby d35_6) (by rw [e102]; exact ⟨rfl, N0, rfl⟩) (by decide) (by decide)
theorem ef_34v0 (m : MethodId) (x0 : Addr) (x1 : Addr) (x2 : Int32) (x3 : Int64) : entryFrame m #[(.ref x0), (.ref x1), (.int x2), (.long x3)] 8 = mkF m 0 #[.val (.ref x0), .val (.ref x1), .val (.int x2), .val (.long x3), .second, .unset, .unset, .unset] [] := by first | (simp [entryFrame, mkF, argsToLocals, Value.category]; done) | rfl
def Q34v0 (Z : State) (a0 : Addr) (a1 : Addr) (q3 : Int64) (fb : Addr) (kf : ClassId) (f0 : Int32) (f1 : Int32) (f2 : Int32) (cd : Addr) (kc : ClassId) (kb : ClassId) (ls : List Int32) (h0 : Heap) (n0 : Nat) (v : Option Value) (h : Heap) (L : List Loc) : Prop := v = none ∧ Fr n0 L ∧ Keep h0 h [a1] ∧ Arv Z h a1 kb .boolean (128 : Int32) ((own_hold q3 f0 (f1.toInt - f0.toInt).toNat f0 ls).map Value.int) (.int 0)
theorem d34_0 : decode prog_58_method_17_code 0 = .ok (.aload_n 0, 1) := by decide +kernel
theorem d34_1 : decode prog_58_method_17_code 1 = .ok (.getfield 47, 3) := by decide +kernel
theorem d34_4 : decode prog_58_method_17_code 4 = .ok (.iload_n 2, 1) := by decide +kernel
theorem d34_5 : decode prog_58_method_17_code 5 = .ok (.aaload, 1) := by decide +kernel
theorem d34_6 : decode prog_58_method_17_code 6 = .ok (.ifnonnull 7, 3) := by decide +kernel
theorem d34_9 : decode prog_58_method_17_code 9 = .ok (.lload_n 3, 1) := by decide +kernel
theorem d34_10 : decode prog_58_method_17_code 10 = .ok (.goto 12, 3) := by decide +kernel
theorem d34_13 : decode prog_58_method_17_code 13 = .ok (.aload_n 0, 1) := by decide +kernel
theorem d34_14 : decode prog_58_method_17_code 14 = .ok (.getfield 47, 3) := by decide +kernel
theorem d34_17 : decode prog_58_method_17_code 17 = .ok (.iload_n 2, 1) := by decide +kernel
theorem d34_18 : decode prog_58_method_17_code 18 = .ok (.aaload, 1) := by decide +kernel
theorem d34_19 : decode prog_58_method_17_code 19 = .ok (.lload_n 3, 1) := by decide +kernel
theorem d34_20 : decode prog_58_method_17_code 20 = .ok (.l2i, 1) := by decide +kernel
theorem d34_21 : decode prog_58_method_17_code 21 = .ok (.laload, 1) := by decide +kernel
theorem d34_22 : decode prog_58_method_17_code 22 = .ok (.lstore 5, 2) := by decide +kernel
theorem d34_24 : decode prog_58_method_17_code 24 = .ok (.aload_n 0, 1) := by decide +kernel
theorem d34_25 : decode prog_58_method_17_code 25 = .ok (.getfield 37, 3) := by decide +kernel
theorem d34_28 : decode prog_58_method_17_code 28 = .ok (.iload_n 2, 1) := by decide +kernel
theorem d34_29 : decode prog_58_method_17_code 29 = .ok (.iaload, 1) := by decide +kernel
theorem d34_30 : decode prog_58_method_17_code 30 = .ok (.istore 7, 2) := by decide +kernel
theorem d34_32 : decode prog_58_method_17_code 32 = .ok (.iload 7, 2) := by decide +kernel
theorem d34_34 : decode prog_58_method_17_code 34 = .ok (.aload_n 0, 1) := by decide +kernel
theorem d34_35 : decode prog_58_method_17_code 35 = .ok (.getfield 37, 3) := by decide +kernel
theorem d34_38 : decode prog_58_method_17_code 38 = .ok (.iload_n 2, 1) := by decide +kernel
theorem d34_39 : decode prog_58_method_17_code 39 = .ok (.iconst 1, 1) := by decide +kernel
theorem d34_40 : decode prog_58_method_17_code 40 = .ok (.iadd, 1) := by decide +kernel
theorem d34_41 : decode prog_58_method_17_code 41 = .ok (.iaload, 1) := by decide +kernel
theorem d34_42 : decode prog_58_method_17_code 42 = .ok (.if_icmp .ge 37, 3) := by decide +kernel
theorem d34_45 : decode prog_58_method_17_code 45 = .ok (.aload_n 1, 1) := by decide +kernel
theorem d34_46 : decode prog_58_method_17_code 46 = .ok (.iload 7, 2) := by decide +kernel
theorem d34_48 : decode prog_58_method_17_code 48 = .ok (.lload 5, 2) := by decide +kernel
theorem d34_50 : decode prog_58_method_17_code 50 = .ok (.iload 7, 2) := by decide +kernel
theorem d34_52 : decode prog_58_method_17_code 52 = .ok (.aload_n 0, 1) := by decide +kernel
theorem d34_53 : decode prog_58_method_17_code 53 = .ok (.getfield 37, 3) := by decide +kernel
theorem d34_56 : decode prog_58_method_17_code 56 = .ok (.iload_n 2, 1) := by decide +kernel
theorem d34_57 : decode prog_58_method_17_code 57 = .ok (.iaload, 1) := by decide +kernel
theorem d34_58 : decode prog_58_method_17_code 58 = .ok (.isub, 1) := by decide +kernel
theorem d34_59 : decode prog_58_method_17_code 59 = .ok (.lshr, 1) := by decide +kernel
theorem d34_60 : decode prog_58_method_17_code 60 = .ok (.lconst 1, 1) := by decide +kernel
theorem d34_61 : decode prog_58_method_17_code 61 = .ok (.land, 1) := by decide +kernel
theorem d34_62 : decode prog_58_method_17_code 62 = .ok (.lconst 0, 1) := by decide +kernel
theorem d34_63 : decode prog_58_method_17_code 63 = .ok (.lcmp, 1) := by decide +kernel
theorem d34_64 : decode prog_58_method_17_code 64 = .ok (.ifCond .eq 7, 3) := by decide +kernel
theorem d34_67 : decode prog_58_method_17_code 67 = .ok (.iconst 1, 1) := by decide +kernel
theorem d34_68 : decode prog_58_method_17_code 68 = .ok (.goto 4, 3) := by decide +kernel
theorem d34_71 : decode prog_58_method_17_code 71 = .ok (.iconst 0, 1) := by decide +kernel
theorem d34_72 : decode prog_58_method_17_code 72 = .ok (.bastore, 1) := by decide +kernel
theorem d34_73 : decode prog_58_method_17_code 73 = .ok (.iinc 7 1, 3) := by decide +kernel
theorem d34_76 : decode prog_58_method_17_code 76 = .ok (.goto (-44), 3) := by decide +kernel
theorem d34_79 : decode prog_58_method_17_code 79 = .ok (.return_, 1) := by decide +kernel
set_option maxHeartbeats 40000000 in
theorem pt34v0_32 {p : Program} {l : Launch} {e : Env} {s : State} {m : MethodId} {below : List Frame} {meth : Method} {c : Code} (Z : State) (aZ : Array Value) (hw : ∀ d ∈ tables_1, d.before aZ Z = true) (a0 : Addr) (a1 : Addr) (q3 : Int64) (fb : Addr) (kf : ClassId) (f0 : Int32) (f1 : Int32) (f2 : Int32) (cd : Addr) (kc : ClassId) (kb : ClassId) (ls : List Int32) (h0 : Heap) (n0 : Nat) (Z0 : n0 ≤ h0.size) (hl : ls.length = 128) (hf0 : 0 ≤ f0.toInt) (hle : f0.toInt ≤ f1.toInt) (h128 : f1.toInt ≤ 128) (hb0 : a0 ≠ a1) (hbf : fb ≠ a1) (g_a1 : n0 ≤ a1)
  (hx : p.tables.exec = Jvm.exec) (hZ : Z.Warmed39 s.vm) (hby : c.code = prog_58_method_17_code) (hml : c.maxLocals = 8) (hown : s.vm.findClass "org/counterpath/engine/Encoding" = some m.cls) (hnm : meth.name = "hold") (hret : meth.sig.returnType = none) (hlk : meth.locks = false) :
  ∀ (n9 : Nat) (T0 : State) (locs : List Loc) (i9 : Int32) (ls9 : List Int32) (hC : Heap) (X0 : Stand p l e ({ frames := 0, cells := 0, slots := 0, locals := 0 } : Room) s m #[.ref a0, .ref a1, .int 0, .long q3] below meth c T0 locs 0 0) (e0 : T0.heap = hC) (K0 : Keep h0 hC [a1]) (N0 : Fr n0 locs) (G1 : Fld Z hC a0 "org/counterpath/engine/Encoding" "_firstBits" "[I" (.ref fb)) (VF : Arv Z hC fb kf .int (3 : Int32) [.int f0, .int f1, .int f2] (.int 0)) (VB : Arv Z hC a1 kb .boolean (128 : Int32) (ls9.map Value.int) (.int 0)) (hlen : ls9.length = 128) (hi0 : 0 ≤ i9.toInt) (hie : i9.toInt + (n9 : Int) = f1.toInt) (hinv : own_hold q3 f0 n9 i9 ls9 = (own_hold q3 f0 (f1.toInt - f0.toInt).toNat f0 ls)), OFin p e below s (Q34v0 Z a0 a1 q3 fb kf f0 f1 f2 cd kc kb ls h0 n0) ({ frames := 0, cells := 0, slots := 0, locals := 0 } : Room).cells ({ frames := 0, cells := 0, slots := 0, locals := 0 } : Room).slots (T0.setTop (mkF m 32 (z5 a0 a1 0 q3 q3 i9) [])) := by
 intro n9
 induction n9 with
 | zero =>
  intro T0 locs i9 ls9 hC X0 e0 K0 N0 G1 VF VB hlen hi0 hie hinv
  have sg101 : zg p e below T0 m 35 (z5 a0 a1 0 q3 q3 i9) [.ref a0, .int i9] 32 (z5 a0 a1 0 q3 q3 i9) [] := by
   intro t k
   refine XS.iload X0.here hx rfl (hb hby d34_32) rfl ?_
   show zs p e below T0 m 34 (z5 a0 a1 0 q3 q3 i9) [.int i9] t
   refine XS.aloadN X0.here hx rfl (hb hby d34_34) rfl rfl ?_
   exact k
  refine OFin.go sg101 ?_
  obtain ⟨T102, X102, e102, st102⟩ := getF X0 hx hZ hown (host := "") (Or.inl (zw hw 183 rfl)) Via.refl e0 G1 (g := (mkF m 35 (z5 a0 a1 0 q3 q3 i9) [.ref a0, .int i9])) rfl rfl (hb hby d34_35)
  refine OFin.go st102 ?_
  have sg103 : zg p e below T102 m 41 (z5 a0 a1 0 q3 q3 i9) [.int 1, .ref fb, .int i9] 38 (z5 a0 a1 0 q3 q3 i9) [.ref fb, .int i9] := by
   intro t k
   refine XS.iloadN X102.here hx rfl (hb hby d34_38) rfl ?_
   show zs p e below T102 m 39 (z5 a0 a1 0 q3 q3 i9) [.int 0, .ref fb, .int i9] t
   refine XS.iconst X102.here hx rfl (hb hby d34_39) ?_
   show zs p e below T102 m 40 (z5 a0 a1 0 q3 q3 i9) [.int 1, .int 0, .ref fb, .int i9] t
   refine XS.iadd X102.here hx rfl (hb hby d34_40) rfl ?_
   exact k
  refine OFin.go sg103 ?_
  obtain ⟨cl104, Ar104, q104, S104, M104, H104, G104⟩ := id VF
  have hin104 : ¬ ((1 : Int32) < 0 ∨ cl104.slots.size ≤ ((1 : Int32)).toNatClampNeg) := inb_of S104 ⟨by decide, by decide⟩
  have hat104 : cl104.slots[((1 : Int32)).toNatClampNeg]? = some (.int f1) := H104.at hin104 rfl
  have sg106 : zg p e below T102 m 42 (z5 a0 a1 0 q3 q3 i9) [.int f1, .int i9] 41 (z5 a0 a1 0 q3 q3 i9) [.int 1, .ref fb, .int i9] := by
   intro t k
   refine X102.iaload hx (j := (1 : Int32)) (v := (.int f1)) (by rw [e102]; exact Ar104.1) (State.isArrayOf_alike hZ.alike Ar104.2.1) Ar104.2.2 hin104 hat104 (g := (mkF m 41 (z5 a0 a1 0 q3 q3 i9) [.int 1, .ref fb, .int i9])) rfl rfl (hb hby d34_41) _ ?_
   exact k
  refine OFin.go sg106 ?_
  have c105 : ¬ (i9 < f1) := (by rw [Int32.lt_iff_toInt_lt]; omega)
  have sg107 : zg p e below T102 m 79 (z5 a0 a1 0 q3 q3 i9) [] 42 (z5 a0 a1 0 q3 q3 i9) [.int f1, .int i9] := by
   intro t k
   refine XS.icmpYes X102.here hx rfl (pc0 := 42) (pc' := 79) rfl (hb hby d34_42) rfl (flt c105).2.1 (by decide) (by decide) ?_
   exact k
  refine OFin.go sg107 ?_
  have V108 : Arv Z hC a1 kb .boolean (128 : Int32) ((own_hold q3 f0 (f1.toInt - f0.toInt).toNat f0 ls).map Value.int) (.int 0) := by rw [← hinv]; exact VB
  exact OFin.retV X102 hx hret hlk (hb hby d34_79) (by rw [e102]; exact ⟨rfl, N0, K0, V108⟩) (by decide) (by decide)
 | succ n9 IH =>
  intro T0 locs i9 ls9 hC X0 e0 K0 N0 G1 VF VB hlen hi0 hie hinv
  have sg101 : zg p e below T0 m 35 (z5 a0 a1 0 q3 q3 i9) [.ref a0, .int i9] 32 (z5 a0 a1 0 q3 q3 i9) [] := by
   intro t k
   refine XS.iload X0.here hx rfl (hb hby d34_32) rfl ?_
   show zs p e below T0 m 34 (z5 a0 a1 0 q3 q3 i9) [.int i9] t
   refine XS.aloadN X0.here hx rfl (hb hby d34_34) rfl rfl ?_
   exact k
  refine OFin.go sg101 ?_
  obtain ⟨T102, X102, e102, st102⟩ := getF X0 hx hZ hown (host := "") (Or.inl (zw hw 183 rfl)) Via.refl e0 G1 (g := (mkF m 35 (z5 a0 a1 0 q3 q3 i9) [.ref a0, .int i9])) rfl rfl (hb hby d34_35)
  refine OFin.go st102 ?_
  have sg103 : zg p e below T102 m 41 (z5 a0 a1 0 q3 q3 i9) [.int 1, .ref fb, .int i9] 38 (z5 a0 a1 0 q3 q3 i9) [.ref fb, .int i9] := by
   intro t k
   refine XS.iloadN X102.here hx rfl (hb hby d34_38) rfl ?_
   show zs p e below T102 m 39 (z5 a0 a1 0 q3 q3 i9) [.int 0, .ref fb, .int i9] t
   refine XS.iconst X102.here hx rfl (hb hby d34_39) ?_
   show zs p e below T102 m 40 (z5 a0 a1 0 q3 q3 i9) [.int 1, .int 0, .ref fb, .int i9] t
   refine XS.iadd X102.here hx rfl (hb hby d34_40) rfl ?_
   exact k
  refine OFin.go sg103 ?_
  obtain ⟨cl104, Ar104, q104, S104, M104, H104, G104⟩ := id VF
  have hin104 : ¬ ((1 : Int32) < 0 ∨ cl104.slots.size ≤ ((1 : Int32)).toNatClampNeg) := inb_of S104 ⟨by decide, by decide⟩
  have hat104 : cl104.slots[((1 : Int32)).toNatClampNeg]? = some (.int f1) := H104.at hin104 rfl
  have sg106 : zg p e below T102 m 42 (z5 a0 a1 0 q3 q3 i9) [.int f1, .int i9] 41 (z5 a0 a1 0 q3 q3 i9) [.int 1, .ref fb, .int i9] := by
   intro t k
   refine X102.iaload hx (j := (1 : Int32)) (v := (.int f1)) (by rw [e102]; exact Ar104.1) (State.isArrayOf_alike hZ.alike Ar104.2.1) Ar104.2.2 hin104 hat104 (g := (mkF m 41 (z5 a0 a1 0 q3 q3 i9) [.int 1, .ref fb, .int i9])) rfl rfl (hb hby d34_41) _ ?_
   exact k
  refine OFin.go sg106 ?_
  have c105 : i9 < f1 := (by rw [Int32.lt_iff_toInt_lt]; omega)
  have sg107 : zg p e below T102 m 53 (z5 a0 a1 0 q3 q3 i9) [.ref a0, .int i9, .long q3, .int i9, .ref a1] 42 (z5 a0 a1 0 q3 q3 i9) [.int f1, .int i9] := by
   intro t k
   refine XS.icmpNo X102.here hx rfl (hb hby d34_42) rfl (tlt c105).2.1 ?_
   show zs p e below T102 m 45 (z5 a0 a1 0 q3 q3 i9) [] t
   refine XS.aloadN X102.here hx rfl (hb hby d34_45) rfl rfl ?_
   show zs p e below T102 m 46 (z5 a0 a1 0 q3 q3 i9) [.ref a1] t
   refine XS.iload X102.here hx rfl (hb hby d34_46) rfl ?_
   show zs p e below T102 m 48 (z5 a0 a1 0 q3 q3 i9) [.int i9, .ref a1] t
   refine XS.lload X102.here hx rfl (hb hby d34_48) rfl ?_
   show zs p e below T102 m 50 (z5 a0 a1 0 q3 q3 i9) [.long q3, .int i9, .ref a1] t
   refine XS.iload X102.here hx rfl (hb hby d34_50) rfl ?_
   show zs p e below T102 m 52 (z5 a0 a1 0 q3 q3 i9) [.int i9, .long q3, .int i9, .ref a1] t
   refine XS.aloadN X102.here hx rfl (hb hby d34_52) rfl rfl ?_
   exact k
  refine OFin.go sg107 ?_
  obtain ⟨T108, X108, e108, st108⟩ := getF X102 hx hZ hown (host := "") (Or.inl (zw hw 183 rfl)) Via.refl e102 G1 (g := (mkF m 53 (z5 a0 a1 0 q3 q3 i9) [.ref a0, .int i9, .long q3, .int i9, .ref a1])) rfl rfl (hb hby d34_53)
  refine OFin.go st108 ?_
  have sg109 : zg p e below T108 m 57 (z5 a0 a1 0 q3 q3 i9) [.int 0, .ref fb, .int i9, .long q3, .int i9, .ref a1] 56 (z5 a0 a1 0 q3 q3 i9) [.ref fb, .int i9, .long q3, .int i9, .ref a1] := by
   intro t k
   refine XS.iloadN X108.here hx rfl (hb hby d34_56) rfl ?_
   exact k
  refine OFin.go sg109 ?_
  obtain ⟨cl110, Ar110, q110, S110, M110, H110, G110⟩ := id VF
  have hin110 : ¬ ((0 : Int32) < 0 ∨ cl110.slots.size ≤ ((0 : Int32)).toNatClampNeg) := inb_of S110 ⟨by decide, by decide⟩
  have hat110 : cl110.slots[((0 : Int32)).toNatClampNeg]? = some (.int f0) := H110.at hin110 rfl
  have sg113 : zg p e below T108 m 64 (z5 a0 a1 0 q3 q3 i9) [.int (lcmpW ((q3 >>> ((i9 - f0) &&& 0x3f).toInt64) &&& (1 : Int64)) (0 : Int64)), .int i9, .ref a1] 57 (z5 a0 a1 0 q3 q3 i9) [.int 0, .ref fb, .int i9, .long q3, .int i9, .ref a1] := by
   intro t k
   refine X108.iaload hx (j := (0 : Int32)) (v := (.int f0)) (by rw [e108]; exact Ar110.1) (State.isArrayOf_alike hZ.alike Ar110.2.1) Ar110.2.2 hin110 hat110 (g := (mkF m 57 (z5 a0 a1 0 q3 q3 i9) [.int 0, .ref fb, .int i9, .long q3, .int i9, .ref a1])) rfl rfl (hb hby d34_57) _ ?_
   show zs p e below T108 m 58 (z5 a0 a1 0 q3 q3 i9) [.int f0, .int i9, .long q3, .int i9, .ref a1] t
   refine XS.isub X108.here hx rfl (hb hby d34_58) rfl ?_
   show zs p e below T108 m 59 (z5 a0 a1 0 q3 q3 i9) [.int (i9 - f0), .long q3, .int i9, .ref a1] t
   refine XS.lshr X108.here hx rfl (hb hby d34_59) rfl ?_
   show zs p e below T108 m 60 (z5 a0 a1 0 q3 q3 i9) [.long (q3 >>> ((i9 - f0) &&& 0x3f).toInt64), .int i9, .ref a1] t
   refine XS.lconst X108.here hx rfl (hb hby d34_60) ?_
   show zs p e below T108 m 61 (z5 a0 a1 0 q3 q3 i9) [.long 1, .long (q3 >>> ((i9 - f0) &&& 0x3f).toInt64), .int i9, .ref a1] t
   refine XS.land X108.here hx rfl (hb hby d34_61) rfl ?_
   show zs p e below T108 m 62 (z5 a0 a1 0 q3 q3 i9) [.long ((q3 >>> ((i9 - f0) &&& 0x3f).toInt64) &&& (1 : Int64)), .int i9, .ref a1] t
   refine XS.lconst X108.here hx rfl (hb hby d34_62) ?_
   show zs p e below T108 m 63 (z5 a0 a1 0 q3 q3 i9) [.long 0, .long ((q3 >>> ((i9 - f0) &&& 0x3f).toInt64) &&& (1 : Int64)), .int i9, .ref a1] t
   refine XS.lcmp X108.here hx rfl (hb hby d34_63) rfl ?_
   exact k
  refine OFin.go sg113 ?_
  obtain ⟨v112, e_v112⟩ : ∃ z : Int32, z = (if ((q3 >>> ((i9 - f0) &&& 0x3f).toInt64) &&& (1 : Int64)) = (0 : Int64) then (0 : Int32) else (1 : Int32)) := ⟨_, rfl⟩
  have sg114 : zg p e below T108 m 72 (z5 a0 a1 0 q3 q3 i9) [.int v112, .int i9, .ref a1] 64 (z5 a0 a1 0 q3 q3 i9) [.int (lcmpW ((q3 >>> ((i9 - f0) &&& 0x3f).toInt64) &&& (1 : Int64)) (0 : Int64)), .int i9, .ref a1] := by
   intro t k
   by_cases c111 : ((q3 >>> ((i9 - f0) &&& 0x3f).toInt64) &&& (1 : Int64)) = (0 : Int64)
   ·show zs p e below T108 m 64 (z5 a0 a1 0 q3 q3 i9) [.int (lcmpW ((q3 >>> ((i9 - f0) &&& 0x3f).toInt64) &&& (1 : Int64)) (0 : Int64)), .int i9, .ref a1] t
    refine XS.ifYes X108.here hx rfl (pc0 := 64) (pc' := 71) rfl (hb hby d34_64) rfl ((if0 _ _).trans (teq ((lw_eq _ _).mpr c111)).1) (by decide) (by decide) ?_
    show zs p e below T108 m 71 (z5 a0 a1 0 q3 q3 i9) [.int i9, .ref a1] t
    refine XS.iconst X108.here hx rfl (hb hby d34_71) ?_
    have e_v112' : v112 = (0 : Int32) := e_v112.trans (if_pos c111)
    rw [e_v112'] at k
    exact k
   ·show zs p e below T108 m 64 (z5 a0 a1 0 q3 q3 i9) [.int (lcmpW ((q3 >>> ((i9 - f0) &&& 0x3f).toInt64) &&& (1 : Int64)) (0 : Int64)), .int i9, .ref a1] t
    refine XS.ifNo X108.here hx rfl (hb hby d34_64) rfl ((if0 _ _).trans (feq (mt (lw_eq _ _).mp c111)).1) ?_
    show zs p e below T108 m 67 (z5 a0 a1 0 q3 q3 i9) [.int i9, .ref a1] t
    refine XS.iconst X108.here hx rfl (hb hby d34_67) ?_
    show zs p e below T108 m 68 (z5 a0 a1 0 q3 q3 i9) [.int 1, .int i9, .ref a1] t
    refine XS.goto X108.here hx rfl (pc0 := 68) (pc' := 72) rfl (hb hby d34_68) (by decide) (by decide) ?_
    have e_v112' : v112 = (1 : Int32) := e_v112.trans (if_neg c111)
    rw [e_v112'] at k
    exact k
  refine OFin.go sg114 ?_
  obtain ⟨cl115, Ar115, q115, S115, M115, H115, G115⟩ := id VB
  have hin115 : ¬ (i9 < 0 ∨ cl115.slots.size ≤ (i9).toNatClampNeg) := inb_of S115 (own_inb hi0 (by omega))
  obtain ⟨T115, h115, X115, e115, W115, st115⟩ := stZ X108 hx hZ e108 Ar115 (j := i9) hin115 (g := (mkF m 72 (z5 a0 a1 0 q3 q3 i9) [.int v112, .int i9, .ref a1])) rfl rfl (hb hby d34_72)
  refine OFin.go st115 ?_
  have V115 : Arv Z h115 a1 kb .boolean (128 : Int32) ((ls9.map Value.int).set i9.toNatClampNeg (.int (nar .boolean v112))) (.int 0) := Arv.set Ar115 q115 S115 M115 H115 G115 (fits_nar_bool _) W115 i9.toNatClampNeg rfl (own_clt hlen hi0 (by omega))
  have K115 : Keep h0 h115 [a1] := K0.wr W115 (Or.inl (List.mem_of_getElem? (i := 0) rfl))
  have N115 := Fr.snoc X115 N0 g_a1
  have V116 : Arv Z h115 a1 kb .boolean (128 : Int32) ((ls9.set i9.toNatClampNeg (own_bit q3 (i9 - f0))).map Value.int) (.int 0) := by rw [List.map_set, show own_bit q3 (i9 - f0) = nar .boolean v112 from (by rw [e_v112]; exact (own_narb _).symm)]; exact V115
  have sg117 : zg p e below T115 m 32 (z5 a0 a1 0 q3 q3 (i9 + (1 : Int32))) [] 73 (z5 a0 a1 0 q3 q3 i9) [] := by
   intro t k
   refine XS.iinc X115.here hx rfl (hb hby d34_73) rfl (l' := (z5 a0 a1 0 q3 q3 (i9 + (1 : Int32)))) rfl ?_
   show zs p e below T115 m 76 (z5 a0 a1 0 q3 q3 (i9 + (1 : Int32))) [] t
   refine XS.goto X115.here hx rfl (pc0 := 76) (pc' := 32) rfl (hb hby d34_76) (by decide) (by decide) ?_
   exact k
  refine OFin.go sg117 ?_
  exact IH _ _ (i9 + (1 : Int32)) (ls9.set i9.toNatClampNeg (own_bit q3 (i9 - f0))) h115 X115 e115 K115 N115 (G1.other W115 (Or.inl hb0)) (VF.other W115 hbf) V116 (by rw [List.length_set]; exact hlen) (by rw [own_inc hi0 (by omega)]; omega) (by rw [own_inc hi0 (by omega)]; omega) hinv
set_option maxHeartbeats 40000000 in
theorem rm34v0 (l : Launch) (Z : State) (aZ : Array Value) (hw : ∀ d ∈ tables_1, d.before aZ Z = true) (ws : List Jvm.Cond) (a0 : Addr) (a1 : Addr) (q3 : Int64) (fb : Addr) (kf : ClassId) (f0 : Int32) (f1 : Int32) (f2 : Int32) (cd : Addr) (kc : ClassId) (kb : ClassId) (ls : List Int32) (h0 : Heap) (n0 : Nat) (Z0 : n0 ≤ h0.size) (G1 : Fld Z h0 a0 "org/counterpath/engine/Encoding" "_firstBits" "[I" (.ref fb)) (VF : Arv Z h0 fb kf .int (3 : Int32) [(.int f0), (.int f1), (.int f2)] (.int 0)) (G3 : Fld Z h0 a0 "org/counterpath/engine/Encoding" "_codes" "[[J" (.ref cd)) (VC : Arv Z h0 cd kc (.array .long) (2 : Int32) [.null, .null] .null) (VB : Arv Z h0 a1 kb .boolean (128 : Int32) (ls.map Value.int) (.int 0)) (hl : ls.length = 128) (hf0 : 0 ≤ f0.toInt) (hle : f0.toInt ≤ f1.toInt) (h128 : f1.toInt ≤ 128) (hb0 : a0 ≠ a1) (hbf : fb ≠ a1) (g_a1 : n0 ≤ a1) :
  MetFree l (⟨"org/counterpath/engine/Encoding", "hold", "([ZIJ)V"⟩ : MethodName) (head1 (Jvm.Cond.code (⟨"org/counterpath/engine/Encoding", "hold", "([ZIJ)V"⟩ : MethodName) prog_58_method_17_code 8 none :: ws) ({ frames := 0, cells := 0, slots := 0, locals := 0 } : Room)) (fun a U => a = #[.ref a0, .ref a1, .int 0, .long q3] ∧ Z.Warmed39 U.vm ∧ U.heap = h0) (fun _ _ _ _ _ => True) (fun _ U o U' => ∃ v L, o = .returned v ∧ Q34v0 Z a0 a1 q3 fb kf f0 f1 f2 cd kc kb ls h0 n0 v U'.heap L ∧ FrameEnd U o U' L ({ frames := 0, cells := 0, slots := 0, locals := 0 } : Room).cells ({ frames := 0, cells := 0, slots := 0, locals := 0 } : Room).slots) := by
 refine MetFree.of_bodySF (plainFor_of_name pn_15) hisR ?_
 intro p e s m args below meth c s₁ Bd hml0 hP hK
 obtain ⟨rfl, hZ, hh⟩ := hP
 have hx := Bd.exec
 have hby := Bd.bytes
 have hret := Bd.returns
 have hlk : meth.locks = false := BodyLoose.notSynchronized Bd
 have hml : c.maxLocals = 8 := hml0
 have hown : s.vm.findClass "org/counterpath/engine/Encoding" = some m.cls := findClass_of_methodNamed Bd.named
 have hnm := (name_of_methodNamed Bd.named Bd.method).1
 have X0 : Stand p l e ({ frames := 0, cells := 0, slots := 0, locals := 0 } : Room) s m #[.ref a0, .ref a1, .int 0, .long q3] below meth c s₁ [] 0 0 := Stand.of_body Bd
 have e0 : s₁.heap = h0 := by rw [← hh, Bd.state]; rfl
 have N0 := Fr.nil n0
 have K0 : Keep h0 h0 [a1] := Keep.refl _ _
 have pre0 : ∀ t, zs p e below s₁ m 0 (z16 a0 a1 0 q3) [] t → Steps p.tables e below (s₁.setTop (entryFrame m #[.ref a0, .ref a1, .int 0, .long q3] 8)) t := fun t k => castTop (ef_34v0 m a0 a1 (0 : Int32) q3) k
 show OFin p e below s (Q34v0 Z a0 a1 q3 fb kf f0 f1 f2 cd kc kb ls h0 n0) ({ frames := 0, cells := 0, slots := 0, locals := 0 } : Room).cells ({ frames := 0, cells := 0, slots := 0, locals := 0 } : Room).slots _
 refine OFin.go pre0 ?_
 have sg101 : zg p e below s₁ m 1 (z16 a0 a1 0 q3) [.ref a0] 0 (z16 a0 a1 0 q3) [] := by
  intro t k
  refine XS.aloadN X0.here hx rfl (hb hby d34_0) rfl rfl ?_
  exact k
 refine OFin.go sg101 ?_
 obtain ⟨T102, X102, e102, st102⟩ := getF X0 hx hZ hown (host := "") (Or.inl (zw hw 190 rfl)) Via.refl e0 G3 (g := (mkF m 1 (z16 a0 a1 0 q3) [.ref a0])) rfl rfl (hb hby d34_1)
 refine OFin.go st102 ?_
 have sg103 : zg p e below T102 m 5 (z16 a0 a1 0 q3) [.int 0, .ref cd] 4 (z16 a0 a1 0 q3) [.ref cd] := by
  intro t k
  refine XS.iloadN X102.here hx rfl (hb hby d34_4) rfl ?_
  exact k
 refine OFin.go sg103 ?_
 obtain ⟨cl104, Ar104, q104, S104, M104, H104, G104⟩ := id VC
 have hin104 : ¬ ((0 : Int32) < 0 ∨ cl104.slots.size ≤ ((0 : Int32)).toNatClampNeg) := inb_of S104 ⟨by decide, by decide⟩
 have hat104 : cl104.slots[((0 : Int32)).toNatClampNeg]? = some .null := H104.at hin104 rfl
 have sg105 : zg p e below T102 m 25 (z25 a0 a1 0 q3 q3) [.ref a0] 5 (z16 a0 a1 0 q3) [.int 0, .ref cd] := by
  intro t k
  refine X102.aaload hx (j := (0 : Int32)) (v := .null) (by rw [e102]; exact Ar104.1) (State.isArrayOf_alike hZ.alike Ar104.2.1) rfl Ar104.2.2 hin104 hat104 (g := (mkF m 5 (z16 a0 a1 0 q3) [.int 0, .ref cd])) rfl rfl (hb hby d34_5) _ ?_
  show zs p e below T102 m 6 (z16 a0 a1 0 q3) [.null] t
  refine XS.ifnonnullNo X102.here hx rfl (hb hby d34_6) rfl ?_
  show zs p e below T102 m 9 (z16 a0 a1 0 q3) [] t
  refine XS.lloadN X102.here hx rfl (hb hby d34_9) rfl ?_
  show zs p e below T102 m 10 (z16 a0 a1 0 q3) [.long q3] t
  refine XS.goto X102.here hx rfl (pc0 := 10) (pc' := 22) rfl (hb hby d34_10) (by decide) (by decide) ?_
  show zs p e below T102 m 22 (z16 a0 a1 0 q3) [.long q3] t
  refine XS.lstore X102.here hx rfl (hb hby d34_22) rfl (l' := (z25 a0 a1 0 q3 q3)) rfl ?_
  show zs p e below T102 m 24 (z25 a0 a1 0 q3 q3) [] t
  refine XS.aloadN X102.here hx rfl (hb hby d34_24) rfl rfl ?_
  exact k
 refine OFin.go sg105 ?_
 obtain ⟨T106, X106, e106, st106⟩ := getF X102 hx hZ hown (host := "") (Or.inl (zw hw 183 rfl)) Via.refl e102 G1 (g := (mkF m 25 (z25 a0 a1 0 q3 q3) [.ref a0])) rfl rfl (hb hby d34_25)
 refine OFin.go st106 ?_
 have sg107 : zg p e below T106 m 29 (z25 a0 a1 0 q3 q3) [.int 0, .ref fb] 28 (z25 a0 a1 0 q3 q3) [.ref fb] := by
  intro t k
  refine XS.iloadN X106.here hx rfl (hb hby d34_28) rfl ?_
  exact k
 refine OFin.go sg107 ?_
 obtain ⟨cl108, Ar108, q108, S108, M108, H108, G108⟩ := id VF
 have hin108 : ¬ ((0 : Int32) < 0 ∨ cl108.slots.size ≤ ((0 : Int32)).toNatClampNeg) := inb_of S108 ⟨by decide, by decide⟩
 have hat108 : cl108.slots[((0 : Int32)).toNatClampNeg]? = some (.int f0) := H108.at hin108 rfl
 have sg109 : zg p e below T106 m 32 (z5 a0 a1 0 q3 q3 f0) [] 29 (z25 a0 a1 0 q3 q3) [.int 0, .ref fb] := by
  intro t k
  refine X106.iaload hx (j := (0 : Int32)) (v := (.int f0)) (by rw [e106]; exact Ar108.1) (State.isArrayOf_alike hZ.alike Ar108.2.1) Ar108.2.2 hin108 hat108 (g := (mkF m 29 (z25 a0 a1 0 q3 q3) [.int 0, .ref fb])) rfl rfl (hb hby d34_29) _ ?_
  show zs p e below T106 m 30 (z25 a0 a1 0 q3 q3) [.int f0] t
  refine XS.istore X106.here hx rfl (hb hby d34_30) rfl (l' := (z5 a0 a1 0 q3 q3 f0)) rfl ?_
  exact k
 refine OFin.go sg109 ?_
 exact pt34v0_32 Z aZ hw a0 a1 q3 fb kf f0 f1 f2 cd kc kb ls h0 n0 Z0 hl hf0 hle h128 hb0 hbf g_a1 hx hZ hby hml hown hnm hret hlk (f1.toInt - f0.toInt).toNat _ _ f0 ls h0 X106 e106 K0 N0 G1 VF VB hl hf0 (by omega) rfl
theorem ef_34v1 (m : MethodId) (x0 : Addr) (x1 : Addr) (x2 : Int32) (x3 : Int64) : entryFrame m #[(.ref x0), (.ref x1), (.int x2), (.long x3)] 8 = mkF m 0 #[.val (.ref x0), .val (.ref x1), .val (.int x2), .val (.long x3), .second, .unset, .unset, .unset] [] := by first | (simp [entryFrame, mkF, argsToLocals, Value.category]; done) | rfl
def Q34v1 (Z : State) (a0 : Addr) (a1 : Addr) (q3 : Int64) (fb : Addr) (kf : ClassId) (f0 : Int32) (f1 : Int32) (f2 : Int32) (cd : Addr) (kc : ClassId) (kb : ClassId) (ls : List Int32) (h0 : Heap) (n0 : Nat) (v : Option Value) (h : Heap) (L : List Loc) : Prop := v = none ∧ Fr n0 L ∧ Keep h0 h [a1] ∧ Arv Z h a1 kb .boolean (128 : Int32) ((own_hold q3 f1 (f2.toInt - f1.toInt).toNat f1 ls).map Value.int) (.int 0)
set_option maxHeartbeats 40000000 in
theorem pt34v1_32 {p : Program} {l : Launch} {e : Env} {s : State} {m : MethodId} {below : List Frame} {meth : Method} {c : Code} (Z : State) (aZ : Array Value) (hw : ∀ d ∈ tables_1, d.before aZ Z = true) (a0 : Addr) (a1 : Addr) (q3 : Int64) (fb : Addr) (kf : ClassId) (f0 : Int32) (f1 : Int32) (f2 : Int32) (cd : Addr) (kc : ClassId) (kb : ClassId) (ls : List Int32) (h0 : Heap) (n0 : Nat) (Z0 : n0 ≤ h0.size) (hl : ls.length = 128) (hf0 : 0 ≤ f1.toInt) (hle : f1.toInt ≤ f2.toInt) (h128 : f2.toInt ≤ 128) (hb0 : a0 ≠ a1) (hbf : fb ≠ a1) (g_a1 : n0 ≤ a1)
  (hx : p.tables.exec = Jvm.exec) (hZ : Z.Warmed39 s.vm) (hby : c.code = prog_58_method_17_code) (hml : c.maxLocals = 8) (hown : s.vm.findClass "org/counterpath/engine/Encoding" = some m.cls) (hnm : meth.name = "hold") (hret : meth.sig.returnType = none) (hlk : meth.locks = false) :
  ∀ (n9 : Nat) (T0 : State) (locs : List Loc) (i9 : Int32) (ls9 : List Int32) (hC : Heap) (X0 : Stand p l e ({ frames := 0, cells := 0, slots := 0, locals := 0 } : Room) s m #[.ref a0, .ref a1, .int 1, .long q3] below meth c T0 locs 0 0) (e0 : T0.heap = hC) (K0 : Keep h0 hC [a1]) (N0 : Fr n0 locs) (G1 : Fld Z hC a0 "org/counterpath/engine/Encoding" "_firstBits" "[I" (.ref fb)) (VF : Arv Z hC fb kf .int (3 : Int32) [.int f0, .int f1, .int f2] (.int 0)) (VB : Arv Z hC a1 kb .boolean (128 : Int32) (ls9.map Value.int) (.int 0)) (hlen : ls9.length = 128) (hi0 : 0 ≤ i9.toInt) (hie : i9.toInt + (n9 : Int) = f2.toInt) (hinv : own_hold q3 f1 n9 i9 ls9 = (own_hold q3 f1 (f2.toInt - f1.toInt).toNat f1 ls)), OFin p e below s (Q34v1 Z a0 a1 q3 fb kf f0 f1 f2 cd kc kb ls h0 n0) ({ frames := 0, cells := 0, slots := 0, locals := 0 } : Room).cells ({ frames := 0, cells := 0, slots := 0, locals := 0 } : Room).slots (T0.setTop (mkF m 32 (z5 a0 a1 1 q3 q3 i9) [])) := by
 intro n9
 induction n9 with
 | zero =>
  intro T0 locs i9 ls9 hC X0 e0 K0 N0 G1 VF VB hlen hi0 hie hinv
  have sg101 : zg p e below T0 m 35 (z5 a0 a1 1 q3 q3 i9) [.ref a0, .int i9] 32 (z5 a0 a1 1 q3 q3 i9) [] := by
   intro t k
   refine XS.iload X0.here hx rfl (hb hby d34_32) rfl ?_
   show zs p e below T0 m 34 (z5 a0 a1 1 q3 q3 i9) [.int i9] t
   refine XS.aloadN X0.here hx rfl (hb hby d34_34) rfl rfl ?_
   exact k
  refine OFin.go sg101 ?_
  obtain ⟨T102, X102, e102, st102⟩ := getF X0 hx hZ hown (host := "") (Or.inl (zw hw 183 rfl)) Via.refl e0 G1 (g := (mkF m 35 (z5 a0 a1 1 q3 q3 i9) [.ref a0, .int i9])) rfl rfl (hb hby d34_35)
  refine OFin.go st102 ?_
  have sg103 : zg p e below T102 m 41 (z5 a0 a1 1 q3 q3 i9) [.int 2, .ref fb, .int i9] 38 (z5 a0 a1 1 q3 q3 i9) [.ref fb, .int i9] := by
   intro t k
   refine XS.iloadN X102.here hx rfl (hb hby d34_38) rfl ?_
   show zs p e below T102 m 39 (z5 a0 a1 1 q3 q3 i9) [.int 1, .ref fb, .int i9] t
   refine XS.iconst X102.here hx rfl (hb hby d34_39) ?_
   show zs p e below T102 m 40 (z5 a0 a1 1 q3 q3 i9) [.int 1, .int 1, .ref fb, .int i9] t
   refine XS.iadd X102.here hx rfl (hb hby d34_40) rfl ?_
   exact k
  refine OFin.go sg103 ?_
  obtain ⟨cl104, Ar104, q104, S104, M104, H104, G104⟩ := id VF
  have hin104 : ¬ ((2 : Int32) < 0 ∨ cl104.slots.size ≤ ((2 : Int32)).toNatClampNeg) := inb_of S104 ⟨by decide, by decide⟩
  have hat104 : cl104.slots[((2 : Int32)).toNatClampNeg]? = some (.int f2) := H104.at hin104 rfl
  have sg106 : zg p e below T102 m 42 (z5 a0 a1 1 q3 q3 i9) [.int f2, .int i9] 41 (z5 a0 a1 1 q3 q3 i9) [.int 2, .ref fb, .int i9] := by
   intro t k
   refine X102.iaload hx (j := (2 : Int32)) (v := (.int f2)) (by rw [e102]; exact Ar104.1) (State.isArrayOf_alike hZ.alike Ar104.2.1) Ar104.2.2 hin104 hat104 (g := (mkF m 41 (z5 a0 a1 1 q3 q3 i9) [.int 2, .ref fb, .int i9])) rfl rfl (hb hby d34_41) _ ?_
   exact k
  refine OFin.go sg106 ?_
  have c105 : ¬ (i9 < f2) := (by rw [Int32.lt_iff_toInt_lt]; omega)
  have sg107 : zg p e below T102 m 79 (z5 a0 a1 1 q3 q3 i9) [] 42 (z5 a0 a1 1 q3 q3 i9) [.int f2, .int i9] := by
   intro t k
   refine XS.icmpYes X102.here hx rfl (pc0 := 42) (pc' := 79) rfl (hb hby d34_42) rfl (flt c105).2.1 (by decide) (by decide) ?_
   exact k
  refine OFin.go sg107 ?_
  have V108 : Arv Z hC a1 kb .boolean (128 : Int32) ((own_hold q3 f1 (f2.toInt - f1.toInt).toNat f1 ls).map Value.int) (.int 0) := by rw [← hinv]; exact VB
  exact OFin.retV X102 hx hret hlk (hb hby d34_79) (by rw [e102]; exact ⟨rfl, N0, K0, V108⟩) (by decide) (by decide)
 | succ n9 IH =>
  intro T0 locs i9 ls9 hC X0 e0 K0 N0 G1 VF VB hlen hi0 hie hinv
  have sg101 : zg p e below T0 m 35 (z5 a0 a1 1 q3 q3 i9) [.ref a0, .int i9] 32 (z5 a0 a1 1 q3 q3 i9) [] := by
   intro t k
   refine XS.iload X0.here hx rfl (hb hby d34_32) rfl ?_
   show zs p e below T0 m 34 (z5 a0 a1 1 q3 q3 i9) [.int i9] t
   refine XS.aloadN X0.here hx rfl (hb hby d34_34) rfl rfl ?_
   exact k
  refine OFin.go sg101 ?_
  obtain ⟨T102, X102, e102, st102⟩ := getF X0 hx hZ hown (host := "") (Or.inl (zw hw 183 rfl)) Via.refl e0 G1 (g := (mkF m 35 (z5 a0 a1 1 q3 q3 i9) [.ref a0, .int i9])) rfl rfl (hb hby d34_35)
  refine OFin.go st102 ?_
  have sg103 : zg p e below T102 m 41 (z5 a0 a1 1 q3 q3 i9) [.int 2, .ref fb, .int i9] 38 (z5 a0 a1 1 q3 q3 i9) [.ref fb, .int i9] := by
   intro t k
   refine XS.iloadN X102.here hx rfl (hb hby d34_38) rfl ?_
   show zs p e below T102 m 39 (z5 a0 a1 1 q3 q3 i9) [.int 1, .ref fb, .int i9] t
   refine XS.iconst X102.here hx rfl (hb hby d34_39) ?_
   show zs p e below T102 m 40 (z5 a0 a1 1 q3 q3 i9) [.int 1, .int 1, .ref fb, .int i9] t
   refine XS.iadd X102.here hx rfl (hb hby d34_40) rfl ?_
   exact k
  refine OFin.go sg103 ?_
  obtain ⟨cl104, Ar104, q104, S104, M104, H104, G104⟩ := id VF
  have hin104 : ¬ ((2 : Int32) < 0 ∨ cl104.slots.size ≤ ((2 : Int32)).toNatClampNeg) := inb_of S104 ⟨by decide, by decide⟩
  have hat104 : cl104.slots[((2 : Int32)).toNatClampNeg]? = some (.int f2) := H104.at hin104 rfl
  have sg106 : zg p e below T102 m 42 (z5 a0 a1 1 q3 q3 i9) [.int f2, .int i9] 41 (z5 a0 a1 1 q3 q3 i9) [.int 2, .ref fb, .int i9] := by
   intro t k
   refine X102.iaload hx (j := (2 : Int32)) (v := (.int f2)) (by rw [e102]; exact Ar104.1) (State.isArrayOf_alike hZ.alike Ar104.2.1) Ar104.2.2 hin104 hat104 (g := (mkF m 41 (z5 a0 a1 1 q3 q3 i9) [.int 2, .ref fb, .int i9])) rfl rfl (hb hby d34_41) _ ?_
   exact k
  refine OFin.go sg106 ?_
  have c105 : i9 < f2 := (by rw [Int32.lt_iff_toInt_lt]; omega)
  have sg107 : zg p e below T102 m 53 (z5 a0 a1 1 q3 q3 i9) [.ref a0, .int i9, .long q3, .int i9, .ref a1] 42 (z5 a0 a1 1 q3 q3 i9) [.int f2, .int i9] := by
   intro t k
   refine XS.icmpNo X102.here hx rfl (hb hby d34_42) rfl (tlt c105).2.1 ?_
   show zs p e below T102 m 45 (z5 a0 a1 1 q3 q3 i9) [] t
   refine XS.aloadN X102.here hx rfl (hb hby d34_45) rfl rfl ?_
   show zs p e below T102 m 46 (z5 a0 a1 1 q3 q3 i9) [.ref a1] t
   refine XS.iload X102.here hx rfl (hb hby d34_46) rfl ?_
   show zs p e below T102 m 48 (z5 a0 a1 1 q3 q3 i9) [.int i9, .ref a1] t
   refine XS.lload X102.here hx rfl (hb hby d34_48) rfl ?_
   show zs p e below T102 m 50 (z5 a0 a1 1 q3 q3 i9) [.long q3, .int i9, .ref a1] t
   refine XS.iload X102.here hx rfl (hb hby d34_50) rfl ?_
   show zs p e below T102 m 52 (z5 a0 a1 1 q3 q3 i9) [.int i9, .long q3, .int i9, .ref a1] t
   refine XS.aloadN X102.here hx rfl (hb hby d34_52) rfl rfl ?_
   exact k
  refine OFin.go sg107 ?_
  obtain ⟨T108, X108, e108, st108⟩ := getF X102 hx hZ hown (host := "") (Or.inl (zw hw 183 rfl)) Via.refl e102 G1 (g := (mkF m 53 (z5 a0 a1 1 q3 q3 i9) [.ref a0, .int i9, .long q3, .int i9, .ref a1])) rfl rfl (hb hby d34_53)
  refine OFin.go st108 ?_
  have sg109 : zg p e below T108 m 57 (z5 a0 a1 1 q3 q3 i9) [.int 1, .ref fb, .int i9, .long q3, .int i9, .ref a1] 56 (z5 a0 a1 1 q3 q3 i9) [.ref fb, .int i9, .long q3, .int i9, .ref a1] := by
   intro t k
   refine XS.iloadN X108.here hx rfl (hb hby d34_56) rfl ?_
   exact k
  refine OFin.go sg109 ?_
  obtain ⟨cl110, Ar110, q110, S110, M110, H110, G110⟩ := id VF
  have hin110 : ¬ ((1 : Int32) < 0 ∨ cl110.slots.size ≤ ((1 : Int32)).toNatClampNeg) := inb_of S110 ⟨by decide, by decide⟩
  have hat110 : cl110.slots[((1 : Int32)).toNatClampNeg]? = some (.int f1) := H110.at hin110 rfl
  have sg113 : zg p e below T108 m 64 (z5 a0 a1 1 q3 q3 i9) [.int (lcmpW ((q3 >>> ((i9 - f1) &&& 0x3f).toInt64) &&& (1 : Int64)) (0 : Int64)), .int i9, .ref a1] 57 (z5 a0 a1 1 q3 q3 i9) [.int 1, .ref fb, .int i9, .long q3, .int i9, .ref a1] := by
   intro t k
   refine X108.iaload hx (j := (1 : Int32)) (v := (.int f1)) (by rw [e108]; exact Ar110.1) (State.isArrayOf_alike hZ.alike Ar110.2.1) Ar110.2.2 hin110 hat110 (g := (mkF m 57 (z5 a0 a1 1 q3 q3 i9) [.int 1, .ref fb, .int i9, .long q3, .int i9, .ref a1])) rfl rfl (hb hby d34_57) _ ?_
   show zs p e below T108 m 58 (z5 a0 a1 1 q3 q3 i9) [.int f1, .int i9, .long q3, .int i9, .ref a1] t
   refine XS.isub X108.here hx rfl (hb hby d34_58) rfl ?_
   show zs p e below T108 m 59 (z5 a0 a1 1 q3 q3 i9) [.int (i9 - f1), .long q3, .int i9, .ref a1] t
   refine XS.lshr X108.here hx rfl (hb hby d34_59) rfl ?_
   show zs p e below T108 m 60 (z5 a0 a1 1 q3 q3 i9) [.long (q3 >>> ((i9 - f1) &&& 0x3f).toInt64), .int i9, .ref a1] t
   refine XS.lconst X108.here hx rfl (hb hby d34_60) ?_
   show zs p e below T108 m 61 (z5 a0 a1 1 q3 q3 i9) [.long 1, .long (q3 >>> ((i9 - f1) &&& 0x3f).toInt64), .int i9, .ref a1] t
   refine XS.land X108.here hx rfl (hb hby d34_61) rfl ?_
   show zs p e below T108 m 62 (z5 a0 a1 1 q3 q3 i9) [.long ((q3 >>> ((i9 - f1) &&& 0x3f).toInt64) &&& (1 : Int64)), .int i9, .ref a1] t
   refine XS.lconst X108.here hx rfl (hb hby d34_62) ?_
   show zs p e below T108 m 63 (z5 a0 a1 1 q3 q3 i9) [.long 0, .long ((q3 >>> ((i9 - f1) &&& 0x3f).toInt64) &&& (1 : Int64)), .int i9, .ref a1] t
   refine XS.lcmp X108.here hx rfl (hb hby d34_63) rfl ?_
   exact k
  refine OFin.go sg113 ?_
  obtain ⟨v112, e_v112⟩ : ∃ z : Int32, z = (if ((q3 >>> ((i9 - f1) &&& 0x3f).toInt64) &&& (1 : Int64)) = (0 : Int64) then (0 : Int32) else (1 : Int32)) := ⟨_, rfl⟩
  have sg114 : zg p e below T108 m 72 (z5 a0 a1 1 q3 q3 i9) [.int v112, .int i9, .ref a1] 64 (z5 a0 a1 1 q3 q3 i9) [.int (lcmpW ((q3 >>> ((i9 - f1) &&& 0x3f).toInt64) &&& (1 : Int64)) (0 : Int64)), .int i9, .ref a1] := by
   intro t k
   by_cases c111 : ((q3 >>> ((i9 - f1) &&& 0x3f).toInt64) &&& (1 : Int64)) = (0 : Int64)
   ·show zs p e below T108 m 64 (z5 a0 a1 1 q3 q3 i9) [.int (lcmpW ((q3 >>> ((i9 - f1) &&& 0x3f).toInt64) &&& (1 : Int64)) (0 : Int64)), .int i9, .ref a1] t
    refine XS.ifYes X108.here hx rfl (pc0 := 64) (pc' := 71) rfl (hb hby d34_64) rfl ((if0 _ _).trans (teq ((lw_eq _ _).mpr c111)).1) (by decide) (by decide) ?_
    show zs p e below T108 m 71 (z5 a0 a1 1 q3 q3 i9) [.int i9, .ref a1] t
    refine XS.iconst X108.here hx rfl (hb hby d34_71) ?_
    have e_v112' : v112 = (0 : Int32) := e_v112.trans (if_pos c111)
    rw [e_v112'] at k
    exact k
   ·show zs p e below T108 m 64 (z5 a0 a1 1 q3 q3 i9) [.int (lcmpW ((q3 >>> ((i9 - f1) &&& 0x3f).toInt64) &&& (1 : Int64)) (0 : Int64)), .int i9, .ref a1] t
    refine XS.ifNo X108.here hx rfl (hb hby d34_64) rfl ((if0 _ _).trans (feq (mt (lw_eq _ _).mp c111)).1) ?_
    show zs p e below T108 m 67 (z5 a0 a1 1 q3 q3 i9) [.int i9, .ref a1] t
    refine XS.iconst X108.here hx rfl (hb hby d34_67) ?_
    show zs p e below T108 m 68 (z5 a0 a1 1 q3 q3 i9) [.int 1, .int i9, .ref a1] t
    refine XS.goto X108.here hx rfl (pc0 := 68) (pc' := 72) rfl (hb hby d34_68) (by decide) (by decide) ?_
    have e_v112' : v112 = (1 : Int32) := e_v112.trans (if_neg c111)
    rw [e_v112'] at k
    exact k
  refine OFin.go sg114 ?_
  obtain ⟨cl115, Ar115, q115, S115, M115, H115, G115⟩ := id VB
  have hin115 : ¬ (i9 < 0 ∨ cl115.slots.size ≤ (i9).toNatClampNeg) := inb_of S115 (own_inb hi0 (by omega))
  obtain ⟨T115, h115, X115, e115, W115, st115⟩ := stZ X108 hx hZ e108 Ar115 (j := i9) hin115 (g := (mkF m 72 (z5 a0 a1 1 q3 q3 i9) [.int v112, .int i9, .ref a1])) rfl rfl (hb hby d34_72)
  refine OFin.go st115 ?_
  have V115 : Arv Z h115 a1 kb .boolean (128 : Int32) ((ls9.map Value.int).set i9.toNatClampNeg (.int (nar .boolean v112))) (.int 0) := Arv.set Ar115 q115 S115 M115 H115 G115 (fits_nar_bool _) W115 i9.toNatClampNeg rfl (own_clt hlen hi0 (by omega))
  have K115 : Keep h0 h115 [a1] := K0.wr W115 (Or.inl (List.mem_of_getElem? (i := 0) rfl))
  have N115 := Fr.snoc X115 N0 g_a1
  have V116 : Arv Z h115 a1 kb .boolean (128 : Int32) ((ls9.set i9.toNatClampNeg (own_bit q3 (i9 - f1))).map Value.int) (.int 0) := by rw [List.map_set, show own_bit q3 (i9 - f1) = nar .boolean v112 from (by rw [e_v112]; exact (own_narb _).symm)]; exact V115
  have sg117 : zg p e below T115 m 32 (z5 a0 a1 1 q3 q3 (i9 + (1 : Int32))) [] 73 (z5 a0 a1 1 q3 q3 i9) [] := by
   intro t k
   refine XS.iinc X115.here hx rfl (hb hby d34_73) rfl (l' := (z5 a0 a1 1 q3 q3 (i9 + (1 : Int32)))) rfl ?_
   show zs p e below T115 m 76 (z5 a0 a1 1 q3 q3 (i9 + (1 : Int32))) [] t
   refine XS.goto X115.here hx rfl (pc0 := 76) (pc' := 32) rfl (hb hby d34_76) (by decide) (by decide) ?_
   exact k
  refine OFin.go sg117 ?_
  exact IH _ _ (i9 + (1 : Int32)) (ls9.set i9.toNatClampNeg (own_bit q3 (i9 - f1))) h115 X115 e115 K115 N115 (G1.other W115 (Or.inl hb0)) (VF.other W115 hbf) V116 (by rw [List.length_set]; exact hlen) (by rw [own_inc hi0 (by omega)]; omega) (by rw [own_inc hi0 (by omega)]; omega) hinv
set_option maxHeartbeats 40000000 in
theorem rm34v1 (l : Launch) (Z : State) (aZ : Array Value) (hw : ∀ d ∈ tables_1, d.before aZ Z = true) (ws : List Jvm.Cond) (a0 : Addr) (a1 : Addr) (q3 : Int64) (fb : Addr) (kf : ClassId) (f0 : Int32) (f1 : Int32) (f2 : Int32) (cd : Addr) (kc : ClassId) (kb : ClassId) (ls : List Int32) (h0 : Heap) (n0 : Nat) (Z0 : n0 ≤ h0.size) (G1 : Fld Z h0 a0 "org/counterpath/engine/Encoding" "_firstBits" "[I" (.ref fb)) (VF : Arv Z h0 fb kf .int (3 : Int32) [(.int f0), (.int f1), (.int f2)] (.int 0)) (G3 : Fld Z h0 a0 "org/counterpath/engine/Encoding" "_codes" "[[J" (.ref cd)) (VC : Arv Z h0 cd kc (.array .long) (2 : Int32) [.null, .null] .null) (VB : Arv Z h0 a1 kb .boolean (128 : Int32) (ls.map Value.int) (.int 0)) (hl : ls.length = 128) (hf0 : 0 ≤ f1.toInt) (hle : f1.toInt ≤ f2.toInt) (h128 : f2.toInt ≤ 128) (hb0 : a0 ≠ a1) (hbf : fb ≠ a1) (g_a1 : n0 ≤ a1) :
  MetFree l (⟨"org/counterpath/engine/Encoding", "hold", "([ZIJ)V"⟩ : MethodName) (head1 (Jvm.Cond.code (⟨"org/counterpath/engine/Encoding", "hold", "([ZIJ)V"⟩ : MethodName) prog_58_method_17_code 8 none :: ws) ({ frames := 0, cells := 0, slots := 0, locals := 0 } : Room)) (fun a U => a = #[.ref a0, .ref a1, .int 1, .long q3] ∧ Z.Warmed39 U.vm ∧ U.heap = h0) (fun _ _ _ _ _ => True) (fun _ U o U' => ∃ v L, o = .returned v ∧ Q34v1 Z a0 a1 q3 fb kf f0 f1 f2 cd kc kb ls h0 n0 v U'.heap L ∧ FrameEnd U o U' L ({ frames := 0, cells := 0, slots := 0, locals := 0 } : Room).cells ({ frames := 0, cells := 0, slots := 0, locals := 0 } : Room).slots) := by
 refine MetFree.of_bodySF (plainFor_of_name pn_15) hisR ?_
 intro p e s m args below meth c s₁ Bd hml0 hP hK
 obtain ⟨rfl, hZ, hh⟩ := hP
 have hx := Bd.exec
 have hby := Bd.bytes
 have hret := Bd.returns
 have hlk : meth.locks = false := BodyLoose.notSynchronized Bd
 have hml : c.maxLocals = 8 := hml0
 have hown : s.vm.findClass "org/counterpath/engine/Encoding" = some m.cls := findClass_of_methodNamed Bd.named
 have hnm := (name_of_methodNamed Bd.named Bd.method).1
 have X0 : Stand p l e ({ frames := 0, cells := 0, slots := 0, locals := 0 } : Room) s m #[.ref a0, .ref a1, .int 1, .long q3] below meth c s₁ [] 0 0 := Stand.of_body Bd
 have e0 : s₁.heap = h0 := by rw [← hh, Bd.state]; rfl
 have N0 := Fr.nil n0
 have K0 : Keep h0 h0 [a1] := Keep.refl _ _
 have pre0 : ∀ t, zs p e below s₁ m 0 (z16 a0 a1 1 q3) [] t → Steps p.tables e below (s₁.setTop (entryFrame m #[.ref a0, .ref a1, .int 1, .long q3] 8)) t := fun t k => castTop (ef_34v1 m a0 a1 (1 : Int32) q3) k
 show OFin p e below s (Q34v1 Z a0 a1 q3 fb kf f0 f1 f2 cd kc kb ls h0 n0) ({ frames := 0, cells := 0, slots := 0, locals := 0 } : Room).cells ({ frames := 0, cells := 0, slots := 0, locals := 0 } : Room).slots _
 refine OFin.go pre0 ?_
 have sg101 : zg p e below s₁ m 1 (z16 a0 a1 1 q3) [.ref a0] 0 (z16 a0 a1 1 q3) [] := by
  intro t k
  refine XS.aloadN X0.here hx rfl (hb hby d34_0) rfl rfl ?_
  exact k
 refine OFin.go sg101 ?_
 obtain ⟨T102, X102, e102, st102⟩ := getF X0 hx hZ hown (host := "") (Or.inl (zw hw 190 rfl)) Via.refl e0 G3 (g := (mkF m 1 (z16 a0 a1 1 q3) [.ref a0])) rfl rfl (hb hby d34_1)
 refine OFin.go st102 ?_
 have sg103 : zg p e below T102 m 5 (z16 a0 a1 1 q3) [.int 1, .ref cd] 4 (z16 a0 a1 1 q3) [.ref cd] := by
  intro t k
  refine XS.iloadN X102.here hx rfl (hb hby d34_4) rfl ?_
  exact k
 refine OFin.go sg103 ?_
 obtain ⟨cl104, Ar104, q104, S104, M104, H104, G104⟩ := id VC
 have hin104 : ¬ ((1 : Int32) < 0 ∨ cl104.slots.size ≤ ((1 : Int32)).toNatClampNeg) := inb_of S104 ⟨by decide, by decide⟩
 have hat104 : cl104.slots[((1 : Int32)).toNatClampNeg]? = some .null := H104.at hin104 rfl
 have sg105 : zg p e below T102 m 25 (z25 a0 a1 1 q3 q3) [.ref a0] 5 (z16 a0 a1 1 q3) [.int 1, .ref cd] := by
  intro t k
  refine X102.aaload hx (j := (1 : Int32)) (v := .null) (by rw [e102]; exact Ar104.1) (State.isArrayOf_alike hZ.alike Ar104.2.1) rfl Ar104.2.2 hin104 hat104 (g := (mkF m 5 (z16 a0 a1 1 q3) [.int 1, .ref cd])) rfl rfl (hb hby d34_5) _ ?_
  show zs p e below T102 m 6 (z16 a0 a1 1 q3) [.null] t
  refine XS.ifnonnullNo X102.here hx rfl (hb hby d34_6) rfl ?_
  show zs p e below T102 m 9 (z16 a0 a1 1 q3) [] t
  refine XS.lloadN X102.here hx rfl (hb hby d34_9) rfl ?_
  show zs p e below T102 m 10 (z16 a0 a1 1 q3) [.long q3] t
  refine XS.goto X102.here hx rfl (pc0 := 10) (pc' := 22) rfl (hb hby d34_10) (by decide) (by decide) ?_
  show zs p e below T102 m 22 (z16 a0 a1 1 q3) [.long q3] t
  refine XS.lstore X102.here hx rfl (hb hby d34_22) rfl (l' := (z25 a0 a1 1 q3 q3)) rfl ?_
  show zs p e below T102 m 24 (z25 a0 a1 1 q3 q3) [] t
  refine XS.aloadN X102.here hx rfl (hb hby d34_24) rfl rfl ?_
  exact k
 refine OFin.go sg105 ?_
 obtain ⟨T106, X106, e106, st106⟩ := getF X102 hx hZ hown (host := "") (Or.inl (zw hw 183 rfl)) Via.refl e102 G1 (g := (mkF m 25 (z25 a0 a1 1 q3 q3) [.ref a0])) rfl rfl (hb hby d34_25)
 refine OFin.go st106 ?_
 have sg107 : zg p e below T106 m 29 (z25 a0 a1 1 q3 q3) [.int 1, .ref fb] 28 (z25 a0 a1 1 q3 q3) [.ref fb] := by
  intro t k
  refine XS.iloadN X106.here hx rfl (hb hby d34_28) rfl ?_
  exact k
 refine OFin.go sg107 ?_
 obtain ⟨cl108, Ar108, q108, S108, M108, H108, G108⟩ := id VF
 have hin108 : ¬ ((1 : Int32) < 0 ∨ cl108.slots.size ≤ ((1 : Int32)).toNatClampNeg) := inb_of S108 ⟨by decide, by decide⟩
 have hat108 : cl108.slots[((1 : Int32)).toNatClampNeg]? = some (.int f1) := H108.at hin108 rfl
 have sg109 : zg p e below T106 m 32 (z5 a0 a1 1 q3 q3 f1) [] 29 (z25 a0 a1 1 q3 q3) [.int 1, .ref fb] := by
  intro t k
  refine X106.iaload hx (j := (1 : Int32)) (v := (.int f1)) (by rw [e106]; exact Ar108.1) (State.isArrayOf_alike hZ.alike Ar108.2.1) Ar108.2.2 hin108 hat108 (g := (mkF m 29 (z25 a0 a1 1 q3 q3) [.int 1, .ref fb])) rfl rfl (hb hby d34_29) _ ?_
  show zs p e below T106 m 30 (z25 a0 a1 1 q3 q3) [.int f1] t
  refine XS.istore X106.here hx rfl (hb hby d34_30) rfl (l' := (z5 a0 a1 1 q3 q3 f1)) rfl ?_
  exact k
 refine OFin.go sg109 ?_
 exact pt34v1_32 Z aZ hw a0 a1 q3 fb kf f0 f1 f2 cd kc kb ls h0 n0 Z0 hl hf0 hle h128 hb0 hbf g_a1 hx hZ hby hml hown hnm hret hlk (f2.toInt - f1.toInt).toNat _ _ f1 ls h0 X106 e106 K0 N0 G1 VF VB hl hf0 (by omega) rfl
theorem ef_36v0 (m : MethodId) (x0 : Addr) (x1 : Addr) (x2 : Int32) : entryFrame m #[(.ref x0), (.ref x1), (.int x2)] 8 = mkF m 0 #[.val (.ref x0), .val (.ref x1), .val (.int x2), .unset, .unset, .unset, .unset, .unset] [] := by first | (simp [entryFrame, mkF, argsToLocals, Value.category]; done) | rfl
def Q36v0 (Z : State) (a0 : Addr) (a1 : Addr) (fb : Addr) (kf : ClassId) (f0 : Int32) (f1 : Int32) (f2 : Int32) (sg : Addr) (ks : ClassId) (s0 : Int32) (s1 : Int32) (cd : Addr) (kc : ClassId) (kb : ClassId) (ls : List Int32) (h0 : Heap) (n0 : Nat) (v : Option Value) (h : Heap) (L : List Loc) : Prop := v = some (.long (own_value s0 f0 f1 ls)) ∧ Fr n0 L ∧ Keep h0 h []
theorem d36_0 : decode prog_58_method_19_code 0 = .ok (.aload_n 0, 1) := by decide +kernel
theorem d36_1 : decode prog_58_method_19_code 1 = .ok (.getfield 37, 3) := by decide +kernel
theorem d36_4 : decode prog_58_method_19_code 4 = .ok (.iload_n 2, 1) := by decide +kernel
theorem d36_5 : decode prog_58_method_19_code 5 = .ok (.iaload, 1) := by decide +kernel
theorem d36_6 : decode prog_58_method_19_code 6 = .ok (.istore_n 3, 1) := by decide +kernel
theorem d36_7 : decode prog_58_method_19_code 7 = .ok (.aload_n 0, 1) := by decide +kernel
theorem d36_8 : decode prog_58_method_19_code 8 = .ok (.getfield 37, 3) := by decide +kernel
theorem d36_11 : decode prog_58_method_19_code 11 = .ok (.iload_n 2, 1) := by decide +kernel
theorem d36_12 : decode prog_58_method_19_code 12 = .ok (.iconst 1, 1) := by decide +kernel
theorem d36_13 : decode prog_58_method_19_code 13 = .ok (.iadd, 1) := by decide +kernel
theorem d36_14 : decode prog_58_method_19_code 14 = .ok (.iaload, 1) := by decide +kernel
theorem d36_15 : decode prog_58_method_19_code 15 = .ok (.iload_n 3, 1) := by decide +kernel
theorem d36_16 : decode prog_58_method_19_code 16 = .ok (.isub, 1) := by decide +kernel
theorem d36_17 : decode prog_58_method_19_code 17 = .ok (.istore 4, 2) := by decide +kernel
theorem d36_19 : decode prog_58_method_19_code 19 = .ok (.lconst 0, 1) := by decide +kernel
theorem d36_20 : decode prog_58_method_19_code 20 = .ok (.lstore 5, 2) := by decide +kernel
theorem d36_22 : decode prog_58_method_19_code 22 = .ok (.iconst 0, 1) := by decide +kernel
theorem d36_23 : decode prog_58_method_19_code 23 = .ok (.istore 7, 2) := by decide +kernel
theorem d36_25 : decode prog_58_method_19_code 25 = .ok (.iload 7, 2) := by decide +kernel
theorem d36_27 : decode prog_58_method_19_code 27 = .ok (.iload 4, 2) := by decide +kernel
theorem d36_29 : decode prog_58_method_19_code 29 = .ok (.if_icmp .ge 31, 3) := by decide +kernel
theorem d36_32 : decode prog_58_method_19_code 32 = .ok (.lload 5, 2) := by decide +kernel
theorem d36_34 : decode prog_58_method_19_code 34 = .ok (.aload_n 1, 1) := by decide +kernel
theorem d36_35 : decode prog_58_method_19_code 35 = .ok (.iload_n 3, 1) := by decide +kernel
theorem d36_36 : decode prog_58_method_19_code 36 = .ok (.iload 7, 2) := by decide +kernel
theorem d36_38 : decode prog_58_method_19_code 38 = .ok (.iadd, 1) := by decide +kernel
theorem d36_39 : decode prog_58_method_19_code 39 = .ok (.baload, 1) := by decide +kernel
theorem d36_40 : decode prog_58_method_19_code 40 = .ok (.ifCond .eq 10, 3) := by decide +kernel
theorem d36_43 : decode prog_58_method_19_code 43 = .ok (.lconst 1, 1) := by decide +kernel
theorem d36_44 : decode prog_58_method_19_code 44 = .ok (.iload 7, 2) := by decide +kernel
theorem d36_46 : decode prog_58_method_19_code 46 = .ok (.lshl, 1) := by decide +kernel
theorem d36_47 : decode prog_58_method_19_code 47 = .ok (.goto 4, 3) := by decide +kernel
theorem d36_50 : decode prog_58_method_19_code 50 = .ok (.lconst 0, 1) := by decide +kernel
theorem d36_51 : decode prog_58_method_19_code 51 = .ok (.lor, 1) := by decide +kernel
theorem d36_52 : decode prog_58_method_19_code 52 = .ok (.lstore 5, 2) := by decide +kernel
theorem d36_54 : decode prog_58_method_19_code 54 = .ok (.iinc 7 1, 3) := by decide +kernel
theorem d36_57 : decode prog_58_method_19_code 57 = .ok (.goto (-32), 3) := by decide +kernel
theorem d36_60 : decode prog_58_method_19_code 60 = .ok (.aload_n 0, 1) := by decide +kernel
theorem d36_61 : decode prog_58_method_19_code 61 = .ok (.getfield 41, 3) := by decide +kernel
theorem d36_64 : decode prog_58_method_19_code 64 = .ok (.iload_n 2, 1) := by decide +kernel
theorem d36_65 : decode prog_58_method_19_code 65 = .ok (.baload, 1) := by decide +kernel
theorem d36_66 : decode prog_58_method_19_code 66 = .ok (.ifCond .eq 32, 3) := by decide +kernel
theorem d36_69 : decode prog_58_method_19_code 69 = .ok (.iload 4, 2) := by decide +kernel
theorem d36_71 : decode prog_58_method_19_code 71 = .ok (.bipush 64, 2) := by decide +kernel
theorem d36_73 : decode prog_58_method_19_code 73 = .ok (.if_icmp .ge 25, 3) := by decide +kernel
theorem d36_76 : decode prog_58_method_19_code 76 = .ok (.aload_n 1, 1) := by decide +kernel
theorem d36_77 : decode prog_58_method_19_code 77 = .ok (.iload_n 3, 1) := by decide +kernel
theorem d36_78 : decode prog_58_method_19_code 78 = .ok (.iload 4, 2) := by decide +kernel
theorem d36_80 : decode prog_58_method_19_code 80 = .ok (.iadd, 1) := by decide +kernel
theorem d36_81 : decode prog_58_method_19_code 81 = .ok (.iconst 1, 1) := by decide +kernel
theorem d36_82 : decode prog_58_method_19_code 82 = .ok (.isub, 1) := by decide +kernel
theorem d36_83 : decode prog_58_method_19_code 83 = .ok (.baload, 1) := by decide +kernel
theorem d36_84 : decode prog_58_method_19_code 84 = .ok (.ifCond .eq 14, 3) := by decide +kernel
theorem d36_87 : decode prog_58_method_19_code 87 = .ok (.lload 5, 2) := by decide +kernel
theorem d36_89 : decode prog_58_method_19_code 89 = .ok (.ldc2_w 214, 3) := by decide +kernel
theorem d36_92 : decode prog_58_method_19_code 92 = .ok (.iload 4, 2) := by decide +kernel
theorem d36_94 : decode prog_58_method_19_code 94 = .ok (.lshl, 1) := by decide +kernel
theorem d36_95 : decode prog_58_method_19_code 95 = .ok (.lor, 1) := by decide +kernel
theorem d36_96 : decode prog_58_method_19_code 96 = .ok (.lstore 5, 2) := by decide +kernel
theorem d36_98 : decode prog_58_method_19_code 98 = .ok (.aload_n 0, 1) := by decide +kernel
theorem d36_99 : decode prog_58_method_19_code 99 = .ok (.getfield 47, 3) := by decide +kernel
theorem d36_102 : decode prog_58_method_19_code 102 = .ok (.iload_n 2, 1) := by decide +kernel
theorem d36_103 : decode prog_58_method_19_code 103 = .ok (.aaload, 1) := by decide +kernel
theorem d36_104 : decode prog_58_method_19_code 104 = .ok (.ifnonnull 8, 3) := by decide +kernel
theorem d36_107 : decode prog_58_method_19_code 107 = .ok (.lload 5, 2) := by decide +kernel
theorem d36_109 : decode prog_58_method_19_code 109 = .ok (.goto 14, 3) := by decide +kernel
theorem d36_112 : decode prog_58_method_19_code 112 = .ok (.aload_n 0, 1) := by decide +kernel
theorem d36_113 : decode prog_58_method_19_code 113 = .ok (.getfield 47, 3) := by decide +kernel
theorem d36_116 : decode prog_58_method_19_code 116 = .ok (.iload_n 2, 1) := by decide +kernel
theorem d36_117 : decode prog_58_method_19_code 117 = .ok (.aaload, 1) := by decide +kernel
theorem d36_118 : decode prog_58_method_19_code 118 = .ok (.lload 5, 2) := by decide +kernel
theorem d36_120 : decode prog_58_method_19_code 120 = .ok (.invokestatic 216, 3) := by decide +kernel
theorem d36_123 : decode prog_58_method_19_code 123 = .ok (.lreturn, 1) := by decide +kernel
set_option maxHeartbeats 40000000 in
theorem pt36v0_25 {p : Program} {l : Launch} {e : Env} {s : State} {m : MethodId} {below : List Frame} {meth : Method} {c : Code} (Z : State) (aZ : Array Value) (hw : ∀ d ∈ tables_1, d.before aZ Z = true) (a0 : Addr) (a1 : Addr) (fb : Addr) (kf : ClassId) (f0 : Int32) (f1 : Int32) (f2 : Int32) (sg : Addr) (ks : ClassId) (s0 : Int32) (s1 : Int32) (cd : Addr) (kc : ClassId) (kb : ClassId) (ls : List Int32) (h0 : Heap) (n0 : Nat) (Z0 : n0 ≤ h0.size) (hl : ls.length = 128) (hf0 : 0 ≤ f0.toInt) (hle : f0.toInt ≤ f1.toInt) (h128 : f1.toInt ≤ 128) (hsg : ¬ (s0 = (0 : Int32)) → f0.toInt < f1.toInt)
  (hx : p.tables.exec = Jvm.exec) (hZ : Z.Warmed39 s.vm) (hby : c.code = prog_58_method_19_code) (hml : c.maxLocals = 8) (hown : s.vm.findClass "org/counterpath/engine/Encoding" = some m.cls) (hnm : meth.name = "value") (hret : meth.sig.returnType = some .long) (hlk : meth.locks = false) :
  ∀ (n9 : Nat) (T0 : State) (locs : List Loc) (i9 : Int32) (ac9 : Int64) (hC : Heap) (X0 : Stand p l e ({ frames := 0, cells := 0, slots := 0, locals := 0 } : Room) s m #[.ref a0, .ref a1, .int 0] below meth c T0 locs 0 0) (e0 : T0.heap = hC) (K0 : Keep h0 hC []) (N0 : Fr n0 locs) (G1 : Fld Z hC a0 "org/counterpath/engine/Encoding" "_firstBits" "[I" (.ref fb)) (VF : Arv Z hC fb kf .int (3 : Int32) [.int f0, .int f1, .int f2] (.int 0)) (G2 : Fld Z hC a0 "org/counterpath/engine/Encoding" "_signed" "[Z" (.ref sg)) (VS : Arv Z hC sg ks .boolean (2 : Int32) [.int s0, .int s1] (.int 0)) (G3 : Fld Z hC a0 "org/counterpath/engine/Encoding" "_codes" "[[J" (.ref cd)) (VC : Arv Z hC cd kc (.array .long) (2 : Int32) [.null, .null] .null) (VB : Arv Z hC a1 kb .boolean (128 : Int32) (ls.map Value.int) (.int 0)) (hi0 : 0 ≤ i9.toInt) (hie : i9.toInt + (n9 : Int) = f1.toInt - f0.toInt) (hinv : own_val ls f0 n9 i9 ac9 = own_val ls f0 (f1.toInt - f0.toInt).toNat (0 : Int32) (0 : Int64)), OFin p e below s (Q36v0 Z a0 a1 fb kf f0 f1 f2 sg ks s0 s1 cd kc kb ls h0 n0) ({ frames := 0, cells := 0, slots := 0, locals := 0 } : Room).cells ({ frames := 0, cells := 0, slots := 0, locals := 0 } : Room).slots (T0.setTop (mkF m 25 (z1 a0 a1 0 f0 (f1 - f0) ac9 i9) [])) := by
 intro n9
 induction n9 with
 | zero =>
  intro T0 locs i9 ac9 hC X0 e0 K0 N0 G1 VF G2 VS G3 VC VB hi0 hie hinv
  have sg102 : zg p e below T0 m 29 (z1 a0 a1 0 f0 (f1 - f0) ac9 i9) [.int (f1 - f0), .int i9] 25 (z1 a0 a1 0 f0 (f1 - f0) ac9 i9) [] := by
   intro t k
   refine XS.iload X0.here hx rfl (hb hby d36_25) rfl ?_
   show zs p e below T0 m 27 (z1 a0 a1 0 f0 (f1 - f0) ac9 i9) [.int i9] t
   refine XS.iload X0.here hx rfl (hb hby d36_27) rfl ?_
   exact k
  refine OFin.go sg102 ?_
  have c101 : ¬ (i9 < (f1 - f0)) := (by rw [Int32.lt_iff_toInt_lt, own_subi (by omega) (by omega) hf0 (by omega)]; omega)
  have sg103 : zg p e below T0 m 61 (z1 a0 a1 0 f0 (f1 - f0) ac9 i9) [.ref a0] 29 (z1 a0 a1 0 f0 (f1 - f0) ac9 i9) [.int (f1 - f0), .int i9] := by
   intro t k
   refine XS.icmpYes X0.here hx rfl (pc0 := 29) (pc' := 60) rfl (hb hby d36_29) rfl (flt c101).2.1 (by decide) (by decide) ?_
   show zs p e below T0 m 60 (z1 a0 a1 0 f0 (f1 - f0) ac9 i9) [] t
   refine XS.aloadN X0.here hx rfl (hb hby d36_60) rfl rfl ?_
   exact k
  refine OFin.go sg103 ?_
  obtain ⟨T104, X104, e104, st104⟩ := getF X0 hx hZ hown (host := "") (Or.inl (zw hw 186 rfl)) Via.refl e0 G2 (g := (mkF m 61 (z1 a0 a1 0 f0 (f1 - f0) ac9 i9) [.ref a0])) rfl rfl (hb hby d36_61)
  refine OFin.go st104 ?_
  have sg105 : zg p e below T104 m 65 (z1 a0 a1 0 f0 (f1 - f0) ac9 i9) [.int 0, .ref sg] 64 (z1 a0 a1 0 f0 (f1 - f0) ac9 i9) [.ref sg] := by
   intro t k
   refine XS.iloadN X104.here hx rfl (hb hby d36_64) rfl ?_
   exact k
  refine OFin.go sg105 ?_
  obtain ⟨cl106, Ar106, q106, S106, M106, H106, G106⟩ := id VS
  have hin106 : ¬ ((0 : Int32) < 0 ∨ cl106.slots.size ≤ ((0 : Int32)).toNatClampNeg) := inb_of S106 ⟨by decide, by decide⟩
  have hat106 : cl106.slots[((0 : Int32)).toNatClampNeg]? = some (.int s0) := H106.at hin106 rfl
  have sg107 : zg p e below T104 m 66 (z1 a0 a1 0 f0 (f1 - f0) ac9 i9) [.int s0] 65 (z1 a0 a1 0 f0 (f1 - f0) ac9 i9) [.int 0, .ref sg] := by
   intro t k
   refine X104.baloadBooleans hx (j := (0 : Int32)) (v := (.int s0)) (by rw [e104]; exact Ar106.1) (State.isArrayOf_alike hZ.alike Ar106.2.1) Ar106.2.2 hin106 hat106 (g := (mkF m 65 (z1 a0 a1 0 f0 (f1 - f0) ac9 i9) [.int 0, .ref sg])) rfl rfl (hb hby d36_65) _ ?_
   exact k
  refine OFin.go sg107 ?_
  by_cases c108 : s0 = (0 : Int32)
  ·have sg109 : zg p e below T104 m 99 (z1 a0 a1 0 f0 (f1 - f0) ac9 i9) [.ref a0] 66 (z1 a0 a1 0 f0 (f1 - f0) ac9 i9) [.int s0] := by
    intro t k
    refine XS.ifYes X104.here hx rfl (pc0 := 66) (pc' := 98) rfl (hb hby d36_66) rfl ((if0 _ _).trans (teq c108).1) (by decide) (by decide) ?_
    show zs p e below T104 m 98 (z1 a0 a1 0 f0 (f1 - f0) ac9 i9) [] t
    refine XS.aloadN X104.here hx rfl (hb hby d36_98) rfl rfl ?_
    exact k
   refine OFin.go sg109 ?_
   obtain ⟨T110, X110, e110, st110⟩ := getF X104 hx hZ hown (host := "") (Or.inl (zw hw 190 rfl)) Via.refl e104 G3 (g := (mkF m 99 (z1 a0 a1 0 f0 (f1 - f0) ac9 i9) [.ref a0])) rfl rfl (hb hby d36_99)
   refine OFin.go st110 ?_
   have sg111 : zg p e below T110 m 103 (z1 a0 a1 0 f0 (f1 - f0) ac9 i9) [.int 0, .ref cd] 102 (z1 a0 a1 0 f0 (f1 - f0) ac9 i9) [.ref cd] := by
    intro t k
    refine XS.iloadN X110.here hx rfl (hb hby d36_102) rfl ?_
    exact k
   refine OFin.go sg111 ?_
   obtain ⟨cl112, Ar112, q112, S112, M112, H112, G112⟩ := id VC
   have hin112 : ¬ ((0 : Int32) < 0 ∨ cl112.slots.size ≤ ((0 : Int32)).toNatClampNeg) := inb_of S112 ⟨by decide, by decide⟩
   have hat112 : cl112.slots[((0 : Int32)).toNatClampNeg]? = some .null := H112.at hin112 rfl
   have sg113 : zg p e below T110 m 123 (z1 a0 a1 0 f0 (f1 - f0) ac9 i9) [.long ac9] 103 (z1 a0 a1 0 f0 (f1 - f0) ac9 i9) [.int 0, .ref cd] := by
    intro t k
    refine X110.aaload hx (j := (0 : Int32)) (v := .null) (by rw [e110]; exact Ar112.1) (State.isArrayOf_alike hZ.alike Ar112.2.1) rfl Ar112.2.2 hin112 hat112 (g := (mkF m 103 (z1 a0 a1 0 f0 (f1 - f0) ac9 i9) [.int 0, .ref cd])) rfl rfl (hb hby d36_103) _ ?_
    show zs p e below T110 m 104 (z1 a0 a1 0 f0 (f1 - f0) ac9 i9) [.null] t
    refine XS.ifnonnullNo X110.here hx rfl (hb hby d36_104) rfl ?_
    show zs p e below T110 m 107 (z1 a0 a1 0 f0 (f1 - f0) ac9 i9) [] t
    refine XS.lload X110.here hx rfl (hb hby d36_107) rfl ?_
    show zs p e below T110 m 109 (z1 a0 a1 0 f0 (f1 - f0) ac9 i9) [.long ac9] t
    refine XS.goto X110.here hx rfl (pc0 := 109) (pc' := 123) rfl (hb hby d36_109) (by decide) (by decide) ?_
    exact k
   refine OFin.go sg113 ?_
   exact OFin.retL X110 hx hret hlk (hb hby d36_123) (by rw [e110]; exact ⟨(congrArg (fun z => some (Value.long z)) ((by rw [own_value, ← hinv, own_val, if_pos c108]) : ac9 = (own_value s0 f0 f1 ls))), N0, K0⟩) (by decide) (by decide)
  ·have sg114 : zg p e below T104 m 73 (z1 a0 a1 0 f0 (f1 - f0) ac9 i9) [.int 64, .int (f1 - f0)] 66 (z1 a0 a1 0 f0 (f1 - f0) ac9 i9) [.int s0] := by
    intro t k
    refine XS.ifNo X104.here hx rfl (hb hby d36_66) rfl ((if0 _ _).trans (feq c108).1) ?_
    show zs p e below T104 m 69 (z1 a0 a1 0 f0 (f1 - f0) ac9 i9) [] t
    refine XS.iload X104.here hx rfl (hb hby d36_69) rfl ?_
    show zs p e below T104 m 71 (z1 a0 a1 0 f0 (f1 - f0) ac9 i9) [.int (f1 - f0)] t
    refine XS.bipush X104.here hx rfl (hb hby d36_71) ?_
    exact k
   refine OFin.go sg114 ?_
   by_cases c115 : (f1 - f0) < (64 : Int32)
   ·have sg116 : zg p e below T104 m 83 (z1 a0 a1 0 f0 (f1 - f0) ac9 i9) [.int ((f0 + (f1 - f0)) - (1 : Int32)), .ref a1] 73 (z1 a0 a1 0 f0 (f1 - f0) ac9 i9) [.int 64, .int (f1 - f0)] := by
     intro t k
     refine XS.icmpNo X104.here hx rfl (hb hby d36_73) rfl (tlt c115).2.1 ?_
     show zs p e below T104 m 76 (z1 a0 a1 0 f0 (f1 - f0) ac9 i9) [] t
     refine XS.aloadN X104.here hx rfl (hb hby d36_76) rfl rfl ?_
     show zs p e below T104 m 77 (z1 a0 a1 0 f0 (f1 - f0) ac9 i9) [.ref a1] t
     refine XS.iloadN X104.here hx rfl (hb hby d36_77) rfl ?_
     show zs p e below T104 m 78 (z1 a0 a1 0 f0 (f1 - f0) ac9 i9) [.int f0, .ref a1] t
     refine XS.iload X104.here hx rfl (hb hby d36_78) rfl ?_
     show zs p e below T104 m 80 (z1 a0 a1 0 f0 (f1 - f0) ac9 i9) [.int (f1 - f0), .int f0, .ref a1] t
     refine XS.iadd X104.here hx rfl (hb hby d36_80) rfl ?_
     show zs p e below T104 m 81 (z1 a0 a1 0 f0 (f1 - f0) ac9 i9) [.int (f0 + (f1 - f0)), .ref a1] t
     refine XS.iconst X104.here hx rfl (hb hby d36_81) ?_
     show zs p e below T104 m 82 (z1 a0 a1 0 f0 (f1 - f0) ac9 i9) [.int 1, .int (f0 + (f1 - f0)), .ref a1] t
     refine XS.isub X104.here hx rfl (hb hby d36_82) rfl ?_
     exact k
    refine OFin.go sg116 ?_
    obtain ⟨cl117, Ar117, q117, S117, M117, H117, G117⟩ := id VB
    have hin117 : ¬ (((f0 + (f1 - f0)) - (1 : Int32)) < 0 ∨ cl117.slots.size ≤ (((f0 + (f1 - f0)) - (1 : Int32))).toNatClampNeg) := inb_of S117 (by have q0 := hsg c108; have q1 := own_subi (e := f1) (f := f0) (by omega) (by omega) hf0 (by omega); have q2 := own_addi (i := (f1 - f0)) (f := f0) (by omega) (by omega) hf0 (by omega); have q3 : ((f0 + (f1 - f0)) - (1 : Int32)).toInt = (f0 + (f1 - f0)).toInt - 1 := own_subi (f := 1) (by omega) (by omega) (by decide) (by decide); exact own_inb (by omega) (by omega))
    have hat117 : cl117.slots[(((f0 + (f1 - f0)) - (1 : Int32))).toNatClampNeg]? = some (.int (ls.getD (((f0 + (f1 - f0)) - (1 : Int32))).toNatClampNeg (0 : Int32))) := H117.at hin117 (own_getD ls _)
    have sg118 : zg p e below T104 m 84 (z1 a0 a1 0 f0 (f1 - f0) ac9 i9) [.int (ls.getD (((f0 + (f1 - f0)) - (1 : Int32))).toNatClampNeg (0 : Int32))] 83 (z1 a0 a1 0 f0 (f1 - f0) ac9 i9) [.int ((f0 + (f1 - f0)) - (1 : Int32)), .ref a1] := by
     intro t k
     refine X104.baloadBooleans hx (j := ((f0 + (f1 - f0)) - (1 : Int32))) (v := (.int (ls.getD (((f0 + (f1 - f0)) - (1 : Int32))).toNatClampNeg (0 : Int32)))) (by rw [e104]; exact Ar117.1) (State.isArrayOf_alike hZ.alike Ar117.2.1) Ar117.2.2 hin117 hat117 (g := (mkF m 83 (z1 a0 a1 0 f0 (f1 - f0) ac9 i9) [.int ((f0 + (f1 - f0)) - (1 : Int32)), .ref a1])) rfl rfl (hb hby d36_83) _ ?_
     exact k
    refine OFin.go sg118 ?_
    by_cases c119 : (ls.getD (((f0 + (f1 - f0)) - (1 : Int32))).toNatClampNeg (0 : Int32)) = (0 : Int32)
    ·have sg120 : zg p e below T104 m 99 (z1 a0 a1 0 f0 (f1 - f0) ac9 i9) [.ref a0] 84 (z1 a0 a1 0 f0 (f1 - f0) ac9 i9) [.int (ls.getD (((f0 + (f1 - f0)) - (1 : Int32))).toNatClampNeg (0 : Int32))] := by
      intro t k
      refine XS.ifYes X104.here hx rfl (pc0 := 84) (pc' := 98) rfl (hb hby d36_84) rfl ((if0 _ _).trans (teq c119).1) (by decide) (by decide) ?_
      show zs p e below T104 m 98 (z1 a0 a1 0 f0 (f1 - f0) ac9 i9) [] t
      refine XS.aloadN X104.here hx rfl (hb hby d36_98) rfl rfl ?_
      exact k
     refine OFin.go sg120 ?_
     obtain ⟨T121, X121, e121, st121⟩ := getF X104 hx hZ hown (host := "") (Or.inl (zw hw 190 rfl)) Via.refl e104 G3 (g := (mkF m 99 (z1 a0 a1 0 f0 (f1 - f0) ac9 i9) [.ref a0])) rfl rfl (hb hby d36_99)
     refine OFin.go st121 ?_
     have sg122 : zg p e below T121 m 103 (z1 a0 a1 0 f0 (f1 - f0) ac9 i9) [.int 0, .ref cd] 102 (z1 a0 a1 0 f0 (f1 - f0) ac9 i9) [.ref cd] := by
      intro t k
      refine XS.iloadN X121.here hx rfl (hb hby d36_102) rfl ?_
      exact k
     refine OFin.go sg122 ?_
     obtain ⟨cl123, Ar123, q123, S123, M123, H123, G123⟩ := id VC
     have hin123 : ¬ ((0 : Int32) < 0 ∨ cl123.slots.size ≤ ((0 : Int32)).toNatClampNeg) := inb_of S123 ⟨by decide, by decide⟩
     have hat123 : cl123.slots[((0 : Int32)).toNatClampNeg]? = some .null := H123.at hin123 rfl
     have sg124 : zg p e below T121 m 123 (z1 a0 a1 0 f0 (f1 - f0) ac9 i9) [.long ac9] 103 (z1 a0 a1 0 f0 (f1 - f0) ac9 i9) [.int 0, .ref cd] := by
      intro t k
      refine X121.aaload hx (j := (0 : Int32)) (v := .null) (by rw [e121]; exact Ar123.1) (State.isArrayOf_alike hZ.alike Ar123.2.1) rfl Ar123.2.2 hin123 hat123 (g := (mkF m 103 (z1 a0 a1 0 f0 (f1 - f0) ac9 i9) [.int 0, .ref cd])) rfl rfl (hb hby d36_103) _ ?_
      show zs p e below T121 m 104 (z1 a0 a1 0 f0 (f1 - f0) ac9 i9) [.null] t
      refine XS.ifnonnullNo X121.here hx rfl (hb hby d36_104) rfl ?_
      show zs p e below T121 m 107 (z1 a0 a1 0 f0 (f1 - f0) ac9 i9) [] t
      refine XS.lload X121.here hx rfl (hb hby d36_107) rfl ?_
      show zs p e below T121 m 109 (z1 a0 a1 0 f0 (f1 - f0) ac9 i9) [.long ac9] t
      refine XS.goto X121.here hx rfl (pc0 := 109) (pc' := 123) rfl (hb hby d36_109) (by decide) (by decide) ?_
      exact k
     refine OFin.go sg124 ?_
     exact OFin.retL X121 hx hret hlk (hb hby d36_123) (by rw [e121]; exact ⟨(congrArg (fun z => some (Value.long z)) ((by rw [own_value, ← hinv, own_val, if_neg c108, if_pos c115, if_pos c119]) : ac9 = (own_value s0 f0 f1 ls))), N0, K0⟩) (by decide) (by decide)
    ·have sg125 : zg p e below T104 m 99 (z1 a0 a1 0 f0 (f1 - f0) (ac9 ||| ((-1 : Int64) <<< ((f1 - f0) &&& 0x3f).toInt64)) i9) [.ref a0] 84 (z1 a0 a1 0 f0 (f1 - f0) ac9 i9) [.int (ls.getD (((f0 + (f1 - f0)) - (1 : Int32))).toNatClampNeg (0 : Int32))] := by
      intro t k
      refine XS.ifNo X104.here hx rfl (hb hby d36_84) rfl ((if0 _ _).trans (feq c119).1) ?_
      show zs p e below T104 m 87 (z1 a0 a1 0 f0 (f1 - f0) ac9 i9) [] t
      refine XS.lload X104.here hx rfl (hb hby d36_87) rfl ?_
      show zs p e below T104 m 89 (z1 a0 a1 0 f0 (f1 - f0) ac9 i9) [.long ac9] t
      refine X104.ldc2Long hx hown (mvT hZ (zw hw 263 rfl)) (g := (mkF m 89 (z1 a0 a1 0 f0 (f1 - f0) ac9 i9) [.long ac9])) rfl (hb hby d36_89) _ ?_
      show zs p e below T104 m 92 (z1 a0 a1 0 f0 (f1 - f0) ac9 i9) [.long (-1 : Int64), .long ac9] t
      refine XS.iload X104.here hx rfl (hb hby d36_92) rfl ?_
      show zs p e below T104 m 94 (z1 a0 a1 0 f0 (f1 - f0) ac9 i9) [.int (f1 - f0), .long (-1 : Int64), .long ac9] t
      refine XS.lshl X104.here hx rfl (hb hby d36_94) rfl ?_
      show zs p e below T104 m 95 (z1 a0 a1 0 f0 (f1 - f0) ac9 i9) [.long ((-1 : Int64) <<< ((f1 - f0) &&& 0x3f).toInt64), .long ac9] t
      refine XS.lor X104.here hx rfl (hb hby d36_95) rfl ?_
      show zs p e below T104 m 96 (z1 a0 a1 0 f0 (f1 - f0) ac9 i9) [.long (ac9 ||| ((-1 : Int64) <<< ((f1 - f0) &&& 0x3f).toInt64))] t
      refine XS.lstore X104.here hx rfl (hb hby d36_96) rfl (l' := (z1 a0 a1 0 f0 (f1 - f0) (ac9 ||| ((-1 : Int64) <<< ((f1 - f0) &&& 0x3f).toInt64)) i9)) rfl ?_
      show zs p e below T104 m 98 (z1 a0 a1 0 f0 (f1 - f0) (ac9 ||| ((-1 : Int64) <<< ((f1 - f0) &&& 0x3f).toInt64)) i9) [] t
      refine XS.aloadN X104.here hx rfl (hb hby d36_98) rfl rfl ?_
      exact k
     refine OFin.go sg125 ?_
     obtain ⟨T126, X126, e126, st126⟩ := getF X104 hx hZ hown (host := "") (Or.inl (zw hw 190 rfl)) Via.refl e104 G3 (g := (mkF m 99 (z1 a0 a1 0 f0 (f1 - f0) (ac9 ||| ((-1 : Int64) <<< ((f1 - f0) &&& 0x3f).toInt64)) i9) [.ref a0])) rfl rfl (hb hby d36_99)
     refine OFin.go st126 ?_
     have sg127 : zg p e below T126 m 103 (z1 a0 a1 0 f0 (f1 - f0) (ac9 ||| ((-1 : Int64) <<< ((f1 - f0) &&& 0x3f).toInt64)) i9) [.int 0, .ref cd] 102 (z1 a0 a1 0 f0 (f1 - f0) (ac9 ||| ((-1 : Int64) <<< ((f1 - f0) &&& 0x3f).toInt64)) i9) [.ref cd] := by
      intro t k
      refine XS.iloadN X126.here hx rfl (hb hby d36_102) rfl ?_
      exact k
     refine OFin.go sg127 ?_
     obtain ⟨cl128, Ar128, q128, S128, M128, H128, G128⟩ := id VC
     have hin128 : ¬ ((0 : Int32) < 0 ∨ cl128.slots.size ≤ ((0 : Int32)).toNatClampNeg) := inb_of S128 ⟨by decide, by decide⟩
     have hat128 : cl128.slots[((0 : Int32)).toNatClampNeg]? = some .null := H128.at hin128 rfl
     have sg129 : zg p e below T126 m 123 (z1 a0 a1 0 f0 (f1 - f0) (ac9 ||| ((-1 : Int64) <<< ((f1 - f0) &&& 0x3f).toInt64)) i9) [.long (ac9 ||| ((-1 : Int64) <<< ((f1 - f0) &&& 0x3f).toInt64))] 103 (z1 a0 a1 0 f0 (f1 - f0) (ac9 ||| ((-1 : Int64) <<< ((f1 - f0) &&& 0x3f).toInt64)) i9) [.int 0, .ref cd] := by
      intro t k
      refine X126.aaload hx (j := (0 : Int32)) (v := .null) (by rw [e126]; exact Ar128.1) (State.isArrayOf_alike hZ.alike Ar128.2.1) rfl Ar128.2.2 hin128 hat128 (g := (mkF m 103 (z1 a0 a1 0 f0 (f1 - f0) (ac9 ||| ((-1 : Int64) <<< ((f1 - f0) &&& 0x3f).toInt64)) i9) [.int 0, .ref cd])) rfl rfl (hb hby d36_103) _ ?_
      show zs p e below T126 m 104 (z1 a0 a1 0 f0 (f1 - f0) (ac9 ||| ((-1 : Int64) <<< ((f1 - f0) &&& 0x3f).toInt64)) i9) [.null] t
      refine XS.ifnonnullNo X126.here hx rfl (hb hby d36_104) rfl ?_
      show zs p e below T126 m 107 (z1 a0 a1 0 f0 (f1 - f0) (ac9 ||| ((-1 : Int64) <<< ((f1 - f0) &&& 0x3f).toInt64)) i9) [] t
      refine XS.lload X126.here hx rfl (hb hby d36_107) rfl ?_
      show zs p e below T126 m 109 (z1 a0 a1 0 f0 (f1 - f0) (ac9 ||| ((-1 : Int64) <<< ((f1 - f0) &&& 0x3f).toInt64)) i9) [.long (ac9 ||| ((-1 : Int64) <<< ((f1 - f0) &&& 0x3f).toInt64))] t
      refine XS.goto X126.here hx rfl (pc0 := 109) (pc' := 123) rfl (hb hby d36_109) (by decide) (by decide) ?_
      exact k
     refine OFin.go sg129 ?_
     exact OFin.retL X126 hx hret hlk (hb hby d36_123) (by rw [e126]; exact ⟨(congrArg (fun z => some (Value.long z)) ((by rw [own_value, ← hinv, own_val, if_neg c108, if_pos c115, if_neg c119]) : (ac9 ||| ((-1 : Int64) <<< ((f1 - f0) &&& 0x3f).toInt64)) = (own_value s0 f0 f1 ls))), N0, K0⟩) (by decide) (by decide)
   ·have sg130 : zg p e below T104 m 99 (z1 a0 a1 0 f0 (f1 - f0) ac9 i9) [.ref a0] 73 (z1 a0 a1 0 f0 (f1 - f0) ac9 i9) [.int 64, .int (f1 - f0)] := by
     intro t k
     refine XS.icmpYes X104.here hx rfl (pc0 := 73) (pc' := 98) rfl (hb hby d36_73) rfl (flt c115).2.1 (by decide) (by decide) ?_
     show zs p e below T104 m 98 (z1 a0 a1 0 f0 (f1 - f0) ac9 i9) [] t
     refine XS.aloadN X104.here hx rfl (hb hby d36_98) rfl rfl ?_
     exact k
    refine OFin.go sg130 ?_
    obtain ⟨T131, X131, e131, st131⟩ := getF X104 hx hZ hown (host := "") (Or.inl (zw hw 190 rfl)) Via.refl e104 G3 (g := (mkF m 99 (z1 a0 a1 0 f0 (f1 - f0) ac9 i9) [.ref a0])) rfl rfl (hb hby d36_99)
    refine OFin.go st131 ?_
    have sg132 : zg p e below T131 m 103 (z1 a0 a1 0 f0 (f1 - f0) ac9 i9) [.int 0, .ref cd] 102 (z1 a0 a1 0 f0 (f1 - f0) ac9 i9) [.ref cd] := by
     intro t k
     refine XS.iloadN X131.here hx rfl (hb hby d36_102) rfl ?_
     exact k
    refine OFin.go sg132 ?_
    obtain ⟨cl133, Ar133, q133, S133, M133, H133, G133⟩ := id VC
    have hin133 : ¬ ((0 : Int32) < 0 ∨ cl133.slots.size ≤ ((0 : Int32)).toNatClampNeg) := inb_of S133 ⟨by decide, by decide⟩
    have hat133 : cl133.slots[((0 : Int32)).toNatClampNeg]? = some .null := H133.at hin133 rfl
    have sg134 : zg p e below T131 m 123 (z1 a0 a1 0 f0 (f1 - f0) ac9 i9) [.long ac9] 103 (z1 a0 a1 0 f0 (f1 - f0) ac9 i9) [.int 0, .ref cd] := by
     intro t k
     refine X131.aaload hx (j := (0 : Int32)) (v := .null) (by rw [e131]; exact Ar133.1) (State.isArrayOf_alike hZ.alike Ar133.2.1) rfl Ar133.2.2 hin133 hat133 (g := (mkF m 103 (z1 a0 a1 0 f0 (f1 - f0) ac9 i9) [.int 0, .ref cd])) rfl rfl (hb hby d36_103) _ ?_
     show zs p e below T131 m 104 (z1 a0 a1 0 f0 (f1 - f0) ac9 i9) [.null] t
     refine XS.ifnonnullNo X131.here hx rfl (hb hby d36_104) rfl ?_
     show zs p e below T131 m 107 (z1 a0 a1 0 f0 (f1 - f0) ac9 i9) [] t
     refine XS.lload X131.here hx rfl (hb hby d36_107) rfl ?_
     show zs p e below T131 m 109 (z1 a0 a1 0 f0 (f1 - f0) ac9 i9) [.long ac9] t
     refine XS.goto X131.here hx rfl (pc0 := 109) (pc' := 123) rfl (hb hby d36_109) (by decide) (by decide) ?_
     exact k
    refine OFin.go sg134 ?_
    exact OFin.retL X131 hx hret hlk (hb hby d36_123) (by rw [e131]; exact ⟨(congrArg (fun z => some (Value.long z)) ((by rw [own_value, ← hinv, own_val, if_neg c108, if_neg c115]) : ac9 = (own_value s0 f0 f1 ls))), N0, K0⟩) (by decide) (by decide)
 | succ n9 IH =>
  intro T0 locs i9 ac9 hC X0 e0 K0 N0 G1 VF G2 VS G3 VC VB hi0 hie hinv
  have sg102 : zg p e below T0 m 29 (z1 a0 a1 0 f0 (f1 - f0) ac9 i9) [.int (f1 - f0), .int i9] 25 (z1 a0 a1 0 f0 (f1 - f0) ac9 i9) [] := by
   intro t k
   refine XS.iload X0.here hx rfl (hb hby d36_25) rfl ?_
   show zs p e below T0 m 27 (z1 a0 a1 0 f0 (f1 - f0) ac9 i9) [.int i9] t
   refine XS.iload X0.here hx rfl (hb hby d36_27) rfl ?_
   exact k
  refine OFin.go sg102 ?_
  have c101 : i9 < (f1 - f0) := (by rw [Int32.lt_iff_toInt_lt, own_subi (by omega) (by omega) hf0 (by omega)]; omega)
  have sg103 : zg p e below T0 m 39 (z1 a0 a1 0 f0 (f1 - f0) ac9 i9) [.int (f0 + i9), .ref a1, .long ac9] 29 (z1 a0 a1 0 f0 (f1 - f0) ac9 i9) [.int (f1 - f0), .int i9] := by
   intro t k
   refine XS.icmpNo X0.here hx rfl (hb hby d36_29) rfl (tlt c101).2.1 ?_
   show zs p e below T0 m 32 (z1 a0 a1 0 f0 (f1 - f0) ac9 i9) [] t
   refine XS.lload X0.here hx rfl (hb hby d36_32) rfl ?_
   show zs p e below T0 m 34 (z1 a0 a1 0 f0 (f1 - f0) ac9 i9) [.long ac9] t
   refine XS.aloadN X0.here hx rfl (hb hby d36_34) rfl rfl ?_
   show zs p e below T0 m 35 (z1 a0 a1 0 f0 (f1 - f0) ac9 i9) [.ref a1, .long ac9] t
   refine XS.iloadN X0.here hx rfl (hb hby d36_35) rfl ?_
   show zs p e below T0 m 36 (z1 a0 a1 0 f0 (f1 - f0) ac9 i9) [.int f0, .ref a1, .long ac9] t
   refine XS.iload X0.here hx rfl (hb hby d36_36) rfl ?_
   show zs p e below T0 m 38 (z1 a0 a1 0 f0 (f1 - f0) ac9 i9) [.int i9, .int f0, .ref a1, .long ac9] t
   refine XS.iadd X0.here hx rfl (hb hby d36_38) rfl ?_
   exact k
  refine OFin.go sg103 ?_
  obtain ⟨cl104, Ar104, q104, S104, M104, H104, G104⟩ := id VB
  have hin104 : ¬ ((f0 + i9) < 0 ∨ cl104.slots.size ≤ ((f0 + i9)).toNatClampNeg) := inb_of S104 (by have q := own_addi hi0 (by omega) hf0 (by omega : f0.toInt < 1000); exact own_inb (by rw [q]; omega) (by rw [q]; omega))
  have hat104 : cl104.slots[((f0 + i9)).toNatClampNeg]? = some (.int (ls.getD ((f0 + i9)).toNatClampNeg (0 : Int32))) := H104.at hin104 (own_getD ls _)
  have sg107 : zg p e below T0 m 40 (z1 a0 a1 0 f0 (f1 - f0) ac9 i9) [.int (ls.getD ((f0 + i9)).toNatClampNeg (0 : Int32)), .long ac9] 39 (z1 a0 a1 0 f0 (f1 - f0) ac9 i9) [.int (f0 + i9), .ref a1, .long ac9] := by
   intro t k
   refine X0.baloadBooleans hx (j := (f0 + i9)) (v := (.int (ls.getD ((f0 + i9)).toNatClampNeg (0 : Int32)))) (by rw [e0]; exact Ar104.1) (State.isArrayOf_alike hZ.alike Ar104.2.1) Ar104.2.2 hin104 hat104 (g := (mkF m 39 (z1 a0 a1 0 f0 (f1 - f0) ac9 i9) [.int (f0 + i9), .ref a1, .long ac9])) rfl rfl (hb hby d36_39) _ ?_
   exact k
  refine OFin.go sg107 ?_
  obtain ⟨v106, e_v106⟩ : ∃ z : Int64, z = (if (ls.getD ((f0 + i9)).toNatClampNeg (0 : Int32)) = (0 : Int32) then (0 : Int64) else ((1 : Int64) <<< (i9 &&& 0x3f).toInt64)) := ⟨_, rfl⟩
  have sg108 : zg p e below T0 m 51 (z1 a0 a1 0 f0 (f1 - f0) ac9 i9) [.long v106, .long ac9] 40 (z1 a0 a1 0 f0 (f1 - f0) ac9 i9) [.int (ls.getD ((f0 + i9)).toNatClampNeg (0 : Int32)), .long ac9] := by
   intro t k
   by_cases c105 : (ls.getD ((f0 + i9)).toNatClampNeg (0 : Int32)) = (0 : Int32)
   ·show zs p e below T0 m 40 (z1 a0 a1 0 f0 (f1 - f0) ac9 i9) [.int (ls.getD ((f0 + i9)).toNatClampNeg (0 : Int32)), .long ac9] t
    refine XS.ifYes X0.here hx rfl (pc0 := 40) (pc' := 50) rfl (hb hby d36_40) rfl ((if0 _ _).trans (teq c105).1) (by decide) (by decide) ?_
    show zs p e below T0 m 50 (z1 a0 a1 0 f0 (f1 - f0) ac9 i9) [.long ac9] t
    refine XS.lconst X0.here hx rfl (hb hby d36_50) ?_
    have e_v106' : v106 = (0 : Int64) := e_v106.trans (if_pos c105)
    rw [e_v106'] at k
    exact k
   ·show zs p e below T0 m 40 (z1 a0 a1 0 f0 (f1 - f0) ac9 i9) [.int (ls.getD ((f0 + i9)).toNatClampNeg (0 : Int32)), .long ac9] t
    refine XS.ifNo X0.here hx rfl (hb hby d36_40) rfl ((if0 _ _).trans (feq c105).1) ?_
    show zs p e below T0 m 43 (z1 a0 a1 0 f0 (f1 - f0) ac9 i9) [.long ac9] t
    refine XS.lconst X0.here hx rfl (hb hby d36_43) ?_
    show zs p e below T0 m 44 (z1 a0 a1 0 f0 (f1 - f0) ac9 i9) [.long 1, .long ac9] t
    refine XS.iload X0.here hx rfl (hb hby d36_44) rfl ?_
    show zs p e below T0 m 46 (z1 a0 a1 0 f0 (f1 - f0) ac9 i9) [.int i9, .long 1, .long ac9] t
    refine XS.lshl X0.here hx rfl (hb hby d36_46) rfl ?_
    show zs p e below T0 m 47 (z1 a0 a1 0 f0 (f1 - f0) ac9 i9) [.long ((1 : Int64) <<< (i9 &&& 0x3f).toInt64), .long ac9] t
    refine XS.goto X0.here hx rfl (pc0 := 47) (pc' := 51) rfl (hb hby d36_47) (by decide) (by decide) ?_
    have e_v106' : v106 = ((1 : Int64) <<< (i9 &&& 0x3f).toInt64) := e_v106.trans (if_neg c105)
    rw [e_v106'] at k
    exact k
  refine OFin.go sg108 ?_
  have sg109 : zg p e below T0 m 25 (z1 a0 a1 0 f0 (f1 - f0) (ac9 ||| v106) (i9 + (1 : Int32))) [] 51 (z1 a0 a1 0 f0 (f1 - f0) ac9 i9) [.long v106, .long ac9] := by
   intro t k
   refine XS.lor X0.here hx rfl (hb hby d36_51) rfl ?_
   show zs p e below T0 m 52 (z1 a0 a1 0 f0 (f1 - f0) ac9 i9) [.long (ac9 ||| v106)] t
   refine XS.lstore X0.here hx rfl (hb hby d36_52) rfl (l' := (z1 a0 a1 0 f0 (f1 - f0) (ac9 ||| v106) i9)) rfl ?_
   show zs p e below T0 m 54 (z1 a0 a1 0 f0 (f1 - f0) (ac9 ||| v106) i9) [] t
   refine XS.iinc X0.here hx rfl (hb hby d36_54) rfl (l' := (z1 a0 a1 0 f0 (f1 - f0) (ac9 ||| v106) (i9 + (1 : Int32)))) rfl ?_
   show zs p e below T0 m 57 (z1 a0 a1 0 f0 (f1 - f0) (ac9 ||| v106) (i9 + (1 : Int32))) [] t
   refine XS.goto X0.here hx rfl (pc0 := 57) (pc' := 25) rfl (hb hby d36_57) (by decide) (by decide) ?_
   exact k
  refine OFin.go sg109 ?_
  exact IH _ _ (i9 + (1 : Int32)) (ac9 ||| v106) hC X0 e0 K0 N0 G1 VF G2 VS G3 VC VB (by rw [own_inc hi0 (by omega)]; omega) (by rw [own_inc hi0 (by omega)]; omega) (by rw [e_v106]; exact hinv)
set_option maxHeartbeats 40000000 in
theorem rm36v0 (l : Launch) (Z : State) (aZ : Array Value) (hw : ∀ d ∈ tables_1, d.before aZ Z = true) (ws : List Jvm.Cond) (a0 : Addr) (a1 : Addr) (fb : Addr) (kf : ClassId) (f0 : Int32) (f1 : Int32) (f2 : Int32) (sg : Addr) (ks : ClassId) (s0 : Int32) (s1 : Int32) (cd : Addr) (kc : ClassId) (kb : ClassId) (ls : List Int32) (h0 : Heap) (n0 : Nat) (Z0 : n0 ≤ h0.size) (G1 : Fld Z h0 a0 "org/counterpath/engine/Encoding" "_firstBits" "[I" (.ref fb)) (VF : Arv Z h0 fb kf .int (3 : Int32) [(.int f0), (.int f1), (.int f2)] (.int 0)) (G2 : Fld Z h0 a0 "org/counterpath/engine/Encoding" "_signed" "[Z" (.ref sg)) (VS : Arv Z h0 sg ks .boolean (2 : Int32) [(.int s0), (.int s1)] (.int 0)) (G3 : Fld Z h0 a0 "org/counterpath/engine/Encoding" "_codes" "[[J" (.ref cd)) (VC : Arv Z h0 cd kc (.array .long) (2 : Int32) [.null, .null] .null) (VB : Arv Z h0 a1 kb .boolean (128 : Int32) (ls.map Value.int) (.int 0)) (hl : ls.length = 128) (hf0 : 0 ≤ f0.toInt) (hle : f0.toInt ≤ f1.toInt) (h128 : f1.toInt ≤ 128) (hsg : ¬ (s0 = (0 : Int32)) → f0.toInt < f1.toInt) :
  MetFree l (⟨"org/counterpath/engine/Encoding", "value", "([ZI)J"⟩ : MethodName) (head1 (Jvm.Cond.code (⟨"org/counterpath/engine/Encoding", "value", "([ZI)J"⟩ : MethodName) prog_58_method_19_code 8 (some .long) :: ws) ({ frames := 0, cells := 0, slots := 0, locals := 0 } : Room)) (fun a U => a = #[.ref a0, .ref a1, .int 0] ∧ Z.Warmed39 U.vm ∧ U.heap = h0) (fun _ _ _ _ _ => True) (fun _ U o U' => ∃ v L, o = .returned v ∧ Q36v0 Z a0 a1 fb kf f0 f1 f2 sg ks s0 s1 cd kc kb ls h0 n0 v U'.heap L ∧ FrameEnd U o U' L ({ frames := 0, cells := 0, slots := 0, locals := 0 } : Room).cells ({ frames := 0, cells := 0, slots := 0, locals := 0 } : Room).slots) := by
 refine MetFree.of_bodySF (plainFor_of_name pn_15) hisR ?_
 intro p e s m args below meth c s₁ Bd hml0 hP hK
 obtain ⟨rfl, hZ, hh⟩ := hP
 have hx := Bd.exec
 have hby := Bd.bytes
 have hret := Bd.returns
 have hlk : meth.locks = false := BodyLoose.notSynchronized Bd
 have hml : c.maxLocals = 8 := hml0
 have hown : s.vm.findClass "org/counterpath/engine/Encoding" = some m.cls := findClass_of_methodNamed Bd.named
 have hnm := (name_of_methodNamed Bd.named Bd.method).1
 have X0 : Stand p l e ({ frames := 0, cells := 0, slots := 0, locals := 0 } : Room) s m #[.ref a0, .ref a1, .int 0] below meth c s₁ [] 0 0 := Stand.of_body Bd
 have e0 : s₁.heap = h0 := by rw [← hh, Bd.state]; rfl
 have N0 := Fr.nil n0
 have K0 : Keep h0 h0 [] := Keep.refl _ _
 have pre0 : ∀ t, zs p e below s₁ m 0 (z26 a0 a1 0) [] t → Steps p.tables e below (s₁.setTop (entryFrame m #[.ref a0, .ref a1, .int 0] 8)) t := fun t k => castTop (ef_36v0 m a0 a1 (0 : Int32)) k
 show OFin p e below s (Q36v0 Z a0 a1 fb kf f0 f1 f2 sg ks s0 s1 cd kc kb ls h0 n0) ({ frames := 0, cells := 0, slots := 0, locals := 0 } : Room).cells ({ frames := 0, cells := 0, slots := 0, locals := 0 } : Room).slots _
 refine OFin.go pre0 ?_
 have sg101 : zg p e below s₁ m 1 (z26 a0 a1 0) [.ref a0] 0 (z26 a0 a1 0) [] := by
  intro t k
  refine XS.aloadN X0.here hx rfl (hb hby d36_0) rfl rfl ?_
  exact k
 refine OFin.go sg101 ?_
 obtain ⟨T102, X102, e102, st102⟩ := getF X0 hx hZ hown (host := "") (Or.inl (zw hw 183 rfl)) Via.refl e0 G1 (g := (mkF m 1 (z26 a0 a1 0) [.ref a0])) rfl rfl (hb hby d36_1)
 refine OFin.go st102 ?_
 have sg103 : zg p e below T102 m 5 (z26 a0 a1 0) [.int 0, .ref fb] 4 (z26 a0 a1 0) [.ref fb] := by
  intro t k
  refine XS.iloadN X102.here hx rfl (hb hby d36_4) rfl ?_
  exact k
 refine OFin.go sg103 ?_
 obtain ⟨cl104, Ar104, q104, S104, M104, H104, G104⟩ := id VF
 have hin104 : ¬ ((0 : Int32) < 0 ∨ cl104.slots.size ≤ ((0 : Int32)).toNatClampNeg) := inb_of S104 ⟨by decide, by decide⟩
 have hat104 : cl104.slots[((0 : Int32)).toNatClampNeg]? = some (.int f0) := H104.at hin104 rfl
 have sg105 : zg p e below T102 m 8 (z14 a0 a1 0 f0) [.ref a0] 5 (z26 a0 a1 0) [.int 0, .ref fb] := by
  intro t k
  refine X102.iaload hx (j := (0 : Int32)) (v := (.int f0)) (by rw [e102]; exact Ar104.1) (State.isArrayOf_alike hZ.alike Ar104.2.1) Ar104.2.2 hin104 hat104 (g := (mkF m 5 (z26 a0 a1 0) [.int 0, .ref fb])) rfl rfl (hb hby d36_5) _ ?_
  show zs p e below T102 m 6 (z26 a0 a1 0) [.int f0] t
  refine XS.istoreN X102.here hx rfl (hb hby d36_6) rfl (l' := (z14 a0 a1 0 f0)) rfl ?_
  show zs p e below T102 m 7 (z14 a0 a1 0 f0) [] t
  refine XS.aloadN X102.here hx rfl (hb hby d36_7) rfl rfl ?_
  exact k
 refine OFin.go sg105 ?_
 obtain ⟨T106, X106, e106, st106⟩ := getF X102 hx hZ hown (host := "") (Or.inl (zw hw 183 rfl)) Via.refl e102 G1 (g := (mkF m 8 (z14 a0 a1 0 f0) [.ref a0])) rfl rfl (hb hby d36_8)
 refine OFin.go st106 ?_
 have sg107 : zg p e below T106 m 14 (z14 a0 a1 0 f0) [.int 1, .ref fb] 11 (z14 a0 a1 0 f0) [.ref fb] := by
  intro t k
  refine XS.iloadN X106.here hx rfl (hb hby d36_11) rfl ?_
  show zs p e below T106 m 12 (z14 a0 a1 0 f0) [.int 0, .ref fb] t
  refine XS.iconst X106.here hx rfl (hb hby d36_12) ?_
  show zs p e below T106 m 13 (z14 a0 a1 0 f0) [.int 1, .int 0, .ref fb] t
  refine XS.iadd X106.here hx rfl (hb hby d36_13) rfl ?_
  exact k
 refine OFin.go sg107 ?_
 obtain ⟨cl108, Ar108, q108, S108, M108, H108, G108⟩ := id VF
 have hin108 : ¬ ((1 : Int32) < 0 ∨ cl108.slots.size ≤ ((1 : Int32)).toNatClampNeg) := inb_of S108 ⟨by decide, by decide⟩
 have hat108 : cl108.slots[((1 : Int32)).toNatClampNeg]? = some (.int f1) := H108.at hin108 rfl
 have sg109 : zg p e below T106 m 25 (z1 a0 a1 0 f0 (f1 - f0) 0 0) [] 14 (z14 a0 a1 0 f0) [.int 1, .ref fb] := by
  intro t k
  refine X106.iaload hx (j := (1 : Int32)) (v := (.int f1)) (by rw [e106]; exact Ar108.1) (State.isArrayOf_alike hZ.alike Ar108.2.1) Ar108.2.2 hin108 hat108 (g := (mkF m 14 (z14 a0 a1 0 f0) [.int 1, .ref fb])) rfl rfl (hb hby d36_14) _ ?_
  show zs p e below T106 m 15 (z14 a0 a1 0 f0) [.int f1] t
  refine XS.iloadN X106.here hx rfl (hb hby d36_15) rfl ?_
  show zs p e below T106 m 16 (z14 a0 a1 0 f0) [.int f0, .int f1] t
  refine XS.isub X106.here hx rfl (hb hby d36_16) rfl ?_
  show zs p e below T106 m 17 (z14 a0 a1 0 f0) [.int (f1 - f0)] t
  refine XS.istore X106.here hx rfl (hb hby d36_17) rfl (l' := (z51 a0 a1 0 f0 (f1 - f0))) rfl ?_
  show zs p e below T106 m 19 (z51 a0 a1 0 f0 (f1 - f0)) [] t
  refine XS.lconst X106.here hx rfl (hb hby d36_19) ?_
  show zs p e below T106 m 20 (z51 a0 a1 0 f0 (f1 - f0)) [.long 0] t
  refine XS.lstore X106.here hx rfl (hb hby d36_20) rfl (l' := (z52 a0 a1 0 f0 (f1 - f0) 0)) rfl ?_
  show zs p e below T106 m 22 (z52 a0 a1 0 f0 (f1 - f0) 0) [] t
  refine XS.iconst X106.here hx rfl (hb hby d36_22) ?_
  show zs p e below T106 m 23 (z52 a0 a1 0 f0 (f1 - f0) 0) [.int 0] t
  refine XS.istore X106.here hx rfl (hb hby d36_23) rfl (l' := (z1 a0 a1 0 f0 (f1 - f0) 0 0)) rfl ?_
  exact k
 refine OFin.go sg109 ?_
 exact pt36v0_25 Z aZ hw a0 a1 fb kf f0 f1 f2 sg ks s0 s1 cd kc kb ls h0 n0 Z0 hl hf0 hle h128 hsg hx hZ hby hml hown hnm hret hlk (f1.toInt - f0.toInt).toNat _ _ (0 : Int32) (0 : Int64) h0 X106 e106 K0 N0 G1 VF G2 VS G3 VC VB (by decide) (by rw [show (0 : Int32).toInt = 0 from rfl]; omega) rfl
theorem ef_36v1 (m : MethodId) (x0 : Addr) (x1 : Addr) (x2 : Int32) : entryFrame m #[(.ref x0), (.ref x1), (.int x2)] 8 = mkF m 0 #[.val (.ref x0), .val (.ref x1), .val (.int x2), .unset, .unset, .unset, .unset, .unset] [] := by first | (simp [entryFrame, mkF, argsToLocals, Value.category]; done) | rfl
def Q36v1 (Z : State) (a0 : Addr) (a1 : Addr) (fb : Addr) (kf : ClassId) (f0 : Int32) (f1 : Int32) (f2 : Int32) (sg : Addr) (ks : ClassId) (s0 : Int32) (s1 : Int32) (cd : Addr) (kc : ClassId) (kb : ClassId) (ls : List Int32) (h0 : Heap) (n0 : Nat) (v : Option Value) (h : Heap) (L : List Loc) : Prop := v = some (.long (own_value s1 f1 f2 ls)) ∧ Fr n0 L ∧ Keep h0 h []
set_option maxHeartbeats 40000000 in
theorem pt36v1_25 {p : Program} {l : Launch} {e : Env} {s : State} {m : MethodId} {below : List Frame} {meth : Method} {c : Code} (Z : State) (aZ : Array Value) (hw : ∀ d ∈ tables_1, d.before aZ Z = true) (a0 : Addr) (a1 : Addr) (fb : Addr) (kf : ClassId) (f0 : Int32) (f1 : Int32) (f2 : Int32) (sg : Addr) (ks : ClassId) (s0 : Int32) (s1 : Int32) (cd : Addr) (kc : ClassId) (kb : ClassId) (ls : List Int32) (h0 : Heap) (n0 : Nat) (Z0 : n0 ≤ h0.size) (hl : ls.length = 128) (hf0 : 0 ≤ f1.toInt) (hle : f1.toInt ≤ f2.toInt) (h128 : f2.toInt ≤ 128) (hsg : ¬ (s1 = (0 : Int32)) → f1.toInt < f2.toInt)
  (hx : p.tables.exec = Jvm.exec) (hZ : Z.Warmed39 s.vm) (hby : c.code = prog_58_method_19_code) (hml : c.maxLocals = 8) (hown : s.vm.findClass "org/counterpath/engine/Encoding" = some m.cls) (hnm : meth.name = "value") (hret : meth.sig.returnType = some .long) (hlk : meth.locks = false) :
  ∀ (n9 : Nat) (T0 : State) (locs : List Loc) (i9 : Int32) (ac9 : Int64) (hC : Heap) (X0 : Stand p l e ({ frames := 0, cells := 0, slots := 0, locals := 0 } : Room) s m #[.ref a0, .ref a1, .int 1] below meth c T0 locs 0 0) (e0 : T0.heap = hC) (K0 : Keep h0 hC []) (N0 : Fr n0 locs) (G1 : Fld Z hC a0 "org/counterpath/engine/Encoding" "_firstBits" "[I" (.ref fb)) (VF : Arv Z hC fb kf .int (3 : Int32) [.int f0, .int f1, .int f2] (.int 0)) (G2 : Fld Z hC a0 "org/counterpath/engine/Encoding" "_signed" "[Z" (.ref sg)) (VS : Arv Z hC sg ks .boolean (2 : Int32) [.int s0, .int s1] (.int 0)) (G3 : Fld Z hC a0 "org/counterpath/engine/Encoding" "_codes" "[[J" (.ref cd)) (VC : Arv Z hC cd kc (.array .long) (2 : Int32) [.null, .null] .null) (VB : Arv Z hC a1 kb .boolean (128 : Int32) (ls.map Value.int) (.int 0)) (hi0 : 0 ≤ i9.toInt) (hie : i9.toInt + (n9 : Int) = f2.toInt - f1.toInt) (hinv : own_val ls f1 n9 i9 ac9 = own_val ls f1 (f2.toInt - f1.toInt).toNat (0 : Int32) (0 : Int64)), OFin p e below s (Q36v1 Z a0 a1 fb kf f0 f1 f2 sg ks s0 s1 cd kc kb ls h0 n0) ({ frames := 0, cells := 0, slots := 0, locals := 0 } : Room).cells ({ frames := 0, cells := 0, slots := 0, locals := 0 } : Room).slots (T0.setTop (mkF m 25 (z1 a0 a1 1 f1 (f2 - f1) ac9 i9) [])) := by
 intro n9
 induction n9 with
 | zero =>
  intro T0 locs i9 ac9 hC X0 e0 K0 N0 G1 VF G2 VS G3 VC VB hi0 hie hinv
  have sg102 : zg p e below T0 m 29 (z1 a0 a1 1 f1 (f2 - f1) ac9 i9) [.int (f2 - f1), .int i9] 25 (z1 a0 a1 1 f1 (f2 - f1) ac9 i9) [] := by
   intro t k
   refine XS.iload X0.here hx rfl (hb hby d36_25) rfl ?_
   show zs p e below T0 m 27 (z1 a0 a1 1 f1 (f2 - f1) ac9 i9) [.int i9] t
   refine XS.iload X0.here hx rfl (hb hby d36_27) rfl ?_
   exact k
  refine OFin.go sg102 ?_
  have c101 : ¬ (i9 < (f2 - f1)) := (by rw [Int32.lt_iff_toInt_lt, own_subi (by omega) (by omega) hf0 (by omega)]; omega)
  have sg103 : zg p e below T0 m 61 (z1 a0 a1 1 f1 (f2 - f1) ac9 i9) [.ref a0] 29 (z1 a0 a1 1 f1 (f2 - f1) ac9 i9) [.int (f2 - f1), .int i9] := by
   intro t k
   refine XS.icmpYes X0.here hx rfl (pc0 := 29) (pc' := 60) rfl (hb hby d36_29) rfl (flt c101).2.1 (by decide) (by decide) ?_
   show zs p e below T0 m 60 (z1 a0 a1 1 f1 (f2 - f1) ac9 i9) [] t
   refine XS.aloadN X0.here hx rfl (hb hby d36_60) rfl rfl ?_
   exact k
  refine OFin.go sg103 ?_
  obtain ⟨T104, X104, e104, st104⟩ := getF X0 hx hZ hown (host := "") (Or.inl (zw hw 186 rfl)) Via.refl e0 G2 (g := (mkF m 61 (z1 a0 a1 1 f1 (f2 - f1) ac9 i9) [.ref a0])) rfl rfl (hb hby d36_61)
  refine OFin.go st104 ?_
  have sg105 : zg p e below T104 m 65 (z1 a0 a1 1 f1 (f2 - f1) ac9 i9) [.int 1, .ref sg] 64 (z1 a0 a1 1 f1 (f2 - f1) ac9 i9) [.ref sg] := by
   intro t k
   refine XS.iloadN X104.here hx rfl (hb hby d36_64) rfl ?_
   exact k
  refine OFin.go sg105 ?_
  obtain ⟨cl106, Ar106, q106, S106, M106, H106, G106⟩ := id VS
  have hin106 : ¬ ((1 : Int32) < 0 ∨ cl106.slots.size ≤ ((1 : Int32)).toNatClampNeg) := inb_of S106 ⟨by decide, by decide⟩
  have hat106 : cl106.slots[((1 : Int32)).toNatClampNeg]? = some (.int s1) := H106.at hin106 rfl
  have sg107 : zg p e below T104 m 66 (z1 a0 a1 1 f1 (f2 - f1) ac9 i9) [.int s1] 65 (z1 a0 a1 1 f1 (f2 - f1) ac9 i9) [.int 1, .ref sg] := by
   intro t k
   refine X104.baloadBooleans hx (j := (1 : Int32)) (v := (.int s1)) (by rw [e104]; exact Ar106.1) (State.isArrayOf_alike hZ.alike Ar106.2.1) Ar106.2.2 hin106 hat106 (g := (mkF m 65 (z1 a0 a1 1 f1 (f2 - f1) ac9 i9) [.int 1, .ref sg])) rfl rfl (hb hby d36_65) _ ?_
   exact k
  refine OFin.go sg107 ?_
  by_cases c108 : s1 = (0 : Int32)
  ·have sg109 : zg p e below T104 m 99 (z1 a0 a1 1 f1 (f2 - f1) ac9 i9) [.ref a0] 66 (z1 a0 a1 1 f1 (f2 - f1) ac9 i9) [.int s1] := by
    intro t k
    refine XS.ifYes X104.here hx rfl (pc0 := 66) (pc' := 98) rfl (hb hby d36_66) rfl ((if0 _ _).trans (teq c108).1) (by decide) (by decide) ?_
    show zs p e below T104 m 98 (z1 a0 a1 1 f1 (f2 - f1) ac9 i9) [] t
    refine XS.aloadN X104.here hx rfl (hb hby d36_98) rfl rfl ?_
    exact k
   refine OFin.go sg109 ?_
   obtain ⟨T110, X110, e110, st110⟩ := getF X104 hx hZ hown (host := "") (Or.inl (zw hw 190 rfl)) Via.refl e104 G3 (g := (mkF m 99 (z1 a0 a1 1 f1 (f2 - f1) ac9 i9) [.ref a0])) rfl rfl (hb hby d36_99)
   refine OFin.go st110 ?_
   have sg111 : zg p e below T110 m 103 (z1 a0 a1 1 f1 (f2 - f1) ac9 i9) [.int 1, .ref cd] 102 (z1 a0 a1 1 f1 (f2 - f1) ac9 i9) [.ref cd] := by
    intro t k
    refine XS.iloadN X110.here hx rfl (hb hby d36_102) rfl ?_
    exact k
   refine OFin.go sg111 ?_
   obtain ⟨cl112, Ar112, q112, S112, M112, H112, G112⟩ := id VC
   have hin112 : ¬ ((1 : Int32) < 0 ∨ cl112.slots.size ≤ ((1 : Int32)).toNatClampNeg) := inb_of S112 ⟨by decide, by decide⟩
   have hat112 : cl112.slots[((1 : Int32)).toNatClampNeg]? = some .null := H112.at hin112 rfl
   have sg113 : zg p e below T110 m 123 (z1 a0 a1 1 f1 (f2 - f1) ac9 i9) [.long ac9] 103 (z1 a0 a1 1 f1 (f2 - f1) ac9 i9) [.int 1, .ref cd] := by
    intro t k
    refine X110.aaload hx (j := (1 : Int32)) (v := .null) (by rw [e110]; exact Ar112.1) (State.isArrayOf_alike hZ.alike Ar112.2.1) rfl Ar112.2.2 hin112 hat112 (g := (mkF m 103 (z1 a0 a1 1 f1 (f2 - f1) ac9 i9) [.int 1, .ref cd])) rfl rfl (hb hby d36_103) _ ?_
    show zs p e below T110 m 104 (z1 a0 a1 1 f1 (f2 - f1) ac9 i9) [.null] t
    refine XS.ifnonnullNo X110.here hx rfl (hb hby d36_104) rfl ?_
    show zs p e below T110 m 107 (z1 a0 a1 1 f1 (f2 - f1) ac9 i9) [] t
    refine XS.lload X110.here hx rfl (hb hby d36_107) rfl ?_
    show zs p e below T110 m 109 (z1 a0 a1 1 f1 (f2 - f1) ac9 i9) [.long ac9] t
    refine XS.goto X110.here hx rfl (pc0 := 109) (pc' := 123) rfl (hb hby d36_109) (by decide) (by decide) ?_
    exact k
   refine OFin.go sg113 ?_
   exact OFin.retL X110 hx hret hlk (hb hby d36_123) (by rw [e110]; exact ⟨(congrArg (fun z => some (Value.long z)) ((by rw [own_value, ← hinv, own_val, if_pos c108]) : ac9 = (own_value s1 f1 f2 ls))), N0, K0⟩) (by decide) (by decide)
  ·have sg114 : zg p e below T104 m 73 (z1 a0 a1 1 f1 (f2 - f1) ac9 i9) [.int 64, .int (f2 - f1)] 66 (z1 a0 a1 1 f1 (f2 - f1) ac9 i9) [.int s1] := by
    intro t k
    refine XS.ifNo X104.here hx rfl (hb hby d36_66) rfl ((if0 _ _).trans (feq c108).1) ?_
    show zs p e below T104 m 69 (z1 a0 a1 1 f1 (f2 - f1) ac9 i9) [] t
    refine XS.iload X104.here hx rfl (hb hby d36_69) rfl ?_
    show zs p e below T104 m 71 (z1 a0 a1 1 f1 (f2 - f1) ac9 i9) [.int (f2 - f1)] t
    refine XS.bipush X104.here hx rfl (hb hby d36_71) ?_
    exact k
   refine OFin.go sg114 ?_
   by_cases c115 : (f2 - f1) < (64 : Int32)
   ·have sg116 : zg p e below T104 m 83 (z1 a0 a1 1 f1 (f2 - f1) ac9 i9) [.int ((f1 + (f2 - f1)) - (1 : Int32)), .ref a1] 73 (z1 a0 a1 1 f1 (f2 - f1) ac9 i9) [.int 64, .int (f2 - f1)] := by
     intro t k
     refine XS.icmpNo X104.here hx rfl (hb hby d36_73) rfl (tlt c115).2.1 ?_
     show zs p e below T104 m 76 (z1 a0 a1 1 f1 (f2 - f1) ac9 i9) [] t
     refine XS.aloadN X104.here hx rfl (hb hby d36_76) rfl rfl ?_
     show zs p e below T104 m 77 (z1 a0 a1 1 f1 (f2 - f1) ac9 i9) [.ref a1] t
     refine XS.iloadN X104.here hx rfl (hb hby d36_77) rfl ?_
     show zs p e below T104 m 78 (z1 a0 a1 1 f1 (f2 - f1) ac9 i9) [.int f1, .ref a1] t
     refine XS.iload X104.here hx rfl (hb hby d36_78) rfl ?_
     show zs p e below T104 m 80 (z1 a0 a1 1 f1 (f2 - f1) ac9 i9) [.int (f2 - f1), .int f1, .ref a1] t
     refine XS.iadd X104.here hx rfl (hb hby d36_80) rfl ?_
     show zs p e below T104 m 81 (z1 a0 a1 1 f1 (f2 - f1) ac9 i9) [.int (f1 + (f2 - f1)), .ref a1] t
     refine XS.iconst X104.here hx rfl (hb hby d36_81) ?_
     show zs p e below T104 m 82 (z1 a0 a1 1 f1 (f2 - f1) ac9 i9) [.int 1, .int (f1 + (f2 - f1)), .ref a1] t
     refine XS.isub X104.here hx rfl (hb hby d36_82) rfl ?_
     exact k
    refine OFin.go sg116 ?_
    obtain ⟨cl117, Ar117, q117, S117, M117, H117, G117⟩ := id VB
    have hin117 : ¬ (((f1 + (f2 - f1)) - (1 : Int32)) < 0 ∨ cl117.slots.size ≤ (((f1 + (f2 - f1)) - (1 : Int32))).toNatClampNeg) := inb_of S117 (by have q0 := hsg c108; have q1 := own_subi (e := f2) (f := f1) (by omega) (by omega) hf0 (by omega); have q2 := own_addi (i := (f2 - f1)) (f := f1) (by omega) (by omega) hf0 (by omega); have q3 : ((f1 + (f2 - f1)) - (1 : Int32)).toInt = (f1 + (f2 - f1)).toInt - 1 := own_subi (f := 1) (by omega) (by omega) (by decide) (by decide); exact own_inb (by omega) (by omega))
    have hat117 : cl117.slots[(((f1 + (f2 - f1)) - (1 : Int32))).toNatClampNeg]? = some (.int (ls.getD (((f1 + (f2 - f1)) - (1 : Int32))).toNatClampNeg (0 : Int32))) := H117.at hin117 (own_getD ls _)
    have sg118 : zg p e below T104 m 84 (z1 a0 a1 1 f1 (f2 - f1) ac9 i9) [.int (ls.getD (((f1 + (f2 - f1)) - (1 : Int32))).toNatClampNeg (0 : Int32))] 83 (z1 a0 a1 1 f1 (f2 - f1) ac9 i9) [.int ((f1 + (f2 - f1)) - (1 : Int32)), .ref a1] := by
     intro t k
     refine X104.baloadBooleans hx (j := ((f1 + (f2 - f1)) - (1 : Int32))) (v := (.int (ls.getD (((f1 + (f2 - f1)) - (1 : Int32))).toNatClampNeg (0 : Int32)))) (by rw [e104]; exact Ar117.1) (State.isArrayOf_alike hZ.alike Ar117.2.1) Ar117.2.2 hin117 hat117 (g := (mkF m 83 (z1 a0 a1 1 f1 (f2 - f1) ac9 i9) [.int ((f1 + (f2 - f1)) - (1 : Int32)), .ref a1])) rfl rfl (hb hby d36_83) _ ?_
     exact k
    refine OFin.go sg118 ?_
    by_cases c119 : (ls.getD (((f1 + (f2 - f1)) - (1 : Int32))).toNatClampNeg (0 : Int32)) = (0 : Int32)
    ·have sg120 : zg p e below T104 m 99 (z1 a0 a1 1 f1 (f2 - f1) ac9 i9) [.ref a0] 84 (z1 a0 a1 1 f1 (f2 - f1) ac9 i9) [.int (ls.getD (((f1 + (f2 - f1)) - (1 : Int32))).toNatClampNeg (0 : Int32))] := by
      intro t k
      refine XS.ifYes X104.here hx rfl (pc0 := 84) (pc' := 98) rfl (hb hby d36_84) rfl ((if0 _ _).trans (teq c119).1) (by decide) (by decide) ?_
      show zs p e below T104 m 98 (z1 a0 a1 1 f1 (f2 - f1) ac9 i9) [] t
      refine XS.aloadN X104.here hx rfl (hb hby d36_98) rfl rfl ?_
      exact k
     refine OFin.go sg120 ?_
     obtain ⟨T121, X121, e121, st121⟩ := getF X104 hx hZ hown (host := "") (Or.inl (zw hw 190 rfl)) Via.refl e104 G3 (g := (mkF m 99 (z1 a0 a1 1 f1 (f2 - f1) ac9 i9) [.ref a0])) rfl rfl (hb hby d36_99)
     refine OFin.go st121 ?_
     have sg122 : zg p e below T121 m 103 (z1 a0 a1 1 f1 (f2 - f1) ac9 i9) [.int 1, .ref cd] 102 (z1 a0 a1 1 f1 (f2 - f1) ac9 i9) [.ref cd] := by
      intro t k
      refine XS.iloadN X121.here hx rfl (hb hby d36_102) rfl ?_
      exact k
     refine OFin.go sg122 ?_
     obtain ⟨cl123, Ar123, q123, S123, M123, H123, G123⟩ := id VC
     have hin123 : ¬ ((1 : Int32) < 0 ∨ cl123.slots.size ≤ ((1 : Int32)).toNatClampNeg) := inb_of S123 ⟨by decide, by decide⟩
     have hat123 : cl123.slots[((1 : Int32)).toNatClampNeg]? = some .null := H123.at hin123 rfl
     have sg124 : zg p e below T121 m 123 (z1 a0 a1 1 f1 (f2 - f1) ac9 i9) [.long ac9] 103 (z1 a0 a1 1 f1 (f2 - f1) ac9 i9) [.int 1, .ref cd] := by
      intro t k
      refine X121.aaload hx (j := (1 : Int32)) (v := .null) (by rw [e121]; exact Ar123.1) (State.isArrayOf_alike hZ.alike Ar123.2.1) rfl Ar123.2.2 hin123 hat123 (g := (mkF m 103 (z1 a0 a1 1 f1 (f2 - f1) ac9 i9) [.int 1, .ref cd])) rfl rfl (hb hby d36_103) _ ?_
      show zs p e below T121 m 104 (z1 a0 a1 1 f1 (f2 - f1) ac9 i9) [.null] t
      refine XS.ifnonnullNo X121.here hx rfl (hb hby d36_104) rfl ?_
      show zs p e below T121 m 107 (z1 a0 a1 1 f1 (f2 - f1) ac9 i9) [] t
      refine XS.lload X121.here hx rfl (hb hby d36_107) rfl ?_
      show zs p e below T121 m 109 (z1 a0 a1 1 f1 (f2 - f1) ac9 i9) [.long ac9] t
      refine XS.goto X121.here hx rfl (pc0 := 109) (pc' := 123) rfl (hb hby d36_109) (by decide) (by decide) ?_
      exact k
     refine OFin.go sg124 ?_
     exact OFin.retL X121 hx hret hlk (hb hby d36_123) (by rw [e121]; exact ⟨(congrArg (fun z => some (Value.long z)) ((by rw [own_value, ← hinv, own_val, if_neg c108, if_pos c115, if_pos c119]) : ac9 = (own_value s1 f1 f2 ls))), N0, K0⟩) (by decide) (by decide)
    ·have sg125 : zg p e below T104 m 99 (z1 a0 a1 1 f1 (f2 - f1) (ac9 ||| ((-1 : Int64) <<< ((f2 - f1) &&& 0x3f).toInt64)) i9) [.ref a0] 84 (z1 a0 a1 1 f1 (f2 - f1) ac9 i9) [.int (ls.getD (((f1 + (f2 - f1)) - (1 : Int32))).toNatClampNeg (0 : Int32))] := by
      intro t k
      refine XS.ifNo X104.here hx rfl (hb hby d36_84) rfl ((if0 _ _).trans (feq c119).1) ?_
      show zs p e below T104 m 87 (z1 a0 a1 1 f1 (f2 - f1) ac9 i9) [] t
      refine XS.lload X104.here hx rfl (hb hby d36_87) rfl ?_
      show zs p e below T104 m 89 (z1 a0 a1 1 f1 (f2 - f1) ac9 i9) [.long ac9] t
      refine X104.ldc2Long hx hown (mvT hZ (zw hw 263 rfl)) (g := (mkF m 89 (z1 a0 a1 1 f1 (f2 - f1) ac9 i9) [.long ac9])) rfl (hb hby d36_89) _ ?_
      show zs p e below T104 m 92 (z1 a0 a1 1 f1 (f2 - f1) ac9 i9) [.long (-1 : Int64), .long ac9] t
      refine XS.iload X104.here hx rfl (hb hby d36_92) rfl ?_
      show zs p e below T104 m 94 (z1 a0 a1 1 f1 (f2 - f1) ac9 i9) [.int (f2 - f1), .long (-1 : Int64), .long ac9] t
      refine XS.lshl X104.here hx rfl (hb hby d36_94) rfl ?_
      show zs p e below T104 m 95 (z1 a0 a1 1 f1 (f2 - f1) ac9 i9) [.long ((-1 : Int64) <<< ((f2 - f1) &&& 0x3f).toInt64), .long ac9] t
      refine XS.lor X104.here hx rfl (hb hby d36_95) rfl ?_
      show zs p e below T104 m 96 (z1 a0 a1 1 f1 (f2 - f1) ac9 i9) [.long (ac9 ||| ((-1 : Int64) <<< ((f2 - f1) &&& 0x3f).toInt64))] t
      refine XS.lstore X104.here hx rfl (hb hby d36_96) rfl (l' := (z1 a0 a1 1 f1 (f2 - f1) (ac9 ||| ((-1 : Int64) <<< ((f2 - f1) &&& 0x3f).toInt64)) i9)) rfl ?_
      show zs p e below T104 m 98 (z1 a0 a1 1 f1 (f2 - f1) (ac9 ||| ((-1 : Int64) <<< ((f2 - f1) &&& 0x3f).toInt64)) i9) [] t
      refine XS.aloadN X104.here hx rfl (hb hby d36_98) rfl rfl ?_
      exact k
     refine OFin.go sg125 ?_
     obtain ⟨T126, X126, e126, st126⟩ := getF X104 hx hZ hown (host := "") (Or.inl (zw hw 190 rfl)) Via.refl e104 G3 (g := (mkF m 99 (z1 a0 a1 1 f1 (f2 - f1) (ac9 ||| ((-1 : Int64) <<< ((f2 - f1) &&& 0x3f).toInt64)) i9) [.ref a0])) rfl rfl (hb hby d36_99)
     refine OFin.go st126 ?_
     have sg127 : zg p e below T126 m 103 (z1 a0 a1 1 f1 (f2 - f1) (ac9 ||| ((-1 : Int64) <<< ((f2 - f1) &&& 0x3f).toInt64)) i9) [.int 1, .ref cd] 102 (z1 a0 a1 1 f1 (f2 - f1) (ac9 ||| ((-1 : Int64) <<< ((f2 - f1) &&& 0x3f).toInt64)) i9) [.ref cd] := by
      intro t k
      refine XS.iloadN X126.here hx rfl (hb hby d36_102) rfl ?_
      exact k
     refine OFin.go sg127 ?_
     obtain ⟨cl128, Ar128, q128, S128, M128, H128, G128⟩ := id VC
     have hin128 : ¬ ((1 : Int32) < 0 ∨ cl128.slots.size ≤ ((1 : Int32)).toNatClampNeg) := inb_of S128 ⟨by decide, by decide⟩
     have hat128 : cl128.slots[((1 : Int32)).toNatClampNeg]? = some .null := H128.at hin128 rfl
     have sg129 : zg p e below T126 m 123 (z1 a0 a1 1 f1 (f2 - f1) (ac9 ||| ((-1 : Int64) <<< ((f2 - f1) &&& 0x3f).toInt64)) i9) [.long (ac9 ||| ((-1 : Int64) <<< ((f2 - f1) &&& 0x3f).toInt64))] 103 (z1 a0 a1 1 f1 (f2 - f1) (ac9 ||| ((-1 : Int64) <<< ((f2 - f1) &&& 0x3f).toInt64)) i9) [.int 1, .ref cd] := by
      intro t k
      refine X126.aaload hx (j := (1 : Int32)) (v := .null) (by rw [e126]; exact Ar128.1) (State.isArrayOf_alike hZ.alike Ar128.2.1) rfl Ar128.2.2 hin128 hat128 (g := (mkF m 103 (z1 a0 a1 1 f1 (f2 - f1) (ac9 ||| ((-1 : Int64) <<< ((f2 - f1) &&& 0x3f).toInt64)) i9) [.int 1, .ref cd])) rfl rfl (hb hby d36_103) _ ?_
      show zs p e below T126 m 104 (z1 a0 a1 1 f1 (f2 - f1) (ac9 ||| ((-1 : Int64) <<< ((f2 - f1) &&& 0x3f).toInt64)) i9) [.null] t
      refine XS.ifnonnullNo X126.here hx rfl (hb hby d36_104) rfl ?_
      show zs p e below T126 m 107 (z1 a0 a1 1 f1 (f2 - f1) (ac9 ||| ((-1 : Int64) <<< ((f2 - f1) &&& 0x3f).toInt64)) i9) [] t
      refine XS.lload X126.here hx rfl (hb hby d36_107) rfl ?_
      show zs p e below T126 m 109 (z1 a0 a1 1 f1 (f2 - f1) (ac9 ||| ((-1 : Int64) <<< ((f2 - f1) &&& 0x3f).toInt64)) i9) [.long (ac9 ||| ((-1 : Int64) <<< ((f2 - f1) &&& 0x3f).toInt64))] t
      refine XS.goto X126.here hx rfl (pc0 := 109) (pc' := 123) rfl (hb hby d36_109) (by decide) (by decide) ?_
      exact k
     refine OFin.go sg129 ?_
     exact OFin.retL X126 hx hret hlk (hb hby d36_123) (by rw [e126]; exact ⟨(congrArg (fun z => some (Value.long z)) ((by rw [own_value, ← hinv, own_val, if_neg c108, if_pos c115, if_neg c119]) : (ac9 ||| ((-1 : Int64) <<< ((f2 - f1) &&& 0x3f).toInt64)) = (own_value s1 f1 f2 ls))), N0, K0⟩) (by decide) (by decide)
   ·have sg130 : zg p e below T104 m 99 (z1 a0 a1 1 f1 (f2 - f1) ac9 i9) [.ref a0] 73 (z1 a0 a1 1 f1 (f2 - f1) ac9 i9) [.int 64, .int (f2 - f1)] := by
     intro t k
     refine XS.icmpYes X104.here hx rfl (pc0 := 73) (pc' := 98) rfl (hb hby d36_73) rfl (flt c115).2.1 (by decide) (by decide) ?_
     show zs p e below T104 m 98 (z1 a0 a1 1 f1 (f2 - f1) ac9 i9) [] t
     refine XS.aloadN X104.here hx rfl (hb hby d36_98) rfl rfl ?_
     exact k
    refine OFin.go sg130 ?_
    obtain ⟨T131, X131, e131, st131⟩ := getF X104 hx hZ hown (host := "") (Or.inl (zw hw 190 rfl)) Via.refl e104 G3 (g := (mkF m 99 (z1 a0 a1 1 f1 (f2 - f1) ac9 i9) [.ref a0])) rfl rfl (hb hby d36_99)
    refine OFin.go st131 ?_
    have sg132 : zg p e below T131 m 103 (z1 a0 a1 1 f1 (f2 - f1) ac9 i9) [.int 1, .ref cd] 102 (z1 a0 a1 1 f1 (f2 - f1) ac9 i9) [.ref cd] := by
     intro t k
     refine XS.iloadN X131.here hx rfl (hb hby d36_102) rfl ?_
     exact k
    refine OFin.go sg132 ?_
    obtain ⟨cl133, Ar133, q133, S133, M133, H133, G133⟩ := id VC
    have hin133 : ¬ ((1 : Int32) < 0 ∨ cl133.slots.size ≤ ((1 : Int32)).toNatClampNeg) := inb_of S133 ⟨by decide, by decide⟩
    have hat133 : cl133.slots[((1 : Int32)).toNatClampNeg]? = some .null := H133.at hin133 rfl
    have sg134 : zg p e below T131 m 123 (z1 a0 a1 1 f1 (f2 - f1) ac9 i9) [.long ac9] 103 (z1 a0 a1 1 f1 (f2 - f1) ac9 i9) [.int 1, .ref cd] := by
     intro t k
     refine X131.aaload hx (j := (1 : Int32)) (v := .null) (by rw [e131]; exact Ar133.1) (State.isArrayOf_alike hZ.alike Ar133.2.1) rfl Ar133.2.2 hin133 hat133 (g := (mkF m 103 (z1 a0 a1 1 f1 (f2 - f1) ac9 i9) [.int 1, .ref cd])) rfl rfl (hb hby d36_103) _ ?_
     show zs p e below T131 m 104 (z1 a0 a1 1 f1 (f2 - f1) ac9 i9) [.null] t
     refine XS.ifnonnullNo X131.here hx rfl (hb hby d36_104) rfl ?_
     show zs p e below T131 m 107 (z1 a0 a1 1 f1 (f2 - f1) ac9 i9) [] t
     refine XS.lload X131.here hx rfl (hb hby d36_107) rfl ?_
     show zs p e below T131 m 109 (z1 a0 a1 1 f1 (f2 - f1) ac9 i9) [.long ac9] t
     refine XS.goto X131.here hx rfl (pc0 := 109) (pc' := 123) rfl (hb hby d36_109) (by decide) (by decide) ?_
     exact k
    refine OFin.go sg134 ?_
    exact OFin.retL X131 hx hret hlk (hb hby d36_123) (by rw [e131]; exact ⟨(congrArg (fun z => some (Value.long z)) ((by rw [own_value, ← hinv, own_val, if_neg c108, if_neg c115]) : ac9 = (own_value s1 f1 f2 ls))), N0, K0⟩) (by decide) (by decide)
 | succ n9 IH =>
  intro T0 locs i9 ac9 hC X0 e0 K0 N0 G1 VF G2 VS G3 VC VB hi0 hie hinv
  have sg102 : zg p e below T0 m 29 (z1 a0 a1 1 f1 (f2 - f1) ac9 i9) [.int (f2 - f1), .int i9] 25 (z1 a0 a1 1 f1 (f2 - f1) ac9 i9) [] := by
   intro t k
   refine XS.iload X0.here hx rfl (hb hby d36_25) rfl ?_
   show zs p e below T0 m 27 (z1 a0 a1 1 f1 (f2 - f1) ac9 i9) [.int i9] t
   refine XS.iload X0.here hx rfl (hb hby d36_27) rfl ?_
   exact k
  refine OFin.go sg102 ?_
  have c101 : i9 < (f2 - f1) := (by rw [Int32.lt_iff_toInt_lt, own_subi (by omega) (by omega) hf0 (by omega)]; omega)
  have sg103 : zg p e below T0 m 39 (z1 a0 a1 1 f1 (f2 - f1) ac9 i9) [.int (f1 + i9), .ref a1, .long ac9] 29 (z1 a0 a1 1 f1 (f2 - f1) ac9 i9) [.int (f2 - f1), .int i9] := by
   intro t k
   refine XS.icmpNo X0.here hx rfl (hb hby d36_29) rfl (tlt c101).2.1 ?_
   show zs p e below T0 m 32 (z1 a0 a1 1 f1 (f2 - f1) ac9 i9) [] t
   refine XS.lload X0.here hx rfl (hb hby d36_32) rfl ?_
   show zs p e below T0 m 34 (z1 a0 a1 1 f1 (f2 - f1) ac9 i9) [.long ac9] t
   refine XS.aloadN X0.here hx rfl (hb hby d36_34) rfl rfl ?_
   show zs p e below T0 m 35 (z1 a0 a1 1 f1 (f2 - f1) ac9 i9) [.ref a1, .long ac9] t
   refine XS.iloadN X0.here hx rfl (hb hby d36_35) rfl ?_
   show zs p e below T0 m 36 (z1 a0 a1 1 f1 (f2 - f1) ac9 i9) [.int f1, .ref a1, .long ac9] t
   refine XS.iload X0.here hx rfl (hb hby d36_36) rfl ?_
   show zs p e below T0 m 38 (z1 a0 a1 1 f1 (f2 - f1) ac9 i9) [.int i9, .int f1, .ref a1, .long ac9] t
   refine XS.iadd X0.here hx rfl (hb hby d36_38) rfl ?_
   exact k
  refine OFin.go sg103 ?_
  obtain ⟨cl104, Ar104, q104, S104, M104, H104, G104⟩ := id VB
  have hin104 : ¬ ((f1 + i9) < 0 ∨ cl104.slots.size ≤ ((f1 + i9)).toNatClampNeg) := inb_of S104 (by have q := own_addi hi0 (by omega) hf0 (by omega : f1.toInt < 1000); exact own_inb (by rw [q]; omega) (by rw [q]; omega))
  have hat104 : cl104.slots[((f1 + i9)).toNatClampNeg]? = some (.int (ls.getD ((f1 + i9)).toNatClampNeg (0 : Int32))) := H104.at hin104 (own_getD ls _)
  have sg107 : zg p e below T0 m 40 (z1 a0 a1 1 f1 (f2 - f1) ac9 i9) [.int (ls.getD ((f1 + i9)).toNatClampNeg (0 : Int32)), .long ac9] 39 (z1 a0 a1 1 f1 (f2 - f1) ac9 i9) [.int (f1 + i9), .ref a1, .long ac9] := by
   intro t k
   refine X0.baloadBooleans hx (j := (f1 + i9)) (v := (.int (ls.getD ((f1 + i9)).toNatClampNeg (0 : Int32)))) (by rw [e0]; exact Ar104.1) (State.isArrayOf_alike hZ.alike Ar104.2.1) Ar104.2.2 hin104 hat104 (g := (mkF m 39 (z1 a0 a1 1 f1 (f2 - f1) ac9 i9) [.int (f1 + i9), .ref a1, .long ac9])) rfl rfl (hb hby d36_39) _ ?_
   exact k
  refine OFin.go sg107 ?_
  obtain ⟨v106, e_v106⟩ : ∃ z : Int64, z = (if (ls.getD ((f1 + i9)).toNatClampNeg (0 : Int32)) = (0 : Int32) then (0 : Int64) else ((1 : Int64) <<< (i9 &&& 0x3f).toInt64)) := ⟨_, rfl⟩
  have sg108 : zg p e below T0 m 51 (z1 a0 a1 1 f1 (f2 - f1) ac9 i9) [.long v106, .long ac9] 40 (z1 a0 a1 1 f1 (f2 - f1) ac9 i9) [.int (ls.getD ((f1 + i9)).toNatClampNeg (0 : Int32)), .long ac9] := by
   intro t k
   by_cases c105 : (ls.getD ((f1 + i9)).toNatClampNeg (0 : Int32)) = (0 : Int32)
   ·show zs p e below T0 m 40 (z1 a0 a1 1 f1 (f2 - f1) ac9 i9) [.int (ls.getD ((f1 + i9)).toNatClampNeg (0 : Int32)), .long ac9] t
    refine XS.ifYes X0.here hx rfl (pc0 := 40) (pc' := 50) rfl (hb hby d36_40) rfl ((if0 _ _).trans (teq c105).1) (by decide) (by decide) ?_
    show zs p e below T0 m 50 (z1 a0 a1 1 f1 (f2 - f1) ac9 i9) [.long ac9] t
    refine XS.lconst X0.here hx rfl (hb hby d36_50) ?_
    have e_v106' : v106 = (0 : Int64) := e_v106.trans (if_pos c105)
    rw [e_v106'] at k
    exact k
   ·show zs p e below T0 m 40 (z1 a0 a1 1 f1 (f2 - f1) ac9 i9) [.int (ls.getD ((f1 + i9)).toNatClampNeg (0 : Int32)), .long ac9] t
    refine XS.ifNo X0.here hx rfl (hb hby d36_40) rfl ((if0 _ _).trans (feq c105).1) ?_
    show zs p e below T0 m 43 (z1 a0 a1 1 f1 (f2 - f1) ac9 i9) [.long ac9] t
    refine XS.lconst X0.here hx rfl (hb hby d36_43) ?_
    show zs p e below T0 m 44 (z1 a0 a1 1 f1 (f2 - f1) ac9 i9) [.long 1, .long ac9] t
    refine XS.iload X0.here hx rfl (hb hby d36_44) rfl ?_
    show zs p e below T0 m 46 (z1 a0 a1 1 f1 (f2 - f1) ac9 i9) [.int i9, .long 1, .long ac9] t
    refine XS.lshl X0.here hx rfl (hb hby d36_46) rfl ?_
    show zs p e below T0 m 47 (z1 a0 a1 1 f1 (f2 - f1) ac9 i9) [.long ((1 : Int64) <<< (i9 &&& 0x3f).toInt64), .long ac9] t
    refine XS.goto X0.here hx rfl (pc0 := 47) (pc' := 51) rfl (hb hby d36_47) (by decide) (by decide) ?_
    have e_v106' : v106 = ((1 : Int64) <<< (i9 &&& 0x3f).toInt64) := e_v106.trans (if_neg c105)
    rw [e_v106'] at k
    exact k
  refine OFin.go sg108 ?_
  have sg109 : zg p e below T0 m 25 (z1 a0 a1 1 f1 (f2 - f1) (ac9 ||| v106) (i9 + (1 : Int32))) [] 51 (z1 a0 a1 1 f1 (f2 - f1) ac9 i9) [.long v106, .long ac9] := by
   intro t k
   refine XS.lor X0.here hx rfl (hb hby d36_51) rfl ?_
   show zs p e below T0 m 52 (z1 a0 a1 1 f1 (f2 - f1) ac9 i9) [.long (ac9 ||| v106)] t
   refine XS.lstore X0.here hx rfl (hb hby d36_52) rfl (l' := (z1 a0 a1 1 f1 (f2 - f1) (ac9 ||| v106) i9)) rfl ?_
   show zs p e below T0 m 54 (z1 a0 a1 1 f1 (f2 - f1) (ac9 ||| v106) i9) [] t
   refine XS.iinc X0.here hx rfl (hb hby d36_54) rfl (l' := (z1 a0 a1 1 f1 (f2 - f1) (ac9 ||| v106) (i9 + (1 : Int32)))) rfl ?_
   show zs p e below T0 m 57 (z1 a0 a1 1 f1 (f2 - f1) (ac9 ||| v106) (i9 + (1 : Int32))) [] t
   refine XS.goto X0.here hx rfl (pc0 := 57) (pc' := 25) rfl (hb hby d36_57) (by decide) (by decide) ?_
   exact k
  refine OFin.go sg109 ?_
  exact IH _ _ (i9 + (1 : Int32)) (ac9 ||| v106) hC X0 e0 K0 N0 G1 VF G2 VS G3 VC VB (by rw [own_inc hi0 (by omega)]; omega) (by rw [own_inc hi0 (by omega)]; omega) (by rw [e_v106]; exact hinv)
set_option maxHeartbeats 40000000 in
theorem rm36v1 (l : Launch) (Z : State) (aZ : Array Value) (hw : ∀ d ∈ tables_1, d.before aZ Z = true) (ws : List Jvm.Cond) (a0 : Addr) (a1 : Addr) (fb : Addr) (kf : ClassId) (f0 : Int32) (f1 : Int32) (f2 : Int32) (sg : Addr) (ks : ClassId) (s0 : Int32) (s1 : Int32) (cd : Addr) (kc : ClassId) (kb : ClassId) (ls : List Int32) (h0 : Heap) (n0 : Nat) (Z0 : n0 ≤ h0.size) (G1 : Fld Z h0 a0 "org/counterpath/engine/Encoding" "_firstBits" "[I" (.ref fb)) (VF : Arv Z h0 fb kf .int (3 : Int32) [(.int f0), (.int f1), (.int f2)] (.int 0)) (G2 : Fld Z h0 a0 "org/counterpath/engine/Encoding" "_signed" "[Z" (.ref sg)) (VS : Arv Z h0 sg ks .boolean (2 : Int32) [(.int s0), (.int s1)] (.int 0)) (G3 : Fld Z h0 a0 "org/counterpath/engine/Encoding" "_codes" "[[J" (.ref cd)) (VC : Arv Z h0 cd kc (.array .long) (2 : Int32) [.null, .null] .null) (VB : Arv Z h0 a1 kb .boolean (128 : Int32) (ls.map Value.int) (.int 0)) (hl : ls.length = 128) (hf0 : 0 ≤ f1.toInt) (hle : f1.toInt ≤ f2.toInt) (h128 : f2.toInt ≤ 128) (hsg : ¬ (s1 = (0 : Int32)) → f1.toInt < f2.toInt) :
  MetFree l (⟨"org/counterpath/engine/Encoding", "value", "([ZI)J"⟩ : MethodName) (head1 (Jvm.Cond.code (⟨"org/counterpath/engine/Encoding", "value", "([ZI)J"⟩ : MethodName) prog_58_method_19_code 8 (some .long) :: ws) ({ frames := 0, cells := 0, slots := 0, locals := 0 } : Room)) (fun a U => a = #[.ref a0, .ref a1, .int 1] ∧ Z.Warmed39 U.vm ∧ U.heap = h0) (fun _ _ _ _ _ => True) (fun _ U o U' => ∃ v L, o = .returned v ∧ Q36v1 Z a0 a1 fb kf f0 f1 f2 sg ks s0 s1 cd kc kb ls h0 n0 v U'.heap L ∧ FrameEnd U o U' L ({ frames := 0, cells := 0, slots := 0, locals := 0 } : Room).cells ({ frames := 0, cells := 0, slots := 0, locals := 0 } : Room).slots) := by
 refine MetFree.of_bodySF (plainFor_of_name pn_15) hisR ?_
 intro p e s m args below meth c s₁ Bd hml0 hP hK
 obtain ⟨rfl, hZ, hh⟩ := hP
 have hx := Bd.exec
 have hby := Bd.bytes
 have hret := Bd.returns
 have hlk : meth.locks = false := BodyLoose.notSynchronized Bd
 have hml : c.maxLocals = 8 := hml0
 have hown : s.vm.findClass "org/counterpath/engine/Encoding" = some m.cls := findClass_of_methodNamed Bd.named
 have hnm := (name_of_methodNamed Bd.named Bd.method).1
 have X0 : Stand p l e ({ frames := 0, cells := 0, slots := 0, locals := 0 } : Room) s m #[.ref a0, .ref a1, .int 1] below meth c s₁ [] 0 0 := Stand.of_body Bd
 have e0 : s₁.heap = h0 := by rw [← hh, Bd.state]; rfl
 have N0 := Fr.nil n0
 have K0 : Keep h0 h0 [] := Keep.refl _ _
 have pre0 : ∀ t, zs p e below s₁ m 0 (z26 a0 a1 1) [] t → Steps p.tables e below (s₁.setTop (entryFrame m #[.ref a0, .ref a1, .int 1] 8)) t := fun t k => castTop (ef_36v1 m a0 a1 (1 : Int32)) k
 show OFin p e below s (Q36v1 Z a0 a1 fb kf f0 f1 f2 sg ks s0 s1 cd kc kb ls h0 n0) ({ frames := 0, cells := 0, slots := 0, locals := 0 } : Room).cells ({ frames := 0, cells := 0, slots := 0, locals := 0 } : Room).slots _
 refine OFin.go pre0 ?_
 have sg101 : zg p e below s₁ m 1 (z26 a0 a1 1) [.ref a0] 0 (z26 a0 a1 1) [] := by
  intro t k
  refine XS.aloadN X0.here hx rfl (hb hby d36_0) rfl rfl ?_
  exact k
 refine OFin.go sg101 ?_
 obtain ⟨T102, X102, e102, st102⟩ := getF X0 hx hZ hown (host := "") (Or.inl (zw hw 183 rfl)) Via.refl e0 G1 (g := (mkF m 1 (z26 a0 a1 1) [.ref a0])) rfl rfl (hb hby d36_1)
 refine OFin.go st102 ?_
 have sg103 : zg p e below T102 m 5 (z26 a0 a1 1) [.int 1, .ref fb] 4 (z26 a0 a1 1) [.ref fb] := by
  intro t k
  refine XS.iloadN X102.here hx rfl (hb hby d36_4) rfl ?_
  exact k
 refine OFin.go sg103 ?_
 obtain ⟨cl104, Ar104, q104, S104, M104, H104, G104⟩ := id VF
 have hin104 : ¬ ((1 : Int32) < 0 ∨ cl104.slots.size ≤ ((1 : Int32)).toNatClampNeg) := inb_of S104 ⟨by decide, by decide⟩
 have hat104 : cl104.slots[((1 : Int32)).toNatClampNeg]? = some (.int f1) := H104.at hin104 rfl
 have sg105 : zg p e below T102 m 8 (z14 a0 a1 1 f1) [.ref a0] 5 (z26 a0 a1 1) [.int 1, .ref fb] := by
  intro t k
  refine X102.iaload hx (j := (1 : Int32)) (v := (.int f1)) (by rw [e102]; exact Ar104.1) (State.isArrayOf_alike hZ.alike Ar104.2.1) Ar104.2.2 hin104 hat104 (g := (mkF m 5 (z26 a0 a1 1) [.int 1, .ref fb])) rfl rfl (hb hby d36_5) _ ?_
  show zs p e below T102 m 6 (z26 a0 a1 1) [.int f1] t
  refine XS.istoreN X102.here hx rfl (hb hby d36_6) rfl (l' := (z14 a0 a1 1 f1)) rfl ?_
  show zs p e below T102 m 7 (z14 a0 a1 1 f1) [] t
  refine XS.aloadN X102.here hx rfl (hb hby d36_7) rfl rfl ?_
  exact k
 refine OFin.go sg105 ?_
 obtain ⟨T106, X106, e106, st106⟩ := getF X102 hx hZ hown (host := "") (Or.inl (zw hw 183 rfl)) Via.refl e102 G1 (g := (mkF m 8 (z14 a0 a1 1 f1) [.ref a0])) rfl rfl (hb hby d36_8)
 refine OFin.go st106 ?_
 have sg107 : zg p e below T106 m 14 (z14 a0 a1 1 f1) [.int 2, .ref fb] 11 (z14 a0 a1 1 f1) [.ref fb] := by
  intro t k
  refine XS.iloadN X106.here hx rfl (hb hby d36_11) rfl ?_
  show zs p e below T106 m 12 (z14 a0 a1 1 f1) [.int 1, .ref fb] t
  refine XS.iconst X106.here hx rfl (hb hby d36_12) ?_
  show zs p e below T106 m 13 (z14 a0 a1 1 f1) [.int 1, .int 1, .ref fb] t
  refine XS.iadd X106.here hx rfl (hb hby d36_13) rfl ?_
  exact k
 refine OFin.go sg107 ?_
 obtain ⟨cl108, Ar108, q108, S108, M108, H108, G108⟩ := id VF
 have hin108 : ¬ ((2 : Int32) < 0 ∨ cl108.slots.size ≤ ((2 : Int32)).toNatClampNeg) := inb_of S108 ⟨by decide, by decide⟩
 have hat108 : cl108.slots[((2 : Int32)).toNatClampNeg]? = some (.int f2) := H108.at hin108 rfl
 have sg109 : zg p e below T106 m 25 (z1 a0 a1 1 f1 (f2 - f1) 0 0) [] 14 (z14 a0 a1 1 f1) [.int 2, .ref fb] := by
  intro t k
  refine X106.iaload hx (j := (2 : Int32)) (v := (.int f2)) (by rw [e106]; exact Ar108.1) (State.isArrayOf_alike hZ.alike Ar108.2.1) Ar108.2.2 hin108 hat108 (g := (mkF m 14 (z14 a0 a1 1 f1) [.int 2, .ref fb])) rfl rfl (hb hby d36_14) _ ?_
  show zs p e below T106 m 15 (z14 a0 a1 1 f1) [.int f2] t
  refine XS.iloadN X106.here hx rfl (hb hby d36_15) rfl ?_
  show zs p e below T106 m 16 (z14 a0 a1 1 f1) [.int f1, .int f2] t
  refine XS.isub X106.here hx rfl (hb hby d36_16) rfl ?_
  show zs p e below T106 m 17 (z14 a0 a1 1 f1) [.int (f2 - f1)] t
  refine XS.istore X106.here hx rfl (hb hby d36_17) rfl (l' := (z51 a0 a1 1 f1 (f2 - f1))) rfl ?_
  show zs p e below T106 m 19 (z51 a0 a1 1 f1 (f2 - f1)) [] t
  refine XS.lconst X106.here hx rfl (hb hby d36_19) ?_
  show zs p e below T106 m 20 (z51 a0 a1 1 f1 (f2 - f1)) [.long 0] t
  refine XS.lstore X106.here hx rfl (hb hby d36_20) rfl (l' := (z52 a0 a1 1 f1 (f2 - f1) 0)) rfl ?_
  show zs p e below T106 m 22 (z52 a0 a1 1 f1 (f2 - f1) 0) [] t
  refine XS.iconst X106.here hx rfl (hb hby d36_22) ?_
  show zs p e below T106 m 23 (z52 a0 a1 1 f1 (f2 - f1) 0) [.int 0] t
  refine XS.istore X106.here hx rfl (hb hby d36_23) rfl (l' := (z1 a0 a1 1 f1 (f2 - f1) 0 0)) rfl ?_
  exact k
 refine OFin.go sg109 ?_
 exact pt36v1_25 Z aZ hw a0 a1 fb kf f0 f1 f2 sg ks s0 s1 cd kc kb ls h0 n0 Z0 hl hf0 hle h128 hsg hx hZ hby hml hown hnm hret hlk (f2.toInt - f1.toInt).toNat _ _ (0 : Int32) (0 : Int64) h0 X106 e106 K0 N0 G1 VF G2 VS G3 VC VB (by decide) (by rw [show (0 : Int32).toInt = 0 from rfl]; omega) rfl
theorem own_mm {a b lo hi : Int64} (h1 : lo = own_f1 a b) (h2 : hi = own_f2 a b) : ¬ (hi < lo) := by
  subst h1 h2
  unfold own_f1 own_f2
  simp only [Int64.lt_iff_toInt_lt]
  split <;> split <;> omega
theorem own_sm {c : Int32} {lo hi : Int64} (h1 : lo = (-((c &&& (7 : Int32)).toInt64))) (h2 : hi = (((((c.toUInt32 >>> ((3 : Int32) &&& 31).toUInt32).toInt32) &&& (15 : Int32)).toInt64))) : ¬ (hi < lo) := by
  subst h1 h2
  have a := c_and c 7 (by decide)
  have b := c_and ((c.toUInt32 >>> ((3 : Int32) &&& 31).toUInt32).toInt32) 15 (by decide)
  simp only [show (7 : Int32).toInt = 7 from rfl, show (15 : Int32).toInt = 15 from rfl] at a b
  rw [Int64.lt_iff_toInt_lt, Int64.toInt_neg, Int32.toInt_toInt64, Int32.toInt_toInt64, Int.bmod_def]
  omega
theorem own_fs {l1 u1 l2 u2 : Int64} (h1 : ¬ (u1 < l1)) (h2 : ¬ (u2 < l2)) : ((0 : Int32) + (own_wd l1 u1)).toInt = (own_wd l1 u1).toInt ∧ (((0 : Int32) + (own_wd l1 u1)) + (own_wd l2 u2)).toInt = (own_wd l1 u1).toInt + (own_wd l2 u2).toInt ∧ 0 ≤ (own_wd l1 u1).toInt ∧ (own_wd l1 u1).toInt ≤ 64 ∧ 0 ≤ (own_wd l2 u2).toInt ∧ (own_wd l2 u2).toInt ≤ 64 := by
  rw [Int64.lt_iff_toInt_lt] at h1 h2
  obtain ⟨a, a1, a2, -⟩ := own_fit l1 u1 l1 (Int.le_refl _) (by omega)
  obtain ⟨b, b1, b2, -⟩ := own_fit l2 u2 l2 (Int.le_refl _) (by omega)
  have e1 := own_addi (f := 0) (i := own_wd l1 u1) (by omega) (by omega) (by decide) (by decide)
  rw [show (0 : Int32).toInt = 0 from rfl] at e1
  have e2 := own_addi (f := (0 : Int32) + own_wd l1 u1) (i := own_wd l2 u2) (by omega) (by omega) (by omega) (by omega)
  omega
theorem own_sgpos {lo hi : Int64} (h : ¬ (hi < lo)) (s : ¬ (own_sg lo = (0 : Int32))) : 0 < (own_wd lo hi).toInt := by
  rw [Int64.lt_iff_toInt_lt] at h
  obtain ⟨a, a1, a2, a3⟩ := own_fit lo hi lo (Int.le_refl _) (by omega)
  rcases a3 with ⟨q, r, -⟩ | ⟨q, -⟩
  · omega
  · exact absurd q s
theorem own_clamp {lo hi v : Int64} (h : ¬ (hi < lo)) : lo.toInt ≤ (own_f2 lo (own_f1 hi v)).toInt ∧ (own_f2 lo (own_f1 hi v)).toInt ≤ hi.toInt := by
  rw [Int64.lt_iff_toInt_lt] at h
  unfold own_f2 own_f1
  simp only [Int64.lt_iff_toInt_lt]
  split <;> split <;> (try split) <;> omega
theorem ef_0 (m : MethodId) (x0 : Int64) (x1 : Int64) (x2 : Int64) (x3 : Int32) (x4 : Int32) (x5 : Int32) : entryFrame m #[(.long x0), (.long x1), (.long x2), (.int x3), (.int x4), (.int x5)] maxLocals = mkF m 0 #[.val (.long x0), .second, .val (.long x1), .second, .val (.long x2), .second, .val (.int x3), .val (.int x4), .val (.int x5), .unset, .unset, .unset, .unset, .unset, .unset, .unset, .unset, .unset, .unset, .unset, .unset, .unset, .unset, .unset, .unset, .unset, .unset, .unset, .unset, .unset, .unset, .unset, .unset, .unset, .unset, .unset, .unset] [] := by first | (simp [entryFrame, mkF, argsToLocals, Value.category, maxLocals]; done) | rfl
def Q0 (Z : State) (q0 : Int64) (q1 : Int64) (q2 : Int64) (q3 : Int32) (q4 : Int32) (q5 : Int32) (dd : Addr) (kd : ClassId) (mr : Addr) (h0 : Heap) (n0 : Nat) (v : Option Value) (h : Heap) (L : List Loc) : Prop := v = some (.int 1) ∧ Fr n0 L
theorem pd_15 : parseMethodDescriptor "(JJ)J" = some ⟨[.long, .long], some .long⟩ := by decide +kernel
theorem pd_16 : parseMethodDescriptor "(JJ)V" = some ⟨[.long, .long], none⟩ := by decide +kernel
theorem pd_17 : parseMethodDescriptor "(Ljava/lang/String;Lorg/counterpath/model/Type;)V" = some ⟨[(.object "java/lang/String"), (.object "org/counterpath/model/Type")], none⟩ := by decide +kernel
theorem pd_18 : parseMethodDescriptor "(Ljava/lang/Object;)Z" = some ⟨[(.object "java/lang/Object")], some .boolean⟩ := by decide +kernel
theorem pd_19 : parseMethodDescriptor "(Ljava/util/List;Ljava/util/List;)V" = some ⟨[(.object "java/util/List"), (.object "java/util/List")], none⟩ := by decide +kernel
theorem pd_20 : parseMethodDescriptor "([ZIJ)V" = some ⟨[(.array .boolean), .int, .long], none⟩ := by decide +kernel
theorem pd_21 : parseMethodDescriptor "([ZI)J" = some ⟨[(.array .boolean), .int], some .long⟩ := by decide +kernel
theorem pd_22 : parseMethodDescriptor "(JI)Z" = some ⟨[.long, .int], some .boolean⟩ := by decide +kernel
set_option maxHeartbeats 40000000 in
theorem pt0_190 {p : Program} {l : Launch} {e : Env} {s : State} {vm0 : Vm} {m : MethodId} {below : List Frame} {meth : Method} {c : Code} {T0 : State} {locs : List Loc} (Z : State) (aZ : Array Value) (hw : ∀ d ∈ tables_1, d.before aZ Z = true) (q0 : Int64) (q1 : Int64) (q2 : Int64) (q3 : Int32) (q4 : Int32) (q5 : Int32) (dd : Addr) (kd : ClassId) (mr : Addr) (h0 : Heap) (n0 : Nat) (Z0 : n0 ≤ h0.size) (SD : Sta Z Z.heap "java/util/ArrayList" "DEFAULTCAPACITY_EMPTY_ELEMENTDATA" "[Ljava/lang/Object;" (.ref dd)) (hM : own_Mr Z "[Ljava/lang/Object;" mr) (bl : Int64) (bh : Int64) (sl : Int64) (sh : Int64) (bf : Int32) (tb : Int32) (ini : Int32) (xb : Addr) (xs : Addr) (la : Addr) (lb : Addr) (en : Addr) (fb : Addr) (kf : ClassId) (sg : Addr) (ks : ClassId) (cd : Addr) (kc : ClassId) (f1 : Int32) (f2 : Int32) (l1 : Int64) (u1 : Int64) (l2 : Int64) (u2 : Int64) (hC : Heap)
  (X0 : Stand p l e room_1 (s.setVm vm0) m #[.long q0, .long q1, .long q2, .int q3, .int q4, .int q5] below meth c T0 locs 21 86) (hx : p.tables.exec = Jvm.exec) (hZ : Z.Warmed39 (s.setVm vm0).vm) (hby : c.code = code) (hml : c.maxLocals = 37) (hown : (s.setVm vm0).vm.findClass "org/counterpath/engine/EncodingHoldPinLaw" = some m.cls) (hnm : meth.name = "law") {k0 : Nat} (hS : s.Since vm0 k0) (hk : k0 ≤ hC.size) (hstr : ∀ a ∈ Bundle.stringAtoms, a.before aZ Z = true) (hret : meth.sig.returnType = some .boolean) (hlk : meth.locks = false) (e0 : T0.heap = hC) (K0 : Keep h0 hC []) (N0 : Fr n0 locs) (OC : Old Z n0 hC) (g_en : n0 ≤ en) (sz_en : h0.size ≤ en) (g_fb : n0 ≤ fb) (sz_fb : h0.size ≤ fb) (g_sg : n0 ≤ sg) (sz_sg : h0.size ≤ sg) (g_cd : n0 ≤ cd) (sz_cd : h0.size ≤ cd) (EE : Exa Z hC en "org/counterpath/engine/Encoding") (G1 : Fld Z hC en "org/counterpath/engine/Encoding" "_firstBits" "[I" (.ref fb)) (G2 : Fld Z hC en "org/counterpath/engine/Encoding" "_signed" "[Z" (.ref sg)) (G3 : Fld Z hC en "org/counterpath/engine/Encoding" "_codes" "[[J" (.ref cd)) (VF : Arv Z hC fb kf .int (3 : Int32) [.int 0, .int f1, .int f2] (.int 0)) (VS : Arv Z hC sg ks .boolean (2 : Int32) [.int (own_sg l1), .int (own_sg l2)] (.int 0)) (VC : Arv Z hC cd kc (.array .long) (2 : Int32) [.null, .null] .null) (hB : ¬ (bh < bl)) (hS_ : ¬ (sh < sl)) (hcs : (bf = (0 : Int32) ∧ l1 = sl ∧ u1 = sh ∧ l2 = bl ∧ u2 = bh) ∨ (bf = (1 : Int32) ∧ l1 = bl ∧ u1 = bh ∧ l2 = sl ∧ u2 = sh)) (htb : tb = (0 : Int32) ∨ tb = (1 : Int32)) (hini : ini = (0 : Int32) ∨ ini = (1 : Int32)) (hf1 : f1.toInt = (own_wd l1 u1).toInt) (hf2 : f2.toInt = (own_wd l1 u1).toInt + (own_wd l2 u2).toInt) (hwd : 0 ≤ (own_wd l1 u1).toInt ∧ (own_wd l1 u1).toInt ≤ 64 ∧ 0 ≤ (own_wd l2 u2).toInt ∧ (own_wd l2 u2).toInt ≤ 64) :
  OFinW p e below s (Q0 Z q0 q1 q2 q3 q4 q5 dd kd mr h0 n0) room_1.cells room_1.slots (T0.setTop (mkF m 190 (z33 q0 q1 q2 q3 q4 q5 bl bh sl sh bf tb ini xb xs la lb en) [])) := by
 have sg101 : zg p e below T0 m 194 (z33 q0 q1 q2 q3 q4 q5 bl bh sl sh bf tb ini xb xs la lb en) [.int tb, .int bf] 190 (z33 q0 q1 q2 q3 q4 q5 bl bh sl sh bf tb ini xb xs la lb en) [] := by
  intro t k
  refine XS.iload X0.here hx rfl (hb hby at_190) rfl ?_
  show zs p e below T0 m 192 (z33 q0 q1 q2 q3 q4 q5 bl bh sl sh bf tb ini xb xs la lb en) [.int bf] t
  refine XS.iload X0.here hx rfl (hb hby at_192) rfl ?_
  exact k
 refine OFinW.go sg101 ?_
 by_cases c102 : bf = tb
 ·have sg105 : zg p e below T0 m 206 (z19 q0 q1 q2 q3 q4 q5 bl bh sl sh bf tb ini xb xs la lb en 0) [.int tb] 194 (z33 q0 q1 q2 q3 q4 q5 bl bh sl sh bf tb ini xb xs la lb en) [.int tb, .int bf] := by
   intro t k
   refine XS.icmpNo X0.here hx rfl (hb hby at_194) rfl (teq c102).2 ?_
   show zs p e below T0 m 197 (z33 q0 q1 q2 q3 q4 q5 bl bh sl sh bf tb ini xb xs la lb en) [] t
   refine XS.iconst X0.here hx rfl (hb hby at_197) ?_
   show zs p e below T0 m 198 (z33 q0 q1 q2 q3 q4 q5 bl bh sl sh bf tb ini xb xs la lb en) [.int 0] t
   refine XS.goto X0.here hx rfl (pc0 := 198) (pc' := 202) rfl (hb hby at_198) (by decide) (by decide) ?_
   show zs p e below T0 m 202 (z33 q0 q1 q2 q3 q4 q5 bl bh sl sh bf tb ini xb xs la lb en) [.int 0] t
   refine XS.istore X0.here hx rfl (hb hby at_202) rfl (l' := (z19 q0 q1 q2 q3 q4 q5 bl bh sl sh bf tb ini xb xs la lb en 0)) rfl ?_
   show zs p e below T0 m 204 (z19 q0 q1 q2 q3 q4 q5 bl bh sl sh bf tb ini xb xs la lb en 0) [] t
   refine XS.iload X0.here hx rfl (hb hby at_204) rfl ?_
   exact k
  refine OFinW.go sg105 ?_
  obtain ⟨v104, e_v104⟩ : ∃ z : Int64, z = (if tb = (0 : Int32) then sl else bl) := ⟨_, rfl⟩
  have sg106 : zg p e below T0 m 216 (z19 q0 q1 q2 q3 q4 q5 bl bh sl sh bf tb ini xb xs la lb en 0) [.long v104] 206 (z19 q0 q1 q2 q3 q4 q5 bl bh sl sh bf tb ini xb xs la lb en 0) [.int tb] := by
   intro t k
   by_cases c103 : tb = (0 : Int32)
   ·show zs p e below T0 m 206 (z19 q0 q1 q2 q3 q4 q5 bl bh sl sh bf tb ini xb xs la lb en 0) [.int tb] t
    refine XS.ifYes X0.here hx rfl (pc0 := 206) (pc' := 214) rfl (hb hby at_206) rfl ((if0 _ _).trans (teq c103).1) (by decide) (by decide) ?_
    show zs p e below T0 m 214 (z19 q0 q1 q2 q3 q4 q5 bl bh sl sh bf tb ini xb xs la lb en 0) [] t
    refine XS.lload X0.here hx rfl (hb hby at_214) rfl ?_
    have e_v104' : v104 = sl := e_v104.trans (if_pos c103)
    rw [e_v104'] at k
    exact k
   ·show zs p e below T0 m 206 (z19 q0 q1 q2 q3 q4 q5 bl bh sl sh bf tb ini xb xs la lb en 0) [.int tb] t
    refine XS.ifNo X0.here hx rfl (hb hby at_206) rfl ((if0 _ _).trans (feq c103).1) ?_
    show zs p e below T0 m 209 (z19 q0 q1 q2 q3 q4 q5 bl bh sl sh bf tb ini xb xs la lb en 0) [] t
    refine XS.lload X0.here hx rfl (hb hby at_209) rfl ?_
    show zs p e below T0 m 211 (z19 q0 q1 q2 q3 q4 q5 bl bh sl sh bf tb ini xb xs la lb en 0) [.long bl] t
    refine XS.goto X0.here hx rfl (pc0 := 211) (pc' := 216) rfl (hb hby at_211) (by decide) (by decide) ?_
    have e_v104' : v104 = bl := e_v104.trans (if_neg c103)
    rw [e_v104'] at k
    exact k
  refine OFinW.go sg106 ?_
  have sg109 : zg p e below T0 m 220 (z20 q0 q1 q2 q3 q4 q5 bl bh sl sh bf tb ini xb xs la lb en 0 v104) [.int tb] 216 (z19 q0 q1 q2 q3 q4 q5 bl bh sl sh bf tb ini xb xs la lb en 0) [.long v104] := by
   intro t k
   refine XS.lstore X0.here hx rfl (hb hby at_216) rfl (l' := (z20 q0 q1 q2 q3 q4 q5 bl bh sl sh bf tb ini xb xs la lb en 0 v104)) rfl ?_
   show zs p e below T0 m 218 (z20 q0 q1 q2 q3 q4 q5 bl bh sl sh bf tb ini xb xs la lb en 0 v104) [] t
   refine XS.iload X0.here hx rfl (hb hby at_218) rfl ?_
   exact k
  refine OFinW.go sg109 ?_
  obtain ⟨v108, e_v108⟩ : ∃ z : Int64, z = (if tb = (0 : Int32) then sh else bh) := ⟨_, rfl⟩
  have sg110 : zg p e below T0 m 230 (z20 q0 q1 q2 q3 q4 q5 bl bh sl sh bf tb ini xb xs la lb en 0 v104) [.long v108] 220 (z20 q0 q1 q2 q3 q4 q5 bl bh sl sh bf tb ini xb xs la lb en 0 v104) [.int tb] := by
   intro t k
   by_cases c107 : tb = (0 : Int32)
   ·show zs p e below T0 m 220 (z20 q0 q1 q2 q3 q4 q5 bl bh sl sh bf tb ini xb xs la lb en 0 v104) [.int tb] t
    refine XS.ifYes X0.here hx rfl (pc0 := 220) (pc' := 228) rfl (hb hby at_220) rfl ((if0 _ _).trans (teq c107).1) (by decide) (by decide) ?_
    show zs p e below T0 m 228 (z20 q0 q1 q2 q3 q4 q5 bl bh sl sh bf tb ini xb xs la lb en 0 v104) [] t
    refine XS.lload X0.here hx rfl (hb hby at_228) rfl ?_
    have e_v108' : v108 = sh := e_v108.trans (if_pos c107)
    rw [e_v108'] at k
    exact k
   ·show zs p e below T0 m 220 (z20 q0 q1 q2 q3 q4 q5 bl bh sl sh bf tb ini xb xs la lb en 0 v104) [.int tb] t
    refine XS.ifNo X0.here hx rfl (hb hby at_220) rfl ((if0 _ _).trans (feq c107).1) ?_
    show zs p e below T0 m 223 (z20 q0 q1 q2 q3 q4 q5 bl bh sl sh bf tb ini xb xs la lb en 0 v104) [] t
    refine XS.lload X0.here hx rfl (hb hby at_223) rfl ?_
    show zs p e below T0 m 225 (z20 q0 q1 q2 q3 q4 q5 bl bh sl sh bf tb ini xb xs la lb en 0 v104) [.long bh] t
    refine XS.goto X0.here hx rfl (pc0 := 225) (pc' := 230) rfl (hb hby at_225) (by decide) (by decide) ?_
    have e_v108' : v108 = bh := e_v108.trans (if_neg c107)
    rw [e_v108'] at k
    exact k
  refine OFinW.go sg110 ?_
  have sg111 : zg p e below T0 m 232 (z27 q0 q1 q2 q3 q4 q5 bl bh sl sh bf tb ini xb xs la lb en 0 v104 v108) [] 230 (z20 q0 q1 q2 q3 q4 q5 bl bh sl sh bf tb ini xb xs la lb en 0 v104) [.long v108] := by
   intro t k
   refine XS.lstore X0.here hx rfl (hb hby at_230) rfl (l' := (z27 q0 q1 q2 q3 q4 q5 bl bh sl sh bf tb ini xb xs la lb en 0 v104 v108)) rfl ?_
   exact k
  refine OFinW.go sg111 ?_
  have hz0 : (0 : Int32).toInt = 0 := rfl
  have hlu : v104 = l1 ∧ v108 = u1 ∧ ¬ (u1 < l1) := by
   rw [e_v104, e_v108]
   rcases hcs with ⟨a, b1, b2, b3, b4⟩ | ⟨a, b1, b2, b3, b4⟩ <;> rcases htb with c | c <;> subst b1 b2 b3 b4 a c <;> first | exact absurd rfl c102 | exact absurd c102 (by decide) | exact ⟨rfl, rfl, hB⟩ | exact ⟨rfl, rfl, hS_⟩
  have sg112 : zg p e below T0 m 238 (z27 q0 q1 q2 q3 q4 q5 bl bh sl sh bf tb ini xb xs la lb en 0 v104 v108) [.long q2, .long v108, .long v104] 232 (z27 q0 q1 q2 q3 q4 q5 bl bh sl sh bf tb ini xb xs la lb en 0 v104 v108) [] := by
   intro t k
   refine XS.lload X0.here hx rfl (hb hby at_232) rfl ?_
   show zs p e below T0 m 234 (z27 q0 q1 q2 q3 q4 q5 bl bh sl sh bf tb ini xb xs la lb en 0 v104 v108) [.long v104] t
   refine XS.lload X0.here hx rfl (hb hby at_234) rfl ?_
   show zs p e below T0 m 236 (z27 q0 q1 q2 q3 q4 q5 bl bh sl sh bf tb ini xb xs la lb en 0 v104 v108) [.long v108, .long v104] t
   refine XS.lload X0.here hx rfl (hb hby at_236) rfl ?_
   exact k
  refine OFinW.go sg112 ?_
  obtain ⟨_, _, ⟨T113, L113, k113, n113⟩, -, X113, ⟨Lc113, hQ113, l113, y113, z113⟩, st113⟩ := Jvm.LawKit.callS X0 hx (y := (⟨"java/lang/Math", "min", "(JJ)J"⟩ : MethodName)) hown (mvT hZ (zw hw 0 rfl)) (mvT hZ (zw hw 1 rfl)) (mvT hZ (zw hw 2 rfl)) (mvT hZ (zw hw 3 rfl)) (by decide) (backOf (W := 2) (rm1 l Z aZ hw [] v108 q2 hC n0 (zt Z0 K0.1) ) hZ (zw hw 3 rfl) (zw hw 2 rfl) (by decide) (by decide)) (g := (mkF m 238 (z27 q0 q1 q2 q3 q4 q5 bl bh sl sh bf tb ini xb xs la lb en 0 v104 v108) [.long q2, .long v108, .long v104])) rfl (by rw [hml]; rfl) (argsL := [.long v108, .long q2]) (rest := [.long v104]) (lenOf pd_15 rfl) rfl (by show 2 * 0 + _ ≤ _; exact ze rfl) (hb hby at_238) (fun _ _ => ⟨rfl, e0, (by decide : 21 + 0 ≤ _), (by decide : 86 + 0 ≤ _)⟩)
  dsimp only [Pt.U, Pt.locs, Pt.cells, Pt.slots] at X113 l113 y113 z113 st113 hQ113
  rw [l113, y113, z113] at X113
  obtain ⟨rfl, N113q, e113⟩ := hQ113
  have N113 := Fr.app N0 N113q
  refine OFinW.go st113 ?_
  obtain ⟨_, _, ⟨T114, L114, k114, n114⟩, -, X114, ⟨Lc114, hQ114, l114, y114, z114⟩, st114⟩ := Jvm.LawKit.callS X113 hx (y := (⟨"java/lang/Math", "max", "(JJ)J"⟩ : MethodName)) hown (mvT hZ (zw hw 4 rfl)) (mvT hZ (zw hw 5 rfl)) (mvT hZ (zw hw 2 rfl)) (mvT hZ (zw hw 6 rfl)) (by decide) (backOf (W := 0) (rm2 l Z aZ hw [] v104 (own_f1 v108 q2) hC n0 (zt Z0 K0.1) ) hZ (zw hw 6 rfl) (zw hw 2 rfl) (by decide) (by decide)) (g := (mkF m 241 (z27 q0 q1 q2 q3 q4 q5 bl bh sl sh bf tb ini xb xs la lb en 0 v104 v108) [.long (own_f1 v108 q2), .long v104])) rfl (by rw [hml]; rfl) (argsL := [.long v104, .long (own_f1 v108 q2)]) (rest := []) (lenOf pd_15 rfl) rfl (by show 2 * 0 + _ ≤ _; exact ze rfl) (hb hby at_241) (fun _ _ => ⟨rfl, e113, (by decide : 21 + 0 ≤ _), (by decide : 86 + 0 ≤ _)⟩)
  dsimp only [Pt.U, Pt.locs, Pt.cells, Pt.slots] at X114 l114 y114 z114 st114 hQ114
  rw [l114, y114, z114] at X114
  obtain ⟨rfl, N114q, e114⟩ := hQ114
  have N114 := Fr.app N113 N114q
  refine OFinW.go st114 ?_
  obtain ⟨v115, e_v115⟩ : ∃ z : Int64, z = (own_f2 v104 (own_f1 v108 q2)) := ⟨_, rfl⟩
  rw [← e_v115]
  have sg116 : zg p e below T114 m 246 (z34 q0 q1 q2 q3 q4 q5 bl bh sl sh bf tb ini xb xs la lb en 0 v104 v108 v115) [] 244 (z27 q0 q1 q2 q3 q4 q5 bl bh sl sh bf tb ini xb xs la lb en 0 v104 v108) [.long v115] := by
   intro t k
   refine XS.lstore X114.here hx rfl (hb hby at_244) rfl (l' := (z34 q0 q1 q2 q3 q4 q5 bl bh sl sh bf tb ini xb xs la lb en 0 v104 v108 v115)) rfl ?_
   exact k
  refine OFinW.go sg116 ?_
  have hvv : l1.toInt ≤ v115.toInt ∧ v115.toInt ≤ u1.toInt := by rw [e_v115, hlu.1, hlu.2.1]; exact own_clamp hlu.2.2
  have sg117 : zg p e below T114 m 251 (z34 q0 q1 q2 q3 q4 q5 bl bh sl sh bf tb ini xb xs la lb en 0 v104 v108 v115) [.int (q4 &&& (127 : Int32))] 246 (z34 q0 q1 q2 q3 q4 q5 bl bh sl sh bf tb ini xb xs la lb en 0 v104 v108 v115) [] := by
   intro t k
   refine XS.iload X114.here hx rfl (hb hby at_246) rfl ?_
   show zs p e below T114 m 248 (z34 q0 q1 q2 q3 q4 q5 bl bh sl sh bf tb ini xb xs la lb en 0 v104 v108 v115) [.int q4] t
   refine XS.bipush X114.here hx rfl (hb hby at_248) ?_
   show zs p e below T114 m 250 (z34 q0 q1 q2 q3 q4 q5 bl bh sl sh bf tb ini xb xs la lb en 0 v104 v108 v115) [.int 127, .int q4] t
   refine XS.iand X114.here hx rfl (hb hby at_250) rfl ?_
   exact k
  refine OFinW.go sg117 ?_
  obtain ⟨v118, e_v118⟩ : ∃ z : Int32, z = (q4 &&& (127 : Int32)) := ⟨_, rfl⟩
  rw [← e_v118]
  have sg119 : zg p e below T114 m 256 (z43 q0 q1 q2 q3 q4 q5 bl bh sl sh bf tb ini xb xs la lb en 0 v104 v108 v115 v118) [.int 128] 251 (z34 q0 q1 q2 q3 q4 q5 bl bh sl sh bf tb ini xb xs la lb en 0 v104 v108 v115) [.int v118] := by
   intro t k
   refine XS.istore X114.here hx rfl (hb hby at_251) rfl (l' := (z43 q0 q1 q2 q3 q4 q5 bl bh sl sh bf tb ini xb xs la lb en 0 v104 v108 v115 v118)) rfl ?_
   show zs p e below T114 m 253 (z43 q0 q1 q2 q3 q4 q5 bl bh sl sh bf tb ini xb xs la lb en 0 v104 v108 v115 v118) [] t
   refine XS.sipush X114.here hx rfl (hb hby at_253) ?_
   exact k
  refine OFinW.go sg119 ?_
  obtain ⟨T120, h120, k120, X120, e120, E120, A120, st120⟩ := newP X114 hx hZ (zw hw 185 rfl) e114 (g := (mkF m 256 (z43 q0 q1 q2 q3 q4 q5 bl bh sl sh bf tb ini xb xs la lb en 0 v104 v108 v115 v118) [.int 128])) rfl (hb hby at_256) rfl (by decide) (cap := 128) (by decide) (by decide) (by decide) (by decide)
  obtain ⟨b120, g120⟩ : ∃ z, z = hC.size := ⟨_, rfl⟩
  rw [← g120] at A120 st120
  refine OFinW.go st120 ?_
  have g_b120 : n0 ≤ b120 := zt (zt Z0 K0.1) (ze g120.symm)
  have sz_b120 : h0.size ≤ b120 := zt K0.1 (ze g120.symm)
  have K120 : Keep h0 h120 [] := K0.ext E120
  have V120 : Arv Z h120 b120 k120 .boolean (128 : Int32) [] (.int 0) := Arv.new A120 (by decide)
  have V121 : Arv Z h120 b120 k120 .boolean (128 : Int32) ((List.replicate 128 (0 : Int32)).map Value.int) (.int 0) := by rw [List.map_replicate]; exact V120.pad (pad_rep [] (.int 0) 128)
  have sg122 : zg p e below T120 m 266 (z11 q0 q1 q2 q3 q4 q5 bl bh sl sh bf tb ini xb xs la lb en 0 v104 v108 v115 v118 b120) [.int ini, .int v118, .ref b120] 258 (z43 q0 q1 q2 q3 q4 q5 bl bh sl sh bf tb ini xb xs la lb en 0 v104 v108 v115 v118) [.ref b120] := by
   intro t k
   refine XS.astore X120.here hx rfl (hb hby at_258) rfl rfl (l' := (z11 q0 q1 q2 q3 q4 q5 bl bh sl sh bf tb ini xb xs la lb en 0 v104 v108 v115 v118 b120)) rfl ?_
   show zs p e below T120 m 260 (z11 q0 q1 q2 q3 q4 q5 bl bh sl sh bf tb ini xb xs la lb en 0 v104 v108 v115 v118 b120) [] t
   refine XS.aload X120.here hx rfl (hb hby at_260) rfl rfl ?_
   show zs p e below T120 m 262 (z11 q0 q1 q2 q3 q4 q5 bl bh sl sh bf tb ini xb xs la lb en 0 v104 v108 v115 v118 b120) [.ref b120] t
   refine XS.iload X120.here hx rfl (hb hby at_262) rfl ?_
   show zs p e below T120 m 264 (z11 q0 q1 q2 q3 q4 q5 bl bh sl sh bf tb ini xb xs la lb en 0 v104 v108 v115 v118 b120) [.int v118, .ref b120] t
   refine XS.iload X120.here hx rfl (hb hby at_264) rfl ?_
   exact k
  refine OFinW.go sg122 ?_
  have hbit : 0 ≤ v118.toInt ∧ v118.toInt < 128 := by rw [e_v118]; have a := c_and q4 127 (by decide); simp only [show (127 : Int32).toInt = 127 from rfl] at a; omega
  obtain ⟨cl123, Ar123, q123, S123, M123, H123, G123⟩ := id V121
  have hin123 : ¬ (v118 < 0 ∨ cl123.slots.size ≤ (v118).toNatClampNeg) := inb_of S123 (own_inb hbit.1 hbit.2)
  obtain ⟨T123, h123, X123, e123, W123, st123⟩ := stZ X120 hx hZ e120 Ar123 (j := v118) hin123 (g := (mkF m 266 (z11 q0 q1 q2 q3 q4 q5 bl bh sl sh bf tb ini xb xs la lb en 0 v104 v108 v115 v118 b120) [.int ini, .int v118, .ref b120])) rfl rfl (hb hby at_266)
  refine OFinW.go st123 ?_
  have V123 : Arv Z h123 b120 k120 .boolean (128 : Int32) (((List.replicate 128 (0 : Int32)).map Value.int).set v118.toNatClampNeg (.int (nar .boolean ini))) (.int 0) := Arv.set Ar123 q123 S123 M123 H123 G123 (fits_nar_bool _) W123 v118.toNatClampNeg rfl (own_clt (by rw [List.length_replicate]) hbit.1 hbit.2)
  have K123 : Keep h0 h123 [] := K120.wr W123 (Or.inr sz_b120)
  have N123 := Fr.snoc X123 N114 g_b120
  have hnr : nar .boolean ini = ini := by rcases hini with q | q <;> (rw [q]; rfl)
  obtain ⟨ls, e_ls⟩ : ∃ z : List Int32, z = (List.replicate 128 (0 : Int32)).set v118.toNatClampNeg ini := ⟨_, rfl⟩
  have hll : ls.length = 128 := by rw [e_ls, List.length_set, List.length_replicate]
  have V124 : Arv Z h123 b120 k120 .boolean (128 : Int32) (ls.map Value.int) (.int 0) := by rw [e_ls, List.map_set]; have q := V123; rw [hnr] at q; exact q
  have sg125 : zg p e below T123 m 275 (z11 q0 q1 q2 q3 q4 q5 bl bh sl sh bf tb ini xb xs la lb en 0 v104 v108 v115 v118 b120) [.long v115, .int 0, .ref b120, .ref en] 267 (z11 q0 q1 q2 q3 q4 q5 bl bh sl sh bf tb ini xb xs la lb en 0 v104 v108 v115 v118 b120) [] := by
   intro t k
   refine XS.aload X123.here hx rfl (hb hby at_267) rfl rfl ?_
   show zs p e below T123 m 269 (z11 q0 q1 q2 q3 q4 q5 bl bh sl sh bf tb ini xb xs la lb en 0 v104 v108 v115 v118 b120) [.ref en] t
   refine XS.aload X123.here hx rfl (hb hby at_269) rfl rfl ?_
   show zs p e below T123 m 271 (z11 q0 q1 q2 q3 q4 q5 bl bh sl sh bf tb ini xb xs la lb en 0 v104 v108 v115 v118 b120) [.ref b120, .ref en] t
   refine XS.iload X123.here hx rfl (hb hby at_271) rfl ?_
   show zs p e below T123 m 273 (z11 q0 q1 q2 q3 q4 q5 bl bh sl sh bf tb ini xb xs la lb en 0 v104 v108 v115 v118 b120) [.int 0, .ref b120, .ref en] t
   refine XS.lload X123.here hx rfl (hb hby at_273) rfl ?_
   exact k
  refine OFinW.go sg125 ?_
  have nq126 : en ≠ b120 := (zn (zl EE.lt (ze g120.symm)))
  have nq127 : fb ≠ b120 := (zn (zl VF.lt (ze g120.symm)))
  have nq128 : cd ≠ b120 := (zn (zl VC.lt (ze g120.symm)))
  obtain ⟨cq129, kq129, q129a, q129b, q129c⟩ := isOf hZ e123 ((EE.ext E120).wr W123)
  obtain ⟨_, _, ⟨T129, L129, k129, n129⟩, -, X129, ⟨Lc129, hQ129, l129, y129, z129⟩, st129⟩ := X123.virtualBack hx (y := (⟨"org/counterpath/engine/Encoding", "hold", "([ZIJ)V"⟩ : MethodName)) (z := (⟨"org/counterpath/engine/Encoding", "hold", "([ZIJ)V"⟩ : MethodName)) hown (mvT hZ (zw hw 248 rfl)) (mvT hZ (zw hw 249 rfl)) (notFace_of_selects (args := #[]) (mvT hZ (zw hw 251 rfl))) (mvT hZ (zw hw 251 rfl)) (mvT hZ (zw hw 250 rfl)) (by decide) (backOf (W := 0) (rm34v0 l Z aZ hw [] en b120 v115 fb kf (0 : Int32) f1 f2 cd kc k120 ls h123 n0 (zt Z0 K123.1) ((G1.ext E120).other W123 (Or.inl nq126)) ((VF.ext E120).other W123 nq127) ((G3.ext E120).other W123 (Or.inl nq126)) ((VC.ext E120).other W123 nq128) V124 hll (by decide) (by omega) (by omega) nq126 nq127 g_b120) hZ (zw hw 252 rfl) (zw hw 105 rfl) (by decide) (by decide)) q129a q129c (g := (mkF m 275 (z11 q0 q1 q2 q3 q4 q5 bl bh sl sh bf tb ini xb xs la lb en 0 v104 v108 v115 v118 b120) [.long v115, .int 0, .ref b120, .ref en])) rfl (by rw [hml]; rfl) (Steps.refl _) (argsL := [.ref b120, .int 0, .long v115]) (rest := []) (lenOf pd_20 rfl) rfl (by show 2 * 0 + _ ≤ _; exact ze rfl) (hb hby at_275) (fun _ _ => ⟨rfl, e123, (by decide : 22 + 0 ≤ _), (by decide : 214 + 0 ≤ _)⟩)
  dsimp only [Pt.U, Pt.locs, Pt.cells, Pt.slots] at X129 l129 y129 z129 st129 hQ129
  rw [l129, y129, z129] at X129
  obtain ⟨rfl, N129q, Kq129, P129_0⟩ := hQ129
  have N129 := Fr.app N123 N129q
  refine OFinW.tr st129 ?_
  have K129 : Keep h0 T129.heap [] := K123.trans Kq129 (allS (Or.inr sz_b120) all0)
  have sg130 : zg p e below T129 m 282 (z11 q0 q1 q2 q3 q4 q5 bl bh sl sh bf tb ini xb xs la lb en 0 v104 v108 v115 v118 b120) [.int 0, .ref en] 278 (z11 q0 q1 q2 q3 q4 q5 bl bh sl sh bf tb ini xb xs la lb en 0 v104 v108 v115 v118 b120) [] := by
   intro t k
   refine XS.aload X129.here hx rfl (hb hby at_278) rfl rfl ?_
   show zs p e below T129 m 280 (z11 q0 q1 q2 q3 q4 q5 bl bh sl sh bf tb ini xb xs la lb en 0 v104 v108 v115 v118 b120) [.ref en] t
   refine XS.iload X129.here hx rfl (hb hby at_280) rfl ?_
   exact k
  refine OFinW.go sg130 ?_
  have fq131 : Fld Z T129.heap en "org/counterpath/engine/Encoding" "_firstBits" "[I" (.ref fb) := (((G1.ext E120).other W123 (Or.inl nq126)).keep Kq129 (ninS nq126 nin0))
  have fq132 : Arv Z T129.heap fb kf .int (3 : Int32) [.int 0, .int f1, .int f2] (.int 0) := (((VF.ext E120).other W123 nq127).keep Kq129 (ninS nq127 nin0))
  have fq134 : Exa Z T129.heap en "org/counterpath/engine/Encoding" := (((EE.ext E120).wr W123).keep Kq129)
  obtain ⟨cq133, kq133, q133a, q133b, q133c⟩ := isOf hZ rfl fq134
  obtain ⟨_, _, ⟨T133, L133, k133, n133⟩, -, X133, ⟨Lc133, hQ133, l133, y133, z133⟩, st133⟩ := X129.virtualBack hx (y := (⟨"org/counterpath/engine/Encoding", "firstBit", "(I)I"⟩ : MethodName)) (z := (⟨"org/counterpath/engine/Encoding", "firstBit", "(I)I"⟩ : MethodName)) hown (mvT hZ (zw hw 253 rfl)) (mvT hZ (zw hw 254 rfl)) (notFace_of_selects (args := #[]) (mvT hZ (zw hw 256 rfl))) (mvT hZ (zw hw 256 rfl)) (mvT hZ (zw hw 255 rfl)) (by decide) (backOf (W := 0) (rm35v0 l Z aZ hw [] en fb kf (0 : Int32) f1 f2 T129.heap n0 (zt Z0 K129.1) fq131 fq132) hZ (zw hw 257 rfl) (zw hw 105 rfl) (by decide) (by decide)) q133a q133c (g := (mkF m 282 (z11 q0 q1 q2 q3 q4 q5 bl bh sl sh bf tb ini xb xs la lb en 0 v104 v108 v115 v118 b120) [.int 0, .ref en])) rfl (by rw [hml]; rfl) (Steps.refl _) (argsL := [.int 0]) (rest := []) (lenOf pd_0 rfl) rfl (by show 2 * 0 + _ ≤ _; exact ze rfl) (hb hby at_282) (fun _ _ => ⟨rfl, rfl, (by decide : 22 + 0 ≤ _), (by decide : 214 + 0 ≤ _)⟩)
  dsimp only [Pt.U, Pt.locs, Pt.cells, Pt.slots] at X133 l133 y133 z133 st133 hQ133
  rw [l133, y133, z133] at X133
  obtain ⟨rfl, N133q, e133⟩ := hQ133
  have N133 := Fr.app N129 N133q
  refine OFinW.tr st133 ?_
  have sg135 : zg p e below T133 m 293 (z31 q0 q1 q2 q3 q4 q5 bl bh sl sh bf tb ini xb xs la lb en 0 v104 v108 v115 v118 b120 0) [.int 1, .ref en] 285 (z11 q0 q1 q2 q3 q4 q5 bl bh sl sh bf tb ini xb xs la lb en 0 v104 v108 v115 v118 b120) [.int 0] := by
   intro t k
   refine XS.istore X133.here hx rfl (hb hby at_285) rfl (l' := (z31 q0 q1 q2 q3 q4 q5 bl bh sl sh bf tb ini xb xs la lb en 0 v104 v108 v115 v118 b120 0)) rfl ?_
   show zs p e below T133 m 287 (z31 q0 q1 q2 q3 q4 q5 bl bh sl sh bf tb ini xb xs la lb en 0 v104 v108 v115 v118 b120 0) [] t
   refine XS.aload X133.here hx rfl (hb hby at_287) rfl rfl ?_
   show zs p e below T133 m 289 (z31 q0 q1 q2 q3 q4 q5 bl bh sl sh bf tb ini xb xs la lb en 0 v104 v108 v115 v118 b120 0) [.ref en] t
   refine XS.iload X133.here hx rfl (hb hby at_289) rfl ?_
   show zs p e below T133 m 291 (z31 q0 q1 q2 q3 q4 q5 bl bh sl sh bf tb ini xb xs la lb en 0 v104 v108 v115 v118 b120 0) [.int 0, .ref en] t
   refine XS.iconst X133.here hx rfl (hb hby at_291) ?_
   show zs p e below T133 m 292 (z31 q0 q1 q2 q3 q4 q5 bl bh sl sh bf tb ini xb xs la lb en 0 v104 v108 v115 v118 b120 0) [.int 1, .int 0, .ref en] t
   refine XS.iadd X133.here hx rfl (hb hby at_292) rfl ?_
   exact k
  refine OFinW.go sg135 ?_
  obtain ⟨cq136, kq136, q136a, q136b, q136c⟩ := isOf hZ e133 fq134
  obtain ⟨_, _, ⟨T136, L136, k136, n136⟩, -, X136, ⟨Lc136, hQ136, l136, y136, z136⟩, st136⟩ := X133.virtualBack hx (y := (⟨"org/counterpath/engine/Encoding", "firstBit", "(I)I"⟩ : MethodName)) (z := (⟨"org/counterpath/engine/Encoding", "firstBit", "(I)I"⟩ : MethodName)) hown (mvT hZ (zw hw 253 rfl)) (mvT hZ (zw hw 254 rfl)) (notFace_of_selects (args := #[]) (mvT hZ (zw hw 256 rfl))) (mvT hZ (zw hw 256 rfl)) (mvT hZ (zw hw 255 rfl)) (by decide) (backOf (W := 0) (rm35v1 l Z aZ hw [] en fb kf (0 : Int32) f1 f2 T129.heap n0 (zt Z0 K129.1) fq131 fq132) hZ (zw hw 257 rfl) (zw hw 105 rfl) (by decide) (by decide)) q136a q136c (g := (mkF m 293 (z31 q0 q1 q2 q3 q4 q5 bl bh sl sh bf tb ini xb xs la lb en 0 v104 v108 v115 v118 b120 0) [.int 1, .ref en])) rfl (by rw [hml]; rfl) (Steps.refl _) (argsL := [.int 1]) (rest := []) (lenOf pd_0 rfl) rfl (by show 2 * 0 + _ ≤ _; exact ze rfl) (hb hby at_293) (fun _ _ => ⟨rfl, e133, (by decide : 22 + 0 ≤ _), (by decide : 214 + 0 ≤ _)⟩)
  dsimp only [Pt.U, Pt.locs, Pt.cells, Pt.slots] at X136 l136 y136 z136 st136 hQ136
  rw [l136, y136, z136] at X136
  obtain ⟨rfl, N136q, e136⟩ := hQ136
  have N136 := Fr.app N133 N136q
  refine OFinW.tr st136 ?_
  have sg137 : zg p e below T136 m 302 (z8 q0 q1 q2 q3 q4 q5 bl bh sl sh bf tb ini xb xs la lb en 0 v104 v108 v115 v118 b120 0 f1) [.int v118, .int 0] 296 (z31 q0 q1 q2 q3 q4 q5 bl bh sl sh bf tb ini xb xs la lb en 0 v104 v108 v115 v118 b120 0) [.int f1] := by
   intro t k
   refine XS.istore X136.here hx rfl (hb hby at_296) rfl (l' := (z8 q0 q1 q2 q3 q4 q5 bl bh sl sh bf tb ini xb xs la lb en 0 v104 v108 v115 v118 b120 0 f1)) rfl ?_
   show zs p e below T136 m 298 (z8 q0 q1 q2 q3 q4 q5 bl bh sl sh bf tb ini xb xs la lb en 0 v104 v108 v115 v118 b120 0 f1) [] t
   refine XS.iload X136.here hx rfl (hb hby at_298) rfl ?_
   show zs p e below T136 m 300 (z8 q0 q1 q2 q3 q4 q5 bl bh sl sh bf tb ini xb xs la lb en 0 v104 v108 v115 v118 b120 0 f1) [.int 0] t
   refine XS.iload X136.here hx rfl (hb hby at_300) rfl ?_
   exact k
  refine OFinW.go sg137 ?_
  by_cases c138 : v118 < (0 : Int32)
  ·have sg139 : zg p e below T136 m 333 (z4 q0 q1 q2 q3 q4 q5 bl bh sl sh bf tb ini xb xs la lb en 0 v104 v108 v115 v118 b120 0 f1 ini) [.int v118, .ref b120] 302 (z8 q0 q1 q2 q3 q4 q5 bl bh sl sh bf tb ini xb xs la lb en 0 v104 v108 v115 v118 b120 0 f1) [.int v118, .int 0] := by
    intro t k
    refine XS.icmpYes X136.here hx rfl (pc0 := 302) (pc' := 325) rfl (hb hby at_302) rfl (tlt c138).2.2.1 (by decide) (by decide) ?_
    show zs p e below T136 m 325 (z8 q0 q1 q2 q3 q4 q5 bl bh sl sh bf tb ini xb xs la lb en 0 v104 v108 v115 v118 b120 0 f1) [] t
    refine XS.iload X136.here hx rfl (hb hby at_325) rfl ?_
    show zs p e below T136 m 327 (z8 q0 q1 q2 q3 q4 q5 bl bh sl sh bf tb ini xb xs la lb en 0 v104 v108 v115 v118 b120 0 f1) [.int ini] t
    refine XS.istore X136.here hx rfl (hb hby at_327) rfl (l' := (z4 q0 q1 q2 q3 q4 q5 bl bh sl sh bf tb ini xb xs la lb en 0 v104 v108 v115 v118 b120 0 f1 ini)) rfl ?_
    show zs p e below T136 m 329 (z4 q0 q1 q2 q3 q4 q5 bl bh sl sh bf tb ini xb xs la lb en 0 v104 v108 v115 v118 b120 0 f1 ini) [] t
    refine XS.aload X136.here hx rfl (hb hby at_329) rfl rfl ?_
    show zs p e below T136 m 331 (z4 q0 q1 q2 q3 q4 q5 bl bh sl sh bf tb ini xb xs la lb en 0 v104 v108 v115 v118 b120 0 f1 ini) [.ref b120] t
    refine XS.iload X136.here hx rfl (hb hby at_331) rfl ?_
    exact k
   refine OFinW.go sg139 ?_
   obtain ⟨cl140, Ar140, q140, S140, M140, H140, G140⟩ := id P129_0
   have hin140 : ¬ (v118 < 0 ∨ cl140.slots.size ≤ (v118).toNatClampNeg) := inb_of S140 (own_inb hbit.1 hbit.2)
   have hat140 : cl140.slots[(v118).toNatClampNeg]? = some (.int ((own_hold v115 (0 : Int32) (f1.toInt - (0 : Int32).toInt).toNat (0 : Int32) ls).getD (v118).toNatClampNeg (0 : Int32))) := H140.at hin140 (own_getD _ _)
   have sg142 : zg p e below T136 m 336 (z4 q0 q1 q2 q3 q4 q5 bl bh sl sh bf tb ini xb xs la lb en 0 v104 v108 v115 v118 b120 0 f1 ini) [.int ini, .int ((own_hold v115 (0 : Int32) (f1.toInt - (0 : Int32).toInt).toNat (0 : Int32) ls).getD (v118).toNatClampNeg (0 : Int32))] 333 (z4 q0 q1 q2 q3 q4 q5 bl bh sl sh bf tb ini xb xs la lb en 0 v104 v108 v115 v118 b120 0 f1 ini) [.int v118, .ref b120] := by
    intro t k
    refine X136.baloadBooleans hx (j := v118) (v := (.int ((own_hold v115 (0 : Int32) (f1.toInt - (0 : Int32).toInt).toNat (0 : Int32) ls).getD (v118).toNatClampNeg (0 : Int32)))) (by rw [e136]; exact Ar140.1) (State.isArrayOf_alike hZ.alike Ar140.2.1) Ar140.2.2 hin140 hat140 (g := (mkF m 333 (z4 q0 q1 q2 q3 q4 q5 bl bh sl sh bf tb ini xb xs la lb en 0 v104 v108 v115 v118 b120 0 f1 ini) [.int v118, .ref b120])) rfl rfl (hb hby at_333) _ ?_
    show zs p e below T136 m 334 (z4 q0 q1 q2 q3 q4 q5 bl bh sl sh bf tb ini xb xs la lb en 0 v104 v108 v115 v118 b120 0 f1 ini) [.int ((own_hold v115 (0 : Int32) (f1.toInt - (0 : Int32).toInt).toNat (0 : Int32) ls).getD (v118).toNatClampNeg (0 : Int32))] t
    refine XS.iload X136.here hx rfl (hb hby at_334) rfl ?_
    exact k
   refine OFinW.go sg142 ?_
   have c141 : ((own_hold v115 (0 : Int32) (f1.toInt - (0 : Int32).toInt).toNat (0 : Int32) ls).getD (v118).toNatClampNeg (0 : Int32)) = ini := (by have qa := c138; rw [Int32.lt_iff_toInt_lt] at qa; rw [(own_hold_get v115 (0 : Int32) (by omega) v118.toNatClampNeg (f1.toInt - (0 : Int32).toInt).toNat (0 : Int32) ls hll (by omega) (by omega) (by omega)), if_neg (by simp only [Int32.toNatClampNeg]; omega), e_ls, List.getD_eq_getElem?_getD, List.getElem?_set_self (by rw [List.length_replicate]; simp only [Int32.toNatClampNeg]; omega)]; rfl)
   have sg143 : zg p e below T136 m 345 (z4 q0 q1 q2 q3 q4 q5 bl bh sl sh bf tb ini xb xs la lb en 0 v104 v108 v115 v118 b120 0 f1 ini) [.int 0, .ref b120, .ref en] 336 (z4 q0 q1 q2 q3 q4 q5 bl bh sl sh bf tb ini xb xs la lb en 0 v104 v108 v115 v118 b120 0 f1 ini) [.int ini, .int ((own_hold v115 (0 : Int32) (f1.toInt - (0 : Int32).toInt).toNat (0 : Int32) ls).getD (v118).toNatClampNeg (0 : Int32))] := by
    intro t k
    refine XS.icmpNo X136.here hx rfl (hb hby at_336) rfl (teq c141).2 ?_
    show zs p e below T136 m 339 (z4 q0 q1 q2 q3 q4 q5 bl bh sl sh bf tb ini xb xs la lb en 0 v104 v108 v115 v118 b120 0 f1 ini) [] t
    refine XS.aload X136.here hx rfl (hb hby at_339) rfl rfl ?_
    show zs p e below T136 m 341 (z4 q0 q1 q2 q3 q4 q5 bl bh sl sh bf tb ini xb xs la lb en 0 v104 v108 v115 v118 b120 0 f1 ini) [.ref en] t
    refine XS.aload X136.here hx rfl (hb hby at_341) rfl rfl ?_
    show zs p e below T136 m 343 (z4 q0 q1 q2 q3 q4 q5 bl bh sl sh bf tb ini xb xs la lb en 0 v104 v108 v115 v118 b120 0 f1 ini) [.ref b120, .ref en] t
    refine XS.iload X136.here hx rfl (hb hby at_343) rfl ?_
    exact k
   refine OFinW.go sg143 ?_
   have fq144 : Fld Z T129.heap en "org/counterpath/engine/Encoding" "_signed" "[Z" (.ref sg) := (((G2.ext E120).other W123 (Or.inl nq126)).keep Kq129 (ninS nq126 nin0))
   have nq145 : sg ≠ b120 := (zn (zl VS.lt (ze g120.symm)))
   have fq146 : Arv Z T129.heap sg ks .boolean (2 : Int32) [.int (own_sg l1), .int (own_sg l2)] (.int 0) := (((VS.ext E120).other W123 nq145).keep Kq129 (ninS nq145 nin0))
   have fq147 : Fld Z T129.heap en "org/counterpath/engine/Encoding" "_codes" "[[J" (.ref cd) := (((G3.ext E120).other W123 (Or.inl nq126)).keep Kq129 (ninS nq126 nin0))
   have fq148 : Arv Z T129.heap cd kc (.array .long) (2 : Int32) [.null, .null] .null := (((VC.ext E120).other W123 nq128).keep Kq129 (ninS nq128 nin0))
   obtain ⟨cq149, kq149, q149a, q149b, q149c⟩ := isOf hZ e136 fq134
   obtain ⟨_, _, ⟨T149, L149, k149, n149⟩, -, X149, ⟨Lc149, hQ149, l149, y149, z149⟩, st149⟩ := X136.virtualBack hx (y := (⟨"org/counterpath/engine/Encoding", "value", "([ZI)J"⟩ : MethodName)) (z := (⟨"org/counterpath/engine/Encoding", "value", "([ZI)J"⟩ : MethodName)) hown (mvT hZ (zw hw 258 rfl)) (mvT hZ (zw hw 259 rfl)) (notFace_of_selects (args := #[]) (mvT hZ (zw hw 261 rfl))) (mvT hZ (zw hw 261 rfl)) (mvT hZ (zw hw 260 rfl)) (by decide) (backOf (W := 0) (rm36v0 l Z aZ hw [] en b120 fb kf (0 : Int32) f1 f2 sg ks (own_sg l1) (own_sg l2) cd kc k120 (own_hold v115 (0 : Int32) (f1.toInt - (0 : Int32).toInt).toNat (0 : Int32) ls) T129.heap n0 (zt Z0 K129.1) fq131 fq132 fq144 fq146 fq147 fq148 P129_0 (by rw [own_hold_len]; exact hll) (by decide) (by omega) (by omega) (fun q => by have q' := own_sgpos hlu.2.2 q; omega)) hZ (zw hw 262 rfl) (zw hw 105 rfl) (by decide) (by decide)) q149a q149c (g := (mkF m 345 (z4 q0 q1 q2 q3 q4 q5 bl bh sl sh bf tb ini xb xs la lb en 0 v104 v108 v115 v118 b120 0 f1 ini) [.int 0, .ref b120, .ref en])) rfl (by rw [hml]; rfl) (Steps.refl _) (argsL := [.ref b120, .int 0]) (rest := []) (lenOf pd_21 rfl) rfl (by show 2 * 0 + _ ≤ _; exact ze rfl) (hb hby at_345) (fun _ _ => ⟨rfl, e136, (by decide : 22 + 0 ≤ _), (by decide : 214 + 0 ≤ _)⟩)
   dsimp only [Pt.U, Pt.locs, Pt.cells, Pt.slots] at X149 l149 y149 z149 st149 hQ149
   rw [l149, y149, z149] at X149
   obtain ⟨rfl, N149q, Kq149⟩ := hQ149
   have N149 := Fr.app N136 N149q
   refine OFinW.tr st149 ?_
   have K149 : Keep h0 T149.heap [] := K129.trans Kq149 all0
   have sg151 : zg p e below T149 m 351 (z4 q0 q1 q2 q3 q4 q5 bl bh sl sh bf tb ini xb xs la lb en 0 v104 v108 v115 v118 b120 0 f1 ini) [.int (lcmpW (own_value (own_sg l1) (0 : Int32) f1 (own_hold v115 (0 : Int32) (f1.toInt - (0 : Int32).toInt).toNat (0 : Int32) ls)) v115)] 348 (z4 q0 q1 q2 q3 q4 q5 bl bh sl sh bf tb ini xb xs la lb en 0 v104 v108 v115 v118 b120 0 f1 ini) [.long (own_value (own_sg l1) (0 : Int32) f1 (own_hold v115 (0 : Int32) (f1.toInt - (0 : Int32).toInt).toNat (0 : Int32) ls))] := by
    intro t k
    refine XS.lload X149.here hx rfl (hb hby at_348) rfl ?_
    show zs p e below T149 m 350 (z4 q0 q1 q2 q3 q4 q5 bl bh sl sh bf tb ini xb xs la lb en 0 v104 v108 v115 v118 b120 0 f1 ini) [.long v115, .long (own_value (own_sg l1) (0 : Int32) f1 (own_hold v115 (0 : Int32) (f1.toInt - (0 : Int32).toInt).toNat (0 : Int32) ls))] t
    refine XS.lcmp X149.here hx rfl (hb hby at_350) rfl ?_
    exact k
   refine OFinW.go sg151 ?_
   have c150 : (own_value (own_sg l1) (0 : Int32) f1 (own_hold v115 (0 : Int32) (f1.toInt - (0 : Int32).toInt).toNat (0 : Int32) ls)) = v115 := (own_back_value l1 u1 v115 hvv.1 hvv.2 (0 : Int32) f1 ls hll (by omega) (by omega) (by omega))
   have sg152 : zg p e below T149 m 359 (z4 q0 q1 q2 q3 q4 q5 bl bh sl sh bf tb ini xb xs la lb en 0 v104 v108 v115 v118 b120 0 f1 ini) [.int 1] 351 (z4 q0 q1 q2 q3 q4 q5 bl bh sl sh bf tb ini xb xs la lb en 0 v104 v108 v115 v118 b120 0 f1 ini) [.int (lcmpW (own_value (own_sg l1) (0 : Int32) f1 (own_hold v115 (0 : Int32) (f1.toInt - (0 : Int32).toInt).toNat (0 : Int32) ls)) v115)] := by
    intro t k
    refine XS.ifNo X149.here hx rfl (hb hby at_351) rfl ((if0 _ _).trans (teq ((lw_eq _ _).mpr c150)).2) ?_
    show zs p e below T149 m 354 (z4 q0 q1 q2 q3 q4 q5 bl bh sl sh bf tb ini xb xs la lb en 0 v104 v108 v115 v118 b120 0 f1 ini) [] t
    refine XS.iconst X149.here hx rfl (hb hby at_354) ?_
    show zs p e below T149 m 355 (z4 q0 q1 q2 q3 q4 q5 bl bh sl sh bf tb ini xb xs la lb en 0 v104 v108 v115 v118 b120 0 f1 ini) [.int 1] t
    refine XS.goto X149.here hx rfl (pc0 := 355) (pc' := 359) rfl (hb hby at_355) (by decide) (by decide) ?_
    exact k
   refine OFinW.go sg152 ?_
   exact OFinW.retN X149 hS (zt (zt (zt (zt hk E120.1) (Keep.of_wr W123).1) Kq129.1) Kq149.1) hx hret (by simp) hlk (hb hby at_359) rfl ⟨rfl, N149⟩ (by decide) (by decide)
  ·have sg153 : zg p e below T136 m 309 (z8 q0 q1 q2 q3 q4 q5 bl bh sl sh bf tb ini xb xs la lb en 0 v104 v108 v115 v118 b120 0 f1) [.int f1, .int v118] 302 (z8 q0 q1 q2 q3 q4 q5 bl bh sl sh bf tb ini xb xs la lb en 0 v104 v108 v115 v118 b120 0 f1) [.int v118, .int 0] := by
    intro t k
    refine XS.icmpNo X136.here hx rfl (hb hby at_302) rfl (flt c138).2.2.1 ?_
    show zs p e below T136 m 305 (z8 q0 q1 q2 q3 q4 q5 bl bh sl sh bf tb ini xb xs la lb en 0 v104 v108 v115 v118 b120 0 f1) [] t
    refine XS.iload X136.here hx rfl (hb hby at_305) rfl ?_
    show zs p e below T136 m 307 (z8 q0 q1 q2 q3 q4 q5 bl bh sl sh bf tb ini xb xs la lb en 0 v104 v108 v115 v118 b120 0 f1) [.int v118] t
    refine XS.iload X136.here hx rfl (hb hby at_307) rfl ?_
    exact k
   refine OFinW.go sg153 ?_
   by_cases c154 : v118 < f1
   ·have sg155 : zg p e below T136 m 319 (z8 q0 q1 q2 q3 q4 q5 bl bh sl sh bf tb ini xb xs la lb en 0 v104 v108 v115 v118 b120 0 f1) [.int (v118 - (0 : Int32)), .long v115] 309 (z8 q0 q1 q2 q3 q4 q5 bl bh sl sh bf tb ini xb xs la lb en 0 v104 v108 v115 v118 b120 0 f1) [.int f1, .int v118] := by
     intro t k
     refine XS.icmpNo X136.here hx rfl (hb hby at_309) rfl (tlt c154).2.1 ?_
     show zs p e below T136 m 312 (z8 q0 q1 q2 q3 q4 q5 bl bh sl sh bf tb ini xb xs la lb en 0 v104 v108 v115 v118 b120 0 f1) [] t
     refine XS.lload X136.here hx rfl (hb hby at_312) rfl ?_
     show zs p e below T136 m 314 (z8 q0 q1 q2 q3 q4 q5 bl bh sl sh bf tb ini xb xs la lb en 0 v104 v108 v115 v118 b120 0 f1) [.long v115] t
     refine XS.iload X136.here hx rfl (hb hby at_314) rfl ?_
     show zs p e below T136 m 316 (z8 q0 q1 q2 q3 q4 q5 bl bh sl sh bf tb ini xb xs la lb en 0 v104 v108 v115 v118 b120 0 f1) [.int v118, .long v115] t
     refine XS.iload X136.here hx rfl (hb hby at_316) rfl ?_
     show zs p e below T136 m 318 (z8 q0 q1 q2 q3 q4 q5 bl bh sl sh bf tb ini xb xs la lb en 0 v104 v108 v115 v118 b120 0 f1) [.int 0, .int v118, .long v115] t
     refine XS.isub X136.here hx rfl (hb hby at_318) rfl ?_
     exact k
    refine OFinW.go sg155 ?_
    obtain ⟨_, _, ⟨T156, L156, k156, n156⟩, -, X156, ⟨Lc156, hQ156, l156, y156, z156⟩, st156⟩ := Jvm.LawKit.callS X136 hx (y := (⟨"org/counterpath/engine/EncodingHoldPinLaw", "bitOf", "(JI)Z"⟩ : MethodName)) hown (mvT hZ (zw hw 264 rfl)) (mvT hZ (zw hw 265 rfl)) (mvT hZ (zw hw 266 rfl)) (mvT hZ (zw hw 267 rfl)) (by decide) (backOf (W := 0) (rm37 l Z aZ hw [] v115 (v118 - (0 : Int32)) T129.heap n0 (zt Z0 K129.1) ) hZ (zw hw 267 rfl) (zw hw 266 rfl) (by decide) (by decide)) (g := (mkF m 319 (z8 q0 q1 q2 q3 q4 q5 bl bh sl sh bf tb ini xb xs la lb en 0 v104 v108 v115 v118 b120 0 f1) [.int (v118 - (0 : Int32)), .long v115])) rfl (by rw [hml]; rfl) (argsL := [.long v115, .int (v118 - (0 : Int32))]) (rest := []) (lenOf pd_22 rfl) rfl (by show 2 * 0 + _ ≤ _; exact ze rfl) (hb hby at_319) (fun _ _ => ⟨rfl, e136, (by decide : 22 + 0 ≤ _), (by decide : 214 + 0 ≤ _)⟩)
    dsimp only [Pt.U, Pt.locs, Pt.cells, Pt.slots] at X156 l156 y156 z156 st156 hQ156
    rw [l156, y156, z156] at X156
    obtain ⟨rfl, N156q, e156⟩ := hQ156
    have N156 := Fr.app N136 N156q
    refine OFinW.go st156 ?_
    have sg157 : zg p e below T156 m 333 (z4 q0 q1 q2 q3 q4 q5 bl bh sl sh bf tb ini xb xs la lb en 0 v104 v108 v115 v118 b120 0 f1 (own_f37 v115 (v118 - (0 : Int32)))) [.int v118, .ref b120] 322 (z8 q0 q1 q2 q3 q4 q5 bl bh sl sh bf tb ini xb xs la lb en 0 v104 v108 v115 v118 b120 0 f1) [.int (own_f37 v115 (v118 - (0 : Int32)))] := by
     intro t k
     refine XS.goto X156.here hx rfl (pc0 := 322) (pc' := 327) rfl (hb hby at_322) (by decide) (by decide) ?_
     show zs p e below T156 m 327 (z8 q0 q1 q2 q3 q4 q5 bl bh sl sh bf tb ini xb xs la lb en 0 v104 v108 v115 v118 b120 0 f1) [.int (own_f37 v115 (v118 - (0 : Int32)))] t
     refine XS.istore X156.here hx rfl (hb hby at_327) rfl (l' := (z4 q0 q1 q2 q3 q4 q5 bl bh sl sh bf tb ini xb xs la lb en 0 v104 v108 v115 v118 b120 0 f1 (own_f37 v115 (v118 - (0 : Int32))))) rfl ?_
     show zs p e below T156 m 329 (z4 q0 q1 q2 q3 q4 q5 bl bh sl sh bf tb ini xb xs la lb en 0 v104 v108 v115 v118 b120 0 f1 (own_f37 v115 (v118 - (0 : Int32)))) [] t
     refine XS.aload X156.here hx rfl (hb hby at_329) rfl rfl ?_
     show zs p e below T156 m 331 (z4 q0 q1 q2 q3 q4 q5 bl bh sl sh bf tb ini xb xs la lb en 0 v104 v108 v115 v118 b120 0 f1 (own_f37 v115 (v118 - (0 : Int32)))) [.ref b120] t
     refine XS.iload X156.here hx rfl (hb hby at_331) rfl ?_
     exact k
    refine OFinW.go sg157 ?_
    obtain ⟨cl158, Ar158, q158, S158, M158, H158, G158⟩ := id P129_0
    have hin158 : ¬ (v118 < 0 ∨ cl158.slots.size ≤ (v118).toNatClampNeg) := inb_of S158 (own_inb hbit.1 hbit.2)
    have hat158 : cl158.slots[(v118).toNatClampNeg]? = some (.int ((own_hold v115 (0 : Int32) (f1.toInt - (0 : Int32).toInt).toNat (0 : Int32) ls).getD (v118).toNatClampNeg (0 : Int32))) := H158.at hin158 (own_getD _ _)
    have sg160 : zg p e below T156 m 336 (z4 q0 q1 q2 q3 q4 q5 bl bh sl sh bf tb ini xb xs la lb en 0 v104 v108 v115 v118 b120 0 f1 (own_f37 v115 (v118 - (0 : Int32)))) [.int (own_f37 v115 (v118 - (0 : Int32))), .int ((own_hold v115 (0 : Int32) (f1.toInt - (0 : Int32).toInt).toNat (0 : Int32) ls).getD (v118).toNatClampNeg (0 : Int32))] 333 (z4 q0 q1 q2 q3 q4 q5 bl bh sl sh bf tb ini xb xs la lb en 0 v104 v108 v115 v118 b120 0 f1 (own_f37 v115 (v118 - (0 : Int32)))) [.int v118, .ref b120] := by
     intro t k
     refine X156.baloadBooleans hx (j := v118) (v := (.int ((own_hold v115 (0 : Int32) (f1.toInt - (0 : Int32).toInt).toNat (0 : Int32) ls).getD (v118).toNatClampNeg (0 : Int32)))) (by rw [e156]; exact Ar158.1) (State.isArrayOf_alike hZ.alike Ar158.2.1) Ar158.2.2 hin158 hat158 (g := (mkF m 333 (z4 q0 q1 q2 q3 q4 q5 bl bh sl sh bf tb ini xb xs la lb en 0 v104 v108 v115 v118 b120 0 f1 (own_f37 v115 (v118 - (0 : Int32)))) [.int v118, .ref b120])) rfl rfl (hb hby at_333) _ ?_
     show zs p e below T156 m 334 (z4 q0 q1 q2 q3 q4 q5 bl bh sl sh bf tb ini xb xs la lb en 0 v104 v108 v115 v118 b120 0 f1 (own_f37 v115 (v118 - (0 : Int32)))) [.int ((own_hold v115 (0 : Int32) (f1.toInt - (0 : Int32).toInt).toNat (0 : Int32) ls).getD (v118).toNatClampNeg (0 : Int32))] t
     refine XS.iload X156.here hx rfl (hb hby at_334) rfl ?_
     exact k
    refine OFinW.go sg160 ?_
    have c159 : ((own_hold v115 (0 : Int32) (f1.toInt - (0 : Int32).toInt).toNat (0 : Int32) ls).getD (v118).toNatClampNeg (0 : Int32)) = (own_f37 v115 (v118 - (0 : Int32))) := (by have qa := c138; rw [Int32.lt_iff_toInt_lt] at qa; have qb := c154; rw [Int32.lt_iff_toInt_lt] at qb; have qs := own_subi (e := v118) (f := (0 : Int32)) (by omega) (by omega) (by omega) (by omega); rw [(own_hold_get v115 (0 : Int32) (by omega) v118.toNatClampNeg (f1.toInt - (0 : Int32).toInt).toNat (0 : Int32) ls hll (by omega) (by omega) (by omega)), if_pos (by simp only [Int32.toNatClampNeg]; omega), own_f37_nb (by omega) (by omega)]; congr 1; simp only [Int32.toNatClampNeg]; omega)
    have sg161 : zg p e below T156 m 345 (z4 q0 q1 q2 q3 q4 q5 bl bh sl sh bf tb ini xb xs la lb en 0 v104 v108 v115 v118 b120 0 f1 (own_f37 v115 (v118 - (0 : Int32)))) [.int 0, .ref b120, .ref en] 336 (z4 q0 q1 q2 q3 q4 q5 bl bh sl sh bf tb ini xb xs la lb en 0 v104 v108 v115 v118 b120 0 f1 (own_f37 v115 (v118 - (0 : Int32)))) [.int (own_f37 v115 (v118 - (0 : Int32))), .int ((own_hold v115 (0 : Int32) (f1.toInt - (0 : Int32).toInt).toNat (0 : Int32) ls).getD (v118).toNatClampNeg (0 : Int32))] := by
     intro t k
     refine XS.icmpNo X156.here hx rfl (hb hby at_336) rfl (teq c159).2 ?_
     show zs p e below T156 m 339 (z4 q0 q1 q2 q3 q4 q5 bl bh sl sh bf tb ini xb xs la lb en 0 v104 v108 v115 v118 b120 0 f1 (own_f37 v115 (v118 - (0 : Int32)))) [] t
     refine XS.aload X156.here hx rfl (hb hby at_339) rfl rfl ?_
     show zs p e below T156 m 341 (z4 q0 q1 q2 q3 q4 q5 bl bh sl sh bf tb ini xb xs la lb en 0 v104 v108 v115 v118 b120 0 f1 (own_f37 v115 (v118 - (0 : Int32)))) [.ref en] t
     refine XS.aload X156.here hx rfl (hb hby at_341) rfl rfl ?_
     show zs p e below T156 m 343 (z4 q0 q1 q2 q3 q4 q5 bl bh sl sh bf tb ini xb xs la lb en 0 v104 v108 v115 v118 b120 0 f1 (own_f37 v115 (v118 - (0 : Int32)))) [.ref b120, .ref en] t
     refine XS.iload X156.here hx rfl (hb hby at_343) rfl ?_
     exact k
    refine OFinW.go sg161 ?_
    have fq162 : Fld Z T129.heap en "org/counterpath/engine/Encoding" "_signed" "[Z" (.ref sg) := (((G2.ext E120).other W123 (Or.inl nq126)).keep Kq129 (ninS nq126 nin0))
    have nq163 : sg ≠ b120 := (zn (zl VS.lt (ze g120.symm)))
    have fq164 : Arv Z T129.heap sg ks .boolean (2 : Int32) [.int (own_sg l1), .int (own_sg l2)] (.int 0) := (((VS.ext E120).other W123 nq163).keep Kq129 (ninS nq163 nin0))
    have fq165 : Fld Z T129.heap en "org/counterpath/engine/Encoding" "_codes" "[[J" (.ref cd) := (((G3.ext E120).other W123 (Or.inl nq126)).keep Kq129 (ninS nq126 nin0))
    have fq166 : Arv Z T129.heap cd kc (.array .long) (2 : Int32) [.null, .null] .null := (((VC.ext E120).other W123 nq128).keep Kq129 (ninS nq128 nin0))
    obtain ⟨cq167, kq167, q167a, q167b, q167c⟩ := isOf hZ e156 fq134
    obtain ⟨_, _, ⟨T167, L167, k167, n167⟩, -, X167, ⟨Lc167, hQ167, l167, y167, z167⟩, st167⟩ := X156.virtualBack hx (y := (⟨"org/counterpath/engine/Encoding", "value", "([ZI)J"⟩ : MethodName)) (z := (⟨"org/counterpath/engine/Encoding", "value", "([ZI)J"⟩ : MethodName)) hown (mvT hZ (zw hw 258 rfl)) (mvT hZ (zw hw 259 rfl)) (notFace_of_selects (args := #[]) (mvT hZ (zw hw 261 rfl))) (mvT hZ (zw hw 261 rfl)) (mvT hZ (zw hw 260 rfl)) (by decide) (backOf (W := 0) (rm36v0 l Z aZ hw [] en b120 fb kf (0 : Int32) f1 f2 sg ks (own_sg l1) (own_sg l2) cd kc k120 (own_hold v115 (0 : Int32) (f1.toInt - (0 : Int32).toInt).toNat (0 : Int32) ls) T129.heap n0 (zt Z0 K129.1) fq131 fq132 fq162 fq164 fq165 fq166 P129_0 (by rw [own_hold_len]; exact hll) (by decide) (by omega) (by omega) (fun q => by have q' := own_sgpos hlu.2.2 q; omega)) hZ (zw hw 262 rfl) (zw hw 105 rfl) (by decide) (by decide)) q167a q167c (g := (mkF m 345 (z4 q0 q1 q2 q3 q4 q5 bl bh sl sh bf tb ini xb xs la lb en 0 v104 v108 v115 v118 b120 0 f1 (own_f37 v115 (v118 - (0 : Int32)))) [.int 0, .ref b120, .ref en])) rfl (by rw [hml]; rfl) (Steps.refl _) (argsL := [.ref b120, .int 0]) (rest := []) (lenOf pd_21 rfl) rfl (by show 2 * 0 + _ ≤ _; exact ze rfl) (hb hby at_345) (fun _ _ => ⟨rfl, e156, (by decide : 22 + 0 ≤ _), (by decide : 214 + 0 ≤ _)⟩)
    dsimp only [Pt.U, Pt.locs, Pt.cells, Pt.slots] at X167 l167 y167 z167 st167 hQ167
    rw [l167, y167, z167] at X167
    obtain ⟨rfl, N167q, Kq167⟩ := hQ167
    have N167 := Fr.app N156 N167q
    refine OFinW.tr st167 ?_
    have K167 : Keep h0 T167.heap [] := K129.trans Kq167 all0
    have sg169 : zg p e below T167 m 351 (z4 q0 q1 q2 q3 q4 q5 bl bh sl sh bf tb ini xb xs la lb en 0 v104 v108 v115 v118 b120 0 f1 (own_f37 v115 (v118 - (0 : Int32)))) [.int (lcmpW (own_value (own_sg l1) (0 : Int32) f1 (own_hold v115 (0 : Int32) (f1.toInt - (0 : Int32).toInt).toNat (0 : Int32) ls)) v115)] 348 (z4 q0 q1 q2 q3 q4 q5 bl bh sl sh bf tb ini xb xs la lb en 0 v104 v108 v115 v118 b120 0 f1 (own_f37 v115 (v118 - (0 : Int32)))) [.long (own_value (own_sg l1) (0 : Int32) f1 (own_hold v115 (0 : Int32) (f1.toInt - (0 : Int32).toInt).toNat (0 : Int32) ls))] := by
     intro t k
     refine XS.lload X167.here hx rfl (hb hby at_348) rfl ?_
     show zs p e below T167 m 350 (z4 q0 q1 q2 q3 q4 q5 bl bh sl sh bf tb ini xb xs la lb en 0 v104 v108 v115 v118 b120 0 f1 (own_f37 v115 (v118 - (0 : Int32)))) [.long v115, .long (own_value (own_sg l1) (0 : Int32) f1 (own_hold v115 (0 : Int32) (f1.toInt - (0 : Int32).toInt).toNat (0 : Int32) ls))] t
     refine XS.lcmp X167.here hx rfl (hb hby at_350) rfl ?_
     exact k
    refine OFinW.go sg169 ?_
    have c168 : (own_value (own_sg l1) (0 : Int32) f1 (own_hold v115 (0 : Int32) (f1.toInt - (0 : Int32).toInt).toNat (0 : Int32) ls)) = v115 := (own_back_value l1 u1 v115 hvv.1 hvv.2 (0 : Int32) f1 ls hll (by omega) (by omega) (by omega))
    have sg170 : zg p e below T167 m 359 (z4 q0 q1 q2 q3 q4 q5 bl bh sl sh bf tb ini xb xs la lb en 0 v104 v108 v115 v118 b120 0 f1 (own_f37 v115 (v118 - (0 : Int32)))) [.int 1] 351 (z4 q0 q1 q2 q3 q4 q5 bl bh sl sh bf tb ini xb xs la lb en 0 v104 v108 v115 v118 b120 0 f1 (own_f37 v115 (v118 - (0 : Int32)))) [.int (lcmpW (own_value (own_sg l1) (0 : Int32) f1 (own_hold v115 (0 : Int32) (f1.toInt - (0 : Int32).toInt).toNat (0 : Int32) ls)) v115)] := by
     intro t k
     refine XS.ifNo X167.here hx rfl (hb hby at_351) rfl ((if0 _ _).trans (teq ((lw_eq _ _).mpr c168)).2) ?_
     show zs p e below T167 m 354 (z4 q0 q1 q2 q3 q4 q5 bl bh sl sh bf tb ini xb xs la lb en 0 v104 v108 v115 v118 b120 0 f1 (own_f37 v115 (v118 - (0 : Int32)))) [] t
     refine XS.iconst X167.here hx rfl (hb hby at_354) ?_
     show zs p e below T167 m 355 (z4 q0 q1 q2 q3 q4 q5 bl bh sl sh bf tb ini xb xs la lb en 0 v104 v108 v115 v118 b120 0 f1 (own_f37 v115 (v118 - (0 : Int32)))) [.int 1] t
     refine XS.goto X167.here hx rfl (pc0 := 355) (pc' := 359) rfl (hb hby at_355) (by decide) (by decide) ?_
     exact k
    refine OFinW.go sg170 ?_
    exact OFinW.retN X167 hS (zt (zt (zt (zt hk E120.1) (Keep.of_wr W123).1) Kq129.1) Kq167.1) hx hret (by simp) hlk (hb hby at_359) rfl ⟨rfl, N167⟩ (by decide) (by decide)
   ·have sg171 : zg p e below T136 m 333 (z4 q0 q1 q2 q3 q4 q5 bl bh sl sh bf tb ini xb xs la lb en 0 v104 v108 v115 v118 b120 0 f1 ini) [.int v118, .ref b120] 309 (z8 q0 q1 q2 q3 q4 q5 bl bh sl sh bf tb ini xb xs la lb en 0 v104 v108 v115 v118 b120 0 f1) [.int f1, .int v118] := by
     intro t k
     refine XS.icmpYes X136.here hx rfl (pc0 := 309) (pc' := 325) rfl (hb hby at_309) rfl (flt c154).2.1 (by decide) (by decide) ?_
     show zs p e below T136 m 325 (z8 q0 q1 q2 q3 q4 q5 bl bh sl sh bf tb ini xb xs la lb en 0 v104 v108 v115 v118 b120 0 f1) [] t
     refine XS.iload X136.here hx rfl (hb hby at_325) rfl ?_
     show zs p e below T136 m 327 (z8 q0 q1 q2 q3 q4 q5 bl bh sl sh bf tb ini xb xs la lb en 0 v104 v108 v115 v118 b120 0 f1) [.int ini] t
     refine XS.istore X136.here hx rfl (hb hby at_327) rfl (l' := (z4 q0 q1 q2 q3 q4 q5 bl bh sl sh bf tb ini xb xs la lb en 0 v104 v108 v115 v118 b120 0 f1 ini)) rfl ?_
     show zs p e below T136 m 329 (z4 q0 q1 q2 q3 q4 q5 bl bh sl sh bf tb ini xb xs la lb en 0 v104 v108 v115 v118 b120 0 f1 ini) [] t
     refine XS.aload X136.here hx rfl (hb hby at_329) rfl rfl ?_
     show zs p e below T136 m 331 (z4 q0 q1 q2 q3 q4 q5 bl bh sl sh bf tb ini xb xs la lb en 0 v104 v108 v115 v118 b120 0 f1 ini) [.ref b120] t
     refine XS.iload X136.here hx rfl (hb hby at_331) rfl ?_
     exact k
    refine OFinW.go sg171 ?_
    obtain ⟨cl172, Ar172, q172, S172, M172, H172, G172⟩ := id P129_0
    have hin172 : ¬ (v118 < 0 ∨ cl172.slots.size ≤ (v118).toNatClampNeg) := inb_of S172 (own_inb hbit.1 hbit.2)
    have hat172 : cl172.slots[(v118).toNatClampNeg]? = some (.int ((own_hold v115 (0 : Int32) (f1.toInt - (0 : Int32).toInt).toNat (0 : Int32) ls).getD (v118).toNatClampNeg (0 : Int32))) := H172.at hin172 (own_getD _ _)
    have sg174 : zg p e below T136 m 336 (z4 q0 q1 q2 q3 q4 q5 bl bh sl sh bf tb ini xb xs la lb en 0 v104 v108 v115 v118 b120 0 f1 ini) [.int ini, .int ((own_hold v115 (0 : Int32) (f1.toInt - (0 : Int32).toInt).toNat (0 : Int32) ls).getD (v118).toNatClampNeg (0 : Int32))] 333 (z4 q0 q1 q2 q3 q4 q5 bl bh sl sh bf tb ini xb xs la lb en 0 v104 v108 v115 v118 b120 0 f1 ini) [.int v118, .ref b120] := by
     intro t k
     refine X136.baloadBooleans hx (j := v118) (v := (.int ((own_hold v115 (0 : Int32) (f1.toInt - (0 : Int32).toInt).toNat (0 : Int32) ls).getD (v118).toNatClampNeg (0 : Int32)))) (by rw [e136]; exact Ar172.1) (State.isArrayOf_alike hZ.alike Ar172.2.1) Ar172.2.2 hin172 hat172 (g := (mkF m 333 (z4 q0 q1 q2 q3 q4 q5 bl bh sl sh bf tb ini xb xs la lb en 0 v104 v108 v115 v118 b120 0 f1 ini) [.int v118, .ref b120])) rfl rfl (hb hby at_333) _ ?_
     show zs p e below T136 m 334 (z4 q0 q1 q2 q3 q4 q5 bl bh sl sh bf tb ini xb xs la lb en 0 v104 v108 v115 v118 b120 0 f1 ini) [.int ((own_hold v115 (0 : Int32) (f1.toInt - (0 : Int32).toInt).toNat (0 : Int32) ls).getD (v118).toNatClampNeg (0 : Int32))] t
     refine XS.iload X136.here hx rfl (hb hby at_334) rfl ?_
     exact k
    refine OFinW.go sg174 ?_
    have c173 : ((own_hold v115 (0 : Int32) (f1.toInt - (0 : Int32).toInt).toNat (0 : Int32) ls).getD (v118).toNatClampNeg (0 : Int32)) = ini := (by have qa := c138; rw [Int32.lt_iff_toInt_lt] at qa; have qb := c154; rw [Int32.lt_iff_toInt_lt] at qb; rw [(own_hold_get v115 (0 : Int32) (by omega) v118.toNatClampNeg (f1.toInt - (0 : Int32).toInt).toNat (0 : Int32) ls hll (by omega) (by omega) (by omega)), if_neg (by simp only [Int32.toNatClampNeg]; omega), e_ls, List.getD_eq_getElem?_getD, List.getElem?_set_self (by rw [List.length_replicate]; simp only [Int32.toNatClampNeg]; omega)]; rfl)
    have sg175 : zg p e below T136 m 345 (z4 q0 q1 q2 q3 q4 q5 bl bh sl sh bf tb ini xb xs la lb en 0 v104 v108 v115 v118 b120 0 f1 ini) [.int 0, .ref b120, .ref en] 336 (z4 q0 q1 q2 q3 q4 q5 bl bh sl sh bf tb ini xb xs la lb en 0 v104 v108 v115 v118 b120 0 f1 ini) [.int ini, .int ((own_hold v115 (0 : Int32) (f1.toInt - (0 : Int32).toInt).toNat (0 : Int32) ls).getD (v118).toNatClampNeg (0 : Int32))] := by
     intro t k
     refine XS.icmpNo X136.here hx rfl (hb hby at_336) rfl (teq c173).2 ?_
     show zs p e below T136 m 339 (z4 q0 q1 q2 q3 q4 q5 bl bh sl sh bf tb ini xb xs la lb en 0 v104 v108 v115 v118 b120 0 f1 ini) [] t
     refine XS.aload X136.here hx rfl (hb hby at_339) rfl rfl ?_
     show zs p e below T136 m 341 (z4 q0 q1 q2 q3 q4 q5 bl bh sl sh bf tb ini xb xs la lb en 0 v104 v108 v115 v118 b120 0 f1 ini) [.ref en] t
     refine XS.aload X136.here hx rfl (hb hby at_341) rfl rfl ?_
     show zs p e below T136 m 343 (z4 q0 q1 q2 q3 q4 q5 bl bh sl sh bf tb ini xb xs la lb en 0 v104 v108 v115 v118 b120 0 f1 ini) [.ref b120, .ref en] t
     refine XS.iload X136.here hx rfl (hb hby at_343) rfl ?_
     exact k
    refine OFinW.go sg175 ?_
    have fq176 : Fld Z T129.heap en "org/counterpath/engine/Encoding" "_signed" "[Z" (.ref sg) := (((G2.ext E120).other W123 (Or.inl nq126)).keep Kq129 (ninS nq126 nin0))
    have nq177 : sg ≠ b120 := (zn (zl VS.lt (ze g120.symm)))
    have fq178 : Arv Z T129.heap sg ks .boolean (2 : Int32) [.int (own_sg l1), .int (own_sg l2)] (.int 0) := (((VS.ext E120).other W123 nq177).keep Kq129 (ninS nq177 nin0))
    have fq179 : Fld Z T129.heap en "org/counterpath/engine/Encoding" "_codes" "[[J" (.ref cd) := (((G3.ext E120).other W123 (Or.inl nq126)).keep Kq129 (ninS nq126 nin0))
    have fq180 : Arv Z T129.heap cd kc (.array .long) (2 : Int32) [.null, .null] .null := (((VC.ext E120).other W123 nq128).keep Kq129 (ninS nq128 nin0))
    obtain ⟨cq181, kq181, q181a, q181b, q181c⟩ := isOf hZ e136 fq134
    obtain ⟨_, _, ⟨T181, L181, k181, n181⟩, -, X181, ⟨Lc181, hQ181, l181, y181, z181⟩, st181⟩ := X136.virtualBack hx (y := (⟨"org/counterpath/engine/Encoding", "value", "([ZI)J"⟩ : MethodName)) (z := (⟨"org/counterpath/engine/Encoding", "value", "([ZI)J"⟩ : MethodName)) hown (mvT hZ (zw hw 258 rfl)) (mvT hZ (zw hw 259 rfl)) (notFace_of_selects (args := #[]) (mvT hZ (zw hw 261 rfl))) (mvT hZ (zw hw 261 rfl)) (mvT hZ (zw hw 260 rfl)) (by decide) (backOf (W := 0) (rm36v0 l Z aZ hw [] en b120 fb kf (0 : Int32) f1 f2 sg ks (own_sg l1) (own_sg l2) cd kc k120 (own_hold v115 (0 : Int32) (f1.toInt - (0 : Int32).toInt).toNat (0 : Int32) ls) T129.heap n0 (zt Z0 K129.1) fq131 fq132 fq176 fq178 fq179 fq180 P129_0 (by rw [own_hold_len]; exact hll) (by decide) (by omega) (by omega) (fun q => by have q' := own_sgpos hlu.2.2 q; omega)) hZ (zw hw 262 rfl) (zw hw 105 rfl) (by decide) (by decide)) q181a q181c (g := (mkF m 345 (z4 q0 q1 q2 q3 q4 q5 bl bh sl sh bf tb ini xb xs la lb en 0 v104 v108 v115 v118 b120 0 f1 ini) [.int 0, .ref b120, .ref en])) rfl (by rw [hml]; rfl) (Steps.refl _) (argsL := [.ref b120, .int 0]) (rest := []) (lenOf pd_21 rfl) rfl (by show 2 * 0 + _ ≤ _; exact ze rfl) (hb hby at_345) (fun _ _ => ⟨rfl, e136, (by decide : 22 + 0 ≤ _), (by decide : 214 + 0 ≤ _)⟩)
    dsimp only [Pt.U, Pt.locs, Pt.cells, Pt.slots] at X181 l181 y181 z181 st181 hQ181
    rw [l181, y181, z181] at X181
    obtain ⟨rfl, N181q, Kq181⟩ := hQ181
    have N181 := Fr.app N136 N181q
    refine OFinW.tr st181 ?_
    have K181 : Keep h0 T181.heap [] := K129.trans Kq181 all0
    have sg183 : zg p e below T181 m 351 (z4 q0 q1 q2 q3 q4 q5 bl bh sl sh bf tb ini xb xs la lb en 0 v104 v108 v115 v118 b120 0 f1 ini) [.int (lcmpW (own_value (own_sg l1) (0 : Int32) f1 (own_hold v115 (0 : Int32) (f1.toInt - (0 : Int32).toInt).toNat (0 : Int32) ls)) v115)] 348 (z4 q0 q1 q2 q3 q4 q5 bl bh sl sh bf tb ini xb xs la lb en 0 v104 v108 v115 v118 b120 0 f1 ini) [.long (own_value (own_sg l1) (0 : Int32) f1 (own_hold v115 (0 : Int32) (f1.toInt - (0 : Int32).toInt).toNat (0 : Int32) ls))] := by
     intro t k
     refine XS.lload X181.here hx rfl (hb hby at_348) rfl ?_
     show zs p e below T181 m 350 (z4 q0 q1 q2 q3 q4 q5 bl bh sl sh bf tb ini xb xs la lb en 0 v104 v108 v115 v118 b120 0 f1 ini) [.long v115, .long (own_value (own_sg l1) (0 : Int32) f1 (own_hold v115 (0 : Int32) (f1.toInt - (0 : Int32).toInt).toNat (0 : Int32) ls))] t
     refine XS.lcmp X181.here hx rfl (hb hby at_350) rfl ?_
     exact k
    refine OFinW.go sg183 ?_
    have c182 : (own_value (own_sg l1) (0 : Int32) f1 (own_hold v115 (0 : Int32) (f1.toInt - (0 : Int32).toInt).toNat (0 : Int32) ls)) = v115 := (own_back_value l1 u1 v115 hvv.1 hvv.2 (0 : Int32) f1 ls hll (by omega) (by omega) (by omega))
    have sg184 : zg p e below T181 m 359 (z4 q0 q1 q2 q3 q4 q5 bl bh sl sh bf tb ini xb xs la lb en 0 v104 v108 v115 v118 b120 0 f1 ini) [.int 1] 351 (z4 q0 q1 q2 q3 q4 q5 bl bh sl sh bf tb ini xb xs la lb en 0 v104 v108 v115 v118 b120 0 f1 ini) [.int (lcmpW (own_value (own_sg l1) (0 : Int32) f1 (own_hold v115 (0 : Int32) (f1.toInt - (0 : Int32).toInt).toNat (0 : Int32) ls)) v115)] := by
     intro t k
     refine XS.ifNo X181.here hx rfl (hb hby at_351) rfl ((if0 _ _).trans (teq ((lw_eq _ _).mpr c182)).2) ?_
     show zs p e below T181 m 354 (z4 q0 q1 q2 q3 q4 q5 bl bh sl sh bf tb ini xb xs la lb en 0 v104 v108 v115 v118 b120 0 f1 ini) [] t
     refine XS.iconst X181.here hx rfl (hb hby at_354) ?_
     show zs p e below T181 m 355 (z4 q0 q1 q2 q3 q4 q5 bl bh sl sh bf tb ini xb xs la lb en 0 v104 v108 v115 v118 b120 0 f1 ini) [.int 1] t
     refine XS.goto X181.here hx rfl (pc0 := 355) (pc' := 359) rfl (hb hby at_355) (by decide) (by decide) ?_
     exact k
    refine OFinW.go sg184 ?_
    exact OFinW.retN X181 hS (zt (zt (zt (zt hk E120.1) (Keep.of_wr W123).1) Kq129.1) Kq181.1) hx hret (by simp) hlk (hb hby at_359) rfl ⟨rfl, N181⟩ (by decide) (by decide)
 ·have sg187 : zg p e below T0 m 206 (z19 q0 q1 q2 q3 q4 q5 bl bh sl sh bf tb ini xb xs la lb en 1) [.int tb] 194 (z33 q0 q1 q2 q3 q4 q5 bl bh sl sh bf tb ini xb xs la lb en) [.int tb, .int bf] := by
   intro t k
   refine XS.icmpYes X0.here hx rfl (pc0 := 194) (pc' := 201) rfl (hb hby at_194) rfl (feq c102).2 (by decide) (by decide) ?_
   show zs p e below T0 m 201 (z33 q0 q1 q2 q3 q4 q5 bl bh sl sh bf tb ini xb xs la lb en) [] t
   refine XS.iconst X0.here hx rfl (hb hby at_201) ?_
   show zs p e below T0 m 202 (z33 q0 q1 q2 q3 q4 q5 bl bh sl sh bf tb ini xb xs la lb en) [.int 1] t
   refine XS.istore X0.here hx rfl (hb hby at_202) rfl (l' := (z19 q0 q1 q2 q3 q4 q5 bl bh sl sh bf tb ini xb xs la lb en 1)) rfl ?_
   show zs p e below T0 m 204 (z19 q0 q1 q2 q3 q4 q5 bl bh sl sh bf tb ini xb xs la lb en 1) [] t
   refine XS.iload X0.here hx rfl (hb hby at_204) rfl ?_
   exact k
  refine OFinW.go sg187 ?_
  obtain ⟨v186, e_v186⟩ : ∃ z : Int64, z = (if tb = (0 : Int32) then sl else bl) := ⟨_, rfl⟩
  have sg188 : zg p e below T0 m 216 (z19 q0 q1 q2 q3 q4 q5 bl bh sl sh bf tb ini xb xs la lb en 1) [.long v186] 206 (z19 q0 q1 q2 q3 q4 q5 bl bh sl sh bf tb ini xb xs la lb en 1) [.int tb] := by
   intro t k
   by_cases c185 : tb = (0 : Int32)
   ·show zs p e below T0 m 206 (z19 q0 q1 q2 q3 q4 q5 bl bh sl sh bf tb ini xb xs la lb en 1) [.int tb] t
    refine XS.ifYes X0.here hx rfl (pc0 := 206) (pc' := 214) rfl (hb hby at_206) rfl ((if0 _ _).trans (teq c185).1) (by decide) (by decide) ?_
    show zs p e below T0 m 214 (z19 q0 q1 q2 q3 q4 q5 bl bh sl sh bf tb ini xb xs la lb en 1) [] t
    refine XS.lload X0.here hx rfl (hb hby at_214) rfl ?_
    have e_v186' : v186 = sl := e_v186.trans (if_pos c185)
    rw [e_v186'] at k
    exact k
   ·show zs p e below T0 m 206 (z19 q0 q1 q2 q3 q4 q5 bl bh sl sh bf tb ini xb xs la lb en 1) [.int tb] t
    refine XS.ifNo X0.here hx rfl (hb hby at_206) rfl ((if0 _ _).trans (feq c185).1) ?_
    show zs p e below T0 m 209 (z19 q0 q1 q2 q3 q4 q5 bl bh sl sh bf tb ini xb xs la lb en 1) [] t
    refine XS.lload X0.here hx rfl (hb hby at_209) rfl ?_
    show zs p e below T0 m 211 (z19 q0 q1 q2 q3 q4 q5 bl bh sl sh bf tb ini xb xs la lb en 1) [.long bl] t
    refine XS.goto X0.here hx rfl (pc0 := 211) (pc' := 216) rfl (hb hby at_211) (by decide) (by decide) ?_
    have e_v186' : v186 = bl := e_v186.trans (if_neg c185)
    rw [e_v186'] at k
    exact k
  refine OFinW.go sg188 ?_
  have sg191 : zg p e below T0 m 220 (z20 q0 q1 q2 q3 q4 q5 bl bh sl sh bf tb ini xb xs la lb en 1 v186) [.int tb] 216 (z19 q0 q1 q2 q3 q4 q5 bl bh sl sh bf tb ini xb xs la lb en 1) [.long v186] := by
   intro t k
   refine XS.lstore X0.here hx rfl (hb hby at_216) rfl (l' := (z20 q0 q1 q2 q3 q4 q5 bl bh sl sh bf tb ini xb xs la lb en 1 v186)) rfl ?_
   show zs p e below T0 m 218 (z20 q0 q1 q2 q3 q4 q5 bl bh sl sh bf tb ini xb xs la lb en 1 v186) [] t
   refine XS.iload X0.here hx rfl (hb hby at_218) rfl ?_
   exact k
  refine OFinW.go sg191 ?_
  obtain ⟨v190, e_v190⟩ : ∃ z : Int64, z = (if tb = (0 : Int32) then sh else bh) := ⟨_, rfl⟩
  have sg192 : zg p e below T0 m 230 (z20 q0 q1 q2 q3 q4 q5 bl bh sl sh bf tb ini xb xs la lb en 1 v186) [.long v190] 220 (z20 q0 q1 q2 q3 q4 q5 bl bh sl sh bf tb ini xb xs la lb en 1 v186) [.int tb] := by
   intro t k
   by_cases c189 : tb = (0 : Int32)
   ·show zs p e below T0 m 220 (z20 q0 q1 q2 q3 q4 q5 bl bh sl sh bf tb ini xb xs la lb en 1 v186) [.int tb] t
    refine XS.ifYes X0.here hx rfl (pc0 := 220) (pc' := 228) rfl (hb hby at_220) rfl ((if0 _ _).trans (teq c189).1) (by decide) (by decide) ?_
    show zs p e below T0 m 228 (z20 q0 q1 q2 q3 q4 q5 bl bh sl sh bf tb ini xb xs la lb en 1 v186) [] t
    refine XS.lload X0.here hx rfl (hb hby at_228) rfl ?_
    have e_v190' : v190 = sh := e_v190.trans (if_pos c189)
    rw [e_v190'] at k
    exact k
   ·show zs p e below T0 m 220 (z20 q0 q1 q2 q3 q4 q5 bl bh sl sh bf tb ini xb xs la lb en 1 v186) [.int tb] t
    refine XS.ifNo X0.here hx rfl (hb hby at_220) rfl ((if0 _ _).trans (feq c189).1) ?_
    show zs p e below T0 m 223 (z20 q0 q1 q2 q3 q4 q5 bl bh sl sh bf tb ini xb xs la lb en 1 v186) [] t
    refine XS.lload X0.here hx rfl (hb hby at_223) rfl ?_
    show zs p e below T0 m 225 (z20 q0 q1 q2 q3 q4 q5 bl bh sl sh bf tb ini xb xs la lb en 1 v186) [.long bh] t
    refine XS.goto X0.here hx rfl (pc0 := 225) (pc' := 230) rfl (hb hby at_225) (by decide) (by decide) ?_
    have e_v190' : v190 = bh := e_v190.trans (if_neg c189)
    rw [e_v190'] at k
    exact k
  refine OFinW.go sg192 ?_
  have sg193 : zg p e below T0 m 232 (z27 q0 q1 q2 q3 q4 q5 bl bh sl sh bf tb ini xb xs la lb en 1 v186 v190) [] 230 (z20 q0 q1 q2 q3 q4 q5 bl bh sl sh bf tb ini xb xs la lb en 1 v186) [.long v190] := by
   intro t k
   refine XS.lstore X0.here hx rfl (hb hby at_230) rfl (l' := (z27 q0 q1 q2 q3 q4 q5 bl bh sl sh bf tb ini xb xs la lb en 1 v186 v190)) rfl ?_
   exact k
  refine OFinW.go sg193 ?_
  have hz0 : (0 : Int32).toInt = 0 := rfl
  have hlu : v186 = l2 ∧ v190 = u2 ∧ ¬ (u2 < l2) := by
   rw [e_v186, e_v190]
   rcases hcs with ⟨a, b1, b2, b3, b4⟩ | ⟨a, b1, b2, b3, b4⟩ <;> rcases htb with c | c <;> subst b1 b2 b3 b4 a c <;> first | exact absurd rfl c102 | exact absurd c102 (by decide) | exact ⟨rfl, rfl, hB⟩ | exact ⟨rfl, rfl, hS_⟩
  have sg194 : zg p e below T0 m 238 (z27 q0 q1 q2 q3 q4 q5 bl bh sl sh bf tb ini xb xs la lb en 1 v186 v190) [.long q2, .long v190, .long v186] 232 (z27 q0 q1 q2 q3 q4 q5 bl bh sl sh bf tb ini xb xs la lb en 1 v186 v190) [] := by
   intro t k
   refine XS.lload X0.here hx rfl (hb hby at_232) rfl ?_
   show zs p e below T0 m 234 (z27 q0 q1 q2 q3 q4 q5 bl bh sl sh bf tb ini xb xs la lb en 1 v186 v190) [.long v186] t
   refine XS.lload X0.here hx rfl (hb hby at_234) rfl ?_
   show zs p e below T0 m 236 (z27 q0 q1 q2 q3 q4 q5 bl bh sl sh bf tb ini xb xs la lb en 1 v186 v190) [.long v190, .long v186] t
   refine XS.lload X0.here hx rfl (hb hby at_236) rfl ?_
   exact k
  refine OFinW.go sg194 ?_
  obtain ⟨_, _, ⟨T195, L195, k195, n195⟩, -, X195, ⟨Lc195, hQ195, l195, y195, z195⟩, st195⟩ := Jvm.LawKit.callS X0 hx (y := (⟨"java/lang/Math", "min", "(JJ)J"⟩ : MethodName)) hown (mvT hZ (zw hw 0 rfl)) (mvT hZ (zw hw 1 rfl)) (mvT hZ (zw hw 2 rfl)) (mvT hZ (zw hw 3 rfl)) (by decide) (backOf (W := 2) (rm1 l Z aZ hw [] v190 q2 hC n0 (zt Z0 K0.1) ) hZ (zw hw 3 rfl) (zw hw 2 rfl) (by decide) (by decide)) (g := (mkF m 238 (z27 q0 q1 q2 q3 q4 q5 bl bh sl sh bf tb ini xb xs la lb en 1 v186 v190) [.long q2, .long v190, .long v186])) rfl (by rw [hml]; rfl) (argsL := [.long v190, .long q2]) (rest := [.long v186]) (lenOf pd_15 rfl) rfl (by show 2 * 0 + _ ≤ _; exact ze rfl) (hb hby at_238) (fun _ _ => ⟨rfl, e0, (by decide : 21 + 0 ≤ _), (by decide : 86 + 0 ≤ _)⟩)
  dsimp only [Pt.U, Pt.locs, Pt.cells, Pt.slots] at X195 l195 y195 z195 st195 hQ195
  rw [l195, y195, z195] at X195
  obtain ⟨rfl, N195q, e195⟩ := hQ195
  have N195 := Fr.app N0 N195q
  refine OFinW.go st195 ?_
  obtain ⟨_, _, ⟨T196, L196, k196, n196⟩, -, X196, ⟨Lc196, hQ196, l196, y196, z196⟩, st196⟩ := Jvm.LawKit.callS X195 hx (y := (⟨"java/lang/Math", "max", "(JJ)J"⟩ : MethodName)) hown (mvT hZ (zw hw 4 rfl)) (mvT hZ (zw hw 5 rfl)) (mvT hZ (zw hw 2 rfl)) (mvT hZ (zw hw 6 rfl)) (by decide) (backOf (W := 0) (rm2 l Z aZ hw [] v186 (own_f1 v190 q2) hC n0 (zt Z0 K0.1) ) hZ (zw hw 6 rfl) (zw hw 2 rfl) (by decide) (by decide)) (g := (mkF m 241 (z27 q0 q1 q2 q3 q4 q5 bl bh sl sh bf tb ini xb xs la lb en 1 v186 v190) [.long (own_f1 v190 q2), .long v186])) rfl (by rw [hml]; rfl) (argsL := [.long v186, .long (own_f1 v190 q2)]) (rest := []) (lenOf pd_15 rfl) rfl (by show 2 * 0 + _ ≤ _; exact ze rfl) (hb hby at_241) (fun _ _ => ⟨rfl, e195, (by decide : 21 + 0 ≤ _), (by decide : 86 + 0 ≤ _)⟩)
  dsimp only [Pt.U, Pt.locs, Pt.cells, Pt.slots] at X196 l196 y196 z196 st196 hQ196
  rw [l196, y196, z196] at X196
  obtain ⟨rfl, N196q, e196⟩ := hQ196
  have N196 := Fr.app N195 N196q
  refine OFinW.go st196 ?_
  obtain ⟨v197, e_v197⟩ : ∃ z : Int64, z = (own_f2 v186 (own_f1 v190 q2)) := ⟨_, rfl⟩
  rw [← e_v197]
  have sg198 : zg p e below T196 m 246 (z34 q0 q1 q2 q3 q4 q5 bl bh sl sh bf tb ini xb xs la lb en 1 v186 v190 v197) [] 244 (z27 q0 q1 q2 q3 q4 q5 bl bh sl sh bf tb ini xb xs la lb en 1 v186 v190) [.long v197] := by
   intro t k
   refine XS.lstore X196.here hx rfl (hb hby at_244) rfl (l' := (z34 q0 q1 q2 q3 q4 q5 bl bh sl sh bf tb ini xb xs la lb en 1 v186 v190 v197)) rfl ?_
   exact k
  refine OFinW.go sg198 ?_
  have hvv : l2.toInt ≤ v197.toInt ∧ v197.toInt ≤ u2.toInt := by rw [e_v197, hlu.1, hlu.2.1]; exact own_clamp hlu.2.2
  have sg199 : zg p e below T196 m 251 (z34 q0 q1 q2 q3 q4 q5 bl bh sl sh bf tb ini xb xs la lb en 1 v186 v190 v197) [.int (q4 &&& (127 : Int32))] 246 (z34 q0 q1 q2 q3 q4 q5 bl bh sl sh bf tb ini xb xs la lb en 1 v186 v190 v197) [] := by
   intro t k
   refine XS.iload X196.here hx rfl (hb hby at_246) rfl ?_
   show zs p e below T196 m 248 (z34 q0 q1 q2 q3 q4 q5 bl bh sl sh bf tb ini xb xs la lb en 1 v186 v190 v197) [.int q4] t
   refine XS.bipush X196.here hx rfl (hb hby at_248) ?_
   show zs p e below T196 m 250 (z34 q0 q1 q2 q3 q4 q5 bl bh sl sh bf tb ini xb xs la lb en 1 v186 v190 v197) [.int 127, .int q4] t
   refine XS.iand X196.here hx rfl (hb hby at_250) rfl ?_
   exact k
  refine OFinW.go sg199 ?_
  obtain ⟨v200, e_v200⟩ : ∃ z : Int32, z = (q4 &&& (127 : Int32)) := ⟨_, rfl⟩
  rw [← e_v200]
  have sg201 : zg p e below T196 m 256 (z43 q0 q1 q2 q3 q4 q5 bl bh sl sh bf tb ini xb xs la lb en 1 v186 v190 v197 v200) [.int 128] 251 (z34 q0 q1 q2 q3 q4 q5 bl bh sl sh bf tb ini xb xs la lb en 1 v186 v190 v197) [.int v200] := by
   intro t k
   refine XS.istore X196.here hx rfl (hb hby at_251) rfl (l' := (z43 q0 q1 q2 q3 q4 q5 bl bh sl sh bf tb ini xb xs la lb en 1 v186 v190 v197 v200)) rfl ?_
   show zs p e below T196 m 253 (z43 q0 q1 q2 q3 q4 q5 bl bh sl sh bf tb ini xb xs la lb en 1 v186 v190 v197 v200) [] t
   refine XS.sipush X196.here hx rfl (hb hby at_253) ?_
   exact k
  refine OFinW.go sg201 ?_
  obtain ⟨T202, h202, k202, X202, e202, E202, A202, st202⟩ := newP X196 hx hZ (zw hw 185 rfl) e196 (g := (mkF m 256 (z43 q0 q1 q2 q3 q4 q5 bl bh sl sh bf tb ini xb xs la lb en 1 v186 v190 v197 v200) [.int 128])) rfl (hb hby at_256) rfl (by decide) (cap := 128) (by decide) (by decide) (by decide) (by decide)
  obtain ⟨b202, g202⟩ : ∃ z, z = hC.size := ⟨_, rfl⟩
  rw [← g202] at A202 st202
  refine OFinW.go st202 ?_
  have g_b202 : n0 ≤ b202 := zt (zt Z0 K0.1) (ze g202.symm)
  have sz_b202 : h0.size ≤ b202 := zt K0.1 (ze g202.symm)
  have K202 : Keep h0 h202 [] := K0.ext E202
  have V202 : Arv Z h202 b202 k202 .boolean (128 : Int32) [] (.int 0) := Arv.new A202 (by decide)
  have V203 : Arv Z h202 b202 k202 .boolean (128 : Int32) ((List.replicate 128 (0 : Int32)).map Value.int) (.int 0) := by rw [List.map_replicate]; exact V202.pad (pad_rep [] (.int 0) 128)
  have sg204 : zg p e below T202 m 266 (z11 q0 q1 q2 q3 q4 q5 bl bh sl sh bf tb ini xb xs la lb en 1 v186 v190 v197 v200 b202) [.int ini, .int v200, .ref b202] 258 (z43 q0 q1 q2 q3 q4 q5 bl bh sl sh bf tb ini xb xs la lb en 1 v186 v190 v197 v200) [.ref b202] := by
   intro t k
   refine XS.astore X202.here hx rfl (hb hby at_258) rfl rfl (l' := (z11 q0 q1 q2 q3 q4 q5 bl bh sl sh bf tb ini xb xs la lb en 1 v186 v190 v197 v200 b202)) rfl ?_
   show zs p e below T202 m 260 (z11 q0 q1 q2 q3 q4 q5 bl bh sl sh bf tb ini xb xs la lb en 1 v186 v190 v197 v200 b202) [] t
   refine XS.aload X202.here hx rfl (hb hby at_260) rfl rfl ?_
   show zs p e below T202 m 262 (z11 q0 q1 q2 q3 q4 q5 bl bh sl sh bf tb ini xb xs la lb en 1 v186 v190 v197 v200 b202) [.ref b202] t
   refine XS.iload X202.here hx rfl (hb hby at_262) rfl ?_
   show zs p e below T202 m 264 (z11 q0 q1 q2 q3 q4 q5 bl bh sl sh bf tb ini xb xs la lb en 1 v186 v190 v197 v200 b202) [.int v200, .ref b202] t
   refine XS.iload X202.here hx rfl (hb hby at_264) rfl ?_
   exact k
  refine OFinW.go sg204 ?_
  have hbit : 0 ≤ v200.toInt ∧ v200.toInt < 128 := by rw [e_v200]; have a := c_and q4 127 (by decide); simp only [show (127 : Int32).toInt = 127 from rfl] at a; omega
  obtain ⟨cl205, Ar205, q205, S205, M205, H205, G205⟩ := id V203
  have hin205 : ¬ (v200 < 0 ∨ cl205.slots.size ≤ (v200).toNatClampNeg) := inb_of S205 (own_inb hbit.1 hbit.2)
  obtain ⟨T205, h205, X205, e205, W205, st205⟩ := stZ X202 hx hZ e202 Ar205 (j := v200) hin205 (g := (mkF m 266 (z11 q0 q1 q2 q3 q4 q5 bl bh sl sh bf tb ini xb xs la lb en 1 v186 v190 v197 v200 b202) [.int ini, .int v200, .ref b202])) rfl rfl (hb hby at_266)
  refine OFinW.go st205 ?_
  have V205 : Arv Z h205 b202 k202 .boolean (128 : Int32) (((List.replicate 128 (0 : Int32)).map Value.int).set v200.toNatClampNeg (.int (nar .boolean ini))) (.int 0) := Arv.set Ar205 q205 S205 M205 H205 G205 (fits_nar_bool _) W205 v200.toNatClampNeg rfl (own_clt (by rw [List.length_replicate]) hbit.1 hbit.2)
  have K205 : Keep h0 h205 [] := K202.wr W205 (Or.inr sz_b202)
  have N205 := Fr.snoc X205 N196 g_b202
  have hnr : nar .boolean ini = ini := by rcases hini with q | q <;> (rw [q]; rfl)
  obtain ⟨ls, e_ls⟩ : ∃ z : List Int32, z = (List.replicate 128 (0 : Int32)).set v200.toNatClampNeg ini := ⟨_, rfl⟩
  have hll : ls.length = 128 := by rw [e_ls, List.length_set, List.length_replicate]
  have V206 : Arv Z h205 b202 k202 .boolean (128 : Int32) (ls.map Value.int) (.int 0) := by rw [e_ls, List.map_set]; have q := V205; rw [hnr] at q; exact q
  have sg207 : zg p e below T205 m 275 (z11 q0 q1 q2 q3 q4 q5 bl bh sl sh bf tb ini xb xs la lb en 1 v186 v190 v197 v200 b202) [.long v197, .int 1, .ref b202, .ref en] 267 (z11 q0 q1 q2 q3 q4 q5 bl bh sl sh bf tb ini xb xs la lb en 1 v186 v190 v197 v200 b202) [] := by
   intro t k
   refine XS.aload X205.here hx rfl (hb hby at_267) rfl rfl ?_
   show zs p e below T205 m 269 (z11 q0 q1 q2 q3 q4 q5 bl bh sl sh bf tb ini xb xs la lb en 1 v186 v190 v197 v200 b202) [.ref en] t
   refine XS.aload X205.here hx rfl (hb hby at_269) rfl rfl ?_
   show zs p e below T205 m 271 (z11 q0 q1 q2 q3 q4 q5 bl bh sl sh bf tb ini xb xs la lb en 1 v186 v190 v197 v200 b202) [.ref b202, .ref en] t
   refine XS.iload X205.here hx rfl (hb hby at_271) rfl ?_
   show zs p e below T205 m 273 (z11 q0 q1 q2 q3 q4 q5 bl bh sl sh bf tb ini xb xs la lb en 1 v186 v190 v197 v200 b202) [.int 1, .ref b202, .ref en] t
   refine XS.lload X205.here hx rfl (hb hby at_273) rfl ?_
   exact k
  refine OFinW.go sg207 ?_
  have nq208 : en ≠ b202 := (zn (zl EE.lt (ze g202.symm)))
  have nq209 : fb ≠ b202 := (zn (zl VF.lt (ze g202.symm)))
  have nq210 : cd ≠ b202 := (zn (zl VC.lt (ze g202.symm)))
  obtain ⟨cq211, kq211, q211a, q211b, q211c⟩ := isOf hZ e205 ((EE.ext E202).wr W205)
  obtain ⟨_, _, ⟨T211, L211, k211, n211⟩, -, X211, ⟨Lc211, hQ211, l211, y211, z211⟩, st211⟩ := X205.virtualBack hx (y := (⟨"org/counterpath/engine/Encoding", "hold", "([ZIJ)V"⟩ : MethodName)) (z := (⟨"org/counterpath/engine/Encoding", "hold", "([ZIJ)V"⟩ : MethodName)) hown (mvT hZ (zw hw 248 rfl)) (mvT hZ (zw hw 249 rfl)) (notFace_of_selects (args := #[]) (mvT hZ (zw hw 251 rfl))) (mvT hZ (zw hw 251 rfl)) (mvT hZ (zw hw 250 rfl)) (by decide) (backOf (W := 0) (rm34v1 l Z aZ hw [] en b202 v197 fb kf (0 : Int32) f1 f2 cd kc k202 ls h205 n0 (zt Z0 K205.1) ((G1.ext E202).other W205 (Or.inl nq208)) ((VF.ext E202).other W205 nq209) ((G3.ext E202).other W205 (Or.inl nq208)) ((VC.ext E202).other W205 nq210) V206 hll (by omega) (by omega) (by omega) nq208 nq209 g_b202) hZ (zw hw 252 rfl) (zw hw 105 rfl) (by decide) (by decide)) q211a q211c (g := (mkF m 275 (z11 q0 q1 q2 q3 q4 q5 bl bh sl sh bf tb ini xb xs la lb en 1 v186 v190 v197 v200 b202) [.long v197, .int 1, .ref b202, .ref en])) rfl (by rw [hml]; rfl) (Steps.refl _) (argsL := [.ref b202, .int 1, .long v197]) (rest := []) (lenOf pd_20 rfl) rfl (by show 2 * 0 + _ ≤ _; exact ze rfl) (hb hby at_275) (fun _ _ => ⟨rfl, e205, (by decide : 22 + 0 ≤ _), (by decide : 214 + 0 ≤ _)⟩)
  dsimp only [Pt.U, Pt.locs, Pt.cells, Pt.slots] at X211 l211 y211 z211 st211 hQ211
  rw [l211, y211, z211] at X211
  obtain ⟨rfl, N211q, Kq211, P211_0⟩ := hQ211
  have N211 := Fr.app N205 N211q
  refine OFinW.tr st211 ?_
  have K211 : Keep h0 T211.heap [] := K205.trans Kq211 (allS (Or.inr sz_b202) all0)
  have sg212 : zg p e below T211 m 282 (z11 q0 q1 q2 q3 q4 q5 bl bh sl sh bf tb ini xb xs la lb en 1 v186 v190 v197 v200 b202) [.int 1, .ref en] 278 (z11 q0 q1 q2 q3 q4 q5 bl bh sl sh bf tb ini xb xs la lb en 1 v186 v190 v197 v200 b202) [] := by
   intro t k
   refine XS.aload X211.here hx rfl (hb hby at_278) rfl rfl ?_
   show zs p e below T211 m 280 (z11 q0 q1 q2 q3 q4 q5 bl bh sl sh bf tb ini xb xs la lb en 1 v186 v190 v197 v200 b202) [.ref en] t
   refine XS.iload X211.here hx rfl (hb hby at_280) rfl ?_
   exact k
  refine OFinW.go sg212 ?_
  have fq213 : Fld Z T211.heap en "org/counterpath/engine/Encoding" "_firstBits" "[I" (.ref fb) := (((G1.ext E202).other W205 (Or.inl nq208)).keep Kq211 (ninS nq208 nin0))
  have fq214 : Arv Z T211.heap fb kf .int (3 : Int32) [.int 0, .int f1, .int f2] (.int 0) := (((VF.ext E202).other W205 nq209).keep Kq211 (ninS nq209 nin0))
  have fq216 : Exa Z T211.heap en "org/counterpath/engine/Encoding" := (((EE.ext E202).wr W205).keep Kq211)
  obtain ⟨cq215, kq215, q215a, q215b, q215c⟩ := isOf hZ rfl fq216
  obtain ⟨_, _, ⟨T215, L215, k215, n215⟩, -, X215, ⟨Lc215, hQ215, l215, y215, z215⟩, st215⟩ := X211.virtualBack hx (y := (⟨"org/counterpath/engine/Encoding", "firstBit", "(I)I"⟩ : MethodName)) (z := (⟨"org/counterpath/engine/Encoding", "firstBit", "(I)I"⟩ : MethodName)) hown (mvT hZ (zw hw 253 rfl)) (mvT hZ (zw hw 254 rfl)) (notFace_of_selects (args := #[]) (mvT hZ (zw hw 256 rfl))) (mvT hZ (zw hw 256 rfl)) (mvT hZ (zw hw 255 rfl)) (by decide) (backOf (W := 0) (rm35v1 l Z aZ hw [] en fb kf (0 : Int32) f1 f2 T211.heap n0 (zt Z0 K211.1) fq213 fq214) hZ (zw hw 257 rfl) (zw hw 105 rfl) (by decide) (by decide)) q215a q215c (g := (mkF m 282 (z11 q0 q1 q2 q3 q4 q5 bl bh sl sh bf tb ini xb xs la lb en 1 v186 v190 v197 v200 b202) [.int 1, .ref en])) rfl (by rw [hml]; rfl) (Steps.refl _) (argsL := [.int 1]) (rest := []) (lenOf pd_0 rfl) rfl (by show 2 * 0 + _ ≤ _; exact ze rfl) (hb hby at_282) (fun _ _ => ⟨rfl, rfl, (by decide : 22 + 0 ≤ _), (by decide : 214 + 0 ≤ _)⟩)
  dsimp only [Pt.U, Pt.locs, Pt.cells, Pt.slots] at X215 l215 y215 z215 st215 hQ215
  rw [l215, y215, z215] at X215
  obtain ⟨rfl, N215q, e215⟩ := hQ215
  have N215 := Fr.app N211 N215q
  refine OFinW.tr st215 ?_
  have sg217 : zg p e below T215 m 293 (z31 q0 q1 q2 q3 q4 q5 bl bh sl sh bf tb ini xb xs la lb en 1 v186 v190 v197 v200 b202 f1) [.int 2, .ref en] 285 (z11 q0 q1 q2 q3 q4 q5 bl bh sl sh bf tb ini xb xs la lb en 1 v186 v190 v197 v200 b202) [.int f1] := by
   intro t k
   refine XS.istore X215.here hx rfl (hb hby at_285) rfl (l' := (z31 q0 q1 q2 q3 q4 q5 bl bh sl sh bf tb ini xb xs la lb en 1 v186 v190 v197 v200 b202 f1)) rfl ?_
   show zs p e below T215 m 287 (z31 q0 q1 q2 q3 q4 q5 bl bh sl sh bf tb ini xb xs la lb en 1 v186 v190 v197 v200 b202 f1) [] t
   refine XS.aload X215.here hx rfl (hb hby at_287) rfl rfl ?_
   show zs p e below T215 m 289 (z31 q0 q1 q2 q3 q4 q5 bl bh sl sh bf tb ini xb xs la lb en 1 v186 v190 v197 v200 b202 f1) [.ref en] t
   refine XS.iload X215.here hx rfl (hb hby at_289) rfl ?_
   show zs p e below T215 m 291 (z31 q0 q1 q2 q3 q4 q5 bl bh sl sh bf tb ini xb xs la lb en 1 v186 v190 v197 v200 b202 f1) [.int 1, .ref en] t
   refine XS.iconst X215.here hx rfl (hb hby at_291) ?_
   show zs p e below T215 m 292 (z31 q0 q1 q2 q3 q4 q5 bl bh sl sh bf tb ini xb xs la lb en 1 v186 v190 v197 v200 b202 f1) [.int 1, .int 1, .ref en] t
   refine XS.iadd X215.here hx rfl (hb hby at_292) rfl ?_
   exact k
  refine OFinW.go sg217 ?_
  obtain ⟨cq218, kq218, q218a, q218b, q218c⟩ := isOf hZ e215 fq216
  obtain ⟨_, _, ⟨T218, L218, k218, n218⟩, -, X218, ⟨Lc218, hQ218, l218, y218, z218⟩, st218⟩ := X215.virtualBack hx (y := (⟨"org/counterpath/engine/Encoding", "firstBit", "(I)I"⟩ : MethodName)) (z := (⟨"org/counterpath/engine/Encoding", "firstBit", "(I)I"⟩ : MethodName)) hown (mvT hZ (zw hw 253 rfl)) (mvT hZ (zw hw 254 rfl)) (notFace_of_selects (args := #[]) (mvT hZ (zw hw 256 rfl))) (mvT hZ (zw hw 256 rfl)) (mvT hZ (zw hw 255 rfl)) (by decide) (backOf (W := 0) (rm35v2 l Z aZ hw [] en fb kf (0 : Int32) f1 f2 T211.heap n0 (zt Z0 K211.1) fq213 fq214) hZ (zw hw 257 rfl) (zw hw 105 rfl) (by decide) (by decide)) q218a q218c (g := (mkF m 293 (z31 q0 q1 q2 q3 q4 q5 bl bh sl sh bf tb ini xb xs la lb en 1 v186 v190 v197 v200 b202 f1) [.int 2, .ref en])) rfl (by rw [hml]; rfl) (Steps.refl _) (argsL := [.int 2]) (rest := []) (lenOf pd_0 rfl) rfl (by show 2 * 0 + _ ≤ _; exact ze rfl) (hb hby at_293) (fun _ _ => ⟨rfl, e215, (by decide : 22 + 0 ≤ _), (by decide : 214 + 0 ≤ _)⟩)
  dsimp only [Pt.U, Pt.locs, Pt.cells, Pt.slots] at X218 l218 y218 z218 st218 hQ218
  rw [l218, y218, z218] at X218
  obtain ⟨rfl, N218q, e218⟩ := hQ218
  have N218 := Fr.app N215 N218q
  refine OFinW.tr st218 ?_
  have sg219 : zg p e below T218 m 302 (z8 q0 q1 q2 q3 q4 q5 bl bh sl sh bf tb ini xb xs la lb en 1 v186 v190 v197 v200 b202 f1 f2) [.int v200, .int f1] 296 (z31 q0 q1 q2 q3 q4 q5 bl bh sl sh bf tb ini xb xs la lb en 1 v186 v190 v197 v200 b202 f1) [.int f2] := by
   intro t k
   refine XS.istore X218.here hx rfl (hb hby at_296) rfl (l' := (z8 q0 q1 q2 q3 q4 q5 bl bh sl sh bf tb ini xb xs la lb en 1 v186 v190 v197 v200 b202 f1 f2)) rfl ?_
   show zs p e below T218 m 298 (z8 q0 q1 q2 q3 q4 q5 bl bh sl sh bf tb ini xb xs la lb en 1 v186 v190 v197 v200 b202 f1 f2) [] t
   refine XS.iload X218.here hx rfl (hb hby at_298) rfl ?_
   show zs p e below T218 m 300 (z8 q0 q1 q2 q3 q4 q5 bl bh sl sh bf tb ini xb xs la lb en 1 v186 v190 v197 v200 b202 f1 f2) [.int f1] t
   refine XS.iload X218.here hx rfl (hb hby at_300) rfl ?_
   exact k
  refine OFinW.go sg219 ?_
  by_cases c220 : v200 < f1
  ·have sg221 : zg p e below T218 m 333 (z4 q0 q1 q2 q3 q4 q5 bl bh sl sh bf tb ini xb xs la lb en 1 v186 v190 v197 v200 b202 f1 f2 ini) [.int v200, .ref b202] 302 (z8 q0 q1 q2 q3 q4 q5 bl bh sl sh bf tb ini xb xs la lb en 1 v186 v190 v197 v200 b202 f1 f2) [.int v200, .int f1] := by
    intro t k
    refine XS.icmpYes X218.here hx rfl (pc0 := 302) (pc' := 325) rfl (hb hby at_302) rfl (tlt c220).2.2.1 (by decide) (by decide) ?_
    show zs p e below T218 m 325 (z8 q0 q1 q2 q3 q4 q5 bl bh sl sh bf tb ini xb xs la lb en 1 v186 v190 v197 v200 b202 f1 f2) [] t
    refine XS.iload X218.here hx rfl (hb hby at_325) rfl ?_
    show zs p e below T218 m 327 (z8 q0 q1 q2 q3 q4 q5 bl bh sl sh bf tb ini xb xs la lb en 1 v186 v190 v197 v200 b202 f1 f2) [.int ini] t
    refine XS.istore X218.here hx rfl (hb hby at_327) rfl (l' := (z4 q0 q1 q2 q3 q4 q5 bl bh sl sh bf tb ini xb xs la lb en 1 v186 v190 v197 v200 b202 f1 f2 ini)) rfl ?_
    show zs p e below T218 m 329 (z4 q0 q1 q2 q3 q4 q5 bl bh sl sh bf tb ini xb xs la lb en 1 v186 v190 v197 v200 b202 f1 f2 ini) [] t
    refine XS.aload X218.here hx rfl (hb hby at_329) rfl rfl ?_
    show zs p e below T218 m 331 (z4 q0 q1 q2 q3 q4 q5 bl bh sl sh bf tb ini xb xs la lb en 1 v186 v190 v197 v200 b202 f1 f2 ini) [.ref b202] t
    refine XS.iload X218.here hx rfl (hb hby at_331) rfl ?_
    exact k
   refine OFinW.go sg221 ?_
   obtain ⟨cl222, Ar222, q222, S222, M222, H222, G222⟩ := id P211_0
   have hin222 : ¬ (v200 < 0 ∨ cl222.slots.size ≤ (v200).toNatClampNeg) := inb_of S222 (own_inb hbit.1 hbit.2)
   have hat222 : cl222.slots[(v200).toNatClampNeg]? = some (.int ((own_hold v197 f1 (f2.toInt - f1.toInt).toNat f1 ls).getD (v200).toNatClampNeg (0 : Int32))) := H222.at hin222 (own_getD _ _)
   have sg224 : zg p e below T218 m 336 (z4 q0 q1 q2 q3 q4 q5 bl bh sl sh bf tb ini xb xs la lb en 1 v186 v190 v197 v200 b202 f1 f2 ini) [.int ini, .int ((own_hold v197 f1 (f2.toInt - f1.toInt).toNat f1 ls).getD (v200).toNatClampNeg (0 : Int32))] 333 (z4 q0 q1 q2 q3 q4 q5 bl bh sl sh bf tb ini xb xs la lb en 1 v186 v190 v197 v200 b202 f1 f2 ini) [.int v200, .ref b202] := by
    intro t k
    refine X218.baloadBooleans hx (j := v200) (v := (.int ((own_hold v197 f1 (f2.toInt - f1.toInt).toNat f1 ls).getD (v200).toNatClampNeg (0 : Int32)))) (by rw [e218]; exact Ar222.1) (State.isArrayOf_alike hZ.alike Ar222.2.1) Ar222.2.2 hin222 hat222 (g := (mkF m 333 (z4 q0 q1 q2 q3 q4 q5 bl bh sl sh bf tb ini xb xs la lb en 1 v186 v190 v197 v200 b202 f1 f2 ini) [.int v200, .ref b202])) rfl rfl (hb hby at_333) _ ?_
    show zs p e below T218 m 334 (z4 q0 q1 q2 q3 q4 q5 bl bh sl sh bf tb ini xb xs la lb en 1 v186 v190 v197 v200 b202 f1 f2 ini) [.int ((own_hold v197 f1 (f2.toInt - f1.toInt).toNat f1 ls).getD (v200).toNatClampNeg (0 : Int32))] t
    refine XS.iload X218.here hx rfl (hb hby at_334) rfl ?_
    exact k
   refine OFinW.go sg224 ?_
   have c223 : ((own_hold v197 f1 (f2.toInt - f1.toInt).toNat f1 ls).getD (v200).toNatClampNeg (0 : Int32)) = ini := (by have qa := c220; rw [Int32.lt_iff_toInt_lt] at qa; rw [(own_hold_get v197 f1 (by omega) v200.toNatClampNeg (f2.toInt - f1.toInt).toNat f1 ls hll (by omega) (by omega) (by omega)), if_neg (by simp only [Int32.toNatClampNeg]; omega), e_ls, List.getD_eq_getElem?_getD, List.getElem?_set_self (by rw [List.length_replicate]; simp only [Int32.toNatClampNeg]; omega)]; rfl)
   have sg225 : zg p e below T218 m 345 (z4 q0 q1 q2 q3 q4 q5 bl bh sl sh bf tb ini xb xs la lb en 1 v186 v190 v197 v200 b202 f1 f2 ini) [.int 1, .ref b202, .ref en] 336 (z4 q0 q1 q2 q3 q4 q5 bl bh sl sh bf tb ini xb xs la lb en 1 v186 v190 v197 v200 b202 f1 f2 ini) [.int ini, .int ((own_hold v197 f1 (f2.toInt - f1.toInt).toNat f1 ls).getD (v200).toNatClampNeg (0 : Int32))] := by
    intro t k
    refine XS.icmpNo X218.here hx rfl (hb hby at_336) rfl (teq c223).2 ?_
    show zs p e below T218 m 339 (z4 q0 q1 q2 q3 q4 q5 bl bh sl sh bf tb ini xb xs la lb en 1 v186 v190 v197 v200 b202 f1 f2 ini) [] t
    refine XS.aload X218.here hx rfl (hb hby at_339) rfl rfl ?_
    show zs p e below T218 m 341 (z4 q0 q1 q2 q3 q4 q5 bl bh sl sh bf tb ini xb xs la lb en 1 v186 v190 v197 v200 b202 f1 f2 ini) [.ref en] t
    refine XS.aload X218.here hx rfl (hb hby at_341) rfl rfl ?_
    show zs p e below T218 m 343 (z4 q0 q1 q2 q3 q4 q5 bl bh sl sh bf tb ini xb xs la lb en 1 v186 v190 v197 v200 b202 f1 f2 ini) [.ref b202, .ref en] t
    refine XS.iload X218.here hx rfl (hb hby at_343) rfl ?_
    exact k
   refine OFinW.go sg225 ?_
   have fq226 : Fld Z T211.heap en "org/counterpath/engine/Encoding" "_signed" "[Z" (.ref sg) := (((G2.ext E202).other W205 (Or.inl nq208)).keep Kq211 (ninS nq208 nin0))
   have nq227 : sg ≠ b202 := (zn (zl VS.lt (ze g202.symm)))
   have fq228 : Arv Z T211.heap sg ks .boolean (2 : Int32) [.int (own_sg l1), .int (own_sg l2)] (.int 0) := (((VS.ext E202).other W205 nq227).keep Kq211 (ninS nq227 nin0))
   have fq229 : Fld Z T211.heap en "org/counterpath/engine/Encoding" "_codes" "[[J" (.ref cd) := (((G3.ext E202).other W205 (Or.inl nq208)).keep Kq211 (ninS nq208 nin0))
   have fq230 : Arv Z T211.heap cd kc (.array .long) (2 : Int32) [.null, .null] .null := (((VC.ext E202).other W205 nq210).keep Kq211 (ninS nq210 nin0))
   obtain ⟨cq231, kq231, q231a, q231b, q231c⟩ := isOf hZ e218 fq216
   obtain ⟨_, _, ⟨T231, L231, k231, n231⟩, -, X231, ⟨Lc231, hQ231, l231, y231, z231⟩, st231⟩ := X218.virtualBack hx (y := (⟨"org/counterpath/engine/Encoding", "value", "([ZI)J"⟩ : MethodName)) (z := (⟨"org/counterpath/engine/Encoding", "value", "([ZI)J"⟩ : MethodName)) hown (mvT hZ (zw hw 258 rfl)) (mvT hZ (zw hw 259 rfl)) (notFace_of_selects (args := #[]) (mvT hZ (zw hw 261 rfl))) (mvT hZ (zw hw 261 rfl)) (mvT hZ (zw hw 260 rfl)) (by decide) (backOf (W := 0) (rm36v1 l Z aZ hw [] en b202 fb kf (0 : Int32) f1 f2 sg ks (own_sg l1) (own_sg l2) cd kc k202 (own_hold v197 f1 (f2.toInt - f1.toInt).toNat f1 ls) T211.heap n0 (zt Z0 K211.1) fq213 fq214 fq226 fq228 fq229 fq230 P211_0 (by rw [own_hold_len]; exact hll) (by omega) (by omega) (by omega) (fun q => by have q' := own_sgpos hlu.2.2 q; omega)) hZ (zw hw 262 rfl) (zw hw 105 rfl) (by decide) (by decide)) q231a q231c (g := (mkF m 345 (z4 q0 q1 q2 q3 q4 q5 bl bh sl sh bf tb ini xb xs la lb en 1 v186 v190 v197 v200 b202 f1 f2 ini) [.int 1, .ref b202, .ref en])) rfl (by rw [hml]; rfl) (Steps.refl _) (argsL := [.ref b202, .int 1]) (rest := []) (lenOf pd_21 rfl) rfl (by show 2 * 0 + _ ≤ _; exact ze rfl) (hb hby at_345) (fun _ _ => ⟨rfl, e218, (by decide : 22 + 0 ≤ _), (by decide : 214 + 0 ≤ _)⟩)
   dsimp only [Pt.U, Pt.locs, Pt.cells, Pt.slots] at X231 l231 y231 z231 st231 hQ231
   rw [l231, y231, z231] at X231
   obtain ⟨rfl, N231q, Kq231⟩ := hQ231
   have N231 := Fr.app N218 N231q
   refine OFinW.tr st231 ?_
   have K231 : Keep h0 T231.heap [] := K211.trans Kq231 all0
   have sg233 : zg p e below T231 m 351 (z4 q0 q1 q2 q3 q4 q5 bl bh sl sh bf tb ini xb xs la lb en 1 v186 v190 v197 v200 b202 f1 f2 ini) [.int (lcmpW (own_value (own_sg l2) f1 f2 (own_hold v197 f1 (f2.toInt - f1.toInt).toNat f1 ls)) v197)] 348 (z4 q0 q1 q2 q3 q4 q5 bl bh sl sh bf tb ini xb xs la lb en 1 v186 v190 v197 v200 b202 f1 f2 ini) [.long (own_value (own_sg l2) f1 f2 (own_hold v197 f1 (f2.toInt - f1.toInt).toNat f1 ls))] := by
    intro t k
    refine XS.lload X231.here hx rfl (hb hby at_348) rfl ?_
    show zs p e below T231 m 350 (z4 q0 q1 q2 q3 q4 q5 bl bh sl sh bf tb ini xb xs la lb en 1 v186 v190 v197 v200 b202 f1 f2 ini) [.long v197, .long (own_value (own_sg l2) f1 f2 (own_hold v197 f1 (f2.toInt - f1.toInt).toNat f1 ls))] t
    refine XS.lcmp X231.here hx rfl (hb hby at_350) rfl ?_
    exact k
   refine OFinW.go sg233 ?_
   have c232 : (own_value (own_sg l2) f1 f2 (own_hold v197 f1 (f2.toInt - f1.toInt).toNat f1 ls)) = v197 := (own_back_value l2 u2 v197 hvv.1 hvv.2 f1 f2 ls hll (by omega) (by omega) (by omega))
   have sg234 : zg p e below T231 m 359 (z4 q0 q1 q2 q3 q4 q5 bl bh sl sh bf tb ini xb xs la lb en 1 v186 v190 v197 v200 b202 f1 f2 ini) [.int 1] 351 (z4 q0 q1 q2 q3 q4 q5 bl bh sl sh bf tb ini xb xs la lb en 1 v186 v190 v197 v200 b202 f1 f2 ini) [.int (lcmpW (own_value (own_sg l2) f1 f2 (own_hold v197 f1 (f2.toInt - f1.toInt).toNat f1 ls)) v197)] := by
    intro t k
    refine XS.ifNo X231.here hx rfl (hb hby at_351) rfl ((if0 _ _).trans (teq ((lw_eq _ _).mpr c232)).2) ?_
    show zs p e below T231 m 354 (z4 q0 q1 q2 q3 q4 q5 bl bh sl sh bf tb ini xb xs la lb en 1 v186 v190 v197 v200 b202 f1 f2 ini) [] t
    refine XS.iconst X231.here hx rfl (hb hby at_354) ?_
    show zs p e below T231 m 355 (z4 q0 q1 q2 q3 q4 q5 bl bh sl sh bf tb ini xb xs la lb en 1 v186 v190 v197 v200 b202 f1 f2 ini) [.int 1] t
    refine XS.goto X231.here hx rfl (pc0 := 355) (pc' := 359) rfl (hb hby at_355) (by decide) (by decide) ?_
    exact k
   refine OFinW.go sg234 ?_
   exact OFinW.retN X231 hS (zt (zt (zt (zt hk E202.1) (Keep.of_wr W205).1) Kq211.1) Kq231.1) hx hret (by simp) hlk (hb hby at_359) rfl ⟨rfl, N231⟩ (by decide) (by decide)
  ·have sg235 : zg p e below T218 m 309 (z8 q0 q1 q2 q3 q4 q5 bl bh sl sh bf tb ini xb xs la lb en 1 v186 v190 v197 v200 b202 f1 f2) [.int f2, .int v200] 302 (z8 q0 q1 q2 q3 q4 q5 bl bh sl sh bf tb ini xb xs la lb en 1 v186 v190 v197 v200 b202 f1 f2) [.int v200, .int f1] := by
    intro t k
    refine XS.icmpNo X218.here hx rfl (hb hby at_302) rfl (flt c220).2.2.1 ?_
    show zs p e below T218 m 305 (z8 q0 q1 q2 q3 q4 q5 bl bh sl sh bf tb ini xb xs la lb en 1 v186 v190 v197 v200 b202 f1 f2) [] t
    refine XS.iload X218.here hx rfl (hb hby at_305) rfl ?_
    show zs p e below T218 m 307 (z8 q0 q1 q2 q3 q4 q5 bl bh sl sh bf tb ini xb xs la lb en 1 v186 v190 v197 v200 b202 f1 f2) [.int v200] t
    refine XS.iload X218.here hx rfl (hb hby at_307) rfl ?_
    exact k
   refine OFinW.go sg235 ?_
   by_cases c236 : v200 < f2
   ·have sg237 : zg p e below T218 m 319 (z8 q0 q1 q2 q3 q4 q5 bl bh sl sh bf tb ini xb xs la lb en 1 v186 v190 v197 v200 b202 f1 f2) [.int (v200 - f1), .long v197] 309 (z8 q0 q1 q2 q3 q4 q5 bl bh sl sh bf tb ini xb xs la lb en 1 v186 v190 v197 v200 b202 f1 f2) [.int f2, .int v200] := by
     intro t k
     refine XS.icmpNo X218.here hx rfl (hb hby at_309) rfl (tlt c236).2.1 ?_
     show zs p e below T218 m 312 (z8 q0 q1 q2 q3 q4 q5 bl bh sl sh bf tb ini xb xs la lb en 1 v186 v190 v197 v200 b202 f1 f2) [] t
     refine XS.lload X218.here hx rfl (hb hby at_312) rfl ?_
     show zs p e below T218 m 314 (z8 q0 q1 q2 q3 q4 q5 bl bh sl sh bf tb ini xb xs la lb en 1 v186 v190 v197 v200 b202 f1 f2) [.long v197] t
     refine XS.iload X218.here hx rfl (hb hby at_314) rfl ?_
     show zs p e below T218 m 316 (z8 q0 q1 q2 q3 q4 q5 bl bh sl sh bf tb ini xb xs la lb en 1 v186 v190 v197 v200 b202 f1 f2) [.int v200, .long v197] t
     refine XS.iload X218.here hx rfl (hb hby at_316) rfl ?_
     show zs p e below T218 m 318 (z8 q0 q1 q2 q3 q4 q5 bl bh sl sh bf tb ini xb xs la lb en 1 v186 v190 v197 v200 b202 f1 f2) [.int f1, .int v200, .long v197] t
     refine XS.isub X218.here hx rfl (hb hby at_318) rfl ?_
     exact k
    refine OFinW.go sg237 ?_
    obtain ⟨_, _, ⟨T238, L238, k238, n238⟩, -, X238, ⟨Lc238, hQ238, l238, y238, z238⟩, st238⟩ := Jvm.LawKit.callS X218 hx (y := (⟨"org/counterpath/engine/EncodingHoldPinLaw", "bitOf", "(JI)Z"⟩ : MethodName)) hown (mvT hZ (zw hw 264 rfl)) (mvT hZ (zw hw 265 rfl)) (mvT hZ (zw hw 266 rfl)) (mvT hZ (zw hw 267 rfl)) (by decide) (backOf (W := 0) (rm37 l Z aZ hw [] v197 (v200 - f1) T211.heap n0 (zt Z0 K211.1) ) hZ (zw hw 267 rfl) (zw hw 266 rfl) (by decide) (by decide)) (g := (mkF m 319 (z8 q0 q1 q2 q3 q4 q5 bl bh sl sh bf tb ini xb xs la lb en 1 v186 v190 v197 v200 b202 f1 f2) [.int (v200 - f1), .long v197])) rfl (by rw [hml]; rfl) (argsL := [.long v197, .int (v200 - f1)]) (rest := []) (lenOf pd_22 rfl) rfl (by show 2 * 0 + _ ≤ _; exact ze rfl) (hb hby at_319) (fun _ _ => ⟨rfl, e218, (by decide : 22 + 0 ≤ _), (by decide : 214 + 0 ≤ _)⟩)
    dsimp only [Pt.U, Pt.locs, Pt.cells, Pt.slots] at X238 l238 y238 z238 st238 hQ238
    rw [l238, y238, z238] at X238
    obtain ⟨rfl, N238q, e238⟩ := hQ238
    have N238 := Fr.app N218 N238q
    refine OFinW.go st238 ?_
    have sg239 : zg p e below T238 m 333 (z4 q0 q1 q2 q3 q4 q5 bl bh sl sh bf tb ini xb xs la lb en 1 v186 v190 v197 v200 b202 f1 f2 (own_f37 v197 (v200 - f1))) [.int v200, .ref b202] 322 (z8 q0 q1 q2 q3 q4 q5 bl bh sl sh bf tb ini xb xs la lb en 1 v186 v190 v197 v200 b202 f1 f2) [.int (own_f37 v197 (v200 - f1))] := by
     intro t k
     refine XS.goto X238.here hx rfl (pc0 := 322) (pc' := 327) rfl (hb hby at_322) (by decide) (by decide) ?_
     show zs p e below T238 m 327 (z8 q0 q1 q2 q3 q4 q5 bl bh sl sh bf tb ini xb xs la lb en 1 v186 v190 v197 v200 b202 f1 f2) [.int (own_f37 v197 (v200 - f1))] t
     refine XS.istore X238.here hx rfl (hb hby at_327) rfl (l' := (z4 q0 q1 q2 q3 q4 q5 bl bh sl sh bf tb ini xb xs la lb en 1 v186 v190 v197 v200 b202 f1 f2 (own_f37 v197 (v200 - f1)))) rfl ?_
     show zs p e below T238 m 329 (z4 q0 q1 q2 q3 q4 q5 bl bh sl sh bf tb ini xb xs la lb en 1 v186 v190 v197 v200 b202 f1 f2 (own_f37 v197 (v200 - f1))) [] t
     refine XS.aload X238.here hx rfl (hb hby at_329) rfl rfl ?_
     show zs p e below T238 m 331 (z4 q0 q1 q2 q3 q4 q5 bl bh sl sh bf tb ini xb xs la lb en 1 v186 v190 v197 v200 b202 f1 f2 (own_f37 v197 (v200 - f1))) [.ref b202] t
     refine XS.iload X238.here hx rfl (hb hby at_331) rfl ?_
     exact k
    refine OFinW.go sg239 ?_
    obtain ⟨cl240, Ar240, q240, S240, M240, H240, G240⟩ := id P211_0
    have hin240 : ¬ (v200 < 0 ∨ cl240.slots.size ≤ (v200).toNatClampNeg) := inb_of S240 (own_inb hbit.1 hbit.2)
    have hat240 : cl240.slots[(v200).toNatClampNeg]? = some (.int ((own_hold v197 f1 (f2.toInt - f1.toInt).toNat f1 ls).getD (v200).toNatClampNeg (0 : Int32))) := H240.at hin240 (own_getD _ _)
    have sg242 : zg p e below T238 m 336 (z4 q0 q1 q2 q3 q4 q5 bl bh sl sh bf tb ini xb xs la lb en 1 v186 v190 v197 v200 b202 f1 f2 (own_f37 v197 (v200 - f1))) [.int (own_f37 v197 (v200 - f1)), .int ((own_hold v197 f1 (f2.toInt - f1.toInt).toNat f1 ls).getD (v200).toNatClampNeg (0 : Int32))] 333 (z4 q0 q1 q2 q3 q4 q5 bl bh sl sh bf tb ini xb xs la lb en 1 v186 v190 v197 v200 b202 f1 f2 (own_f37 v197 (v200 - f1))) [.int v200, .ref b202] := by
     intro t k
     refine X238.baloadBooleans hx (j := v200) (v := (.int ((own_hold v197 f1 (f2.toInt - f1.toInt).toNat f1 ls).getD (v200).toNatClampNeg (0 : Int32)))) (by rw [e238]; exact Ar240.1) (State.isArrayOf_alike hZ.alike Ar240.2.1) Ar240.2.2 hin240 hat240 (g := (mkF m 333 (z4 q0 q1 q2 q3 q4 q5 bl bh sl sh bf tb ini xb xs la lb en 1 v186 v190 v197 v200 b202 f1 f2 (own_f37 v197 (v200 - f1))) [.int v200, .ref b202])) rfl rfl (hb hby at_333) _ ?_
     show zs p e below T238 m 334 (z4 q0 q1 q2 q3 q4 q5 bl bh sl sh bf tb ini xb xs la lb en 1 v186 v190 v197 v200 b202 f1 f2 (own_f37 v197 (v200 - f1))) [.int ((own_hold v197 f1 (f2.toInt - f1.toInt).toNat f1 ls).getD (v200).toNatClampNeg (0 : Int32))] t
     refine XS.iload X238.here hx rfl (hb hby at_334) rfl ?_
     exact k
    refine OFinW.go sg242 ?_
    have c241 : ((own_hold v197 f1 (f2.toInt - f1.toInt).toNat f1 ls).getD (v200).toNatClampNeg (0 : Int32)) = (own_f37 v197 (v200 - f1)) := (by have qa := c220; rw [Int32.lt_iff_toInt_lt] at qa; have qb := c236; rw [Int32.lt_iff_toInt_lt] at qb; have qs := own_subi (e := v200) (f := f1) (by omega) (by omega) (by omega) (by omega); rw [(own_hold_get v197 f1 (by omega) v200.toNatClampNeg (f2.toInt - f1.toInt).toNat f1 ls hll (by omega) (by omega) (by omega)), if_pos (by simp only [Int32.toNatClampNeg]; omega), own_f37_nb (by omega) (by omega)]; congr 1; simp only [Int32.toNatClampNeg]; omega)
    have sg243 : zg p e below T238 m 345 (z4 q0 q1 q2 q3 q4 q5 bl bh sl sh bf tb ini xb xs la lb en 1 v186 v190 v197 v200 b202 f1 f2 (own_f37 v197 (v200 - f1))) [.int 1, .ref b202, .ref en] 336 (z4 q0 q1 q2 q3 q4 q5 bl bh sl sh bf tb ini xb xs la lb en 1 v186 v190 v197 v200 b202 f1 f2 (own_f37 v197 (v200 - f1))) [.int (own_f37 v197 (v200 - f1)), .int ((own_hold v197 f1 (f2.toInt - f1.toInt).toNat f1 ls).getD (v200).toNatClampNeg (0 : Int32))] := by
     intro t k
     refine XS.icmpNo X238.here hx rfl (hb hby at_336) rfl (teq c241).2 ?_
     show zs p e below T238 m 339 (z4 q0 q1 q2 q3 q4 q5 bl bh sl sh bf tb ini xb xs la lb en 1 v186 v190 v197 v200 b202 f1 f2 (own_f37 v197 (v200 - f1))) [] t
     refine XS.aload X238.here hx rfl (hb hby at_339) rfl rfl ?_
     show zs p e below T238 m 341 (z4 q0 q1 q2 q3 q4 q5 bl bh sl sh bf tb ini xb xs la lb en 1 v186 v190 v197 v200 b202 f1 f2 (own_f37 v197 (v200 - f1))) [.ref en] t
     refine XS.aload X238.here hx rfl (hb hby at_341) rfl rfl ?_
     show zs p e below T238 m 343 (z4 q0 q1 q2 q3 q4 q5 bl bh sl sh bf tb ini xb xs la lb en 1 v186 v190 v197 v200 b202 f1 f2 (own_f37 v197 (v200 - f1))) [.ref b202, .ref en] t
     refine XS.iload X238.here hx rfl (hb hby at_343) rfl ?_
     exact k
    refine OFinW.go sg243 ?_
    have fq244 : Fld Z T211.heap en "org/counterpath/engine/Encoding" "_signed" "[Z" (.ref sg) := (((G2.ext E202).other W205 (Or.inl nq208)).keep Kq211 (ninS nq208 nin0))
    have nq245 : sg ≠ b202 := (zn (zl VS.lt (ze g202.symm)))
    have fq246 : Arv Z T211.heap sg ks .boolean (2 : Int32) [.int (own_sg l1), .int (own_sg l2)] (.int 0) := (((VS.ext E202).other W205 nq245).keep Kq211 (ninS nq245 nin0))
    have fq247 : Fld Z T211.heap en "org/counterpath/engine/Encoding" "_codes" "[[J" (.ref cd) := (((G3.ext E202).other W205 (Or.inl nq208)).keep Kq211 (ninS nq208 nin0))
    have fq248 : Arv Z T211.heap cd kc (.array .long) (2 : Int32) [.null, .null] .null := (((VC.ext E202).other W205 nq210).keep Kq211 (ninS nq210 nin0))
    obtain ⟨cq249, kq249, q249a, q249b, q249c⟩ := isOf hZ e238 fq216
    obtain ⟨_, _, ⟨T249, L249, k249, n249⟩, -, X249, ⟨Lc249, hQ249, l249, y249, z249⟩, st249⟩ := X238.virtualBack hx (y := (⟨"org/counterpath/engine/Encoding", "value", "([ZI)J"⟩ : MethodName)) (z := (⟨"org/counterpath/engine/Encoding", "value", "([ZI)J"⟩ : MethodName)) hown (mvT hZ (zw hw 258 rfl)) (mvT hZ (zw hw 259 rfl)) (notFace_of_selects (args := #[]) (mvT hZ (zw hw 261 rfl))) (mvT hZ (zw hw 261 rfl)) (mvT hZ (zw hw 260 rfl)) (by decide) (backOf (W := 0) (rm36v1 l Z aZ hw [] en b202 fb kf (0 : Int32) f1 f2 sg ks (own_sg l1) (own_sg l2) cd kc k202 (own_hold v197 f1 (f2.toInt - f1.toInt).toNat f1 ls) T211.heap n0 (zt Z0 K211.1) fq213 fq214 fq244 fq246 fq247 fq248 P211_0 (by rw [own_hold_len]; exact hll) (by omega) (by omega) (by omega) (fun q => by have q' := own_sgpos hlu.2.2 q; omega)) hZ (zw hw 262 rfl) (zw hw 105 rfl) (by decide) (by decide)) q249a q249c (g := (mkF m 345 (z4 q0 q1 q2 q3 q4 q5 bl bh sl sh bf tb ini xb xs la lb en 1 v186 v190 v197 v200 b202 f1 f2 (own_f37 v197 (v200 - f1))) [.int 1, .ref b202, .ref en])) rfl (by rw [hml]; rfl) (Steps.refl _) (argsL := [.ref b202, .int 1]) (rest := []) (lenOf pd_21 rfl) rfl (by show 2 * 0 + _ ≤ _; exact ze rfl) (hb hby at_345) (fun _ _ => ⟨rfl, e238, (by decide : 22 + 0 ≤ _), (by decide : 214 + 0 ≤ _)⟩)
    dsimp only [Pt.U, Pt.locs, Pt.cells, Pt.slots] at X249 l249 y249 z249 st249 hQ249
    rw [l249, y249, z249] at X249
    obtain ⟨rfl, N249q, Kq249⟩ := hQ249
    have N249 := Fr.app N238 N249q
    refine OFinW.tr st249 ?_
    have K249 : Keep h0 T249.heap [] := K211.trans Kq249 all0
    have sg251 : zg p e below T249 m 351 (z4 q0 q1 q2 q3 q4 q5 bl bh sl sh bf tb ini xb xs la lb en 1 v186 v190 v197 v200 b202 f1 f2 (own_f37 v197 (v200 - f1))) [.int (lcmpW (own_value (own_sg l2) f1 f2 (own_hold v197 f1 (f2.toInt - f1.toInt).toNat f1 ls)) v197)] 348 (z4 q0 q1 q2 q3 q4 q5 bl bh sl sh bf tb ini xb xs la lb en 1 v186 v190 v197 v200 b202 f1 f2 (own_f37 v197 (v200 - f1))) [.long (own_value (own_sg l2) f1 f2 (own_hold v197 f1 (f2.toInt - f1.toInt).toNat f1 ls))] := by
     intro t k
     refine XS.lload X249.here hx rfl (hb hby at_348) rfl ?_
     show zs p e below T249 m 350 (z4 q0 q1 q2 q3 q4 q5 bl bh sl sh bf tb ini xb xs la lb en 1 v186 v190 v197 v200 b202 f1 f2 (own_f37 v197 (v200 - f1))) [.long v197, .long (own_value (own_sg l2) f1 f2 (own_hold v197 f1 (f2.toInt - f1.toInt).toNat f1 ls))] t
     refine XS.lcmp X249.here hx rfl (hb hby at_350) rfl ?_
     exact k
    refine OFinW.go sg251 ?_
    have c250 : (own_value (own_sg l2) f1 f2 (own_hold v197 f1 (f2.toInt - f1.toInt).toNat f1 ls)) = v197 := (own_back_value l2 u2 v197 hvv.1 hvv.2 f1 f2 ls hll (by omega) (by omega) (by omega))
    have sg252 : zg p e below T249 m 359 (z4 q0 q1 q2 q3 q4 q5 bl bh sl sh bf tb ini xb xs la lb en 1 v186 v190 v197 v200 b202 f1 f2 (own_f37 v197 (v200 - f1))) [.int 1] 351 (z4 q0 q1 q2 q3 q4 q5 bl bh sl sh bf tb ini xb xs la lb en 1 v186 v190 v197 v200 b202 f1 f2 (own_f37 v197 (v200 - f1))) [.int (lcmpW (own_value (own_sg l2) f1 f2 (own_hold v197 f1 (f2.toInt - f1.toInt).toNat f1 ls)) v197)] := by
     intro t k
     refine XS.ifNo X249.here hx rfl (hb hby at_351) rfl ((if0 _ _).trans (teq ((lw_eq _ _).mpr c250)).2) ?_
     show zs p e below T249 m 354 (z4 q0 q1 q2 q3 q4 q5 bl bh sl sh bf tb ini xb xs la lb en 1 v186 v190 v197 v200 b202 f1 f2 (own_f37 v197 (v200 - f1))) [] t
     refine XS.iconst X249.here hx rfl (hb hby at_354) ?_
     show zs p e below T249 m 355 (z4 q0 q1 q2 q3 q4 q5 bl bh sl sh bf tb ini xb xs la lb en 1 v186 v190 v197 v200 b202 f1 f2 (own_f37 v197 (v200 - f1))) [.int 1] t
     refine XS.goto X249.here hx rfl (pc0 := 355) (pc' := 359) rfl (hb hby at_355) (by decide) (by decide) ?_
     exact k
    refine OFinW.go sg252 ?_
    exact OFinW.retN X249 hS (zt (zt (zt (zt hk E202.1) (Keep.of_wr W205).1) Kq211.1) Kq249.1) hx hret (by simp) hlk (hb hby at_359) rfl ⟨rfl, N249⟩ (by decide) (by decide)
   ·have sg253 : zg p e below T218 m 333 (z4 q0 q1 q2 q3 q4 q5 bl bh sl sh bf tb ini xb xs la lb en 1 v186 v190 v197 v200 b202 f1 f2 ini) [.int v200, .ref b202] 309 (z8 q0 q1 q2 q3 q4 q5 bl bh sl sh bf tb ini xb xs la lb en 1 v186 v190 v197 v200 b202 f1 f2) [.int f2, .int v200] := by
     intro t k
     refine XS.icmpYes X218.here hx rfl (pc0 := 309) (pc' := 325) rfl (hb hby at_309) rfl (flt c236).2.1 (by decide) (by decide) ?_
     show zs p e below T218 m 325 (z8 q0 q1 q2 q3 q4 q5 bl bh sl sh bf tb ini xb xs la lb en 1 v186 v190 v197 v200 b202 f1 f2) [] t
     refine XS.iload X218.here hx rfl (hb hby at_325) rfl ?_
     show zs p e below T218 m 327 (z8 q0 q1 q2 q3 q4 q5 bl bh sl sh bf tb ini xb xs la lb en 1 v186 v190 v197 v200 b202 f1 f2) [.int ini] t
     refine XS.istore X218.here hx rfl (hb hby at_327) rfl (l' := (z4 q0 q1 q2 q3 q4 q5 bl bh sl sh bf tb ini xb xs la lb en 1 v186 v190 v197 v200 b202 f1 f2 ini)) rfl ?_
     show zs p e below T218 m 329 (z4 q0 q1 q2 q3 q4 q5 bl bh sl sh bf tb ini xb xs la lb en 1 v186 v190 v197 v200 b202 f1 f2 ini) [] t
     refine XS.aload X218.here hx rfl (hb hby at_329) rfl rfl ?_
     show zs p e below T218 m 331 (z4 q0 q1 q2 q3 q4 q5 bl bh sl sh bf tb ini xb xs la lb en 1 v186 v190 v197 v200 b202 f1 f2 ini) [.ref b202] t
     refine XS.iload X218.here hx rfl (hb hby at_331) rfl ?_
     exact k
    refine OFinW.go sg253 ?_
    obtain ⟨cl254, Ar254, q254, S254, M254, H254, G254⟩ := id P211_0
    have hin254 : ¬ (v200 < 0 ∨ cl254.slots.size ≤ (v200).toNatClampNeg) := inb_of S254 (own_inb hbit.1 hbit.2)
    have hat254 : cl254.slots[(v200).toNatClampNeg]? = some (.int ((own_hold v197 f1 (f2.toInt - f1.toInt).toNat f1 ls).getD (v200).toNatClampNeg (0 : Int32))) := H254.at hin254 (own_getD _ _)
    have sg256 : zg p e below T218 m 336 (z4 q0 q1 q2 q3 q4 q5 bl bh sl sh bf tb ini xb xs la lb en 1 v186 v190 v197 v200 b202 f1 f2 ini) [.int ini, .int ((own_hold v197 f1 (f2.toInt - f1.toInt).toNat f1 ls).getD (v200).toNatClampNeg (0 : Int32))] 333 (z4 q0 q1 q2 q3 q4 q5 bl bh sl sh bf tb ini xb xs la lb en 1 v186 v190 v197 v200 b202 f1 f2 ini) [.int v200, .ref b202] := by
     intro t k
     refine X218.baloadBooleans hx (j := v200) (v := (.int ((own_hold v197 f1 (f2.toInt - f1.toInt).toNat f1 ls).getD (v200).toNatClampNeg (0 : Int32)))) (by rw [e218]; exact Ar254.1) (State.isArrayOf_alike hZ.alike Ar254.2.1) Ar254.2.2 hin254 hat254 (g := (mkF m 333 (z4 q0 q1 q2 q3 q4 q5 bl bh sl sh bf tb ini xb xs la lb en 1 v186 v190 v197 v200 b202 f1 f2 ini) [.int v200, .ref b202])) rfl rfl (hb hby at_333) _ ?_
     show zs p e below T218 m 334 (z4 q0 q1 q2 q3 q4 q5 bl bh sl sh bf tb ini xb xs la lb en 1 v186 v190 v197 v200 b202 f1 f2 ini) [.int ((own_hold v197 f1 (f2.toInt - f1.toInt).toNat f1 ls).getD (v200).toNatClampNeg (0 : Int32))] t
     refine XS.iload X218.here hx rfl (hb hby at_334) rfl ?_
     exact k
    refine OFinW.go sg256 ?_
    have c255 : ((own_hold v197 f1 (f2.toInt - f1.toInt).toNat f1 ls).getD (v200).toNatClampNeg (0 : Int32)) = ini := (by have qa := c220; rw [Int32.lt_iff_toInt_lt] at qa; have qb := c236; rw [Int32.lt_iff_toInt_lt] at qb; rw [(own_hold_get v197 f1 (by omega) v200.toNatClampNeg (f2.toInt - f1.toInt).toNat f1 ls hll (by omega) (by omega) (by omega)), if_neg (by simp only [Int32.toNatClampNeg]; omega), e_ls, List.getD_eq_getElem?_getD, List.getElem?_set_self (by rw [List.length_replicate]; simp only [Int32.toNatClampNeg]; omega)]; rfl)
    have sg257 : zg p e below T218 m 345 (z4 q0 q1 q2 q3 q4 q5 bl bh sl sh bf tb ini xb xs la lb en 1 v186 v190 v197 v200 b202 f1 f2 ini) [.int 1, .ref b202, .ref en] 336 (z4 q0 q1 q2 q3 q4 q5 bl bh sl sh bf tb ini xb xs la lb en 1 v186 v190 v197 v200 b202 f1 f2 ini) [.int ini, .int ((own_hold v197 f1 (f2.toInt - f1.toInt).toNat f1 ls).getD (v200).toNatClampNeg (0 : Int32))] := by
     intro t k
     refine XS.icmpNo X218.here hx rfl (hb hby at_336) rfl (teq c255).2 ?_
     show zs p e below T218 m 339 (z4 q0 q1 q2 q3 q4 q5 bl bh sl sh bf tb ini xb xs la lb en 1 v186 v190 v197 v200 b202 f1 f2 ini) [] t
     refine XS.aload X218.here hx rfl (hb hby at_339) rfl rfl ?_
     show zs p e below T218 m 341 (z4 q0 q1 q2 q3 q4 q5 bl bh sl sh bf tb ini xb xs la lb en 1 v186 v190 v197 v200 b202 f1 f2 ini) [.ref en] t
     refine XS.aload X218.here hx rfl (hb hby at_341) rfl rfl ?_
     show zs p e below T218 m 343 (z4 q0 q1 q2 q3 q4 q5 bl bh sl sh bf tb ini xb xs la lb en 1 v186 v190 v197 v200 b202 f1 f2 ini) [.ref b202, .ref en] t
     refine XS.iload X218.here hx rfl (hb hby at_343) rfl ?_
     exact k
    refine OFinW.go sg257 ?_
    have fq258 : Fld Z T211.heap en "org/counterpath/engine/Encoding" "_signed" "[Z" (.ref sg) := (((G2.ext E202).other W205 (Or.inl nq208)).keep Kq211 (ninS nq208 nin0))
    have nq259 : sg ≠ b202 := (zn (zl VS.lt (ze g202.symm)))
    have fq260 : Arv Z T211.heap sg ks .boolean (2 : Int32) [.int (own_sg l1), .int (own_sg l2)] (.int 0) := (((VS.ext E202).other W205 nq259).keep Kq211 (ninS nq259 nin0))
    have fq261 : Fld Z T211.heap en "org/counterpath/engine/Encoding" "_codes" "[[J" (.ref cd) := (((G3.ext E202).other W205 (Or.inl nq208)).keep Kq211 (ninS nq208 nin0))
    have fq262 : Arv Z T211.heap cd kc (.array .long) (2 : Int32) [.null, .null] .null := (((VC.ext E202).other W205 nq210).keep Kq211 (ninS nq210 nin0))
    obtain ⟨cq263, kq263, q263a, q263b, q263c⟩ := isOf hZ e218 fq216
    obtain ⟨_, _, ⟨T263, L263, k263, n263⟩, -, X263, ⟨Lc263, hQ263, l263, y263, z263⟩, st263⟩ := X218.virtualBack hx (y := (⟨"org/counterpath/engine/Encoding", "value", "([ZI)J"⟩ : MethodName)) (z := (⟨"org/counterpath/engine/Encoding", "value", "([ZI)J"⟩ : MethodName)) hown (mvT hZ (zw hw 258 rfl)) (mvT hZ (zw hw 259 rfl)) (notFace_of_selects (args := #[]) (mvT hZ (zw hw 261 rfl))) (mvT hZ (zw hw 261 rfl)) (mvT hZ (zw hw 260 rfl)) (by decide) (backOf (W := 0) (rm36v1 l Z aZ hw [] en b202 fb kf (0 : Int32) f1 f2 sg ks (own_sg l1) (own_sg l2) cd kc k202 (own_hold v197 f1 (f2.toInt - f1.toInt).toNat f1 ls) T211.heap n0 (zt Z0 K211.1) fq213 fq214 fq258 fq260 fq261 fq262 P211_0 (by rw [own_hold_len]; exact hll) (by omega) (by omega) (by omega) (fun q => by have q' := own_sgpos hlu.2.2 q; omega)) hZ (zw hw 262 rfl) (zw hw 105 rfl) (by decide) (by decide)) q263a q263c (g := (mkF m 345 (z4 q0 q1 q2 q3 q4 q5 bl bh sl sh bf tb ini xb xs la lb en 1 v186 v190 v197 v200 b202 f1 f2 ini) [.int 1, .ref b202, .ref en])) rfl (by rw [hml]; rfl) (Steps.refl _) (argsL := [.ref b202, .int 1]) (rest := []) (lenOf pd_21 rfl) rfl (by show 2 * 0 + _ ≤ _; exact ze rfl) (hb hby at_345) (fun _ _ => ⟨rfl, e218, (by decide : 22 + 0 ≤ _), (by decide : 214 + 0 ≤ _)⟩)
    dsimp only [Pt.U, Pt.locs, Pt.cells, Pt.slots] at X263 l263 y263 z263 st263 hQ263
    rw [l263, y263, z263] at X263
    obtain ⟨rfl, N263q, Kq263⟩ := hQ263
    have N263 := Fr.app N218 N263q
    refine OFinW.tr st263 ?_
    have K263 : Keep h0 T263.heap [] := K211.trans Kq263 all0
    have sg265 : zg p e below T263 m 351 (z4 q0 q1 q2 q3 q4 q5 bl bh sl sh bf tb ini xb xs la lb en 1 v186 v190 v197 v200 b202 f1 f2 ini) [.int (lcmpW (own_value (own_sg l2) f1 f2 (own_hold v197 f1 (f2.toInt - f1.toInt).toNat f1 ls)) v197)] 348 (z4 q0 q1 q2 q3 q4 q5 bl bh sl sh bf tb ini xb xs la lb en 1 v186 v190 v197 v200 b202 f1 f2 ini) [.long (own_value (own_sg l2) f1 f2 (own_hold v197 f1 (f2.toInt - f1.toInt).toNat f1 ls))] := by
     intro t k
     refine XS.lload X263.here hx rfl (hb hby at_348) rfl ?_
     show zs p e below T263 m 350 (z4 q0 q1 q2 q3 q4 q5 bl bh sl sh bf tb ini xb xs la lb en 1 v186 v190 v197 v200 b202 f1 f2 ini) [.long v197, .long (own_value (own_sg l2) f1 f2 (own_hold v197 f1 (f2.toInt - f1.toInt).toNat f1 ls))] t
     refine XS.lcmp X263.here hx rfl (hb hby at_350) rfl ?_
     exact k
    refine OFinW.go sg265 ?_
    have c264 : (own_value (own_sg l2) f1 f2 (own_hold v197 f1 (f2.toInt - f1.toInt).toNat f1 ls)) = v197 := (own_back_value l2 u2 v197 hvv.1 hvv.2 f1 f2 ls hll (by omega) (by omega) (by omega))
    have sg266 : zg p e below T263 m 359 (z4 q0 q1 q2 q3 q4 q5 bl bh sl sh bf tb ini xb xs la lb en 1 v186 v190 v197 v200 b202 f1 f2 ini) [.int 1] 351 (z4 q0 q1 q2 q3 q4 q5 bl bh sl sh bf tb ini xb xs la lb en 1 v186 v190 v197 v200 b202 f1 f2 ini) [.int (lcmpW (own_value (own_sg l2) f1 f2 (own_hold v197 f1 (f2.toInt - f1.toInt).toNat f1 ls)) v197)] := by
     intro t k
     refine XS.ifNo X263.here hx rfl (hb hby at_351) rfl ((if0 _ _).trans (teq ((lw_eq _ _).mpr c264)).2) ?_
     show zs p e below T263 m 354 (z4 q0 q1 q2 q3 q4 q5 bl bh sl sh bf tb ini xb xs la lb en 1 v186 v190 v197 v200 b202 f1 f2 ini) [] t
     refine XS.iconst X263.here hx rfl (hb hby at_354) ?_
     show zs p e below T263 m 355 (z4 q0 q1 q2 q3 q4 q5 bl bh sl sh bf tb ini xb xs la lb en 1 v186 v190 v197 v200 b202 f1 f2 ini) [.int 1] t
     refine XS.goto X263.here hx rfl (pc0 := 355) (pc' := 359) rfl (hb hby at_355) (by decide) (by decide) ?_
     exact k
    refine OFinW.go sg266 ?_
    exact OFinW.retN X263 hS (zt (zt (zt (zt hk E202.1) (Keep.of_wr W205).1) Kq211.1) Kq263.1) hx hret (by simp) hlk (hb hby at_359) rfl ⟨rfl, N263⟩ (by decide) (by decide)
set_option maxHeartbeats 40000000 in
theorem rm0 (l : Launch) (Z : State) (aZ : Array Value) (hw : ∀ d ∈ tables_1, d.before aZ Z = true) (ws : List Jvm.Cond) (q0 : Int64) (q1 : Int64) (q2 : Int64) (q3 : Int32) (q4 : Int32) (q5 : Int32) (dd : Addr) (kd : ClassId) (mr : Addr) (h0 : Heap) (n0 : Nat) (Z0 : n0 ≤ h0.size) (O0 : Old Z n0 h0) (SD : Sta Z Z.heap "java/util/ArrayList" "DEFAULTCAPACITY_EMPTY_ELEMENTDATA" "[Ljava/lang/Object;" (.ref dd)) (VD : Arv Z h0 dd kd (.object "java/lang/Object") (0 : Int32) [] .null) (ED : Exa Z h0 dd "[Ljava/lang/Object;") (hM : own_Mr Z "[Ljava/lang/Object;" mr) :
  MetFree l x (head1 (Jvm.Cond.code x code maxLocals ret :: ws) room_1) (fun a U => a = #[.long q0, .long q1, .long q2, .int q3, .int q4, .int q5] ∧ Z.Warmed39 U.vm ∧ U.heap = h0) (fun _ _ _ _ _ => True) (fun _ U o U' => ∃ v L, o = .returned v ∧ Q0 Z q0 q1 q2 q3 q4 q5 dd kd mr h0 n0 v U'.heap L ∧ ReturnedEndW U o U' L room_1.cells room_1.slots) := by
 refine MetFree.of_bodySF (plainFor_of_name pn_3) hisR ?_
 intro p e s m args below meth c s₁ Bd hml0 hP hK
 obtain ⟨rfl, hZ, hh⟩ := hP
 have hx := Bd.exec
 have hby := Bd.bytes
 have hret := Bd.returns
 have hlk : meth.locks = false := BodyLoose.notSynchronized Bd
 have hml : c.maxLocals = 37 := hml0
 have hown : s.vm.findClass "org/counterpath/engine/EncodingHoldPinLaw" = some m.cls := findClass_of_methodNamed Bd.named
 have hnm := (name_of_methodNamed Bd.named Bd.method).1
 have X0 : Stand p l e room_1 (s.setVm s.vm) m #[.long q0, .long q1, .long q2, .int q3, .int q4, .int q5] below meth c s₁ [] 0 0 := Stand.of_body Bd
 have hS : s.Since s.vm h0.size := State.WarmedH.since (State.WarmedH.refl s) _
 have hk : h0.size ≤ h0.size := Nat.le_refl _
 have hstr : ∀ a ∈ Bundle.stringAtoms, a.before aZ Z = true := fun d hd => hw d ((by decide +kernel : ∀ d ∈ Bundle.stringAtoms, d ∈ tables_1) d hd)
 have e0 : s₁.heap = h0 := by rw [← hh, Bd.state]; rfl
 have N0 := Fr.nil n0
 have K0 : Keep h0 h0 [] := Keep.refl _ _
 have pre0 : ∀ t, zs p e below s₁ m 0 (z53 q0 q1 q2 q3 q4 q5) [] t → Steps p.tables e below (s₁.setTop (entryFrame m #[.long q0, .long q1, .long q2, .int q3, .int q4, .int q5] maxLocals)) t := fun t k => castTop (ef_0 m q0 q1 q2 q3 q4 q5) k
 show OFinW p e below s (Q0 Z q0 q1 q2 q3 q4 q5 dd kd mr h0 n0) room_1.cells room_1.slots _
 refine OFinW.go pre0 ?_
 have sg101 : zg p e below s₁ m 2 (z53 q0 q1 q2 q3 q4 q5) [.long q1, .long q0] 0 (z53 q0 q1 q2 q3 q4 q5) [] := by
  intro t k
  refine XS.lloadN X0.here hx rfl (hb hby at_0) rfl ?_
  show zs p e below s₁ m 1 (z53 q0 q1 q2 q3 q4 q5) [.long q0] t
  refine XS.lloadN X0.here hx rfl (hb hby at_1) rfl ?_
  exact k
 refine OFinW.go sg101 ?_
 obtain ⟨_, _, ⟨T102, L102, k102, n102⟩, -, X102, ⟨Lc102, hQ102, l102, y102, z102⟩, st102⟩ := Jvm.LawKit.callS X0 hx (y := (⟨"java/lang/Math", "min", "(JJ)J"⟩ : MethodName)) hown (mvT hZ (zw hw 0 rfl)) (mvT hZ (zw hw 1 rfl)) (mvT hZ (zw hw 2 rfl)) (mvT hZ (zw hw 3 rfl)) (by decide) (backOf (W := 0) (rm1 l Z aZ hw [] q0 q1 h0 n0 (zt Z0 K0.1) ) hZ (zw hw 3 rfl) (zw hw 2 rfl) (by decide) (by decide)) (g := (mkF m 2 (z53 q0 q1 q2 q3 q4 q5) [.long q1, .long q0])) rfl (by rw [hml]; rfl) (argsL := [.long q0, .long q1]) (rest := []) (lenOf pd_15 rfl) rfl (by show 2 * 0 + _ ≤ _; exact ze rfl) (hb hby at_2) (fun _ _ => ⟨rfl, e0, (by decide : 0 + 0 ≤ _), (by decide : 0 + 0 ≤ _)⟩)
 dsimp only [Pt.U, Pt.locs, Pt.cells, Pt.slots] at X102 l102 y102 z102 st102 hQ102
 rw [l102, y102, z102] at X102
 obtain ⟨rfl, N102q, e102⟩ := hQ102
 have N102 := Fr.app N0 N102q
 refine OFinW.go st102 ?_
 obtain ⟨v103, e_v103⟩ : ∃ z : Int64, z = (own_f1 q0 q1) := ⟨_, rfl⟩
 rw [← e_v103]
 have sg104 : zg p e below T102 m 9 (z54 q0 q1 q2 q3 q4 q5 v103) [.long q1, .long q0] 5 (z53 q0 q1 q2 q3 q4 q5) [.long v103] := by
  intro t k
  refine XS.lstore X102.here hx rfl (hb hby at_5) rfl (l' := (z54 q0 q1 q2 q3 q4 q5 v103)) rfl ?_
  show zs p e below T102 m 7 (z54 q0 q1 q2 q3 q4 q5 v103) [] t
  refine XS.lloadN X102.here hx rfl (hb hby at_7) rfl ?_
  show zs p e below T102 m 8 (z54 q0 q1 q2 q3 q4 q5 v103) [.long q0] t
  refine XS.lloadN X102.here hx rfl (hb hby at_8) rfl ?_
  exact k
 refine OFinW.go sg104 ?_
 obtain ⟨_, _, ⟨T105, L105, k105, n105⟩, -, X105, ⟨Lc105, hQ105, l105, y105, z105⟩, st105⟩ := Jvm.LawKit.callS X102 hx (y := (⟨"java/lang/Math", "max", "(JJ)J"⟩ : MethodName)) hown (mvT hZ (zw hw 4 rfl)) (mvT hZ (zw hw 5 rfl)) (mvT hZ (zw hw 2 rfl)) (mvT hZ (zw hw 6 rfl)) (by decide) (backOf (W := 0) (rm2 l Z aZ hw [] q0 q1 h0 n0 (zt Z0 K0.1) ) hZ (zw hw 6 rfl) (zw hw 2 rfl) (by decide) (by decide)) (g := (mkF m 9 (z54 q0 q1 q2 q3 q4 q5 v103) [.long q1, .long q0])) rfl (by rw [hml]; rfl) (argsL := [.long q0, .long q1]) (rest := []) (lenOf pd_15 rfl) rfl (by show 2 * 0 + _ ≤ _; exact ze rfl) (hb hby at_9) (fun _ _ => ⟨rfl, e102, (by decide : 0 + 0 ≤ _), (by decide : 0 + 0 ≤ _)⟩)
 dsimp only [Pt.U, Pt.locs, Pt.cells, Pt.slots] at X105 l105 y105 z105 st105 hQ105
 rw [l105, y105, z105] at X105
 obtain ⟨rfl, N105q, e105⟩ := hQ105
 have N105 := Fr.app N102 N105q
 refine OFinW.go st105 ?_
 obtain ⟨v106, e_v106⟩ : ∃ z : Int64, z = (own_f2 q0 q1) := ⟨_, rfl⟩
 rw [← e_v106]
 have sg107 : zg p e below T105 m 21 (z46 q0 q1 q2 q3 q4 q5 v103 v106) [.long (-((q3 &&& (7 : Int32)).toInt64))] 12 (z54 q0 q1 q2 q3 q4 q5 v103) [.long v106] := by
  intro t k
  refine XS.lstore X105.here hx rfl (hb hby at_12) rfl (l' := (z46 q0 q1 q2 q3 q4 q5 v103 v106)) rfl ?_
  show zs p e below T105 m 14 (z46 q0 q1 q2 q3 q4 q5 v103 v106) [] t
  refine XS.iload X105.here hx rfl (hb hby at_14) rfl ?_
  show zs p e below T105 m 16 (z46 q0 q1 q2 q3 q4 q5 v103 v106) [.int q3] t
  refine XS.bipush X105.here hx rfl (hb hby at_16) ?_
  show zs p e below T105 m 18 (z46 q0 q1 q2 q3 q4 q5 v103 v106) [.int 7, .int q3] t
  refine XS.iand X105.here hx rfl (hb hby at_18) rfl ?_
  show zs p e below T105 m 19 (z46 q0 q1 q2 q3 q4 q5 v103 v106) [.int (q3 &&& (7 : Int32))] t
  refine XS.i2l X105.here hx rfl (hb hby at_19) rfl ?_
  show zs p e below T105 m 20 (z46 q0 q1 q2 q3 q4 q5 v103 v106) [.long ((q3 &&& (7 : Int32)).toInt64)] t
  refine XS.lneg X105.here hx rfl (hb hby at_20) rfl ?_
  exact k
 refine OFinW.go sg107 ?_
 obtain ⟨v108, e_v108⟩ : ∃ z : Int64, z = (-((q3 &&& (7 : Int32)).toInt64)) := ⟨_, rfl⟩
 rw [← e_v108]
 have sg109 : zg p e below T105 m 31 (z45 q0 q1 q2 q3 q4 q5 v103 v106 v108) [.long (((zh q3 3) &&& (15 : Int32)).toInt64)] 21 (z46 q0 q1 q2 q3 q4 q5 v103 v106) [.long v108] := by
  intro t k
  refine XS.lstore X105.here hx rfl (hb hby at_21) rfl (l' := (z45 q0 q1 q2 q3 q4 q5 v103 v106 v108)) rfl ?_
  show zs p e below T105 m 23 (z45 q0 q1 q2 q3 q4 q5 v103 v106 v108) [] t
  refine XS.iload X105.here hx rfl (hb hby at_23) rfl ?_
  show zs p e below T105 m 25 (z45 q0 q1 q2 q3 q4 q5 v103 v106 v108) [.int q3] t
  refine XS.iconst X105.here hx rfl (hb hby at_25) ?_
  show zs p e below T105 m 26 (z45 q0 q1 q2 q3 q4 q5 v103 v106 v108) [.int 3, .int q3] t
  refine XS.iushr X105.here hx rfl (hb hby at_26) rfl ?_
  show zs p e below T105 m 27 (z45 q0 q1 q2 q3 q4 q5 v103 v106 v108) [.int (zh q3 3)] t
  refine XS.bipush X105.here hx rfl (hb hby at_27) ?_
  show zs p e below T105 m 29 (z45 q0 q1 q2 q3 q4 q5 v103 v106 v108) [.int 15, .int (zh q3 3)] t
  refine XS.iand X105.here hx rfl (hb hby at_29) rfl ?_
  show zs p e below T105 m 30 (z45 q0 q1 q2 q3 q4 q5 v103 v106 v108) [.int ((zh q3 3) &&& (15 : Int32))] t
  refine XS.i2l X105.here hx rfl (hb hby at_30) rfl ?_
  exact k
 refine OFinW.go sg109 ?_
 obtain ⟨v110, e_v110⟩ : ∃ z : Int64, z = ((((q3.toUInt32 >>> ((3 : Int32) &&& 31).toUInt32).toInt32) &&& (15 : Int32)).toInt64) := ⟨_, rfl⟩
 rw [← e_v110]
 have sg113 : zg p e below T105 m 37 (z37 q0 q1 q2 q3 q4 q5 v103 v106 v108 v110) [.int (q5 &&& (1 : Int32))] 31 (z45 q0 q1 q2 q3 q4 q5 v103 v106 v108) [.long v110] := by
  intro t k
  refine XS.lstore X105.here hx rfl (hb hby at_31) rfl (l' := (z37 q0 q1 q2 q3 q4 q5 v103 v106 v108 v110)) rfl ?_
  show zs p e below T105 m 33 (z37 q0 q1 q2 q3 q4 q5 v103 v106 v108 v110) [] t
  refine XS.iload X105.here hx rfl (hb hby at_33) rfl ?_
  show zs p e below T105 m 35 (z37 q0 q1 q2 q3 q4 q5 v103 v106 v108 v110) [.int q5] t
  refine XS.iconst X105.here hx rfl (hb hby at_35) ?_
  show zs p e below T105 m 36 (z37 q0 q1 q2 q3 q4 q5 v103 v106 v108 v110) [.int 1, .int q5] t
  refine XS.iand X105.here hx rfl (hb hby at_36) rfl ?_
  exact k
 refine OFinW.go sg113 ?_
 obtain ⟨v112, e_v112⟩ : ∃ z : Int32, z = (if (q5 &&& (1 : Int32)) = (0 : Int32) then (0 : Int32) else (1 : Int32)) := ⟨_, rfl⟩
 have sg114 : zg p e below T105 m 45 (z37 q0 q1 q2 q3 q4 q5 v103 v106 v108 v110) [.int v112] 37 (z37 q0 q1 q2 q3 q4 q5 v103 v106 v108 v110) [.int (q5 &&& (1 : Int32))] := by
  intro t k
  by_cases c111 : (q5 &&& (1 : Int32)) = (0 : Int32)
  ·show zs p e below T105 m 37 (z37 q0 q1 q2 q3 q4 q5 v103 v106 v108 v110) [.int (q5 &&& (1 : Int32))] t
   refine XS.ifYes X105.here hx rfl (pc0 := 37) (pc' := 44) rfl (hb hby at_37) rfl ((if0 _ _).trans (teq c111).1) (by decide) (by decide) ?_
   show zs p e below T105 m 44 (z37 q0 q1 q2 q3 q4 q5 v103 v106 v108 v110) [] t
   refine XS.iconst X105.here hx rfl (hb hby at_44) ?_
   have e_v112' : v112 = (0 : Int32) := e_v112.trans (if_pos c111)
   rw [e_v112'] at k
   exact k
  ·show zs p e below T105 m 37 (z37 q0 q1 q2 q3 q4 q5 v103 v106 v108 v110) [.int (q5 &&& (1 : Int32))] t
   refine XS.ifNo X105.here hx rfl (hb hby at_37) rfl ((if0 _ _).trans (feq c111).1) ?_
   show zs p e below T105 m 40 (z37 q0 q1 q2 q3 q4 q5 v103 v106 v108 v110) [] t
   refine XS.iconst X105.here hx rfl (hb hby at_40) ?_
   show zs p e below T105 m 41 (z37 q0 q1 q2 q3 q4 q5 v103 v106 v108 v110) [.int 1] t
   refine XS.goto X105.here hx rfl (pc0 := 41) (pc' := 45) rfl (hb hby at_41) (by decide) (by decide) ?_
   have e_v112' : v112 = (1 : Int32) := e_v112.trans (if_neg c111)
   rw [e_v112'] at k
   exact k
 refine OFinW.go sg114 ?_
 have sg117 : zg p e below T105 m 51 (z38 q0 q1 q2 q3 q4 q5 v103 v106 v108 v110 v112) [.int (q5 &&& (2 : Int32))] 45 (z37 q0 q1 q2 q3 q4 q5 v103 v106 v108 v110) [.int v112] := by
  intro t k
  refine XS.istore X105.here hx rfl (hb hby at_45) rfl (l' := (z38 q0 q1 q2 q3 q4 q5 v103 v106 v108 v110 v112)) rfl ?_
  show zs p e below T105 m 47 (z38 q0 q1 q2 q3 q4 q5 v103 v106 v108 v110 v112) [] t
  refine XS.iload X105.here hx rfl (hb hby at_47) rfl ?_
  show zs p e below T105 m 49 (z38 q0 q1 q2 q3 q4 q5 v103 v106 v108 v110 v112) [.int q5] t
  refine XS.iconst X105.here hx rfl (hb hby at_49) ?_
  show zs p e below T105 m 50 (z38 q0 q1 q2 q3 q4 q5 v103 v106 v108 v110 v112) [.int 2, .int q5] t
  refine XS.iand X105.here hx rfl (hb hby at_50) rfl ?_
  exact k
 refine OFinW.go sg117 ?_
 obtain ⟨v116, e_v116⟩ : ∃ z : Int32, z = (if (q5 &&& (2 : Int32)) = (0 : Int32) then (0 : Int32) else (1 : Int32)) := ⟨_, rfl⟩
 have sg118 : zg p e below T105 m 59 (z38 q0 q1 q2 q3 q4 q5 v103 v106 v108 v110 v112) [.int v116] 51 (z38 q0 q1 q2 q3 q4 q5 v103 v106 v108 v110 v112) [.int (q5 &&& (2 : Int32))] := by
  intro t k
  by_cases c115 : (q5 &&& (2 : Int32)) = (0 : Int32)
  ·show zs p e below T105 m 51 (z38 q0 q1 q2 q3 q4 q5 v103 v106 v108 v110 v112) [.int (q5 &&& (2 : Int32))] t
   refine XS.ifYes X105.here hx rfl (pc0 := 51) (pc' := 58) rfl (hb hby at_51) rfl ((if0 _ _).trans (teq c115).1) (by decide) (by decide) ?_
   show zs p e below T105 m 58 (z38 q0 q1 q2 q3 q4 q5 v103 v106 v108 v110 v112) [] t
   refine XS.iconst X105.here hx rfl (hb hby at_58) ?_
   have e_v116' : v116 = (0 : Int32) := e_v116.trans (if_pos c115)
   rw [e_v116'] at k
   exact k
  ·show zs p e below T105 m 51 (z38 q0 q1 q2 q3 q4 q5 v103 v106 v108 v110 v112) [.int (q5 &&& (2 : Int32))] t
   refine XS.ifNo X105.here hx rfl (hb hby at_51) rfl ((if0 _ _).trans (feq c115).1) ?_
   show zs p e below T105 m 54 (z38 q0 q1 q2 q3 q4 q5 v103 v106 v108 v110 v112) [] t
   refine XS.iconst X105.here hx rfl (hb hby at_54) ?_
   show zs p e below T105 m 55 (z38 q0 q1 q2 q3 q4 q5 v103 v106 v108 v110 v112) [.int 1] t
   refine XS.goto X105.here hx rfl (pc0 := 55) (pc' := 59) rfl (hb hby at_55) (by decide) (by decide) ?_
   have e_v116' : v116 = (1 : Int32) := e_v116.trans (if_neg c115)
   rw [e_v116'] at k
   exact k
 refine OFinW.go sg118 ?_
 have sg121 : zg p e below T105 m 65 (z39 q0 q1 q2 q3 q4 q5 v103 v106 v108 v110 v112 v116) [.int (q5 &&& (4 : Int32))] 59 (z38 q0 q1 q2 q3 q4 q5 v103 v106 v108 v110 v112) [.int v116] := by
  intro t k
  refine XS.istore X105.here hx rfl (hb hby at_59) rfl (l' := (z39 q0 q1 q2 q3 q4 q5 v103 v106 v108 v110 v112 v116)) rfl ?_
  show zs p e below T105 m 61 (z39 q0 q1 q2 q3 q4 q5 v103 v106 v108 v110 v112 v116) [] t
  refine XS.iload X105.here hx rfl (hb hby at_61) rfl ?_
  show zs p e below T105 m 63 (z39 q0 q1 q2 q3 q4 q5 v103 v106 v108 v110 v112 v116) [.int q5] t
  refine XS.iconst X105.here hx rfl (hb hby at_63) ?_
  show zs p e below T105 m 64 (z39 q0 q1 q2 q3 q4 q5 v103 v106 v108 v110 v112 v116) [.int 4, .int q5] t
  refine XS.iand X105.here hx rfl (hb hby at_64) rfl ?_
  exact k
 refine OFinW.go sg121 ?_
 obtain ⟨v120, e_v120⟩ : ∃ z : Int32, z = (if (q5 &&& (4 : Int32)) = (0 : Int32) then (0 : Int32) else (1 : Int32)) := ⟨_, rfl⟩
 have sg122 : zg p e below T105 m 73 (z39 q0 q1 q2 q3 q4 q5 v103 v106 v108 v110 v112 v116) [.int v120] 65 (z39 q0 q1 q2 q3 q4 q5 v103 v106 v108 v110 v112 v116) [.int (q5 &&& (4 : Int32))] := by
  intro t k
  by_cases c119 : (q5 &&& (4 : Int32)) = (0 : Int32)
  ·show zs p e below T105 m 65 (z39 q0 q1 q2 q3 q4 q5 v103 v106 v108 v110 v112 v116) [.int (q5 &&& (4 : Int32))] t
   refine XS.ifYes X105.here hx rfl (pc0 := 65) (pc' := 72) rfl (hb hby at_65) rfl ((if0 _ _).trans (teq c119).1) (by decide) (by decide) ?_
   show zs p e below T105 m 72 (z39 q0 q1 q2 q3 q4 q5 v103 v106 v108 v110 v112 v116) [] t
   refine XS.iconst X105.here hx rfl (hb hby at_72) ?_
   have e_v120' : v120 = (0 : Int32) := e_v120.trans (if_pos c119)
   rw [e_v120'] at k
   exact k
  ·show zs p e below T105 m 65 (z39 q0 q1 q2 q3 q4 q5 v103 v106 v108 v110 v112 v116) [.int (q5 &&& (4 : Int32))] t
   refine XS.ifNo X105.here hx rfl (hb hby at_65) rfl ((if0 _ _).trans (feq c119).1) ?_
   show zs p e below T105 m 68 (z39 q0 q1 q2 q3 q4 q5 v103 v106 v108 v110 v112 v116) [] t
   refine XS.iconst X105.here hx rfl (hb hby at_68) ?_
   show zs p e below T105 m 69 (z39 q0 q1 q2 q3 q4 q5 v103 v106 v108 v110 v112 v116) [.int 1] t
   refine XS.goto X105.here hx rfl (pc0 := 69) (pc' := 73) rfl (hb hby at_69) (by decide) (by decide) ?_
   have e_v120' : v120 = (1 : Int32) := e_v120.trans (if_neg c119)
   rw [e_v120'] at k
   exact k
 refine OFinW.go sg122 ?_
 have sg123 : zg p e below T105 m 75 (z35 q0 q1 q2 q3 q4 q5 v103 v106 v108 v110 v112 v116 v120) [] 73 (z39 q0 q1 q2 q3 q4 q5 v103 v106 v108 v110 v112 v116) [.int v120] := by
  intro t k
  refine XS.istore X105.here hx rfl (hb hby at_73) rfl (l' := (z35 q0 q1 q2 q3 q4 q5 v103 v106 v108 v110 v112 v116 v120)) rfl ?_
  exact k
 refine OFinW.go sg123 ?_
 obtain ⟨T124, h124, X124, e124, E124, A124, D124, -, st124⟩ := newO X105 hx hZ hown (zw hw 7 rfl) (zw hw 8 rfl) (zw hw 9 rfl) e105 (g := (mkF m 75 (z35 q0 q1 q2 q3 q4 q5 v103 v106 v108 v110 v112 v116 v120) [])) rfl (hb hby at_75) (by decide) (by decide)
 obtain ⟨b124, g124⟩ : ∃ z, z = h0.size := ⟨_, rfl⟩
 rw [← g124] at A124 D124 st124
 refine OFinW.go st124 ?_
 have g_b124 : n0 ≤ b124 := zt (zt Z0 K0.1) (ze g124.symm)
 have sz_b124 : h0.size ≤ b124 := zt K0.1 (ze g124.symm)
 have K124 : Keep h0 h124 [] := K0.ext E124
 have F124_name : Fld Z h124 b124 "org/counterpath/model/Variable" "name" "Ljava/lang/String;" .null := D124 (Or.inr (zw hw 41 rfl)) (ty := (.object "java/lang/String")) (by decide)
 have F124_type : Fld Z h124 b124 "org/counterpath/model/Variable" "type" "Lorg/counterpath/model/Type;" .null := D124 (Or.inr (zw hw 43 rfl)) (ty := (.object "org/counterpath/model/Type")) (by decide)
 have sg125 : zg p e below T124 m 79 (z35 q0 q1 q2 q3 q4 q5 v103 v106 v108 v110 v112 v116 v120) [.ref b124, .ref b124] 78 (z35 q0 q1 q2 q3 q4 q5 v103 v106 v108 v110 v112 v116 v120) [.ref b124] := by
  intro t k
  refine XS.dup X124.here hx rfl (hb hby at_78) rfl rfl ?_
  exact k
 refine OFinW.go sg125 ?_
 obtain ⟨b126, T126, h126, k126, X126, e126, E126, hS, hk, hZ, hown, st126⟩ := ldcS X124 hx hZ hown (zw hw 10 rfl) hstr e124 hS (zt hk E124.1) (g := (mkF m 79 (z35 q0 q1 q2 q3 q4 q5 v103 v106 v108 v110 v112 v116 v120) [.ref b124, .ref b124])) rfl (hb hby at_79) (n := 4) (by decide) (by decide) (by decide) (by decide)
 refine OFinW.go st126 ?_
 have K126 : Keep h0 h126 [] := K124.ext E126
 obtain ⟨T127, h127, X127, e127, E127, A127, D127, -, st127⟩ := newO X126 hx hZ hown (zw hw 18 rfl) (zw hw 19 rfl) (zw hw 20 rfl) e126 (g := (mkF m 81 (z35 q0 q1 q2 q3 q4 q5 v103 v106 v108 v110 v112 v116 v120) [.ref b126, .ref b124, .ref b124])) rfl (hb hby at_81) (by decide) (by decide)
 obtain ⟨b127, g127⟩ : ∃ z, z = h126.size := ⟨_, rfl⟩
 rw [← g127] at A127 D127 st127
 refine OFinW.go st127 ?_
 have g_b127 : n0 ≤ b127 := zt (zt Z0 K126.1) (ze g127.symm)
 have sz_b127 : h0.size ≤ b127 := zt K126.1 (ze g127.symm)
 have K127 : Keep h0 h127 [] := K126.ext E127
 have F127_low : Fld Z h127 b127 "org/counterpath/model/Type$Range" "low" "J" (.long 0) := D127 (Or.inr (zw hw 33 rfl)) (ty := .long) (by decide)
 have F127_high : Fld Z h127 b127 "org/counterpath/model/Type$Range" "high" "J" (.long 0) := D127 (Or.inr (zw hw 35 rfl)) (ty := .long) (by decide)
 have sg128 : zg p e below T127 m 89 (z35 q0 q1 q2 q3 q4 q5 v103 v106 v108 v110 v112 v116 v120) [.long v106, .long v103, .ref b127, .ref b127, .ref b126, .ref b124, .ref b124] 84 (z35 q0 q1 q2 q3 q4 q5 v103 v106 v108 v110 v112 v116 v120) [.ref b127, .ref b126, .ref b124, .ref b124] := by
  intro t k
  refine XS.dup X127.here hx rfl (hb hby at_84) rfl rfl ?_
  show zs p e below T127 m 85 (z35 q0 q1 q2 q3 q4 q5 v103 v106 v108 v110 v112 v116 v120) [.ref b127, .ref b127, .ref b126, .ref b124, .ref b124] t
  refine XS.lload X127.here hx rfl (hb hby at_85) rfl ?_
  show zs p e below T127 m 87 (z35 q0 q1 q2 q3 q4 q5 v103 v106 v108 v110 v112 v116 v120) [.long v103, .ref b127, .ref b127, .ref b126, .ref b124, .ref b124] t
  refine XS.lload X127.here hx rfl (hb hby at_87) rfl ?_
  exact k
 refine OFinW.go sg128 ?_
 obtain ⟨_, _, ⟨T129, L129, k129, n129⟩, -, X129, ⟨Lc129, hQ129, l129, y129, z129⟩, st129⟩ := X127.specialBack hx (y := (⟨"org/counterpath/model/Type$Range", "<init>", "(JJ)V"⟩ : MethodName)) rfl hown (mvT hZ (zw hw 21 rfl)) (mvT hZ (zw hw 22 rfl)) (mvT hZ (zw hw 23 rfl)) (by decide) (backOf (W := 4) (rm3 l Z aZ hw [] b127 v103 v106 h127 n0 (zt Z0 K127.1) A127 F127_low F127_high (own_mm e_v103 e_v106) g_b127) hZ (zw hw 23 rfl) (zw hw 20 rfl) (by decide) (by decide)) (g := (mkF m 89 (z35 q0 q1 q2 q3 q4 q5 v103 v106 v108 v110 v112 v116 v120) [.long v106, .long v103, .ref b127, .ref b127, .ref b126, .ref b124, .ref b124])) rfl (by rw [hml]; rfl) (Steps.refl _) (a := b127) (argsL := [.long v103, .long v106]) (rest := [.ref b127, .ref b126, .ref b124, .ref b124]) (lenOf pd_16 rfl) rfl (by show 2 * 0 + _ ≤ _; exact ze rfl) (hb hby at_89) (fun _ _ => ⟨rfl, e127, (by decide : 4 + 0 ≤ _), (by decide : 12 + 0 ≤ _)⟩)
 dsimp only [Pt.U, Pt.locs, Pt.cells, Pt.slots] at X129 l129 y129 z129 st129 hQ129
 rw [l129, y129, z129] at X129
 obtain ⟨rfl, N129q, Kq129, P129_0, P129_1⟩ := hQ129
 have N129 := Fr.app N105 N129q
 refine OFinW.tr st129 ?_
 have K129 : Keep h0 T129.heap [] := K127.trans Kq129 (allS (Or.inr sz_b127) all0)
 have fq130 : Exa Z T129.heap b124 "org/counterpath/model/Variable" := (((A124.ext E126).ext E127).keep Kq129)
 have nq131 : b124 ≠ b127 := (zn (zl (zl A124.lt E126.1) (ze g127.symm)))
 have fq132 : Fld Z T129.heap b124 "org/counterpath/model/Variable" "name" "Ljava/lang/String;" .null := (((F124_name.ext E126).ext E127).keep Kq129 (ninS nq131 nin0))
 have fq133 : Fld Z T129.heap b124 "org/counterpath/model/Variable" "type" "Lorg/counterpath/model/Type;" .null := (((F124_type.ext E126).ext E127).keep Kq129 (ninS nq131 nin0))
 obtain ⟨_, _, ⟨T134, L134, k134, n134⟩, -, X134, ⟨Lc134, hQ134, l134, y134, z134⟩, st134⟩ := X129.specialBack hx (y := (⟨"org/counterpath/model/Variable", "<init>", "(Ljava/lang/String;Lorg/counterpath/model/Type;)V"⟩ : MethodName)) rfl hown (mvT hZ (zw hw 36 rfl)) (mvT hZ (zw hw 37 rfl)) (mvT hZ (zw hw 38 rfl)) (by decide) (backOf (W := 1) (rm6 l Z aZ hw [] b124 b126 b127 T129.heap n0 (zt Z0 K129.1) fq130 fq132 fq133 g_b124) hZ (zw hw 38 rfl) (zw hw 9 rfl) (by decide) (by decide)) (g := (mkF m 92 (z35 q0 q1 q2 q3 q4 q5 v103 v106 v108 v110 v112 v116 v120) [.ref b127, .ref b126, .ref b124, .ref b124])) rfl (by rw [hml]; rfl) (Steps.refl _) (a := b124) (argsL := [.ref b126, .ref b127]) (rest := [.ref b124]) (lenOf pd_17 rfl) rfl (by show 2 * 0 + _ ≤ _; exact ze rfl) (hb hby at_92) (fun _ _ => ⟨rfl, rfl, (by decide : 4 + 0 ≤ _), (by decide : 12 + 0 ≤ _)⟩)
 dsimp only [Pt.U, Pt.locs, Pt.cells, Pt.slots] at X134 l134 y134 z134 st134 hQ134
 rw [l134, y134, z134] at X134
 obtain ⟨rfl, N134q, Kq134, P134_0⟩ := hQ134
 have N134 := Fr.app N129 N134q
 refine OFinW.tr st134 ?_
 have K134 : Keep h0 T134.heap [] := K129.trans Kq134 (allS (Or.inr sz_b124) all0)
 have sg135 : zg p e below T134 m 97 (z36 q0 q1 q2 q3 q4 q5 v103 v106 v108 v110 v112 v116 v120 b124) [] 95 (z35 q0 q1 q2 q3 q4 q5 v103 v106 v108 v110 v112 v116 v120) [.ref b124] := by
  intro t k
  refine XS.astore X134.here hx rfl (hb hby at_95) rfl rfl (l' := (z36 q0 q1 q2 q3 q4 q5 v103 v106 v108 v110 v112 v116 v120 b124)) rfl ?_
  exact k
 refine OFinW.go sg135 ?_
 obtain ⟨T136, h136, X136, e136, E136, A136, D136, -, st136⟩ := newO X134 hx hZ hown (zw hw 7 rfl) (zw hw 8 rfl) (zw hw 9 rfl) rfl (g := (mkF m 97 (z36 q0 q1 q2 q3 q4 q5 v103 v106 v108 v110 v112 v116 v120 b124) [])) rfl (hb hby at_97) (by decide) (by decide)
 obtain ⟨b136, g136⟩ : ∃ z, z = T134.heap.size := ⟨_, rfl⟩
 rw [← g136] at A136 D136 st136
 refine OFinW.go st136 ?_
 have g_b136 : n0 ≤ b136 := zt (zt Z0 K134.1) (ze g136.symm)
 have sz_b136 : h0.size ≤ b136 := zt K134.1 (ze g136.symm)
 have K136 : Keep h0 h136 [] := K134.ext E136
 have F136_name : Fld Z h136 b136 "org/counterpath/model/Variable" "name" "Ljava/lang/String;" .null := D136 (Or.inr (zw hw 41 rfl)) (ty := (.object "java/lang/String")) (by decide)
 have F136_type : Fld Z h136 b136 "org/counterpath/model/Variable" "type" "Lorg/counterpath/model/Type;" .null := D136 (Or.inr (zw hw 43 rfl)) (ty := (.object "org/counterpath/model/Type")) (by decide)
 have sg137 : zg p e below T136 m 101 (z36 q0 q1 q2 q3 q4 q5 v103 v106 v108 v110 v112 v116 v120 b124) [.ref b136, .ref b136] 100 (z36 q0 q1 q2 q3 q4 q5 v103 v106 v108 v110 v112 v116 v120 b124) [.ref b136] := by
  intro t k
  refine XS.dup X136.here hx rfl (hb hby at_100) rfl rfl ?_
  exact k
 refine OFinW.go sg137 ?_
 obtain ⟨b138, T138, h138, k138, X138, e138, E138, hS, hk, hZ, hown, st138⟩ := ldcS X136 hx hZ hown (zw hw 44 rfl) hstr e136 hS (zt (zt (zt (zt hk E127.1) Kq129.1) Kq134.1) E136.1) (g := (mkF m 101 (z36 q0 q1 q2 q3 q4 q5 v103 v106 v108 v110 v112 v116 v120 b124) [.ref b136, .ref b136])) rfl (hb hby at_101) (n := 4) (by decide) (by decide) (by decide) (by decide)
 refine OFinW.go st138 ?_
 have K138 : Keep h0 h138 [] := K136.ext E138
 obtain ⟨T139, h139, X139, e139, E139, A139, D139, -, st139⟩ := newO X138 hx hZ hown (zw hw 18 rfl) (zw hw 19 rfl) (zw hw 20 rfl) e138 (g := (mkF m 103 (z36 q0 q1 q2 q3 q4 q5 v103 v106 v108 v110 v112 v116 v120 b124) [.ref b138, .ref b136, .ref b136])) rfl (hb hby at_103) (by decide) (by decide)
 obtain ⟨b139, g139⟩ : ∃ z, z = h138.size := ⟨_, rfl⟩
 rw [← g139] at A139 D139 st139
 refine OFinW.go st139 ?_
 have g_b139 : n0 ≤ b139 := zt (zt Z0 K138.1) (ze g139.symm)
 have sz_b139 : h0.size ≤ b139 := zt K138.1 (ze g139.symm)
 have K139 : Keep h0 h139 [] := K138.ext E139
 have F139_low : Fld Z h139 b139 "org/counterpath/model/Type$Range" "low" "J" (.long 0) := D139 (Or.inr (zw hw 33 rfl)) (ty := .long) (by decide)
 have F139_high : Fld Z h139 b139 "org/counterpath/model/Type$Range" "high" "J" (.long 0) := D139 (Or.inr (zw hw 35 rfl)) (ty := .long) (by decide)
 have sg140 : zg p e below T139 m 111 (z36 q0 q1 q2 q3 q4 q5 v103 v106 v108 v110 v112 v116 v120 b124) [.long v110, .long v108, .ref b139, .ref b139, .ref b138, .ref b136, .ref b136] 106 (z36 q0 q1 q2 q3 q4 q5 v103 v106 v108 v110 v112 v116 v120 b124) [.ref b139, .ref b138, .ref b136, .ref b136] := by
  intro t k
  refine XS.dup X139.here hx rfl (hb hby at_106) rfl rfl ?_
  show zs p e below T139 m 107 (z36 q0 q1 q2 q3 q4 q5 v103 v106 v108 v110 v112 v116 v120 b124) [.ref b139, .ref b139, .ref b138, .ref b136, .ref b136] t
  refine XS.lload X139.here hx rfl (hb hby at_107) rfl ?_
  show zs p e below T139 m 109 (z36 q0 q1 q2 q3 q4 q5 v103 v106 v108 v110 v112 v116 v120 b124) [.long v108, .ref b139, .ref b139, .ref b138, .ref b136, .ref b136] t
  refine XS.lload X139.here hx rfl (hb hby at_109) rfl ?_
  exact k
 refine OFinW.go sg140 ?_
 obtain ⟨_, _, ⟨T141, L141, k141, n141⟩, -, X141, ⟨Lc141, hQ141, l141, y141, z141⟩, st141⟩ := X139.specialBack hx (y := (⟨"org/counterpath/model/Type$Range", "<init>", "(JJ)V"⟩ : MethodName)) rfl hown (mvT hZ (zw hw 21 rfl)) (mvT hZ (zw hw 22 rfl)) (mvT hZ (zw hw 23 rfl)) (by decide) (backOf (W := 4) (rm3 l Z aZ hw [] b139 v108 v110 h139 n0 (zt Z0 K139.1) A139 F139_low F139_high (own_sm e_v108 e_v110) g_b139) hZ (zw hw 23 rfl) (zw hw 20 rfl) (by decide) (by decide)) (g := (mkF m 111 (z36 q0 q1 q2 q3 q4 q5 v103 v106 v108 v110 v112 v116 v120 b124) [.long v110, .long v108, .ref b139, .ref b139, .ref b138, .ref b136, .ref b136])) rfl (by rw [hml]; rfl) (Steps.refl _) (a := b139) (argsL := [.long v108, .long v110]) (rest := [.ref b139, .ref b138, .ref b136, .ref b136]) (lenOf pd_16 rfl) rfl (by show 2 * 0 + _ ≤ _; exact ze rfl) (hb hby at_111) (fun _ _ => ⟨rfl, e139, (by decide : 8 + 0 ≤ _), (by decide : 24 + 0 ≤ _)⟩)
 dsimp only [Pt.U, Pt.locs, Pt.cells, Pt.slots] at X141 l141 y141 z141 st141 hQ141
 rw [l141, y141, z141] at X141
 obtain ⟨rfl, N141q, Kq141, P141_0, P141_1⟩ := hQ141
 have N141 := Fr.app N134 N141q
 refine OFinW.tr st141 ?_
 have K141 : Keep h0 T141.heap [] := K139.trans Kq141 (allS (Or.inr sz_b139) all0)
 have fq142 : Exa Z T141.heap b136 "org/counterpath/model/Variable" := (((A136.ext E138).ext E139).keep Kq141)
 have nq143 : b136 ≠ b139 := (zn (zl (zl A136.lt E138.1) (ze g139.symm)))
 have fq144 : Fld Z T141.heap b136 "org/counterpath/model/Variable" "name" "Ljava/lang/String;" .null := (((F136_name.ext E138).ext E139).keep Kq141 (ninS nq143 nin0))
 have fq145 : Fld Z T141.heap b136 "org/counterpath/model/Variable" "type" "Lorg/counterpath/model/Type;" .null := (((F136_type.ext E138).ext E139).keep Kq141 (ninS nq143 nin0))
 obtain ⟨_, _, ⟨T146, L146, k146, n146⟩, -, X146, ⟨Lc146, hQ146, l146, y146, z146⟩, st146⟩ := X141.specialBack hx (y := (⟨"org/counterpath/model/Variable", "<init>", "(Ljava/lang/String;Lorg/counterpath/model/Type;)V"⟩ : MethodName)) rfl hown (mvT hZ (zw hw 36 rfl)) (mvT hZ (zw hw 37 rfl)) (mvT hZ (zw hw 38 rfl)) (by decide) (backOf (W := 1) (rm6 l Z aZ hw [] b136 b138 b139 T141.heap n0 (zt Z0 K141.1) fq142 fq144 fq145 g_b136) hZ (zw hw 38 rfl) (zw hw 9 rfl) (by decide) (by decide)) (g := (mkF m 114 (z36 q0 q1 q2 q3 q4 q5 v103 v106 v108 v110 v112 v116 v120 b124) [.ref b139, .ref b138, .ref b136, .ref b136])) rfl (by rw [hml]; rfl) (Steps.refl _) (a := b136) (argsL := [.ref b138, .ref b139]) (rest := [.ref b136]) (lenOf pd_17 rfl) rfl (by show 2 * 0 + _ ≤ _; exact ze rfl) (hb hby at_114) (fun _ _ => ⟨rfl, rfl, (by decide : 8 + 0 ≤ _), (by decide : 24 + 0 ≤ _)⟩)
 dsimp only [Pt.U, Pt.locs, Pt.cells, Pt.slots] at X146 l146 y146 z146 st146 hQ146
 rw [l146, y146, z146] at X146
 obtain ⟨rfl, N146q, Kq146, P146_0⟩ := hQ146
 have N146 := Fr.app N141 N146q
 refine OFinW.tr st146 ?_
 have K146 : Keep h0 T146.heap [] := K141.trans Kq146 (allS (Or.inr sz_b136) all0)
 have sg147 : zg p e below T146 m 119 (z48 q0 q1 q2 q3 q4 q5 v103 v106 v108 v110 v112 v116 v120 b124 b136) [] 117 (z36 q0 q1 q2 q3 q4 q5 v103 v106 v108 v110 v112 v116 v120 b124) [.ref b136] := by
  intro t k
  refine XS.astore X146.here hx rfl (hb hby at_117) rfl rfl (l' := (z48 q0 q1 q2 q3 q4 q5 v103 v106 v108 v110 v112 v116 v120 b124 b136)) rfl ?_
  exact k
 refine OFinW.go sg147 ?_
 obtain ⟨T148, h148, X148, e148, E148, A148, D148, -, st148⟩ := newO X146 hx hZ hown (zw hw 45 rfl) (zw hw 46 rfl) (zw hw 47 rfl) rfl (g := (mkF m 119 (z48 q0 q1 q2 q3 q4 q5 v103 v106 v108 v110 v112 v116 v120 b124 b136) [])) rfl (hb hby at_119) (by decide) (by decide)
 obtain ⟨b148, g148⟩ : ∃ z, z = T146.heap.size := ⟨_, rfl⟩
 rw [← g148] at A148 D148 st148
 refine OFinW.go st148 ?_
 have g_b148 : n0 ≤ b148 := zt (zt Z0 K146.1) (ze g148.symm)
 have sz_b148 : h0.size ≤ b148 := zt K146.1 (ze g148.symm)
 have K148 : Keep h0 h148 [] := K146.ext E148
 have F148_modCount : Fld Z h148 b148 "java/util/AbstractList" "modCount" "I" (.int 0) := D148 (Or.inl (zw hw 65 rfl)) (ty := .int) (by decide)
 have F148_elementData : Fld Z h148 b148 "java/util/ArrayList" "elementData" "[Ljava/lang/Object;" .null := D148 (Or.inl (zw hw 68 rfl)) (ty := (.array (.object "java/lang/Object"))) (by decide)
 have F148_size : Fld Z h148 b148 "java/util/ArrayList" "size" "I" (.int 0) := D148 (Or.inl (zw hw 81 rfl)) (ty := .int) (by decide)
 have sg149 : zg p e below T148 m 123 (z48 q0 q1 q2 q3 q4 q5 v103 v106 v108 v110 v112 v116 v120 b124 b136) [.ref b148, .ref b148] 122 (z48 q0 q1 q2 q3 q4 q5 v103 v106 v108 v110 v112 v116 v120 b124 b136) [.ref b148] := by
  intro t k
  refine XS.dup X148.here hx rfl (hb hby at_122) rfl rfl ?_
  exact k
 refine OFinW.go sg149 ?_
 have fq150 : Old Z n0 h148 := (((((((((((O0.ext E124).ext E126).ext E127).keep Kq129 (allS g_b127 all0)).keep Kq134 (allS g_b124 all0)).ext E136).ext E138).ext E139).keep Kq141 (allS g_b139 all0)).keep Kq146 (allS g_b136 all0)).ext E148)
 obtain ⟨_, _, ⟨T151, L151, k151, n151⟩, -, X151, ⟨Lc151, hQ151, l151, y151, z151⟩, st151⟩ := X148.specialBack hx (y := (⟨"java/util/ArrayList", "<init>", "()V"⟩ : MethodName)) rfl hown (mvT hZ (zw hw 48 rfl)) (mvT hZ (zw hw 49 rfl)) (mvT hZ (zw hw 50 rfl)) (by decide) (backOf (W := 1) (rm7 l Z aZ hw [] b148 dd h148 n0 (zt Z0 K148.1) fq150 A148 F148_modCount F148_elementData F148_size SD g_b148) hZ (zw hw 50 rfl) (zw hw 47 rfl) (by decide) (by decide)) (g := (mkF m 123 (z48 q0 q1 q2 q3 q4 q5 v103 v106 v108 v110 v112 v116 v120 b124 b136) [.ref b148, .ref b148])) rfl (by rw [hml]; rfl) (Steps.refl _) (a := b148) (argsL := []) (rest := [.ref b148]) (lenOf pd_2 rfl) rfl (by show 2 * 0 + _ ≤ _; exact ze rfl) (hb hby at_123) (fun _ _ => ⟨rfl, e148, (by decide : 9 + 0 ≤ _), (by decide : 27 + 0 ≤ _)⟩)
 dsimp only [Pt.U, Pt.locs, Pt.cells, Pt.slots] at X151 l151 y151 z151 st151 hQ151
 rw [l151, y151, z151] at X151
 obtain ⟨rfl, N151q, Kq151, P151_0, P151_1, P151_2⟩ := hQ151
 have N151 := Fr.app N146 N151q
 refine OFinW.tr st151 ?_
 have K151 : Keep h0 T151.heap [] := K148.trans Kq151 (allS (Or.inr sz_b148) all0)
 have sg152 : zg p e below T151 m 128 (z49 q0 q1 q2 q3 q4 q5 v103 v106 v108 v110 v112 v116 v120 b124 b136 b148) [] 126 (z48 q0 q1 q2 q3 q4 q5 v103 v106 v108 v110 v112 v116 v120 b124 b136) [.ref b148] := by
  intro t k
  refine XS.astore X151.here hx rfl (hb hby at_126) rfl rfl (l' := (z49 q0 q1 q2 q3 q4 q5 v103 v106 v108 v110 v112 v116 v120 b124 b136 b148)) rfl ?_
  exact k
 refine OFinW.go sg152 ?_
 obtain ⟨T153, h153, X153, e153, E153, A153, D153, -, st153⟩ := newO X151 hx hZ hown (zw hw 45 rfl) (zw hw 46 rfl) (zw hw 47 rfl) rfl (g := (mkF m 128 (z49 q0 q1 q2 q3 q4 q5 v103 v106 v108 v110 v112 v116 v120 b124 b136 b148) [])) rfl (hb hby at_128) (by decide) (by decide)
 obtain ⟨b153, g153⟩ : ∃ z, z = T151.heap.size := ⟨_, rfl⟩
 rw [← g153] at A153 D153 st153
 refine OFinW.go st153 ?_
 have g_b153 : n0 ≤ b153 := zt (zt Z0 K151.1) (ze g153.symm)
 have sz_b153 : h0.size ≤ b153 := zt K151.1 (ze g153.symm)
 have K153 : Keep h0 h153 [] := K151.ext E153
 have F153_modCount : Fld Z h153 b153 "java/util/AbstractList" "modCount" "I" (.int 0) := D153 (Or.inl (zw hw 65 rfl)) (ty := .int) (by decide)
 have F153_elementData : Fld Z h153 b153 "java/util/ArrayList" "elementData" "[Ljava/lang/Object;" .null := D153 (Or.inl (zw hw 68 rfl)) (ty := (.array (.object "java/lang/Object"))) (by decide)
 have F153_size : Fld Z h153 b153 "java/util/ArrayList" "size" "I" (.int 0) := D153 (Or.inl (zw hw 81 rfl)) (ty := .int) (by decide)
 have sg154 : zg p e below T153 m 132 (z49 q0 q1 q2 q3 q4 q5 v103 v106 v108 v110 v112 v116 v120 b124 b136 b148) [.ref b153, .ref b153] 131 (z49 q0 q1 q2 q3 q4 q5 v103 v106 v108 v110 v112 v116 v120 b124 b136 b148) [.ref b153] := by
  intro t k
  refine XS.dup X153.here hx rfl (hb hby at_131) rfl rfl ?_
  exact k
 refine OFinW.go sg154 ?_
 obtain ⟨_, _, ⟨T155, L155, k155, n155⟩, -, X155, ⟨Lc155, hQ155, l155, y155, z155⟩, st155⟩ := X153.specialBack hx (y := (⟨"java/util/ArrayList", "<init>", "()V"⟩ : MethodName)) rfl hown (mvT hZ (zw hw 48 rfl)) (mvT hZ (zw hw 49 rfl)) (mvT hZ (zw hw 50 rfl)) (by decide) (backOf (W := 1) (rm7 l Z aZ hw [] b153 dd h153 n0 (zt Z0 K153.1) ((fq150.keep Kq151 (allS g_b148 all0)).ext E153) A153 F153_modCount F153_elementData F153_size SD g_b153) hZ (zw hw 50 rfl) (zw hw 47 rfl) (by decide) (by decide)) (g := (mkF m 132 (z49 q0 q1 q2 q3 q4 q5 v103 v106 v108 v110 v112 v116 v120 b124 b136 b148) [.ref b153, .ref b153])) rfl (by rw [hml]; rfl) (Steps.refl _) (a := b153) (argsL := []) (rest := [.ref b153]) (lenOf pd_2 rfl) rfl (by show 2 * 0 + _ ≤ _; exact ze rfl) (hb hby at_132) (fun _ _ => ⟨rfl, e153, (by decide : 10 + 0 ≤ _), (by decide : 30 + 0 ≤ _)⟩)
 dsimp only [Pt.U, Pt.locs, Pt.cells, Pt.slots] at X155 l155 y155 z155 st155 hQ155
 rw [l155, y155, z155] at X155
 obtain ⟨rfl, N155q, Kq155, P155_0, P155_1, P155_2⟩ := hQ155
 have N155 := Fr.app N151 N155q
 refine OFinW.tr st155 ?_
 have K155 : Keep h0 T155.heap [] := K153.trans Kq155 (allS (Or.inr sz_b153) all0)
 have sg156 : zg p e below T155 m 141 (z9 q0 q1 q2 q3 q4 q5 v103 v106 v108 v110 v112 v116 v120 b124 b136 b148 b153) [.int v112, .ref b148] 135 (z49 q0 q1 q2 q3 q4 q5 v103 v106 v108 v110 v112 v116 v120 b124 b136 b148) [.ref b153] := by
  intro t k
  refine XS.astore X155.here hx rfl (hb hby at_135) rfl rfl (l' := (z9 q0 q1 q2 q3 q4 q5 v103 v106 v108 v110 v112 v116 v120 b124 b136 b148 b153)) rfl ?_
  show zs p e below T155 m 137 (z9 q0 q1 q2 q3 q4 q5 v103 v106 v108 v110 v112 v116 v120 b124 b136 b148 b153) [] t
  refine XS.aload X155.here hx rfl (hb hby at_137) rfl rfl ?_
  show zs p e below T155 m 139 (z9 q0 q1 q2 q3 q4 q5 v103 v106 v108 v110 v112 v116 v120 b124 b136 b148 b153) [.ref b148] t
  refine XS.iload X155.here hx rfl (hb hby at_139) rfl ?_
  exact k
 refine OFinW.go sg156 ?_
 by_cases c157 : v112 = (0 : Int32)
 ·have sg158 : zg p e below T155 m 151 (z9 q0 q1 q2 q3 q4 q5 v103 v106 v108 v110 v112 v116 v120 b124 b136 b148 b153) [.ref b136, .ref b148] 141 (z9 q0 q1 q2 q3 q4 q5 v103 v106 v108 v110 v112 v116 v120 b124 b136 b148 b153) [.int v112, .ref b148] := by
   intro t k
   refine XS.ifYes X155.here hx rfl (pc0 := 141) (pc' := 149) rfl (hb hby at_141) rfl ((if0 _ _).trans (teq c157).1) (by decide) (by decide) ?_
   show zs p e below T155 m 149 (z9 q0 q1 q2 q3 q4 q5 v103 v106 v108 v110 v112 v116 v120 b124 b136 b148 b153) [.ref b148] t
   refine XS.aload X155.here hx rfl (hb hby at_149) rfl rfl ?_
   exact k
  refine OFinW.go sg158 ?_
  have fq159 : Exa Z T155.heap b148 "java/util/ArrayList" := (((A148.keep Kq151).ext E153).keep Kq155)
  have nq160 : b148 ≠ b153 := (zn (zl (zl A148.lt Kq151.1) (ze g153.symm)))
  have nq161 : dd ≠ b127 := (zn (zl (zl VD.lt (zt E124.1 E126.1)) (ze g127.symm)))
  have nq162 : dd ≠ b124 := (zn (zl VD.lt (ze g124.symm)))
  have nq163 : dd ≠ b139 := (zn (zl (zl VD.lt (zt (zt (zt (zt (zt (zt E124.1 E126.1) E127.1) Kq129.1) Kq134.1) E136.1) E138.1)) (ze g139.symm)))
  have nq164 : dd ≠ b136 := (zn (zl (zl VD.lt (zt (zt (zt (zt E124.1 E126.1) E127.1) Kq129.1) Kq134.1)) (ze g136.symm)))
  have nq165 : dd ≠ b148 := (zn (zl (zl VD.lt (zt (zt (zt (zt (zt (zt (zt (zt (zt E124.1 E126.1) E127.1) Kq129.1) Kq134.1) E136.1) E138.1) E139.1) Kq141.1) Kq146.1)) (ze g148.symm)))
  have nq166 : dd ≠ b153 := (zn (zl (zl VD.lt (zt (zt (zt (zt (zt (zt (zt (zt (zt (zt (zt E124.1 E126.1) E127.1) Kq129.1) Kq134.1) E136.1) E138.1) E139.1) Kq141.1) Kq146.1) E148.1) Kq151.1)) (ze g153.symm)))
  have fq167 : Arv Z T155.heap dd kd (.object "java/lang/Object") (0 : Int32) [] .null := ((((((((((((((VD.ext E124).ext E126).ext E127).keep Kq129 (ninS nq161 nin0)).keep Kq134 (ninS nq162 nin0)).ext E136).ext E138).ext E139).keep Kq141 (ninS nq163 nin0)).keep Kq146 (ninS nq164 nin0)).ext E148).keep Kq151 (ninS nq165 nin0)).ext E153).keep Kq155 (ninS nq166 nin0))
  have fq168 : Exa Z T155.heap dd "[Ljava/lang/Object;" := ((((((((((((((ED.ext E124).ext E126).ext E127).keep Kq129).keep Kq134).ext E136).ext E138).ext E139).keep Kq141).keep Kq146).ext E148).keep Kq151).ext E153).keep Kq155)
  have fq169 : Exa Z T155.heap b136 "org/counterpath/model/Variable" := (((((fq142.keep Kq146).ext E148).keep Kq151).ext E153).keep Kq155)
  have fq170 : Old Z n0 T155.heap := (((fq150.keep Kq151 (allS g_b148 all0)).ext E153).keep Kq155 (allS g_b153 all0))
  obtain ⟨cq171, kq171, q171a, q171b, q171c⟩ := isOf hZ rfl fq159
  obtain ⟨_, _, ⟨T171, L171, k171, n171⟩, -, X171, ⟨Lc171, hQ171, l171, y171, z171⟩, st171⟩ := X155.interfaceBack hx (xi := (⟨"java/util/List", "add", "(Ljava/lang/Object;)Z"⟩ : MethodName)) (y := (⟨"java/util/ArrayList", "add", "(Ljava/lang/Object;)Z"⟩ : MethodName)) hown (mvT hZ (zw hw 69 rfl)) (mvT hZ (zw hw 70 rfl)) (mvT hZ (zw hw 71 rfl)) (mvT hZ (zw hw 72 rfl)) (mvT hZ (zw hw 73 rfl)) (mvT hZ (zw hw 74 rfl)) (mvT hZ (zw hw 75 rfl)) (mvT hZ (zw hw 76 rfl)) (by decide) (backOf (W := 0) (rm10 l Z aZ hw [] b148 b136 dd kd (0 : Int32) T155.heap n0 (zt Z0 K155.1) fq170 fq159 ((P151_0.ext E153).keep Kq155 (ninS nq160 nin0)) ((P151_1.ext E153).keep Kq155 (ninS nq160 nin0)) ((P151_2.ext E153).keep Kq155 (ninS nq160 nin0)) SD fq167 fq168 fq169 nq165 g_b148) hZ (zw hw 77 rfl) (zw hw 47 rfl) (by decide) (by decide)) q171a q171b q171c (g := (mkF m 151 (z9 q0 q1 q2 q3 q4 q5 v103 v106 v108 v110 v112 v116 v120 b124 b136 b148 b153) [.ref b136, .ref b148])) rfl (by rw [hml]; rfl) (Steps.refl _) (argsL := [.ref b136]) (rest := []) (lenOf pd_18 rfl) rfl (by show 2 * 0 + _ ≤ _; exact ze rfl) (hb hby at_151) (fun _ _ => ⟨rfl, rfl, (by decide : 10 + 1 ≤ _), (by decide : 30 + 10 ≤ _)⟩)
  dsimp only [Pt.U, Pt.locs, Pt.cells, Pt.slots] at X171 l171 y171 z171 st171 hQ171
  rw [l171, y171, z171] at X171
  obtain ⟨ed171, ke171, rfl, N171q, Kq171, P171_0, P171_1, P171_2, P171_3, P171_4, R171_0, R171_1⟩ := hQ171
  have N171 := Fr.app N155 N171q
  refine OFinW.tr st171 ?_
  have K171 : Keep h0 T171.heap [] := K155.trans Kq171 (allS (Or.inr sz_b148) all0)
  have g_ed171 : n0 ≤ ed171 := zt (zt Z0 K155.1) R171_0
  have sz_ed171 : h0.size ≤ ed171 := zt K155.1 R171_0
  -- grown
  have sg172 : zg p e below T171 m 171 (z9 q0 q1 q2 q3 q4 q5 v103 v106 v108 v110 v112 v116 v120 b124 b136 b148 b153) [.ref b124, .ref b153] 156 (z9 q0 q1 q2 q3 q4 q5 v103 v106 v108 v110 v112 v116 v120 b124 b136 b148 b153) [.int 1] := by
   intro t k
   refine XS.pop X171.here hx rfl (hb hby at_156) rfl rfl ?_
   show zs p e below T171 m 157 (z9 q0 q1 q2 q3 q4 q5 v103 v106 v108 v110 v112 v116 v120 b124 b136 b148 b153) [] t
   refine XS.aload X171.here hx rfl (hb hby at_157) rfl rfl ?_
   show zs p e below T171 m 159 (z9 q0 q1 q2 q3 q4 q5 v103 v106 v108 v110 v112 v116 v120 b124 b136 b148 b153) [.ref b153] t
   refine XS.iload X171.here hx rfl (hb hby at_159) rfl ?_
   show zs p e below T171 m 161 (z9 q0 q1 q2 q3 q4 q5 v103 v106 v108 v110 v112 v116 v120 b124 b136 b148 b153) [.int v112, .ref b153] t
   refine XS.ifYes X171.here hx rfl (pc0 := 161) (pc' := 169) rfl (hb hby at_161) rfl ((if0 _ _).trans (teq c157).1) (by decide) (by decide) ?_
   show zs p e below T171 m 169 (z9 q0 q1 q2 q3 q4 q5 v103 v106 v108 v110 v112 v116 v120 b124 b136 b148 b153) [.ref b153] t
   refine XS.aload X171.here hx rfl (hb hby at_169) rfl rfl ?_
   exact k
  refine OFinW.go sg172 ?_
  have fq173 : Exa Z T171.heap b124 "org/counterpath/model/Variable" := (((((((((((fq130.keep Kq134).ext E136).ext E138).ext E139).keep Kq141).keep Kq146).ext E148).keep Kq151).ext E153).keep Kq155).keep Kq171)
  obtain ⟨cq174, kq174, q174a, q174b, q174c⟩ := isOf hZ rfl ((A153.keep Kq155).keep Kq171)
  obtain ⟨_, _, ⟨T174, L174, k174, n174⟩, -, X174, ⟨Lc174, hQ174, l174, y174, z174⟩, st174⟩ := X171.interfaceBack hx (xi := (⟨"java/util/List", "add", "(Ljava/lang/Object;)Z"⟩ : MethodName)) (y := (⟨"java/util/ArrayList", "add", "(Ljava/lang/Object;)Z"⟩ : MethodName)) hown (mvT hZ (zw hw 69 rfl)) (mvT hZ (zw hw 70 rfl)) (mvT hZ (zw hw 71 rfl)) (mvT hZ (zw hw 72 rfl)) (mvT hZ (zw hw 73 rfl)) (mvT hZ (zw hw 74 rfl)) (mvT hZ (zw hw 75 rfl)) (mvT hZ (zw hw 76 rfl)) (by decide) (backOf (W := 0) (rm10 l Z aZ hw [] b153 b124 dd kd (0 : Int32) T171.heap n0 (zt Z0 K171.1) (fq170.keep Kq171 (allS g_b148 all0)) ((A153.keep Kq155).keep Kq171) (P155_0.keep Kq171 (ninS (Ne.symm nq160) nin0)) (P155_1.keep Kq171 (ninS (Ne.symm nq160) nin0)) (P155_2.keep Kq171 (ninS (Ne.symm nq160) nin0)) SD (fq167.keep Kq171 (ninS nq165 nin0)) (fq168.keep Kq171) fq173 nq166 g_b153) hZ (zw hw 77 rfl) (zw hw 47 rfl) (by decide) (by decide)) q174a q174b q174c (g := (mkF m 171 (z9 q0 q1 q2 q3 q4 q5 v103 v106 v108 v110 v112 v116 v120 b124 b136 b148 b153) [.ref b124, .ref b153])) rfl (by rw [hml]; rfl) (Steps.refl _) (argsL := [.ref b124]) (rest := []) (lenOf pd_18 rfl) rfl (by show 2 * 0 + _ ≤ _; exact ze rfl) (hb hby at_171) (fun _ _ => ⟨rfl, rfl, (by decide : 11 + 1 ≤ _), (by decide : 40 + 10 ≤ _)⟩)
  dsimp only [Pt.U, Pt.locs, Pt.cells, Pt.slots] at X174 l174 y174 z174 st174 hQ174
  rw [l174, y174, z174] at X174
  obtain ⟨ed174, ke174, rfl, N174q, Kq174, P174_0, P174_1, P174_2, P174_3, P174_4, R174_0, R174_1⟩ := hQ174
  have N174 := Fr.app N171 N174q
  refine OFinW.tr st174 ?_
  have K174 : Keep h0 T174.heap [] := K171.trans Kq174 (allS (Or.inr sz_b153) all0)
  have g_ed174 : n0 ≤ ed174 := zt (zt Z0 K171.1) R174_0
  have sz_ed174 : h0.size ≤ ed174 := zt K171.1 R174_0
  -- grown
  have sg175 : zg p e below T174 m 177 (z9 q0 q1 q2 q3 q4 q5 v103 v106 v108 v110 v112 v116 v120 b124 b136 b148 b153) [] 176 (z9 q0 q1 q2 q3 q4 q5 v103 v106 v108 v110 v112 v116 v120 b124 b136 b148 b153) [.int 1] := by
   intro t k
   refine XS.pop X174.here hx rfl (hb hby at_176) rfl rfl ?_
   exact k
  refine OFinW.go sg175 ?_
  obtain ⟨T176, h176, X176, e176, E176, A176, D176, -, st176⟩ := newO X174 hx hZ hown (zw hw 103 rfl) (zw hw 104 rfl) (zw hw 105 rfl) rfl (g := (mkF m 177 (z9 q0 q1 q2 q3 q4 q5 v103 v106 v108 v110 v112 v116 v120 b124 b136 b148 b153) [])) rfl (hb hby at_177) (by decide) (by decide)
  obtain ⟨b176, g176⟩ : ∃ z, z = T174.heap.size := ⟨_, rfl⟩
  rw [← g176] at A176 D176 st176
  refine OFinW.go st176 ?_
  have g_b176 : n0 ≤ b176 := zt (zt Z0 K174.1) (ze g176.symm)
  have sz_b176 : h0.size ≤ b176 := zt K174.1 (ze g176.symm)
  have K176 : Keep h0 h176 [] := K174.ext E176
  have F176__variables : Fld Z h176 b176 "org/counterpath/engine/Encoding" "_variables" "Ljava/util/List;" .null := D176 (Or.inr (zw hw 113 rfl)) (ty := (.object "java/util/List")) (by decide)
  have F176__codeOf : Fld Z h176 b176 "org/counterpath/engine/Encoding" "_codeOf" "Ljava/util/Map;" .null := D176 (Or.inr (zw hw 131 rfl)) (ty := (.object "java/util/Map")) (by decide)
  have F176__firstInput : Fld Z h176 b176 "org/counterpath/engine/Encoding" "_firstInput" "I" (.int 0) := D176 (Or.inr (zw hw 181 rfl)) (ty := .int) (by decide)
  have F176__firstBits : Fld Z h176 b176 "org/counterpath/engine/Encoding" "_firstBits" "[I" .null := D176 (Or.inr (zw hw 184 rfl)) (ty := (.array .int)) (by decide)
  have F176__signed : Fld Z h176 b176 "org/counterpath/engine/Encoding" "_signed" "[Z" .null := D176 (Or.inr (zw hw 187 rfl)) (ty := (.array .boolean)) (by decide)
  have F176__codes : Fld Z h176 b176 "org/counterpath/engine/Encoding" "_codes" "[[J" .null := D176 (Or.inr (zw hw 191 rfl)) (ty := (.array (.array .long))) (by decide)
  have sg177 : zg p e below T176 m 185 (z9 q0 q1 q2 q3 q4 q5 v103 v106 v108 v110 v112 v116 v120 b124 b136 b148 b153) [.ref b153, .ref b148, .ref b176, .ref b176] 180 (z9 q0 q1 q2 q3 q4 q5 v103 v106 v108 v110 v112 v116 v120 b124 b136 b148 b153) [.ref b176] := by
   intro t k
   refine XS.dup X176.here hx rfl (hb hby at_180) rfl rfl ?_
   show zs p e below T176 m 181 (z9 q0 q1 q2 q3 q4 q5 v103 v106 v108 v110 v112 v116 v120 b124 b136 b148 b153) [.ref b176, .ref b176] t
   refine XS.aload X176.here hx rfl (hb hby at_181) rfl rfl ?_
   show zs p e below T176 m 183 (z9 q0 q1 q2 q3 q4 q5 v103 v106 v108 v110 v112 v116 v120 b124 b136 b148 b153) [.ref b148, .ref b176, .ref b176] t
   refine XS.aload X176.here hx rfl (hb hby at_183) rfl rfl ?_
   exact k
  refine OFinW.go sg177 ?_
  have fq178 : Arv Z h176 dd kd (.object "java/lang/Object") (0 : Int32) [] .null := (((fq167.keep Kq171 (ninS nq165 nin0)).keep Kq174 (ninS nq166 nin0)).ext E176)
  have fq179 : Exa Z h176 dd "[Ljava/lang/Object;" := (((fq168.keep Kq171).keep Kq174).ext E176)
  have fq180 : Exa Z h176 b148 "java/util/ArrayList" := (((fq159.keep Kq171).keep Kq174).ext E176)
  have nq181 : b153 ≠ ed171 := (zn (zl (zl A153.lt Kq155.1) R171_0))
  have nq182 : ed171 ≠ b153 := (Ne.symm nq181)
  have fq183 : Exa Z h176 b136 "org/counterpath/model/Variable" := (((fq169.keep Kq171).keep Kq174).ext E176)
  have nq184 : b136 ≠ b148 := (zn (zl (zl A136.lt (zt (zt (zt E138.1 E139.1) Kq141.1) Kq146.1)) (ze g148.symm)))
  have nq185 : b136 ≠ b153 := (zn (zl (zl A136.lt (zt (zt (zt (zt (zt E138.1 E139.1) Kq141.1) Kq146.1) E148.1) Kq151.1)) (ze g153.symm)))
  have fq186 : Fld Z h176 b136 "org/counterpath/model/Variable" "type" "Lorg/counterpath/model/Type;" (.ref b139) := (((((((P146_0.ext E148).keep Kq151 (ninS nq184 nin0)).ext E153).keep Kq155 (ninS nq185 nin0)).keep Kq171 (ninS nq184 nin0)).keep Kq174 (ninS nq185 nin0)).ext E176)
  have fq187 : Exa Z h176 b139 "org/counterpath/model/Type$Range" := (((((((((A139.keep Kq141).keep Kq146).ext E148).keep Kq151).ext E153).keep Kq155).keep Kq171).keep Kq174).ext E176)
  have nq188 : b139 ≠ b148 := (zn (zl (zl A139.lt (zt Kq141.1 Kq146.1)) (ze g148.symm)))
  have nq189 : b139 ≠ b153 := (zn (zl (zl A139.lt (zt (zt (zt Kq141.1 Kq146.1) E148.1) Kq151.1)) (ze g153.symm)))
  have fq190 : Fld Z h176 b139 "org/counterpath/model/Type$Range" "low" "J" (.long v108) := ((((((((P141_0.keep Kq146 (ninS (Ne.symm nq143) nin0)).ext E148).keep Kq151 (ninS nq188 nin0)).ext E153).keep Kq155 (ninS nq189 nin0)).keep Kq171 (ninS nq188 nin0)).keep Kq174 (ninS nq189 nin0)).ext E176)
  have fq191 : Fld Z h176 b139 "org/counterpath/model/Type$Range" "high" "J" (.long v110) := ((((((((P141_1.keep Kq146 (ninS (Ne.symm nq143) nin0)).ext E148).keep Kq151 (ninS nq188 nin0)).ext E153).keep Kq155 (ninS nq189 nin0)).keep Kq171 (ninS nq188 nin0)).keep Kq174 (ninS nq189 nin0)).ext E176)
  have fq192 : Exa Z h176 b153 "java/util/ArrayList" := ((((A153.keep Kq155).keep Kq171).keep Kq174).ext E176)
  have nq193 : b124 ≠ b139 := (zn (zl (zl A124.lt (zt (zt (zt (zt (zt E126.1 E127.1) Kq129.1) Kq134.1) E136.1) E138.1)) (ze g139.symm)))
  have nq194 : b124 ≠ b136 := (zn (zl (zl A124.lt (zt (zt (zt E126.1 E127.1) Kq129.1) Kq134.1)) (ze g136.symm)))
  have nq195 : b124 ≠ b148 := (zn (zl (zl A124.lt (zt (zt (zt (zt (zt (zt (zt (zt E126.1 E127.1) Kq129.1) Kq134.1) E136.1) E138.1) E139.1) Kq141.1) Kq146.1)) (ze g148.symm)))
  have nq196 : b124 ≠ b153 := (zn (zl (zl A124.lt (zt (zt (zt (zt (zt (zt (zt (zt (zt (zt E126.1 E127.1) Kq129.1) Kq134.1) E136.1) E138.1) E139.1) Kq141.1) Kq146.1) E148.1) Kq151.1)) (ze g153.symm)))
  have fq197 : Fld Z h176 b124 "org/counterpath/model/Variable" "type" "Lorg/counterpath/model/Type;" (.ref b127) := ((((((((((((P134_0.ext E136).ext E138).ext E139).keep Kq141 (ninS nq193 nin0)).keep Kq146 (ninS nq194 nin0)).ext E148).keep Kq151 (ninS nq195 nin0)).ext E153).keep Kq155 (ninS nq196 nin0)).keep Kq171 (ninS nq195 nin0)).keep Kq174 (ninS nq196 nin0)).ext E176)
  have fq198 : Exa Z h176 b127 "org/counterpath/model/Type$Range" := ((((((((((((((A127.keep Kq129).keep Kq134).ext E136).ext E138).ext E139).keep Kq141).keep Kq146).ext E148).keep Kq151).ext E153).keep Kq155).keep Kq171).keep Kq174).ext E176)
  have nq199 : b127 ≠ b139 := (zn (zl (zl A127.lt (zt (zt (zt Kq129.1 Kq134.1) E136.1) E138.1)) (ze g139.symm)))
  have nq200 : b127 ≠ b136 := (zn (zl (zl A127.lt (zt Kq129.1 Kq134.1)) (ze g136.symm)))
  have nq201 : b127 ≠ b148 := (zn (zl (zl A127.lt (zt (zt (zt (zt (zt (zt Kq129.1 Kq134.1) E136.1) E138.1) E139.1) Kq141.1) Kq146.1)) (ze g148.symm)))
  have nq202 : b127 ≠ b153 := (zn (zl (zl A127.lt (zt (zt (zt (zt (zt (zt (zt (zt Kq129.1 Kq134.1) E136.1) E138.1) E139.1) Kq141.1) Kq146.1) E148.1) Kq151.1)) (ze g153.symm)))
  have fq203 : Fld Z h176 b127 "org/counterpath/model/Type$Range" "low" "J" (.long v103) := (((((((((((((P129_0.keep Kq134 (ninS (Ne.symm nq131) nin0)).ext E136).ext E138).ext E139).keep Kq141 (ninS nq199 nin0)).keep Kq146 (ninS nq200 nin0)).ext E148).keep Kq151 (ninS nq201 nin0)).ext E153).keep Kq155 (ninS nq202 nin0)).keep Kq171 (ninS nq201 nin0)).keep Kq174 (ninS nq202 nin0)).ext E176)
  have fq204 : Fld Z h176 b127 "org/counterpath/model/Type$Range" "high" "J" (.long v106) := (((((((((((((P129_1.keep Kq134 (ninS (Ne.symm nq131) nin0)).ext E136).ext E138).ext E139).keep Kq141 (ninS nq199 nin0)).keep Kq146 (ninS nq200 nin0)).ext E148).keep Kq151 (ninS nq201 nin0)).ext E153).keep Kq155 (ninS nq202 nin0)).keep Kq171 (ninS nq201 nin0)).keep Kq174 (ninS nq202 nin0)).ext E176)
  have fq205 : Old Z n0 h176 := (((fq170.keep Kq171 (allS g_b148 all0)).keep Kq174 (allS g_b153 all0)).ext E176)
  have nq206 : b148 ≠ b176 := (zn (zl (zl A148.lt (zt (zt (zt (zt Kq151.1 E153.1) Kq155.1) Kq171.1) Kq174.1)) (ze g176.symm)))
  have nq207 : ed171 ≠ b176 := (zn (zl (zl P171_3.lt Kq174.1) (ze g176.symm)))
  have nq208 : b136 ≠ b176 := (zn (zl (zl A136.lt (zt (zt (zt (zt (zt (zt (zt (zt (zt E138.1 E139.1) Kq141.1) Kq146.1) E148.1) Kq151.1) E153.1) Kq155.1) Kq171.1) Kq174.1)) (ze g176.symm)))
  have nq209 : b139 ≠ b176 := (zn (zl (zl A139.lt (zt (zt (zt (zt (zt (zt (zt Kq141.1 Kq146.1) E148.1) Kq151.1) E153.1) Kq155.1) Kq171.1) Kq174.1)) (ze g176.symm)))
  have nq210 : b153 ≠ b176 := (zn (zl (zl A153.lt (zt (zt Kq155.1 Kq171.1) Kq174.1)) (ze g176.symm)))
  have nq211 : ed174 ≠ b176 := (zn (zl P174_3.lt (ze g176.symm)))
  have nq212 : b124 ≠ b176 := (zn (zl (zl A124.lt (zt (zt (zt (zt (zt (zt (zt (zt (zt (zt (zt (zt (zt (zt E126.1 E127.1) Kq129.1) Kq134.1) E136.1) E138.1) E139.1) Kq141.1) Kq146.1) E148.1) Kq151.1) E153.1) Kq155.1) Kq171.1) Kq174.1)) (ze g176.symm)))
  have nq213 : b127 ≠ b176 := (zn (zl (zl A127.lt (zt (zt (zt (zt (zt (zt (zt (zt (zt (zt (zt (zt Kq129.1 Kq134.1) E136.1) E138.1) E139.1) Kq141.1) Kq146.1) E148.1) Kq151.1) E153.1) Kq155.1) Kq171.1) Kq174.1)) (ze g176.symm)))
  have nq214 : dd ≠ b176 := (zn (zl (zl VD.lt (zt (zt (zt (zt (zt (zt (zt (zt (zt (zt (zt (zt (zt (zt (zt E124.1 E126.1) E127.1) Kq129.1) Kq134.1) E136.1) E138.1) E139.1) Kq141.1) Kq146.1) E148.1) Kq151.1) E153.1) Kq155.1) Kq171.1) Kq174.1)) (ze g176.symm)))
  obtain ⟨_, _, ⟨T215, L215, k215, n215⟩, -, X215, ⟨Lc215, hQ215, l215, y215, z215⟩, st215⟩ := X176.specialBack hx (y := (⟨"org/counterpath/engine/Encoding", "<init>", "(Ljava/util/List;Ljava/util/List;)V"⟩ : MethodName)) rfl hown (mvT hZ (zw hw 106 rfl)) (mvT hZ (zw hw 107 rfl)) (mvT hZ (zw hw 108 rfl)) (by decide) (backOf (W := 1) (rm15 l Z aZ hw [] b176 b148 b153 dd kd mr ((0 : Int32) + (1 : Int32)) ed171 ke171 b136 b139 v108 v110 ((0 : Int32) + (1 : Int32)) ed174 ke174 b124 b127 v103 v106 h176 n0 (zt Z0 K176.1) fq205 A176 F176__variables F176__codeOf F176__firstInput F176__firstBits F176__signed F176__codes SD fq178 fq179 fq180 ((P171_0.keep Kq174 (ninS nq160 nin0)).ext E176) ((P171_1.keep Kq174 (ninS nq160 nin0)).ext E176) ((P171_2.keep Kq174 (ninS nq160 nin0)).ext E176) ((P171_3.keep Kq174 (ninS nq182 nin0)).ext E176) ((P171_4.keep Kq174).ext E176) fq183 fq186 fq187 fq190 fq191 fq192 (P174_0.ext E176) (P174_1.ext E176) (P174_2.ext E176) (P174_3.ext E176) (P174_4.ext E176) ((fq173.keep Kq174).ext E176) fq197 fq198 fq203 fq204 hM nq206 nq207 nq208 nq209 nq210 nq211 nq212 nq213 nq214 g_b176) hZ (zw hw 108 rfl) (zw hw 105 rfl) (by decide) (by decide)) (g := (mkF m 185 (z9 q0 q1 q2 q3 q4 q5 v103 v106 v108 v110 v112 v116 v120 b124 b136 b148 b153) [.ref b153, .ref b148, .ref b176, .ref b176])) rfl (by rw [hml]; rfl) (Steps.refl _) (a := b176) (argsL := [.ref b148, .ref b153]) (rest := [.ref b176]) (lenOf pd_19 rfl) rfl (by show 2 * 0 + _ ≤ _; exact ze rfl) (hb hby at_185) (fun _ _ => ⟨rfl, e176, (by decide : 13 + 8 ≤ _), (by decide : 56 + 30 ≤ _)⟩)
  dsimp only [Pt.U, Pt.locs, Pt.cells, Pt.slots] at X215 l215 y215 z215 st215 hQ215
  rw [l215, y215, z215] at X215
  obtain ⟨fb215, kf215, sg215, ks215, cd215, kc215, rfl, N215q, Kq215, P215_0, P215_1, P215_2, P215_3, P215_4, P215_5, R215_0, R215_1, R215_2⟩ := hQ215
  have N215 := Fr.app N174 N215q
  refine OFinW.tr st215 ?_
  have K215 : Keep h0 T215.heap [] := K176.trans Kq215 (allS (Or.inr sz_b176) all0)
  have g_fb215 : n0 ≤ fb215 := zt (zt Z0 K176.1) R215_0
  have sz_fb215 : h0.size ≤ fb215 := zt K176.1 R215_0
  have g_sg215 : n0 ≤ sg215 := zt (zt Z0 K176.1) R215_1
  have sz_sg215 : h0.size ≤ sg215 := zt K176.1 R215_1
  have g_cd215 : n0 ≤ cd215 := zt (zt Z0 K176.1) R215_2
  have sz_cd215 : h0.size ≤ cd215 := zt K176.1 R215_2
  have sg216 : zg p e below T215 m 190 (z33 q0 q1 q2 q3 q4 q5 v103 v106 v108 v110 v112 v116 v120 b124 b136 b148 b153 b176) [] 188 (z9 q0 q1 q2 q3 q4 q5 v103 v106 v108 v110 v112 v116 v120 b124 b136 b148 b153) [.ref b176] := by
   intro t k
   refine XS.astore X215.here hx rfl (hb hby at_188) rfl rfl (l' := (z33 q0 q1 q2 q3 q4 q5 v103 v106 v108 v110 v112 v116 v120 b124 b136 b148 b153 b176)) rfl ?_
   exact k
  refine OFinW.go sg216 ?_
  exact pt0_190 Z aZ hw q0 q1 q2 q3 q4 q5 dd kd mr h0 n0 Z0 SD hM v103 v106 v108 v110 v112 v116 v120 b124 b136 b148 b153 b176 fb215 kf215 sg215 ks215 cd215 kc215 ((0 : Int32) + (own_wd v108 v110)) (((0 : Int32) + (own_wd v108 v110)) + (own_wd v103 v106)) v108 v110 v103 v106 T215.heap X215 hx hZ hby hml hown hnm hS (zt (zt (zt (zt (zt (zt (zt (zt (zt (zt (zt hk E139.1) Kq141.1) Kq146.1) E148.1) Kq151.1) E153.1) Kq155.1) Kq171.1) Kq174.1) E176.1) Kq215.1) hstr hret hlk rfl K215 N215 (fq205.keep Kq215 (allS g_b176 all0)) g_b176 sz_b176 g_fb215 sz_fb215 g_sg215 sz_sg215 g_cd215 sz_cd215 (A176.keep Kq215) P215_0 P215_1 P215_2 P215_3 P215_4 P215_5 (own_mm e_v103 e_v106) (own_sm e_v108 e_v110) (Or.inl ⟨c157, rfl, rfl, rfl, rfl⟩) (by rw [e_v116]; split; exact Or.inl rfl; exact Or.inr rfl : v116 = (0 : Int32) ∨ v116 = (1 : Int32)) (by rw [e_v120]; split; exact Or.inl rfl; exact Or.inr rfl : v120 = (0 : Int32) ∨ v120 = (1 : Int32)) (own_fs (own_sm e_v108 e_v110) (own_mm e_v103 e_v106)).1 (own_fs (own_sm e_v108 e_v110) (own_mm e_v103 e_v106)).2.1 (own_fs (own_sm e_v108 e_v110) (own_mm e_v103 e_v106)).2.2
 ·have sg217 : zg p e below T155 m 151 (z9 q0 q1 q2 q3 q4 q5 v103 v106 v108 v110 v112 v116 v120 b124 b136 b148 b153) [.ref b124, .ref b148] 141 (z9 q0 q1 q2 q3 q4 q5 v103 v106 v108 v110 v112 v116 v120 b124 b136 b148 b153) [.int v112, .ref b148] := by
   intro t k
   refine XS.ifNo X155.here hx rfl (hb hby at_141) rfl ((if0 _ _).trans (feq c157).1) ?_
   show zs p e below T155 m 144 (z9 q0 q1 q2 q3 q4 q5 v103 v106 v108 v110 v112 v116 v120 b124 b136 b148 b153) [.ref b148] t
   refine XS.aload X155.here hx rfl (hb hby at_144) rfl rfl ?_
   show zs p e below T155 m 146 (z9 q0 q1 q2 q3 q4 q5 v103 v106 v108 v110 v112 v116 v120 b124 b136 b148 b153) [.ref b124, .ref b148] t
   refine XS.goto X155.here hx rfl (pc0 := 146) (pc' := 151) rfl (hb hby at_146) (by decide) (by decide) ?_
   exact k
  refine OFinW.go sg217 ?_
  have fq218 : Exa Z T155.heap b148 "java/util/ArrayList" := (((A148.keep Kq151).ext E153).keep Kq155)
  have nq219 : b148 ≠ b153 := (zn (zl (zl A148.lt Kq151.1) (ze g153.symm)))
  have nq220 : dd ≠ b127 := (zn (zl (zl VD.lt (zt E124.1 E126.1)) (ze g127.symm)))
  have nq221 : dd ≠ b124 := (zn (zl VD.lt (ze g124.symm)))
  have nq222 : dd ≠ b139 := (zn (zl (zl VD.lt (zt (zt (zt (zt (zt (zt E124.1 E126.1) E127.1) Kq129.1) Kq134.1) E136.1) E138.1)) (ze g139.symm)))
  have nq223 : dd ≠ b136 := (zn (zl (zl VD.lt (zt (zt (zt (zt E124.1 E126.1) E127.1) Kq129.1) Kq134.1)) (ze g136.symm)))
  have nq224 : dd ≠ b148 := (zn (zl (zl VD.lt (zt (zt (zt (zt (zt (zt (zt (zt (zt E124.1 E126.1) E127.1) Kq129.1) Kq134.1) E136.1) E138.1) E139.1) Kq141.1) Kq146.1)) (ze g148.symm)))
  have nq225 : dd ≠ b153 := (zn (zl (zl VD.lt (zt (zt (zt (zt (zt (zt (zt (zt (zt (zt (zt E124.1 E126.1) E127.1) Kq129.1) Kq134.1) E136.1) E138.1) E139.1) Kq141.1) Kq146.1) E148.1) Kq151.1)) (ze g153.symm)))
  have fq226 : Arv Z T155.heap dd kd (.object "java/lang/Object") (0 : Int32) [] .null := ((((((((((((((VD.ext E124).ext E126).ext E127).keep Kq129 (ninS nq220 nin0)).keep Kq134 (ninS nq221 nin0)).ext E136).ext E138).ext E139).keep Kq141 (ninS nq222 nin0)).keep Kq146 (ninS nq223 nin0)).ext E148).keep Kq151 (ninS nq224 nin0)).ext E153).keep Kq155 (ninS nq225 nin0))
  have fq227 : Exa Z T155.heap dd "[Ljava/lang/Object;" := ((((((((((((((ED.ext E124).ext E126).ext E127).keep Kq129).keep Kq134).ext E136).ext E138).ext E139).keep Kq141).keep Kq146).ext E148).keep Kq151).ext E153).keep Kq155)
  have fq228 : Exa Z T155.heap b124 "org/counterpath/model/Variable" := ((((((((((fq130.keep Kq134).ext E136).ext E138).ext E139).keep Kq141).keep Kq146).ext E148).keep Kq151).ext E153).keep Kq155)
  have fq229 : Old Z n0 T155.heap := (((fq150.keep Kq151 (allS g_b148 all0)).ext E153).keep Kq155 (allS g_b153 all0))
  obtain ⟨cq230, kq230, q230a, q230b, q230c⟩ := isOf hZ rfl fq218
  obtain ⟨_, _, ⟨T230, L230, k230, n230⟩, -, X230, ⟨Lc230, hQ230, l230, y230, z230⟩, st230⟩ := X155.interfaceBack hx (xi := (⟨"java/util/List", "add", "(Ljava/lang/Object;)Z"⟩ : MethodName)) (y := (⟨"java/util/ArrayList", "add", "(Ljava/lang/Object;)Z"⟩ : MethodName)) hown (mvT hZ (zw hw 69 rfl)) (mvT hZ (zw hw 70 rfl)) (mvT hZ (zw hw 71 rfl)) (mvT hZ (zw hw 72 rfl)) (mvT hZ (zw hw 73 rfl)) (mvT hZ (zw hw 74 rfl)) (mvT hZ (zw hw 75 rfl)) (mvT hZ (zw hw 76 rfl)) (by decide) (backOf (W := 0) (rm10 l Z aZ hw [] b148 b124 dd kd (0 : Int32) T155.heap n0 (zt Z0 K155.1) fq229 fq218 ((P151_0.ext E153).keep Kq155 (ninS nq219 nin0)) ((P151_1.ext E153).keep Kq155 (ninS nq219 nin0)) ((P151_2.ext E153).keep Kq155 (ninS nq219 nin0)) SD fq226 fq227 fq228 nq224 g_b148) hZ (zw hw 77 rfl) (zw hw 47 rfl) (by decide) (by decide)) q230a q230b q230c (g := (mkF m 151 (z9 q0 q1 q2 q3 q4 q5 v103 v106 v108 v110 v112 v116 v120 b124 b136 b148 b153) [.ref b124, .ref b148])) rfl (by rw [hml]; rfl) (Steps.refl _) (argsL := [.ref b124]) (rest := []) (lenOf pd_18 rfl) rfl (by show 2 * 0 + _ ≤ _; exact ze rfl) (hb hby at_151) (fun _ _ => ⟨rfl, rfl, (by decide : 10 + 1 ≤ _), (by decide : 30 + 10 ≤ _)⟩)
  dsimp only [Pt.U, Pt.locs, Pt.cells, Pt.slots] at X230 l230 y230 z230 st230 hQ230
  rw [l230, y230, z230] at X230
  obtain ⟨ed230, ke230, rfl, N230q, Kq230, P230_0, P230_1, P230_2, P230_3, P230_4, R230_0, R230_1⟩ := hQ230
  have N230 := Fr.app N155 N230q
  refine OFinW.tr st230 ?_
  have K230 : Keep h0 T230.heap [] := K155.trans Kq230 (allS (Or.inr sz_b148) all0)
  have g_ed230 : n0 ≤ ed230 := zt (zt Z0 K155.1) R230_0
  have sz_ed230 : h0.size ≤ ed230 := zt K155.1 R230_0
  -- grown
  have sg231 : zg p e below T230 m 171 (z9 q0 q1 q2 q3 q4 q5 v103 v106 v108 v110 v112 v116 v120 b124 b136 b148 b153) [.ref b136, .ref b153] 156 (z9 q0 q1 q2 q3 q4 q5 v103 v106 v108 v110 v112 v116 v120 b124 b136 b148 b153) [.int 1] := by
   intro t k
   refine XS.pop X230.here hx rfl (hb hby at_156) rfl rfl ?_
   show zs p e below T230 m 157 (z9 q0 q1 q2 q3 q4 q5 v103 v106 v108 v110 v112 v116 v120 b124 b136 b148 b153) [] t
   refine XS.aload X230.here hx rfl (hb hby at_157) rfl rfl ?_
   show zs p e below T230 m 159 (z9 q0 q1 q2 q3 q4 q5 v103 v106 v108 v110 v112 v116 v120 b124 b136 b148 b153) [.ref b153] t
   refine XS.iload X230.here hx rfl (hb hby at_159) rfl ?_
   show zs p e below T230 m 161 (z9 q0 q1 q2 q3 q4 q5 v103 v106 v108 v110 v112 v116 v120 b124 b136 b148 b153) [.int v112, .ref b153] t
   refine XS.ifNo X230.here hx rfl (hb hby at_161) rfl ((if0 _ _).trans (feq c157).1) ?_
   show zs p e below T230 m 164 (z9 q0 q1 q2 q3 q4 q5 v103 v106 v108 v110 v112 v116 v120 b124 b136 b148 b153) [.ref b153] t
   refine XS.aload X230.here hx rfl (hb hby at_164) rfl rfl ?_
   show zs p e below T230 m 166 (z9 q0 q1 q2 q3 q4 q5 v103 v106 v108 v110 v112 v116 v120 b124 b136 b148 b153) [.ref b136, .ref b153] t
   refine XS.goto X230.here hx rfl (pc0 := 166) (pc' := 171) rfl (hb hby at_166) (by decide) (by decide) ?_
   exact k
  refine OFinW.go sg231 ?_
  have fq232 : Exa Z T230.heap b136 "org/counterpath/model/Variable" := ((((((fq142.keep Kq146).ext E148).keep Kq151).ext E153).keep Kq155).keep Kq230)
  obtain ⟨cq233, kq233, q233a, q233b, q233c⟩ := isOf hZ rfl ((A153.keep Kq155).keep Kq230)
  obtain ⟨_, _, ⟨T233, L233, k233, n233⟩, -, X233, ⟨Lc233, hQ233, l233, y233, z233⟩, st233⟩ := X230.interfaceBack hx (xi := (⟨"java/util/List", "add", "(Ljava/lang/Object;)Z"⟩ : MethodName)) (y := (⟨"java/util/ArrayList", "add", "(Ljava/lang/Object;)Z"⟩ : MethodName)) hown (mvT hZ (zw hw 69 rfl)) (mvT hZ (zw hw 70 rfl)) (mvT hZ (zw hw 71 rfl)) (mvT hZ (zw hw 72 rfl)) (mvT hZ (zw hw 73 rfl)) (mvT hZ (zw hw 74 rfl)) (mvT hZ (zw hw 75 rfl)) (mvT hZ (zw hw 76 rfl)) (by decide) (backOf (W := 0) (rm10 l Z aZ hw [] b153 b136 dd kd (0 : Int32) T230.heap n0 (zt Z0 K230.1) (fq229.keep Kq230 (allS g_b148 all0)) ((A153.keep Kq155).keep Kq230) (P155_0.keep Kq230 (ninS (Ne.symm nq219) nin0)) (P155_1.keep Kq230 (ninS (Ne.symm nq219) nin0)) (P155_2.keep Kq230 (ninS (Ne.symm nq219) nin0)) SD (fq226.keep Kq230 (ninS nq224 nin0)) (fq227.keep Kq230) fq232 nq225 g_b153) hZ (zw hw 77 rfl) (zw hw 47 rfl) (by decide) (by decide)) q233a q233b q233c (g := (mkF m 171 (z9 q0 q1 q2 q3 q4 q5 v103 v106 v108 v110 v112 v116 v120 b124 b136 b148 b153) [.ref b136, .ref b153])) rfl (by rw [hml]; rfl) (Steps.refl _) (argsL := [.ref b136]) (rest := []) (lenOf pd_18 rfl) rfl (by show 2 * 0 + _ ≤ _; exact ze rfl) (hb hby at_171) (fun _ _ => ⟨rfl, rfl, (by decide : 11 + 1 ≤ _), (by decide : 40 + 10 ≤ _)⟩)
  dsimp only [Pt.U, Pt.locs, Pt.cells, Pt.slots] at X233 l233 y233 z233 st233 hQ233
  rw [l233, y233, z233] at X233
  obtain ⟨ed233, ke233, rfl, N233q, Kq233, P233_0, P233_1, P233_2, P233_3, P233_4, R233_0, R233_1⟩ := hQ233
  have N233 := Fr.app N230 N233q
  refine OFinW.tr st233 ?_
  have K233 : Keep h0 T233.heap [] := K230.trans Kq233 (allS (Or.inr sz_b153) all0)
  have g_ed233 : n0 ≤ ed233 := zt (zt Z0 K230.1) R233_0
  have sz_ed233 : h0.size ≤ ed233 := zt K230.1 R233_0
  -- grown
  have sg234 : zg p e below T233 m 177 (z9 q0 q1 q2 q3 q4 q5 v103 v106 v108 v110 v112 v116 v120 b124 b136 b148 b153) [] 176 (z9 q0 q1 q2 q3 q4 q5 v103 v106 v108 v110 v112 v116 v120 b124 b136 b148 b153) [.int 1] := by
   intro t k
   refine XS.pop X233.here hx rfl (hb hby at_176) rfl rfl ?_
   exact k
  refine OFinW.go sg234 ?_
  obtain ⟨T235, h235, X235, e235, E235, A235, D235, -, st235⟩ := newO X233 hx hZ hown (zw hw 103 rfl) (zw hw 104 rfl) (zw hw 105 rfl) rfl (g := (mkF m 177 (z9 q0 q1 q2 q3 q4 q5 v103 v106 v108 v110 v112 v116 v120 b124 b136 b148 b153) [])) rfl (hb hby at_177) (by decide) (by decide)
  obtain ⟨b235, g235⟩ : ∃ z, z = T233.heap.size := ⟨_, rfl⟩
  rw [← g235] at A235 D235 st235
  refine OFinW.go st235 ?_
  have g_b235 : n0 ≤ b235 := zt (zt Z0 K233.1) (ze g235.symm)
  have sz_b235 : h0.size ≤ b235 := zt K233.1 (ze g235.symm)
  have K235 : Keep h0 h235 [] := K233.ext E235
  have F235__variables : Fld Z h235 b235 "org/counterpath/engine/Encoding" "_variables" "Ljava/util/List;" .null := D235 (Or.inr (zw hw 113 rfl)) (ty := (.object "java/util/List")) (by decide)
  have F235__codeOf : Fld Z h235 b235 "org/counterpath/engine/Encoding" "_codeOf" "Ljava/util/Map;" .null := D235 (Or.inr (zw hw 131 rfl)) (ty := (.object "java/util/Map")) (by decide)
  have F235__firstInput : Fld Z h235 b235 "org/counterpath/engine/Encoding" "_firstInput" "I" (.int 0) := D235 (Or.inr (zw hw 181 rfl)) (ty := .int) (by decide)
  have F235__firstBits : Fld Z h235 b235 "org/counterpath/engine/Encoding" "_firstBits" "[I" .null := D235 (Or.inr (zw hw 184 rfl)) (ty := (.array .int)) (by decide)
  have F235__signed : Fld Z h235 b235 "org/counterpath/engine/Encoding" "_signed" "[Z" .null := D235 (Or.inr (zw hw 187 rfl)) (ty := (.array .boolean)) (by decide)
  have F235__codes : Fld Z h235 b235 "org/counterpath/engine/Encoding" "_codes" "[[J" .null := D235 (Or.inr (zw hw 191 rfl)) (ty := (.array (.array .long))) (by decide)
  have sg236 : zg p e below T235 m 185 (z9 q0 q1 q2 q3 q4 q5 v103 v106 v108 v110 v112 v116 v120 b124 b136 b148 b153) [.ref b153, .ref b148, .ref b235, .ref b235] 180 (z9 q0 q1 q2 q3 q4 q5 v103 v106 v108 v110 v112 v116 v120 b124 b136 b148 b153) [.ref b235] := by
   intro t k
   refine XS.dup X235.here hx rfl (hb hby at_180) rfl rfl ?_
   show zs p e below T235 m 181 (z9 q0 q1 q2 q3 q4 q5 v103 v106 v108 v110 v112 v116 v120 b124 b136 b148 b153) [.ref b235, .ref b235] t
   refine XS.aload X235.here hx rfl (hb hby at_181) rfl rfl ?_
   show zs p e below T235 m 183 (z9 q0 q1 q2 q3 q4 q5 v103 v106 v108 v110 v112 v116 v120 b124 b136 b148 b153) [.ref b148, .ref b235, .ref b235] t
   refine XS.aload X235.here hx rfl (hb hby at_183) rfl rfl ?_
   exact k
  refine OFinW.go sg236 ?_
  have fq237 : Arv Z h235 dd kd (.object "java/lang/Object") (0 : Int32) [] .null := (((fq226.keep Kq230 (ninS nq224 nin0)).keep Kq233 (ninS nq225 nin0)).ext E235)
  have fq238 : Exa Z h235 dd "[Ljava/lang/Object;" := (((fq227.keep Kq230).keep Kq233).ext E235)
  have fq239 : Exa Z h235 b148 "java/util/ArrayList" := (((fq218.keep Kq230).keep Kq233).ext E235)
  have nq240 : b153 ≠ ed230 := (zn (zl (zl A153.lt Kq155.1) R230_0))
  have nq241 : ed230 ≠ b153 := (Ne.symm nq240)
  have fq242 : Exa Z h235 b124 "org/counterpath/model/Variable" := (((fq228.keep Kq230).keep Kq233).ext E235)
  have nq243 : b124 ≠ b139 := (zn (zl (zl A124.lt (zt (zt (zt (zt (zt E126.1 E127.1) Kq129.1) Kq134.1) E136.1) E138.1)) (ze g139.symm)))
  have nq244 : b124 ≠ b136 := (zn (zl (zl A124.lt (zt (zt (zt E126.1 E127.1) Kq129.1) Kq134.1)) (ze g136.symm)))
  have nq245 : b124 ≠ b148 := (zn (zl (zl A124.lt (zt (zt (zt (zt (zt (zt (zt (zt E126.1 E127.1) Kq129.1) Kq134.1) E136.1) E138.1) E139.1) Kq141.1) Kq146.1)) (ze g148.symm)))
  have nq246 : b124 ≠ b153 := (zn (zl (zl A124.lt (zt (zt (zt (zt (zt (zt (zt (zt (zt (zt E126.1 E127.1) Kq129.1) Kq134.1) E136.1) E138.1) E139.1) Kq141.1) Kq146.1) E148.1) Kq151.1)) (ze g153.symm)))
  have fq247 : Fld Z h235 b124 "org/counterpath/model/Variable" "type" "Lorg/counterpath/model/Type;" (.ref b127) := ((((((((((((P134_0.ext E136).ext E138).ext E139).keep Kq141 (ninS nq243 nin0)).keep Kq146 (ninS nq244 nin0)).ext E148).keep Kq151 (ninS nq245 nin0)).ext E153).keep Kq155 (ninS nq246 nin0)).keep Kq230 (ninS nq245 nin0)).keep Kq233 (ninS nq246 nin0)).ext E235)
  have fq248 : Exa Z h235 b127 "org/counterpath/model/Type$Range" := ((((((((((((((A127.keep Kq129).keep Kq134).ext E136).ext E138).ext E139).keep Kq141).keep Kq146).ext E148).keep Kq151).ext E153).keep Kq155).keep Kq230).keep Kq233).ext E235)
  have nq249 : b127 ≠ b139 := (zn (zl (zl A127.lt (zt (zt (zt Kq129.1 Kq134.1) E136.1) E138.1)) (ze g139.symm)))
  have nq250 : b127 ≠ b136 := (zn (zl (zl A127.lt (zt Kq129.1 Kq134.1)) (ze g136.symm)))
  have nq251 : b127 ≠ b148 := (zn (zl (zl A127.lt (zt (zt (zt (zt (zt (zt Kq129.1 Kq134.1) E136.1) E138.1) E139.1) Kq141.1) Kq146.1)) (ze g148.symm)))
  have nq252 : b127 ≠ b153 := (zn (zl (zl A127.lt (zt (zt (zt (zt (zt (zt (zt (zt Kq129.1 Kq134.1) E136.1) E138.1) E139.1) Kq141.1) Kq146.1) E148.1) Kq151.1)) (ze g153.symm)))
  have fq253 : Fld Z h235 b127 "org/counterpath/model/Type$Range" "low" "J" (.long v103) := (((((((((((((P129_0.keep Kq134 (ninS (Ne.symm nq131) nin0)).ext E136).ext E138).ext E139).keep Kq141 (ninS nq249 nin0)).keep Kq146 (ninS nq250 nin0)).ext E148).keep Kq151 (ninS nq251 nin0)).ext E153).keep Kq155 (ninS nq252 nin0)).keep Kq230 (ninS nq251 nin0)).keep Kq233 (ninS nq252 nin0)).ext E235)
  have fq254 : Fld Z h235 b127 "org/counterpath/model/Type$Range" "high" "J" (.long v106) := (((((((((((((P129_1.keep Kq134 (ninS (Ne.symm nq131) nin0)).ext E136).ext E138).ext E139).keep Kq141 (ninS nq249 nin0)).keep Kq146 (ninS nq250 nin0)).ext E148).keep Kq151 (ninS nq251 nin0)).ext E153).keep Kq155 (ninS nq252 nin0)).keep Kq230 (ninS nq251 nin0)).keep Kq233 (ninS nq252 nin0)).ext E235)
  have fq255 : Exa Z h235 b153 "java/util/ArrayList" := ((((A153.keep Kq155).keep Kq230).keep Kq233).ext E235)
  have nq256 : b136 ≠ b148 := (zn (zl (zl A136.lt (zt (zt (zt E138.1 E139.1) Kq141.1) Kq146.1)) (ze g148.symm)))
  have nq257 : b136 ≠ b153 := (zn (zl (zl A136.lt (zt (zt (zt (zt (zt E138.1 E139.1) Kq141.1) Kq146.1) E148.1) Kq151.1)) (ze g153.symm)))
  have fq258 : Fld Z h235 b136 "org/counterpath/model/Variable" "type" "Lorg/counterpath/model/Type;" (.ref b139) := (((((((P146_0.ext E148).keep Kq151 (ninS nq256 nin0)).ext E153).keep Kq155 (ninS nq257 nin0)).keep Kq230 (ninS nq256 nin0)).keep Kq233 (ninS nq257 nin0)).ext E235)
  have fq259 : Exa Z h235 b139 "org/counterpath/model/Type$Range" := (((((((((A139.keep Kq141).keep Kq146).ext E148).keep Kq151).ext E153).keep Kq155).keep Kq230).keep Kq233).ext E235)
  have nq260 : b139 ≠ b148 := (zn (zl (zl A139.lt (zt Kq141.1 Kq146.1)) (ze g148.symm)))
  have nq261 : b139 ≠ b153 := (zn (zl (zl A139.lt (zt (zt (zt Kq141.1 Kq146.1) E148.1) Kq151.1)) (ze g153.symm)))
  have fq262 : Fld Z h235 b139 "org/counterpath/model/Type$Range" "low" "J" (.long v108) := ((((((((P141_0.keep Kq146 (ninS (Ne.symm nq143) nin0)).ext E148).keep Kq151 (ninS nq260 nin0)).ext E153).keep Kq155 (ninS nq261 nin0)).keep Kq230 (ninS nq260 nin0)).keep Kq233 (ninS nq261 nin0)).ext E235)
  have fq263 : Fld Z h235 b139 "org/counterpath/model/Type$Range" "high" "J" (.long v110) := ((((((((P141_1.keep Kq146 (ninS (Ne.symm nq143) nin0)).ext E148).keep Kq151 (ninS nq260 nin0)).ext E153).keep Kq155 (ninS nq261 nin0)).keep Kq230 (ninS nq260 nin0)).keep Kq233 (ninS nq261 nin0)).ext E235)
  have fq264 : Old Z n0 h235 := (((fq229.keep Kq230 (allS g_b148 all0)).keep Kq233 (allS g_b153 all0)).ext E235)
  have nq265 : b148 ≠ b235 := (zn (zl (zl A148.lt (zt (zt (zt (zt Kq151.1 E153.1) Kq155.1) Kq230.1) Kq233.1)) (ze g235.symm)))
  have nq266 : ed230 ≠ b235 := (zn (zl (zl P230_3.lt Kq233.1) (ze g235.symm)))
  have nq267 : b124 ≠ b235 := (zn (zl (zl A124.lt (zt (zt (zt (zt (zt (zt (zt (zt (zt (zt (zt (zt (zt (zt E126.1 E127.1) Kq129.1) Kq134.1) E136.1) E138.1) E139.1) Kq141.1) Kq146.1) E148.1) Kq151.1) E153.1) Kq155.1) Kq230.1) Kq233.1)) (ze g235.symm)))
  have nq268 : b127 ≠ b235 := (zn (zl (zl A127.lt (zt (zt (zt (zt (zt (zt (zt (zt (zt (zt (zt (zt Kq129.1 Kq134.1) E136.1) E138.1) E139.1) Kq141.1) Kq146.1) E148.1) Kq151.1) E153.1) Kq155.1) Kq230.1) Kq233.1)) (ze g235.symm)))
  have nq269 : b153 ≠ b235 := (zn (zl (zl A153.lt (zt (zt Kq155.1 Kq230.1) Kq233.1)) (ze g235.symm)))
  have nq270 : ed233 ≠ b235 := (zn (zl P233_3.lt (ze g235.symm)))
  have nq271 : b136 ≠ b235 := (zn (zl (zl A136.lt (zt (zt (zt (zt (zt (zt (zt (zt (zt E138.1 E139.1) Kq141.1) Kq146.1) E148.1) Kq151.1) E153.1) Kq155.1) Kq230.1) Kq233.1)) (ze g235.symm)))
  have nq272 : b139 ≠ b235 := (zn (zl (zl A139.lt (zt (zt (zt (zt (zt (zt (zt Kq141.1 Kq146.1) E148.1) Kq151.1) E153.1) Kq155.1) Kq230.1) Kq233.1)) (ze g235.symm)))
  have nq273 : dd ≠ b235 := (zn (zl (zl VD.lt (zt (zt (zt (zt (zt (zt (zt (zt (zt (zt (zt (zt (zt (zt (zt E124.1 E126.1) E127.1) Kq129.1) Kq134.1) E136.1) E138.1) E139.1) Kq141.1) Kq146.1) E148.1) Kq151.1) E153.1) Kq155.1) Kq230.1) Kq233.1)) (ze g235.symm)))
  obtain ⟨_, _, ⟨T274, L274, k274, n274⟩, -, X274, ⟨Lc274, hQ274, l274, y274, z274⟩, st274⟩ := X235.specialBack hx (y := (⟨"org/counterpath/engine/Encoding", "<init>", "(Ljava/util/List;Ljava/util/List;)V"⟩ : MethodName)) rfl hown (mvT hZ (zw hw 106 rfl)) (mvT hZ (zw hw 107 rfl)) (mvT hZ (zw hw 108 rfl)) (by decide) (backOf (W := 1) (rm15 l Z aZ hw [] b235 b148 b153 dd kd mr ((0 : Int32) + (1 : Int32)) ed230 ke230 b124 b127 v103 v106 ((0 : Int32) + (1 : Int32)) ed233 ke233 b136 b139 v108 v110 h235 n0 (zt Z0 K235.1) fq264 A235 F235__variables F235__codeOf F235__firstInput F235__firstBits F235__signed F235__codes SD fq237 fq238 fq239 ((P230_0.keep Kq233 (ninS nq219 nin0)).ext E235) ((P230_1.keep Kq233 (ninS nq219 nin0)).ext E235) ((P230_2.keep Kq233 (ninS nq219 nin0)).ext E235) ((P230_3.keep Kq233 (ninS nq241 nin0)).ext E235) ((P230_4.keep Kq233).ext E235) fq242 fq247 fq248 fq253 fq254 fq255 (P233_0.ext E235) (P233_1.ext E235) (P233_2.ext E235) (P233_3.ext E235) (P233_4.ext E235) ((fq232.keep Kq233).ext E235) fq258 fq259 fq262 fq263 hM nq265 nq266 nq267 nq268 nq269 nq270 nq271 nq272 nq273 g_b235) hZ (zw hw 108 rfl) (zw hw 105 rfl) (by decide) (by decide)) (g := (mkF m 185 (z9 q0 q1 q2 q3 q4 q5 v103 v106 v108 v110 v112 v116 v120 b124 b136 b148 b153) [.ref b153, .ref b148, .ref b235, .ref b235])) rfl (by rw [hml]; rfl) (Steps.refl _) (a := b235) (argsL := [.ref b148, .ref b153]) (rest := [.ref b235]) (lenOf pd_19 rfl) rfl (by show 2 * 0 + _ ≤ _; exact ze rfl) (hb hby at_185) (fun _ _ => ⟨rfl, e235, (by decide : 13 + 8 ≤ _), (by decide : 56 + 30 ≤ _)⟩)
  dsimp only [Pt.U, Pt.locs, Pt.cells, Pt.slots] at X274 l274 y274 z274 st274 hQ274
  rw [l274, y274, z274] at X274
  obtain ⟨fb274, kf274, sg274, ks274, cd274, kc274, rfl, N274q, Kq274, P274_0, P274_1, P274_2, P274_3, P274_4, P274_5, R274_0, R274_1, R274_2⟩ := hQ274
  have N274 := Fr.app N233 N274q
  refine OFinW.tr st274 ?_
  have K274 : Keep h0 T274.heap [] := K235.trans Kq274 (allS (Or.inr sz_b235) all0)
  have g_fb274 : n0 ≤ fb274 := zt (zt Z0 K235.1) R274_0
  have sz_fb274 : h0.size ≤ fb274 := zt K235.1 R274_0
  have g_sg274 : n0 ≤ sg274 := zt (zt Z0 K235.1) R274_1
  have sz_sg274 : h0.size ≤ sg274 := zt K235.1 R274_1
  have g_cd274 : n0 ≤ cd274 := zt (zt Z0 K235.1) R274_2
  have sz_cd274 : h0.size ≤ cd274 := zt K235.1 R274_2
  have sg275 : zg p e below T274 m 190 (z33 q0 q1 q2 q3 q4 q5 v103 v106 v108 v110 v112 v116 v120 b124 b136 b148 b153 b235) [] 188 (z9 q0 q1 q2 q3 q4 q5 v103 v106 v108 v110 v112 v116 v120 b124 b136 b148 b153) [.ref b235] := by
   intro t k
   refine XS.astore X274.here hx rfl (hb hby at_188) rfl rfl (l' := (z33 q0 q1 q2 q3 q4 q5 v103 v106 v108 v110 v112 v116 v120 b124 b136 b148 b153 b235)) rfl ?_
   exact k
  refine OFinW.go sg275 ?_
  exact pt0_190 Z aZ hw q0 q1 q2 q3 q4 q5 dd kd mr h0 n0 Z0 SD hM v103 v106 v108 v110 v112 v116 v120 b124 b136 b148 b153 b235 fb274 kf274 sg274 ks274 cd274 kc274 ((0 : Int32) + (own_wd v103 v106)) (((0 : Int32) + (own_wd v103 v106)) + (own_wd v108 v110)) v103 v106 v108 v110 T274.heap X274 hx hZ hby hml hown hnm hS (zt (zt (zt (zt (zt (zt (zt (zt (zt (zt (zt hk E139.1) Kq141.1) Kq146.1) E148.1) Kq151.1) E153.1) Kq155.1) Kq230.1) Kq233.1) E235.1) Kq274.1) hstr hret hlk rfl K274 N274 (fq264.keep Kq274 (allS g_b235 all0)) g_b235 sz_b235 g_fb274 sz_fb274 g_sg274 sz_sg274 g_cd274 sz_cd274 (A235.keep Kq274) P274_0 P274_1 P274_2 P274_3 P274_4 P274_5 (own_mm e_v103 e_v106) (own_sm e_v108 e_v110) (Or.inr ⟨(by rw [e_v112]; split; exact Or.inl rfl; exact Or.inr rfl : v112 = (0 : Int32) ∨ v112 = (1 : Int32)).resolve_left c157, rfl, rfl, rfl, rfl⟩) (by rw [e_v116]; split; exact Or.inl rfl; exact Or.inr rfl : v116 = (0 : Int32) ∨ v116 = (1 : Int32)) (by rw [e_v120]; split; exact Or.inl rfl; exact Or.inr rfl : v120 = (0 : Int32) ∨ v120 = (1 : Int32)) (own_fs (own_mm e_v103 e_v106) (own_sm e_v108 e_v110)).1 (own_fs (own_mm e_v103 e_v106) (own_sm e_v108 e_v110)).2.1 (own_fs (own_mm e_v103 e_v106) (own_sm e_v108 e_v110)).2.2
theorem own_len {args : Array Value} {s : State} {t : Term} {a : Addr} {cl : Cell} {v : Value} (h : (Term.length t).eval args s none [] s = some v) (ht : t.eval args s none [] s = some (.ref a)) (hc : s.arrayAt? a = some cl) : cl.slots.size < 2 ^ 31 := by
  by_cases q : cl.slots.size < 2 ^ 31
  · exact q
  · simp [Term.eval, ht, hc, q] at h
set_option maxHeartbeats 40000000 in
theorem comes_1 {Post : Tables → Env → Array Value → State → Outcome → State → Prop} (hpost : ∀ tb e args s v u, (limb_1_1.after args s (.returned v) u = true ∧ limb_1_2.after args s (.returned v) u = true ∧ True) → ReturnedEndW s (.returned v) u (Jvm.fieldLocs frame_1_writes args s ++ Jvm.arrayLocs frame_1_arrays args s ++ Jvm.staticLocs frame_1_statics s) 48 2560 → Post tb e args s (.returned v) u) :
    ArmFor flags0 classFile x code maxLocals ret World_1 tables_1 room_1 Calls_1 rest_1 Pre_1 Post := by
  intro l hfl _ _ p e ha hc hk s m args below hf hA hF happ hP
  obtain ⟨hcalls, hrest, hpre⟩ := hP
  obtain ⟨-, -, -, hnamed, -, -, -, hat⟩ := (Spec.applies_iff hf).mp happ
  obtain ⟨hg, hn⟩ := and_e (Cond.before_iff.mp (show (Jvm.Cond.and given_1 narrow_1).before args s = true from hpre))
  obtain ⟨gg1, gg2⟩ := and_e hg
  obtain ⟨gg3, gg4⟩ := and_e gg2
  obtain ⟨gg5, gg6⟩ := and_e gg4
  obtain ⟨gg7, gg8⟩ := and_e gg6
  obtain ⟨gg9, gg10⟩ := and_e gg8
  obtain ⟨gg11, gg12⟩ := and_e gg10
  obtain ⟨w0, w1, w2, w3, w4, w5, rfl⟩ : ∃ w0 w1 w2 w3 w4 w5 : Value, args = #[w0, w1, w2, w3, w4, w5] := by
    have hs : args.size = 6 := by simpa [Cond.value, given_1] using gg1
    obtain ⟨L⟩ := args
    match L, hs with
    | [w0, w1, w2, w3, w4, w5], _ => exact ⟨w0, w1, w2, w3, w4, w5, rfl⟩
  have hw := fun d (hd : d ∈ tables_1) => atoms_spec (ws := Jvm.Cond.code x code maxLocals ret :: tables_1) hat d (List.mem_cons_of_mem _ hd)
  have hfit : Fit s := fun {y c} hc i hi => by
    obtain ⟨ha, rfl⟩ := Array.getElem?_eq_some_iff.mp hc
    have q := List.all_eq_true.mp ((Array.all_eq_true_iff_forall_mem.mp hF) _ (Array.getElem_mem ha)) i (List.mem_range.mpr hi)
    simpa [Array.getElem?_eq_getElem hi] using q
  obtain ⟨hsets, hown0⟩ := atoms_of _ (rest_1_c_eq ▸ (show rest_1_c.before _ s = true from hrest))
  have hr0 := Cond.before_iff.mp hown0
  obtain ⟨i0, ei0⟩ := isL_v gg3
  obtain rfl : w0 = (.long i0) := Option.some.inj ei0
  obtain ⟨i1, ei1⟩ := isL_v gg5
  obtain rfl : w1 = (.long i1) := Option.some.inj ei1
  obtain ⟨i2, ei2⟩ := isL_v gg7
  obtain rfl : w2 = (.long i2) := Option.some.inj ei2
  obtain ⟨i3, ei3⟩ := is_v gg9
  obtain rfl : w3 = (.int i3) := Option.some.inj ei3
  obtain ⟨i4, ei4⟩ := is_v gg11
  obtain rfl : w4 = (.int i4) := Option.some.inj ei4
  obtain ⟨i5, ei5⟩ := is_v gg12
  obtain rfl : w5 = (.int i5) := Option.some.inj ei5
  have j6 := Cond.before_iff.mp (hsets _ (List.mem_of_getElem? (i := 6) rfl))
  have j7 := Cond.before_iff.mp (hsets _ (List.mem_of_getElem? (i := 7) rfl))
  have j8 := Cond.before_iff.mp (hsets _ (List.mem_of_getElem? (i := 8) rfl))
  obtain ⟨dd, ev⟩ := arr_v j6
  have SD := Sta.start ev (Or.inr ⟨(zw hw 47 rfl), hsets _ (List.mem_of_getElem? (i := 2) rfl)⟩)
  have ED := Exa.start ev j7
  obtain ⟨ccl, hA⟩ := Arr.start ev j6
  have ln := eqv_i (Term.int_eval (0)) j8
  obtain ⟨a', cell', la, lb, lc⟩ := Term.length_spec ln
  cases ev.symm.trans la
  cases (hA.fin (Vm.Alike.refl _)).symm.trans lb
  have hz : ccl.slots.size.toInt32 = 0 := (Value.int.inj lc).symm
  have hlt : ccl.slots.size < 2 ^ 31 := own_len ln ev (hA.fin (Vm.Alike.refl _))
  have VD : Arv s s.heap dd ccl.cls (.object "java/lang/Object") (0 : Int32) [] .null := Arv.start hfit hA hlt hz (by decide) rfl trivial
  obtain ⟨mc, mk, mr, m1, m2, m3, -⟩ := hcalls.1
  have hM : own_Mr s "[Ljava/lang/Object;" mr := ⟨mc, mk, m1, m2, m3⟩
  obtain ⟨n, o, h1, h2, h3, _, L, rfl, ⟨rfl, N⟩, hq⟩ := rm0 l s _ hw tables_1 i0 i1 i2 i3 i4 i5 dd ccl.cls mr s.heap s.heap.size (Nat.le_refl _) (Old.start s) SD VD ED hM p e ha hc hk s m _ below hf ((Spec.applies_iff_loose hf).mp happ).1 ⟨rfl, State.Warmed39.refl s, rfl⟩ trivial
  refine ⟨n, _, h1, h2, h3, hpost _ _ _ _ _ _ ⟨Cond.after_iff.mpr rfl, Cond.after_iff.mpr (eq_i res_at (Term.int_eval (1)) rfl), trivial⟩ ⟨hq.1, hq.2.1, hq.2.2.1, (hq.2.2.2.sift fun y hy => Or.inr (N y hy)).mono (by decide) (by decide)⟩⟩
theorem main_1_1 : Claimed_1_1 := comes_1 fun _ _ _ _ _ _ h hF => ⟨h.1, hF⟩
theorem main_1_2 : Claimed_1_2 := comes_1 fun _ _ _ _ _ _ h hF => ⟨h.2.1, hF⟩
end Jvm.Pilot.@@N@@
namespace Jvm.Pilot.@@N@@
open Jvm Jvm.ClassFile Sem Op Lib Jvm.Free Jvm.Stand Jvm.Pilot.@@N@@.Jvm.D
/-! MADE BY PROGRAM (witnessworld.py) out of the Statement's table words and the real class files: 44 classes; the members and pool entries that the words name. The judged class is class 1, her method 1. -/
namespace start1
open Jvm.ClassFile
def u (s : String) : CpInfo := .utf8 (stringToUtf16 s)
/-- a pool by its gaps: so many unusable entries, then the entry; so many at the end -/
def gap : Nat → List CpInfo → List CpInfo
  | 0, r => r
  | n + 1, r => .unusable :: gap n r
def poolList (es : List (Nat × CpInfo)) (last : Nat) : List CpInfo := es.foldr (fun e r => gap e.1 (e.2 :: r)) (gap last [])
def pool (es : List (Nat × CpInfo)) (last : Nat) : Array CpInfo := ⟨poolList es last⟩
def fileOf (pool : Array CpInfo) (this : Nat) (attrs : Array Attribute := #[]) (ms : Array MethodInfo := #[]) (fl : Nat := 33) (sup : Nat := 0) (ifs : Array Nat := #[]) (fds : Array FieldInfo := #[]) : ClassFile where
  minorVersion := 0
  majorVersion := 65
  constantPool := pool
  accessFlags := fl
  thisClass := this
  superClass := sup
  interfaces := ifs
  fields := fds
  methods := ms
  attributes := attrs
def plain (name : String) (sup : Option ClassId) : Class where
  name := name
  kind := .ordinary
  loader := none
  accessFlags := 33
  super := sup
  interfaces := #[]
  cf := none
  fields := #[]
  methods := #[]
  instanceTypes := #[]
  staticTypes := #[]
  resolved := #[]
  callSites := []
  init := .initialized
  statics := none
  mirror := none

def pool0 : Array CpInfo := pool [(5, u "<init>"), (0, u "()V"), (1, .class_ 10), (1, u "java/lang/Object"), (0, u "getClass"), (0, u "()Ljava/lang/Class;")] 111

def k0c0 : Code := { maxStack := 0, maxLocals := 1, code := object_method_1_code, exceptionTable := #[], attributes := #[] }
def k0m0 : Method := ⟨"<init>", "()V", ⟨[], none⟩, 1, some k0c0⟩
def k0m1 : Method := ⟨"getClass", "()Ljava/lang/Class;", ⟨[], some (.object "java/lang/Class")⟩, 273, none⟩
/-- java/lang/Object -/
def k0 : Class := { plain "java/lang/Object" none with
  accessFlags := 33
  cf := some (fileOf pool0 8 #[] #[⟨1, 5, 6, #[]⟩, ⟨273, 11, 12, #[]⟩] 33 0 #[] #[])
  methods := #[k0m0, k0m1]
  resolved := Array.replicate 124 none }

def pool1 : Array CpInfo := pool [(2, .class_ 4), (0, .nameAndType 5 6), (0, u "java/lang/Object"), (0, u "<init>"), (0, u "()V"), (0, .methodref 8 9), (0, .class_ 10), (0, .nameAndType 11 12), (0, u "java/lang/Math"), (0, u "min"), (0, u "(JJ)J"), (0, .methodref 8 14), (0, .nameAndType 15 12), (0, u "max"), (0, .class_ 17), (0, u "org/counterpath/model/Variable"), (0, .string 19), (0, u "x"), (0, .class_ 21), (0, u "org/counterpath/model/Type$Range"), (0, .methodref 20 23), (0, .nameAndType 5 24), (0, u "(JJ)V"), (0, .methodref 16 26), (0, .nameAndType 5 27), (0, u "(Ljava/lang/String;Lorg/counterpath/model/Type;)V"), (0, .string 29), (0, u "y"), (0, .class_ 31), (0, u "java/util/ArrayList"), (0, .methodref 30 3), (0, .interfaceMethodref 34 35), (0, .class_ 36), (0, .nameAndType 37 38), (0, u "java/util/List"), (0, u "add"), (0, u "(Ljava/lang/Object;)Z"), (0, .class_ 40), (0, u "org/counterpath/engine/Encoding"), (0, .methodref 39 42), (0, .nameAndType 5 43), (0, u "(Ljava/util/List;Ljava/util/List;)V"), (0, .methodref 39 45), (0, .nameAndType 46 47), (0, u "hold"), (0, u "([ZIJ)V"), (0, .methodref 39 49), (0, .nameAndType 50 51), (0, u "firstBit"), (0, u "(I)I"), (0, .methodref 53 54), (0, .class_ 55), (0, .nameAndType 56 57), (0, u "org/counterpath/engine/EncodingHoldPinLaw"), (0, u "bitOf"), (0, u "(JI)Z"), (0, .methodref 39 59), (0, .nameAndType 60 61), (0, u "value"), (0, u "([ZI)J"), (2, u "law"), (0, u "(JJJIII)Z")] 9

def k1m0 : Method := ⟨"<init>", "()V", ⟨[], none⟩, 1, none⟩
def k1c1 : Code := { maxStack := 9, maxLocals := 37, code := code, exceptionTable := #[], attributes := #[] }
def k1m1 : Method := ⟨"law", "(JJJIII)Z", ⟨[.long, .long, .long, .int, .int, .int], some .boolean⟩, 9, some k1c1⟩
def k1c2 : Code := { maxStack := 5, maxLocals := 3, code := method_3_code, exceptionTable := #[], attributes := #[] }
def k1m2 : Method := ⟨"bitOf", "(JI)Z", ⟨[.long, .int], some .boolean⟩, 10, some k1c2⟩
/-- org/counterpath/engine/EncodingHoldPinLaw -/
def k1 : Class := { plain "org/counterpath/engine/EncodingHoldPinLaw" (some 0) with
  accessFlags := 49
  cf := some (fileOf pool1 53 #[] #[⟨1, 5, 6, #[]⟩, ⟨9, 64, 65, #[]⟩, ⟨10, 56, 57, #[]⟩] 49 2 #[] #[])
  methods := #[k1m0, k1m1, k1m2]
  resolved := Array.replicate 75 none }

def pool2 : Array CpInfo := pool [(1, .class_ 2), (0, u "java/lang/Math"), (1, .class_ 6), (1, u "java/lang/Object"), (0, u "<init>"), (0, u "()V"), (89, .class_ 100), (1, u "java/lang/Math$RandomNumberGeneratorHolder"), (20, u "(JJ)J"), (50, u "negativeZeroFloatBits"), (0, u "J"), (2, u "negativeZeroDoubleBits"), (21, u "max"), (2, u "min"), (43, u "$assertionsDisabled"), (0, u "Z"), (88, u "(II)I"), (2, u "twoToTheDoubleScaleDown"), (0, u "D"), (4, u "twoToTheDoubleScaleUp"), (9, u "E"), (3, u "PI"), (2, u "TAU"), (2, u "DEGREES_TO_RADIANS"), (0, u "RADIANS_TO_DEGREES")] 94

def k2m0 : Method := ⟨"<init>", "()V", ⟨[], none⟩, 2, none⟩
def k2c1 : Code := { maxStack := 2, maxLocals := 2, code := jdk_29_method_65_code, exceptionTable := #[], attributes := #[] }
def k2m1 : Method := ⟨"max", "(II)I", ⟨[.int, .int], some .int⟩, 9, some k2c1⟩
def k2c2 : Code := { maxStack := 4, maxLocals := 4, code := jdk_29_method_66_code, exceptionTable := #[], attributes := #[] }
def k2m2 : Method := ⟨"max", "(JJ)J", ⟨[.long, .long], some .long⟩, 9, some k2c2⟩
def k2c3 : Code := { maxStack := 2, maxLocals := 2, code := jdk_29_method_69_code, exceptionTable := #[], attributes := #[] }
def k2m3 : Method := ⟨"min", "(II)I", ⟨[.int, .int], some .int⟩, 9, some k2c3⟩
def k2c4 : Code := { maxStack := 4, maxLocals := 4, code := jdk_29_method_70_code, exceptionTable := #[], attributes := #[] }
def k2m4 : Method := ⟨"min", "(JJ)J", ⟨[.long, .long], some .long⟩, 9, some k2c4⟩
/-- java/lang/Math -/
def k2 : Class := { plain "java/lang/Math" (some 0) with
  accessFlags := 49
  cf := some (fileOf pool2 1 #[.nestMembers #[98]] #[⟨2, 7, 8, #[]⟩, ⟨9, 198, 335, #[]⟩, ⟨9, 198, 121, #[]⟩, ⟨9, 201, 335, #[]⟩, ⟨9, 201, 121, #[]⟩] 49 4 #[] #[⟨25, 354, 339, #[]⟩, ⟨25, 358, 339, #[]⟩, ⟨25, 361, 339, #[]⟩, ⟨26, 364, 339, #[]⟩, ⟨26, 365, 339, #[]⟩, ⟨26, 172, 173, #[]⟩, ⟨26, 176, 173, #[]⟩, ⟨8, 344, 339, #[]⟩, ⟨8, 338, 339, #[]⟩, ⟨4120, 245, 246, #[]⟩])
  fields := #[⟨"E", .double, 25, 0, 0⟩, ⟨"PI", .double, 25, 1, 0⟩, ⟨"TAU", .double, 25, 2, 0⟩, ⟨"DEGREES_TO_RADIANS", .double, 26, 3, 0⟩, ⟨"RADIANS_TO_DEGREES", .double, 26, 4, 0⟩, ⟨"negativeZeroFloatBits", .long, 26, 5, 0⟩, ⟨"negativeZeroDoubleBits", .long, 26, 6, 0⟩, ⟨"twoToTheDoubleScaleUp", .double, 8, 7, 0⟩, ⟨"twoToTheDoubleScaleDown", .double, 8, 8, 0⟩, ⟨"$assertionsDisabled", .boolean, 4120, 9, 0⟩]
  methods := #[k2m0, k2m1, k2m2, k2m3, k2m4]
  staticTypes := #[.double, .double, .double, .double, .double, .long, .long, .double, .double, .boolean]
  resolved := Array.replicate 460 none }

def pool3 : Array CpInfo := pool [(1, .methodref 2 3), (0, .class_ 4), (0, .nameAndType 5 6), (0, u "java/lang/Object"), (0, u "<init>"), (0, u "()V"), (0, .class_ 8), (0, u "java/lang/Record")] 13

def k3c0 : Code := { maxStack := 1, maxLocals := 1, code := jdk_30_method_1_code, exceptionTable := #[], attributes := #[] }
def k3m0 : Method := ⟨"<init>", "()V", ⟨[], none⟩, 4, some k3c0⟩
/-- java/lang/Record -/
def k3 : Class := { plain "java/lang/Record" (some 0) with
  accessFlags := 1057
  cf := some (fileOf pool3 7 #[] #[⟨4, 5, 6, #[]⟩] 1057 2 #[] #[])
  methods := #[k3m0]
  resolved := Array.replicate 22 none }

def pool4 : Array CpInfo := pool [(1, .methodref 2 3), (0, .class_ 4), (0, .nameAndType 5 6), (0, u "java/lang/Record"), (0, u "<init>"), (0, u "()V"), (0, .fieldref 8 9), (0, .class_ 10), (0, .nameAndType 11 12), (0, u "org/counterpath/model/Variable"), (0, u "name"), (0, u "Ljava/lang/String;"), (0, .fieldref 8 14), (0, .nameAndType 15 16), (0, u "type"), (0, u "Lorg/counterpath/model/Type;"), (12, u "(Ljava/lang/String;Lorg/counterpath/model/Type;)V"), (6, u "()Lorg/counterpath/model/Type;")] 21

def k4c0 : Code := { maxStack := 2, maxLocals := 3, code := prog_158_method_1_code, exceptionTable := #[], attributes := #[] }
def k4m0 : Method := ⟨"<init>", "(Ljava/lang/String;Lorg/counterpath/model/Type;)V", ⟨[(.object "java/lang/String"), (.object "org/counterpath/model/Type")], none⟩, 1, some k4c0⟩
def k4c1 : Code := { maxStack := 1, maxLocals := 1, code := prog_158_method_6_code, exceptionTable := #[], attributes := #[] }
def k4m1 : Method := ⟨"type", "()Lorg/counterpath/model/Type;", ⟨[], some (.object "org/counterpath/model/Type")⟩, 1, some k4c1⟩
/-- org/counterpath/model/Variable -/
def k4 : Class := { plain "org/counterpath/model/Variable" (some 3) with
  accessFlags := 49
  cf := some (fileOf pool4 8 #[] #[⟨1, 5, 29, #[]⟩, ⟨1, 15, 36, #[]⟩] 49 2 #[] #[⟨18, 11, 12, #[]⟩, ⟨18, 15, 16, #[]⟩])
  fields := #[⟨"name", (.object "java/lang/String"), 18, 0, 0⟩, ⟨"type", (.object "org/counterpath/model/Type"), 18, 1, 0⟩]
  methods := #[k4m0, k4m1]
  instanceTypes := #[(.object "java/lang/String"), (.object "org/counterpath/model/Type")]
  resolved := Array.replicate 58 none }

def pool5 : Array CpInfo := pool [(1, .class_ 2), (0, u "java/io/Serializable"), (0, .class_ 4), (0, u "java/lang/Object")] 2

/-- java/io/Serializable -/
def k5 : Class := { plain "java/io/Serializable" (some 0) with
  accessFlags := 1537
  cf := some (fileOf pool5 1 #[] #[] 1537 3 #[] #[])
  resolved := Array.replicate 7 none }

def pool6 : Array CpInfo := pool [(1, .class_ 2), (0, u "java/lang/Comparable"), (0, .class_ 4), (0, u "java/lang/Object")] 7

/-- java/lang/Comparable -/
def k6 : Class := { plain "java/lang/Comparable" (some 0) with
  accessFlags := 1537
  cf := some (fileOf pool6 1 #[] #[] 1537 3 #[] #[])
  resolved := Array.replicate 12 none }

def pool7 : Array CpInfo := pool [(2, .class_ 4), (1, u "java/lang/CharSequence"), (42, .class_ 48), (0, u "java/lang/CharSequence$1CodePointIterator"), (10, .class_ 60), (0, u "java/lang/CharSequence$1CharIterator"), (5, .class_ 67), (0, u "java/lang/Object")] 63

/-- java/lang/CharSequence -/
def k7 : Class := { plain "java/lang/CharSequence" (some 0) with
  accessFlags := 1537
  cf := some (fileOf pool7 2 #[.nestMembers #[47, 59]] #[] 1537 66 #[] #[])
  resolved := Array.replicate 131 none }

def pool8 : Array CpInfo := pool [(1, .class_ 2), (0, u "java/lang/constant/Constable"), (0, .class_ 4), (0, u "java/lang/Object")] 6

/-- java/lang/constant/Constable -/
def k8 : Class := { plain "java/lang/constant/Constable" (some 0) with
  accessFlags := 1537
  cf := some (fileOf pool8 1 #[] #[] 1537 3 #[] #[])
  resolved := Array.replicate 11 none }

def pool9 : Array CpInfo := pool [(1, .class_ 2), (0, u "java/lang/constant/ConstantDesc"), (0, .class_ 4), (0, u "java/lang/Object")] 32

/-- java/lang/constant/ConstantDesc -/
def k9 : Class := { plain "java/lang/constant/ConstantDesc" (some 0) with
  accessFlags := 1537
  cf := some (fileOf pool9 1 #[] #[] 1537 3 #[] #[])
  resolved := Array.replicate 37 none }

def pool10 : Array CpInfo := pool [(2, .class_ 4), (1, u "java/lang/Object"), (0, u "<init>"), (0, u "()V"), (3, .class_ 12), (1, u "java/lang/String"), (0, u "value"), (0, u "[B"), (2, u "coder"), (0, u "B"), (2, u "hash"), (0, u "I"), (2, u "hashIsZero"), (0, u "Z"), (13, u "COMPACT_STRINGS"), (534, .class_ 576), (0, u "java/lang/CharSequence"), (22, u "CASE_INSENSITIVE_ORDER"), (0, u "Ljava/util/Comparator;"), (500, u "serialPersistentFields"), (0, u "[Ljava/io/ObjectStreamField;"), (0, .class_ 1104), (0, u "java/lang/String$CaseInsensitiveComparator"), (1, .class_ 1107), (0, u "java/io/Serializable"), (0, .class_ 1109), (0, u "java/lang/Comparable"), (0, .class_ 1111), (0, u "java/lang/constant/Constable"), (0, .class_ 1113), (0, u "java/lang/constant/ConstantDesc"), (2, u "serialVersionUID"), (0, u "J"), (3, u "REPL"), (0, u "C"), (2, u "LATIN1"), (1, u "UTF16")] 323

def k10m0 : Method := ⟨"<init>", "()V", ⟨[], none⟩, 1, none⟩
/-- java/lang/String -/
def k10 : Class := { plain "java/lang/String" (some 0) with
  accessFlags := 49
  interfaces := #[5, 6, 7, 8, 9]
  cf := some (fileOf pool10 10 #[.nestMembers #[1103]] #[⟨1, 5, 6, #[]⟩] 49 2 #[1106, 1108, 575, 1110, 1112] #[⟨18, 13, 14, #[]⟩, ⟨18, 17, 18, #[]⟩, ⟨2, 21, 22, #[]⟩, ⟨2, 25, 26, #[]⟩, ⟨26, 1116, 1117, #[]⟩, ⟨24, 40, 26, #[]⟩, ⟨26, 1101, 1102, #[]⟩, ⟨26, 1121, 1122, #[]⟩, ⟨25, 599, 600, #[]⟩, ⟨24, 1125, 18, #[]⟩, ⟨24, 1127, 18, #[]⟩])
  fields := #[⟨"value", (.array .byte), 18, 0, 0⟩, ⟨"coder", .byte, 18, 1, 0⟩, ⟨"hash", .int, 2, 2, 0⟩, ⟨"hashIsZero", .boolean, 2, 3, 0⟩, ⟨"serialVersionUID", .long, 26, 0, 0⟩, ⟨"COMPACT_STRINGS", .boolean, 24, 1, 0⟩, ⟨"serialPersistentFields", (.array (.object "java/io/ObjectStreamField")), 26, 2, 0⟩, ⟨"REPL", .char, 26, 3, 0⟩, ⟨"CASE_INSENSITIVE_ORDER", (.object "java/util/Comparator"), 25, 4, 0⟩, ⟨"LATIN1", .byte, 24, 5, 0⟩, ⟨"UTF16", .byte, 24, 6, 0⟩]
  methods := #[k10m0]
  instanceTypes := #[(.array .byte), .byte, .int, .boolean]
  staticTypes := #[.long, .boolean, (.array (.object "java/io/ObjectStreamField")), .char, (.object "java/util/Comparator"), .byte, .byte]
  resolved := Array.replicate 1451 none }

def pool11 : Array CpInfo := pool [(2, .class_ 4), (1, u "org/counterpath/model/Type"), (42, .class_ 48), (0, u "org/counterpath/model/Type$BooleanType"), (6, u "BOOLEAN"), (0, u "Lorg/counterpath/model/Type;"), (0, .class_ 58), (0, u "java/lang/Object"), (21, .class_ 81), (0, u "org/counterpath/model/Type$Enumeration"), (0, .class_ 83), (0, u "org/counterpath/model/Type$Range")] 5

/-- org/counterpath/model/Type -/
def k11 : Class := { plain "org/counterpath/model/Type" (some 0) with
  accessFlags := 1537
  cf := some (fileOf pool11 2 #[.nestMembers #[80, 82, 47]] #[] 1537 57 #[] #[⟨25, 55, 56, #[]⟩])
  fields := #[⟨"BOOLEAN", (.object "org/counterpath/model/Type"), 25, 0, 0⟩]
  staticTypes := #[(.object "org/counterpath/model/Type")]
  resolved := Array.replicate 89 none }

def pool12 : Array CpInfo := pool [(1, .methodref 2 3), (0, .class_ 4), (0, .nameAndType 5 6), (0, u "java/lang/Record"), (0, u "<init>"), (0, u "()V"), (9, .fieldref 17 18), (0, .class_ 19), (0, .nameAndType 20 21), (0, u "org/counterpath/model/Type$Range"), (0, u "low"), (0, u "J"), (0, .fieldref 17 23), (0, .nameAndType 24 21), (0, u "high"), (53, .class_ 80), (1, u "org/counterpath/model/Type"), (11, u "()J"), (13, u "(JJ)V")] 53

def k12c0 : Code := { maxStack := 6, maxLocals := 5, code := prog_156_method_1_code, exceptionTable := #[], attributes := #[] }
def k12m0 : Method := ⟨"<init>", "(JJ)V", ⟨[.long, .long], none⟩, 1, some k12c0⟩
def k12c1 : Code := { maxStack := 2, maxLocals := 1, code := prog_156_method_12_code, exceptionTable := #[], attributes := #[] }
def k12m1 : Method := ⟨"low", "()J", ⟨[], some .long⟩, 1, some k12c1⟩
def k12c2 : Code := { maxStack := 2, maxLocals := 1, code := prog_156_method_13_code, exceptionTable := #[], attributes := #[] }
def k12m2 : Method := ⟨"high", "()J", ⟨[], some .long⟩, 1, some k12c2⟩
/-- org/counterpath/model/Type$Range -/
def k12 : Class := { plain "org/counterpath/model/Type$Range" (some 3) with
  accessFlags := 49
  interfaces := #[11]
  cf := some (fileOf pool12 17 #[.nestHost 78] #[⟨1, 5, 106, #[]⟩, ⟨1, 20, 92, #[]⟩, ⟨1, 24, 92, #[]⟩] 49 2 #[78] #[⟨18, 20, 21, #[]⟩, ⟨18, 24, 21, #[]⟩])
  fields := #[⟨"low", .long, 18, 0, 0⟩, ⟨"high", .long, 18, 1, 0⟩]
  methods := #[k12m0, k12m1, k12m2]
  instanceTypes := #[.long, .long]
  resolved := Array.replicate 160 none }

def pool13 : Array CpInfo := pool [(8, .class_ 10), (1, u "java/lang/Iterable"), (24, .class_ 36), (0, u "java/lang/Object")] 25

/-- java/lang/Iterable -/
def k13 : Class := { plain "java/lang/Iterable" (some 0) with
  accessFlags := 1537
  cf := some (fileOf pool13 8 #[] #[] 1537 35 #[] #[])
  resolved := Array.replicate 62 none }

def pool14 : Array CpInfo := pool [(10, .class_ 12), (1, u "java/util/Collection"), (0, u "toArray"), (46, .class_ 61), (0, u "java/lang/Object"), (0, .class_ 63), (0, u "java/lang/Iterable"), (6, u "()[Ljava/lang/Object;")] 44

def k14m0 : Method := ⟨"toArray", "()[Ljava/lang/Object;", ⟨[], some (.array (.object "java/lang/Object"))⟩, 1025, none⟩
/-- java/util/Collection -/
def k14 : Class := { plain "java/util/Collection" (some 0) with
  accessFlags := 1537
  interfaces := #[13]
  cf := some (fileOf pool14 10 #[] #[⟨1025, 13, 70, #[]⟩] 1537 60 #[62] #[])
  methods := #[k14m0]
  resolved := Array.replicate 115 none }

def pool15 : Array CpInfo := pool [(1, .methodref 2 3), (0, .class_ 4), (0, .nameAndType 5 6), (0, u "java/lang/Object"), (0, u "<init>"), (0, u "()V"), (1, .class_ 10), (1, u "java/util/AbstractCollection"), (66, .class_ 78), (0, u "java/util/Collection")] 81

def k15c0 : Code := { maxStack := 1, maxLocals := 1, code := jdk_22_method_1_code, exceptionTable := #[], attributes := #[] }
def k15m0 : Method := ⟨"<init>", "()V", ⟨[], none⟩, 4, some k15c0⟩
/-- java/util/AbstractCollection -/
def k15 : Class := { plain "java/util/AbstractCollection" (some 0) with
  accessFlags := 1057
  interfaces := #[14]
  cf := some (fileOf pool15 8 #[] #[⟨4, 5, 6, #[]⟩] 1057 2 #[77] #[])
  methods := #[k15m0]
  resolved := Array.replicate 160 none }

def pool16 : Array CpInfo := pool [(8, .class_ 10), (1, u "java/util/SequencedCollection"), (15, .class_ 27), (0, u "java/lang/Object"), (0, .class_ 29), (0, u "java/util/Collection")] 27

/-- java/util/SequencedCollection -/
def k16 : Class := { plain "java/util/SequencedCollection" (some 0) with
  accessFlags := 1537
  interfaces := #[14]
  cf := some (fileOf pool16 8 #[] #[] 1537 26 #[28] #[])
  resolved := Array.replicate 57 none }

def pool17 : Array CpInfo := pool [(8, .class_ 10), (1, u "java/util/List"), (49, u "add"), (3, u "(Ljava/lang/Object;)Z"), (10, u "get"), (0, u "(I)Ljava/lang/Object;"), (2, u "size"), (0, u "()I"), (22, .class_ 104), (0, u "java/lang/Object"), (15, .class_ 121), (0, u "java/util/SequencedCollection"), (9, u "(Ljava/util/Collection;)Z"), (1, u "addAll")] 117

def k17m0 : Method := ⟨"size", "()I", ⟨[], some .int⟩, 1025, none⟩
def k17m1 : Method := ⟨"add", "(Ljava/lang/Object;)Z", ⟨[(.object "java/lang/Object")], some .boolean⟩, 1025, none⟩
def k17m2 : Method := ⟨"addAll", "(Ljava/util/Collection;)Z", ⟨[(.object "java/util/Collection")], some .boolean⟩, 1025, none⟩
def k17m3 : Method := ⟨"get", "(I)Ljava/lang/Object;", ⟨[.int], some (.object "java/lang/Object")⟩, 1025, none⟩
/-- java/util/List -/
def k17 : Class := { plain "java/util/List" (some 0) with
  accessFlags := 1537
  interfaces := #[16]
  cf := some (fileOf pool17 8 #[] #[⟨1025, 79, 80, #[]⟩, ⟨1025, 60, 64, #[]⟩, ⟨1025, 133, 131, #[]⟩, ⟨1025, 75, 76, #[]⟩] 1537 103 #[120] #[])
  methods := #[k17m0, k17m1, k17m2, k17m3]
  resolved := Array.replicate 251 none }

def pool18 : Array CpInfo := pool [(1, .methodref 2 3), (0, .class_ 4), (0, .nameAndType 5 6), (0, u "java/util/AbstractCollection"), (0, u "<init>"), (0, u "()V"), (0, .fieldref 8 9), (0, .class_ 10), (0, .nameAndType 11 12), (0, u "java/util/AbstractList"), (0, u "modCount"), (0, u "I"), (64, .class_ 78), (0, u "java/util/AbstractList$Itr"), (3, .class_ 83), (0, u "java/util/AbstractList$ListItr"), (9, .class_ 94), (0, u "java/util/AbstractList$RandomAccessSubList"), (3, .class_ 99), (0, u "java/util/AbstractList$SubList"), (33, .class_ 134), (0, u "java/util/List"), (73, .class_ 209), (0, u "java/util/AbstractList$SubList$1"), (0, .class_ 211), (0, u "java/util/AbstractList$RandomAccessSpliterator")] 6

def k18c0 : Code := { maxStack := 2, maxLocals := 1, code := jdk_39_method_1_code, exceptionTable := #[], attributes := #[] }
def k18m0 : Method := ⟨"<init>", "()V", ⟨[], none⟩, 4, some k18c0⟩
/-- java/util/AbstractList -/
def k18 : Class := { plain "java/util/AbstractList" (some 15) with
  accessFlags := 1057
  interfaces := #[17]
  cf := some (fileOf pool18 8 #[.nestMembers #[93, 98, 208, 210, 82, 77]] #[⟨4, 5, 6, #[]⟩] 1057 2 #[133] #[⟨132, 11, 12, #[]⟩])
  fields := #[⟨"modCount", .int, 132, 0, 0⟩]
  methods := #[k18m0]
  instanceTypes := #[.int]
  resolved := Array.replicate 218 none }

def pool19 : Array CpInfo := pool [(1, .class_ 2), (0, u "java/util/RandomAccess"), (0, .class_ 4), (0, u "java/lang/Object")] 2

/-- java/util/RandomAccess -/
def k19 : Class := { plain "java/util/RandomAccess" (some 0) with
  accessFlags := 1537
  cf := some (fileOf pool19 1 #[] #[] 1537 3 #[] #[])
  resolved := Array.replicate 7 none }

def pool20 : Array CpInfo := pool [(1, .class_ 2), (0, u "java/lang/Cloneable"), (0, .class_ 4), (0, u "java/lang/Object")] 2

/-- java/lang/Cloneable -/
def k20 : Class := { plain "java/lang/Cloneable" (some 0) with
  accessFlags := 1537
  cf := some (fileOf pool20 1 #[] #[] 1537 3 #[] #[])
  resolved := Array.replicate 7 none }

def pool21 : Array CpInfo := pool [(1, .methodref 2 3), (0, .class_ 4), (0, .nameAndType 5 6), (0, u "java/util/AbstractList"), (0, u "<init>"), (0, u "()V"), (0, .class_ 8), (0, u "java/lang/Object"), (0, .fieldref 10 11), (0, .class_ 12), (0, .nameAndType 13 14), (0, u "java/util/ArrayList"), (0, u "elementData"), (0, u "[Ljava/lang/Object;"), (2, u "EMPTY_ELEMENTDATA"), (21, .fieldref 10 40), (0, .nameAndType 41 14), (0, u "DEFAULTCAPACITY_EMPTY_ELEMENTDATA"), (0, .interfaceMethodref 43 44), (0, .class_ 45), (0, .nameAndType 46 47), (0, u "java/util/Collection"), (0, u "toArray"), (0, u "()[Ljava/lang/Object;"), (0, .fieldref 10 49), (0, .nameAndType 50 51), (0, u "size"), (0, u "I"), (6, .class_ 60), (1, u "java/util/Arrays"), (0, u "copyOf"), (1, .fieldref 10 64), (0, .nameAndType 65 51), (0, u "modCount"), (0, .methodref 58 67), (0, .nameAndType 61 68), (0, u "([Ljava/lang/Object;I)[Ljava/lang/Object;"), (0, .methodref 10 70), (0, .nameAndType 71 72), (0, u "grow"), (0, u "(I)[Ljava/lang/Object;"), (6, .methodref 80 81), (0, .class_ 82), (0, .nameAndType 83 84), (0, u "java/lang/Math"), (0, u "max"), (0, u "(II)I"), (11, u "(Ljava/lang/Object;)Z"), (15, .methodref 113 114), (0, .class_ 115), (0, .nameAndType 116 117), (0, u "java/lang/System"), (0, u "arraycopy"), (0, u "(Ljava/lang/Object;ILjava/lang/Object;II)V"), (0, .methodref 119 120), (0, .class_ 121), (0, .nameAndType 122 84), (0, u "java/util/Objects"), (0, u "checkIndex"), (0, .methodref 10 124), (0, .nameAndType 13 125), (0, u "(I)Ljava/lang/Object;"), (3, .methodref 10 130), (0, .nameAndType 71 47), (0, .methodref 10 132), (0, .nameAndType 133 134), (0, u "add"), (0, u "(Ljava/lang/Object;[Ljava/lang/Object;I)V"), (13, .class_ 149), (0, u "java/util/List"), (36, u "()I"), (75, .class_ 263), (0, u "java/util/ArrayList$ListItr"), (3, .class_ 268), (0, u "java/util/ArrayList$Itr"), (7, .class_ 277), (0, u "java/util/ArrayList$SubList"), (12, .class_ 291), (0, u "java/util/ArrayList$ArrayListSpliterator"), (37, .class_ 330), (0, u "java/util/RandomAccess"), (0, .class_ 332), (0, u "java/lang/Cloneable"), (0, .class_ 334), (0, u "java/io/Serializable"), (0, u "serialVersionUID"), (0, u "J"), (3, u "DEFAULT_CAPACITY"), (40, u "get"), (38, u "addAll"), (0, u "(Ljava/util/Collection;)Z"), (78, .class_ 501), (0, u "java/util/ArrayList$SubList$2"), (0, .class_ 503), (0, u "java/util/ArrayList$SubList$1")] 5

def k21c0 : Code := { maxStack := 2, maxLocals := 1, code := jdk_38_method_2_code, exceptionTable := #[], attributes := #[] }
def k21m0 : Method := ⟨"<init>", "()V", ⟨[], none⟩, 1, some k21c0⟩
def k21c1 : Code := { maxStack := 4, maxLocals := 4, code := jdk_38_method_6_code, exceptionTable := #[], attributes := #[] }
def k21m1 : Method := ⟨"grow", "(I)[Ljava/lang/Object;", ⟨[.int], some (.array (.object "java/lang/Object"))⟩, 2, some k21c1⟩
def k21c2 : Code := { maxStack := 3, maxLocals := 1, code := jdk_38_method_7_code, exceptionTable := #[], attributes := #[] }
def k21m2 : Method := ⟨"grow", "()[Ljava/lang/Object;", ⟨[], some (.array (.object "java/lang/Object"))⟩, 2, some k21c2⟩
def k21c3 : Code := { maxStack := 1, maxLocals := 1, code := jdk_38_method_8_code, exceptionTable := #[], attributes := #[] }
def k21m3 : Method := ⟨"size", "()I", ⟨[], some .int⟩, 1, some k21c3⟩
def k21c4 : Code := { maxStack := 2, maxLocals := 1, code := jdk_38_method_16_code, exceptionTable := #[], attributes := #[] }
def k21m4 : Method := ⟨"toArray", "()[Ljava/lang/Object;", ⟨[], some (.array (.object "java/lang/Object"))⟩, 1, some k21c4⟩
def k21c5 : Code := { maxStack := 2, maxLocals := 2, code := jdk_38_method_18_code, exceptionTable := #[], attributes := #[] }
def k21m5 : Method := ⟨"elementData", "(I)Ljava/lang/Object;", ⟨[.int], some (.object "java/lang/Object")⟩, 0, some k21c5⟩
def k21c6 : Code := { maxStack := 2, maxLocals := 2, code := jdk_38_method_20_code, exceptionTable := #[], attributes := #[] }
def k21m6 : Method := ⟨"get", "(I)Ljava/lang/Object;", ⟨[.int], some (.object "java/lang/Object")⟩, 1, some k21c6⟩
def k21c7 : Code := { maxStack := 3, maxLocals := 4, code := jdk_38_method_24_code, exceptionTable := #[], attributes := #[] }
def k21m7 : Method := ⟨"add", "(Ljava/lang/Object;[Ljava/lang/Object;I)V", ⟨[(.object "java/lang/Object"), (.array (.object "java/lang/Object")), .int], none⟩, 2, some k21c7⟩
def k21c8 : Code := { maxStack := 4, maxLocals := 2, code := jdk_38_method_25_code, exceptionTable := #[], attributes := #[] }
def k21m8 : Method := ⟨"add", "(Ljava/lang/Object;)Z", ⟨[(.object "java/lang/Object")], some .boolean⟩, 1, some k21c8⟩
def k21c9 : Code := { maxStack := 5, maxLocals := 6, code := jdk_38_method_41_code, exceptionTable := #[], attributes := #[] }
def k21m9 : Method := ⟨"addAll", "(Ljava/util/Collection;)Z", ⟨[(.object "java/util/Collection")], some .boolean⟩, 1, some k21c9⟩
/-- java/util/ArrayList -/
def k21 : Class := { plain "java/util/ArrayList" (some 18) with
  accessFlags := 33
  interfaces := #[17, 19, 20, 5]
  cf := some (fileOf pool21 10 #[.nestMembers #[290, 276, 500, 502, 262, 267]] #[⟨1, 5, 6, #[]⟩, ⟨2, 71, 72, #[]⟩, ⟨2, 71, 47, #[]⟩, ⟨1, 50, 186, #[]⟩, ⟨1, 46, 47, #[]⟩, ⟨0, 13, 125, #[]⟩, ⟨1, 381, 125, #[]⟩, ⟨2, 133, 134, #[]⟩, ⟨1, 133, 96, #[]⟩, ⟨1, 420, 421, #[]⟩] 33 2 #[148, 329, 331, 333] #[⟨26, 335, 336, #[]⟩, ⟨26, 340, 51, #[]⟩, ⟨26, 17, 14, #[]⟩, ⟨26, 41, 14, #[]⟩, ⟨128, 13, 14, #[]⟩, ⟨2, 50, 51, #[]⟩])
  fields := #[⟨"serialVersionUID", .long, 26, 0, 0⟩, ⟨"DEFAULT_CAPACITY", .int, 26, 1, 0⟩, ⟨"EMPTY_ELEMENTDATA", (.array (.object "java/lang/Object")), 26, 2, 0⟩, ⟨"DEFAULTCAPACITY_EMPTY_ELEMENTDATA", (.array (.object "java/lang/Object")), 26, 3, 0⟩, ⟨"elementData", (.array (.object "java/lang/Object")), 128, 1, 0⟩, ⟨"size", .int, 2, 2, 0⟩]
  methods := #[k21m0, k21m1, k21m2, k21m3, k21m4, k21m5, k21m6, k21m7, k21m8, k21m9]
  instanceTypes := #[.int, (.array (.object "java/lang/Object")), .int]
  staticTypes := #[.long, .int, (.array (.object "java/lang/Object")), (.array (.object "java/lang/Object"))]
  resolved := Array.replicate 509 none
  statics := some 0 }

def pool22 : Array CpInfo := pool [(1, .methodref 2 3), (0, .class_ 4), (0, .nameAndType 5 6), (0, u "java/lang/Object"), (0, u "<init>"), (0, u "()V"), (0, .class_ 8), (0, u "java/util/ArrayList"), (0, .methodref 7 3), (0, .fieldref 11 12), (0, .class_ 13), (0, .nameAndType 14 15), (0, u "org/counterpath/engine/Encoding"), (0, u "_variables"), (0, u "Ljava/util/List;"), (0, .class_ 17), (0, u "java/util/HashMap"), (0, .methodref 16 3), (0, .fieldref 11 20), (0, .nameAndType 21 22), (0, u "_codeOf"), (0, u "Ljava/util/Map;"), (0, .interfaceMethodref 24 25), (0, .class_ 26), (0, .nameAndType 27 28), (0, u "java/util/List"), (0, u "addAll"), (0, u "(Ljava/util/Collection;)Z"), (0, .interfaceMethodref 24 30), (0, .nameAndType 31 32), (0, u "size"), (0, u "()I"), (0, .fieldref 11 34), (0, .nameAndType 35 36), (0, u "_firstInput"), (0, u "I"), (0, .fieldref 11 38), (0, .nameAndType 39 40), (0, u "_firstBits"), (0, u "[I"), (0, .fieldref 11 42), (0, .nameAndType 43 44), (0, u "_signed"), (0, u "[Z"), (0, .class_ 46), (0, u "[J"), (0, .fieldref 11 48), (0, .nameAndType 49 50), (0, u "_codes"), (0, u "[[J"), (0, .interfaceMethodref 24 52), (0, .nameAndType 53 54), (0, u "get"), (0, u "(I)Ljava/lang/Object;"), (0, .class_ 56), (0, u "org/counterpath/model/Variable"), (0, .methodref 55 58), (0, .nameAndType 59 60), (0, u "type"), (0, u "()Lorg/counterpath/model/Type;"), (0, .class_ 62), (0, u "org/counterpath/model/Type$Range"), (0, .methodref 61 64), (0, .nameAndType 65 66), (0, u "low"), (0, u "()J"), (0, .methodref 61 68), (0, .nameAndType 69 66), (0, u "high"), (6, .class_ 77), (0, u "java/lang/Long"), (0, .long 9223372036854775808), (20, .methodref 100 101), (0, .class_ 102), (0, .nameAndType 103 104), (0, u "java/lang/Math"), (0, u "min"), (0, u "(JJ)J"), (0, .methodref 100 106), (0, .nameAndType 107 104), (0, u "max"), (0, .methodref 109 110), (0, .class_ 111), (0, .nameAndType 112 113), (0, u "org/counterpath/engine/Words"), (0, u "width"), (0, u "(J)I"), (0, .methodref 100 115), (0, .nameAndType 107 116), (0, u "(II)I"), (0, .methodref 76 118), (0, .nameAndType 119 113), (0, u "numberOfLeadingZeros"), (77, u "hold"), (0, u "([ZIJ)V"), (4, u "(I)I"), (8, u "value"), (0, u "([ZI)J"), (0, .long 18446744073709551615), (16, u "(Ljava/util/List;Ljava/util/List;)V"), (18, u "firstBit")] 23

def k22c0 : Code := { maxStack := 6, maxLocals := 16, code := prog_58_method_1_code, exceptionTable := #[], attributes := #[] }
def k22m0 : Method := ⟨"<init>", "(Ljava/util/List;Ljava/util/List;)V", ⟨[(.object "java/util/List"), (.object "java/util/List")], none⟩, 0, some k22c0⟩
def k22c1 : Code := { maxStack := 2, maxLocals := 2, code := prog_58_method_14_code, exceptionTable := #[], attributes := #[] }
def k22m1 : Method := ⟨"firstBit", "(I)I", ⟨[.int], some .int⟩, 0, some k22c1⟩
def k22c2 : Code := { maxStack := 7, maxLocals := 8, code := prog_58_method_17_code, exceptionTable := #[], attributes := #[] }
def k22m2 : Method := ⟨"hold", "([ZIJ)V", ⟨[(.array .boolean), .int, .long], none⟩, 0, some k22c2⟩
def k22c3 : Code := { maxStack := 5, maxLocals := 8, code := prog_58_method_19_code, exceptionTable := #[], attributes := #[] }
def k22m3 : Method := ⟨"value", "([ZI)J", ⟨[(.array .boolean), .int], some .long⟩, 0, some k22c3⟩
/-- org/counterpath/engine/Encoding -/
def k22 : Class := { plain "org/counterpath/engine/Encoding" (some 0) with
  accessFlags := 48
  cf := some (fileOf pool22 11 #[] #[⟨0, 5, 231, #[]⟩, ⟨0, 250, 203, #[]⟩, ⟨0, 197, 198, #[]⟩, ⟨0, 212, 213, #[]⟩] 48 2 #[] #[⟨18, 14, 15, #[]⟩, ⟨18, 35, 36, #[]⟩, ⟨18, 39, 40, #[]⟩, ⟨18, 43, 44, #[]⟩, ⟨18, 49, 50, #[]⟩, ⟨18, 21, 22, #[]⟩])
  fields := #[⟨"_variables", (.object "java/util/List"), 18, 0, 0⟩, ⟨"_firstInput", .int, 18, 1, 0⟩, ⟨"_firstBits", (.array .int), 18, 2, 0⟩, ⟨"_signed", (.array .boolean), 18, 3, 0⟩, ⟨"_codes", (.array (.array .long)), 18, 4, 0⟩, ⟨"_codeOf", (.object "java/util/Map"), 18, 5, 0⟩]
  methods := #[k22m0, k22m1, k22m2, k22m3]
  instanceTypes := #[(.object "java/util/List"), .int, (.array .int), (.array .boolean), (.array (.array .long)), (.object "java/util/Map")]
  resolved := Array.replicate 274 none }

def pool23 : Array CpInfo := pool [(2, .class_ 4), (1, u "java/util/Map"), (31, .class_ 37), (0, u "java/util/Map$Entry"), (55, .class_ 94), (0, u "java/lang/Object")] 168

/-- java/util/Map -/
def k23 : Class := { plain "java/util/Map" (some 0) with
  accessFlags := 1537
  cf := some (fileOf pool23 2 #[.nestMembers #[36]] #[] 1537 93 #[] #[])
  resolved := Array.replicate 263 none }

def pool24 : Array CpInfo := pool [(1, .methodref 2 3), (0, .class_ 4), (0, .nameAndType 5 6), (0, u "java/lang/Object"), (0, u "<init>"), (0, u "()V"), (1, .class_ 10), (1, u "java/util/AbstractMap"), (42, .class_ 54), (0, u "java/util/Map"), (9, u "keySet"), (0, u "Ljava/util/Set;"), (0, .class_ 67), (0, u "java/util/AbstractMap$1"), (5, u "values"), (0, u "Ljava/util/Collection;"), (0, .class_ 76), (0, u "java/util/AbstractMap$2"), (104, .class_ 182), (0, u "java/util/AbstractMap$ViewCollection"), (0, .class_ 184), (0, u "java/util/AbstractMap$SimpleImmutableEntry"), (0, .class_ 186), (0, u "java/util/AbstractMap$SimpleEntry"), (0, .class_ 188), (0, u "java/util/AbstractMap$2$1"), (0, .class_ 190), (0, u "java/util/AbstractMap$1$1")] 5

def k24c0 : Code := { maxStack := 1, maxLocals := 1, code := jdk_71_method_1_code, exceptionTable := #[], attributes := #[] }
def k24m0 : Method := ⟨"<init>", "()V", ⟨[], none⟩, 4, some k24c0⟩
/-- java/util/AbstractMap -/
def k24 : Class := { plain "java/util/AbstractMap" (some 0) with
  accessFlags := 1057
  interfaces := #[23]
  cf := some (fileOf pool24 8 #[.nestMembers #[181, 183, 185, 75, 187, 66, 189]] #[⟨4, 5, 6, #[]⟩] 1057 2 #[53] #[⟨128, 64, 65, #[]⟩, ⟨128, 73, 74, #[]⟩])
  fields := #[⟨"keySet", (.object "java/util/Set"), 128, 0, 0⟩, ⟨"values", (.object "java/util/Collection"), 128, 1, 0⟩]
  methods := #[k24m0]
  instanceTypes := #[(.object "java/util/Set"), (.object "java/util/Collection")]
  resolved := Array.replicate 196 none }

def pool25 : Array CpInfo := pool [(40, .class_ 41), (0, u "java/util/HashMap"), (1, .methodref 44 45), (0, .class_ 46), (0, .nameAndType 47 48), (0, u "java/util/AbstractMap"), (0, u "<init>"), (0, u "()V"), (32, .fieldref 40 82), (0, .nameAndType 83 84), (0, u "loadFactor"), (0, u "F"), (5, u "threshold"), (0, u "I"), (0, .float 1061158912), (8, .class_ 103), (1, u "java/util/Map"), (0, u "size"), (2, u "table"), (0, u "[Ljava/util/HashMap$Node;"), (14, u "entrySet"), (39, .class_ 165), (1, u "java/util/HashMap$Node"), (14, .class_ 181), (0, u "java/util/HashMap$TreeNode"), (22, u "modCount"), (37, u "Ljava/util/Set;"), (0, .class_ 244), (0, u "java/util/HashMap$KeySet"), (18, .class_ 264), (0, u "java/util/HashMap$Values"), (3, .class_ 269), (0, u "java/util/HashMap$EntrySet"), (76, .class_ 348), (1, u "java/util/HashMap$UnsafeHolder"), (43, .class_ 393), (0, u "java/lang/Cloneable"), (0, .class_ 395), (0, u "java/io/Serializable"), (0, u "serialVersionUID"), (0, u "J"), (3, u "DEFAULT_INITIAL_CAPACITY"), (1, u "MAXIMUM_CAPACITY"), (0, u "DEFAULT_LOAD_FACTOR"), (0, u "TREEIFY_THRESHOLD"), (1, u "UNTREEIFY_THRESHOLD"), (1, u "MIN_TREEIFY_CAPACITY"), (186, .class_ 597), (0, u "java/util/HashMap$EntrySpliterator"), (0, .class_ 599), (0, u "java/util/HashMap$ValueSpliterator"), (0, .class_ 601), (0, u "java/util/HashMap$KeySpliterator"), (0, .class_ 603), (0, u "java/util/HashMap$HashMapSpliterator"), (0, .class_ 605), (0, u "java/util/HashMap$EntryIterator"), (0, .class_ 607), (0, u "java/util/HashMap$ValueIterator"), (0, .class_ 609), (0, u "java/util/HashMap$KeyIterator"), (0, .class_ 611), (0, u "java/util/HashMap$HashIterator")] 17

def k25c0 : Code := { maxStack := 2, maxLocals := 1, code := jdk_69_method_7_code, exceptionTable := #[], attributes := #[] }
def k25m0 : Method := ⟨"<init>", "()V", ⟨[], none⟩, 1, some k25c0⟩
/-- java/util/HashMap -/
def k25 : Class := { plain "java/util/HashMap" (some 24) with
  accessFlags := 33
  interfaces := #[23, 20, 5]
  cf := some (fileOf pool25 40 #[.nestMembers #[180, 596, 598, 600, 602, 604, 606, 608, 610, 346, 268, 263, 243, 163]] #[⟨1, 47, 48, #[]⟩] 33 44 #[101, 392, 394] #[⟨26, 396, 397, #[]⟩, ⟨24, 401, 91, #[]⟩, ⟨24, 403, 91, #[]⟩, ⟨24, 404, 84, #[]⟩, ⟨24, 405, 91, #[]⟩, ⟨24, 407, 91, #[]⟩, ⟨24, 409, 91, #[]⟩, ⟨128, 107, 108, #[]⟩, ⟨128, 123, 242, #[]⟩, ⟨128, 104, 91, #[]⟩, ⟨128, 204, 91, #[]⟩, ⟨0, 90, 91, #[]⟩, ⟨16, 83, 84, #[]⟩])
  fields := #[⟨"serialVersionUID", .long, 26, 0, 0⟩, ⟨"DEFAULT_INITIAL_CAPACITY", .int, 24, 1, 0⟩, ⟨"MAXIMUM_CAPACITY", .int, 24, 2, 0⟩, ⟨"DEFAULT_LOAD_FACTOR", .float, 24, 3, 0⟩, ⟨"TREEIFY_THRESHOLD", .int, 24, 4, 0⟩, ⟨"UNTREEIFY_THRESHOLD", .int, 24, 5, 0⟩, ⟨"MIN_TREEIFY_CAPACITY", .int, 24, 6, 0⟩, ⟨"table", (.array (.object "java/util/HashMap$Node")), 128, 2, 0⟩, ⟨"entrySet", (.object "java/util/Set"), 128, 3, 0⟩, ⟨"size", .int, 128, 4, 0⟩, ⟨"modCount", .int, 128, 5, 0⟩, ⟨"threshold", .int, 0, 6, 0⟩, ⟨"loadFactor", .float, 16, 7, 0⟩]
  methods := #[k25m0]
  instanceTypes := #[(.object "java/util/Set"), (.object "java/util/Collection"), (.array (.object "java/util/HashMap$Node")), (.object "java/util/Set"), .int, .int, .int, .float]
  staticTypes := #[.long, .int, .int, .float, .int, .int, .int]
  resolved := Array.replicate 629 none }

def pool26 : Array CpInfo := pool [(2, .class_ 4), (1, u "java/lang/Object"), (0, u "<init>"), (0, u "()V"), (7, .class_ 16), (1, u "java/util/Arrays"), (57, .class_ 76), (1, u "java/util/Arrays$NaturalOrder"), (9, .methodref 2 87), (0, .nameAndType 88 89), (0, u "getClass"), (0, u "()Ljava/lang/Class;"), (20, .class_ 111), (0, u "[Ljava/lang/Object;"), (1, .class_ 115), (1, u "java/util/Arrays$LegacyMergeSort"), (1, u "Z"), (32, .methodref 151 152), (0, .class_ 153), (0, .nameAndType 154 155), (0, u "java/lang/System"), (0, u "arraycopy"), (0, u "(Ljava/lang/Object;ILjava/lang/Object;II)V"), (144, .methodref 14 301), (0, .nameAndType 302 303), (0, u "copyOf"), (0, u "([Ljava/lang/Object;ILjava/lang/Class;)[Ljava/lang/Object;"), (0, .methodref 305 306), (0, .class_ 307), (0, .nameAndType 308 309), (0, u "java/lang/Math"), (0, u "min"), (0, u "(II)I"), (65, .class_ 376), (0, u "java/util/Arrays$ArrayList"), (68, u "$assertionsDisabled"), (269, u "MIN_ARRAY_SORT_GRAN"), (0, u "I"), (2, u "INSERTIONSORT_THRESHOLD"), (140, u "([Ljava/lang/Object;I)[Ljava/lang/Object;"), (114, .class_ 976), (0, u "java/util/Arrays$ArrayItr")] 52

def k26m0 : Method := ⟨"<init>", "()V", ⟨[], none⟩, 2, none⟩
def k26c1 : Code := { maxStack := 3, maxLocals := 2, code := jdk_65_method_119_code, exceptionTable := #[], attributes := #[] }
def k26m1 : Method := ⟨"copyOf", "([Ljava/lang/Object;I)[Ljava/lang/Object;", ⟨[(.array (.object "java/lang/Object")), .int], some (.array (.object "java/lang/Object"))⟩, 9, some k26c1⟩
def k26c2 : Code := { maxStack := 6, maxLocals := 4, code := jdk_65_method_120_code, exceptionTable := #[], attributes := #[] }
def k26m2 : Method := ⟨"copyOf", "([Ljava/lang/Object;ILjava/lang/Class;)[Ljava/lang/Object;", ⟨[(.array (.object "java/lang/Object")), .int, (.object "java/lang/Class")], some (.array (.object "java/lang/Object"))⟩, 9, some k26c2⟩
/-- java/util/Arrays -/
def k26 : Class := { plain "java/util/Arrays" (some 0) with
  accessFlags := 49
  cf := some (fileOf pool26 14 #[.nestMembers #[975, 375, 113, 74]] #[⟨2, 5, 6, #[]⟩, ⟨9, 302, 860, #[]⟩, ⟨9, 302, 303, #[]⟩] 49 2 #[] #[⟨26, 715, 716, #[]⟩, ⟨26, 719, 716, #[]⟩, ⟨4120, 445, 117, #[]⟩])
  fields := #[⟨"MIN_ARRAY_SORT_GRAN", .int, 26, 0, 0⟩, ⟨"INSERTIONSORT_THRESHOLD", .int, 26, 1, 0⟩, ⟨"$assertionsDisabled", .boolean, 4120, 2, 0⟩]
  methods := #[k26m0, k26m1, k26m2]
  staticTypes := #[.int, .int, .boolean]
  resolved := Array.replicate 1029 none }

def pool27 : Array CpInfo := pool [(2, .class_ 4), (1, u "java/lang/Object"), (0, u "<init>"), (0, u "()V"), (1, .class_ 10), (1, u "java/lang/System"), (0, u "allowSecurityManager"), (0, u "I"), (16, u "cons"), (0, u "Ljava/io/Console;"), (77, .class_ 110), (1, u "java/lang/System$CallersHolder"), (43, u "initialErrStream"), (0, u "Ljava/io/PrintStream;"), (19, u "security"), (0, u "Ljava/lang/SecurityManager;"), (31, .class_ 209), (0, u "java/lang/System$1"), (7, u "props"), (0, u "Ljava/util/Properties;"), (2, u "lineSeparator"), (0, u "Ljava/lang/String;"), (96, .class_ 321), (1, u "java/lang/System$LoggerFinder"), (5, .class_ 328), (0, u "java/lang/System$Logger"), (67, u "err"), (2, u "out"), (91, u "notSupportedJnuEncoding"), (15, u "in"), (17, u "initialIn"), (0, u "Ljava/io/InputStream;"), (35, u "bootLayer"), (0, u "Ljava/lang/ModuleLayer;"), (99, .class_ 664), (0, u "java/lang/System$2"), (9, u "NEVER"), (2, u "MAYBE"), (49, u "arraycopy"), (0, u "(Ljava/lang/Object;ILjava/lang/Object;II)V"), (72, .class_ 802), (0, u "java/lang/System$Logger$Level")] 31

def k27m0 : Method := ⟨"<init>", "()V", ⟨[], none⟩, 2, none⟩
def k27m1 : Method := ⟨"arraycopy", "(Ljava/lang/Object;ILjava/lang/Object;II)V", ⟨[(.object "java/lang/Object"), .int, (.object "java/lang/Object"), .int, .int], none⟩, 265, none⟩
/-- java/lang/System -/
def k27 : Class := { plain "java/lang/System" (some 0) with
  accessFlags := 49
  cf := some (fileOf pool27 8 #[.nestMembers #[319, 327, 801, 108, 663, 208]] #[⟨2, 5, 6, #[]⟩, ⟨265, 727, 728, #[]⟩] 49 2 #[] #[⟨25, 507, 526, #[]⟩, ⟨25, 399, 155, #[]⟩, ⟨25, 396, 155, #[]⟩, ⟨10, 525, 526, #[]⟩, ⟨26, 674, 12, #[]⟩, ⟨26, 677, 12, #[]⟩, ⟨10, 11, 12, #[]⟩, ⟨74, 175, 176, #[]⟩, ⟨10, 491, 222, #[]⟩, ⟨74, 29, 30, #[]⟩, ⟨74, 154, 155, #[]⟩, ⟨10, 217, 218, #[]⟩, ⟨10, 221, 222, #[]⟩, ⟨8, 562, 563, #[]⟩])
  fields := #[⟨"in", (.object "java/io/InputStream"), 25, 0, 0⟩, ⟨"out", (.object "java/io/PrintStream"), 25, 1, 0⟩, ⟨"err", (.object "java/io/PrintStream"), 25, 2, 0⟩, ⟨"initialIn", (.object "java/io/InputStream"), 10, 3, 0⟩, ⟨"NEVER", .int, 26, 4, 0⟩, ⟨"MAYBE", .int, 26, 5, 0⟩, ⟨"allowSecurityManager", .int, 10, 6, 0⟩, ⟨"security", (.object "java/lang/SecurityManager"), 74, 7, 0⟩, ⟨"notSupportedJnuEncoding", (.object "java/lang/String"), 10, 8, 0⟩, ⟨"cons", (.object "java/io/Console"), 74, 9, 0⟩, ⟨"initialErrStream", (.object "java/io/PrintStream"), 74, 10, 0⟩, ⟨"props", (.object "java/util/Properties"), 10, 11, 0⟩, ⟨"lineSeparator", (.object "java/lang/String"), 10, 12, 0⟩, ⟨"bootLayer", (.object "java/lang/ModuleLayer"), 8, 13, 0⟩]
  methods := #[k27m0, k27m1]
  staticTypes := #[(.object "java/io/InputStream"), (.object "java/io/PrintStream"), (.object "java/io/PrintStream"), (.object "java/io/InputStream"), .int, .int, .int, (.object "java/lang/SecurityManager"), (.object "java/lang/String"), (.object "java/io/Console"), (.object "java/io/PrintStream"), (.object "java/util/Properties"), (.object "java/lang/String"), (.object "java/lang/ModuleLayer")]
  resolved := Array.replicate 834 none }

def pool28 : Array CpInfo := pool [(2, .class_ 4), (1, u "java/lang/Object"), (0, u "<init>"), (0, u "()V"), (35, .class_ 44), (1, u "java/util/Objects"), (60, .methodref 106 107), (0, .class_ 108), (0, .nameAndType 109 110), (0, u "jdk/internal/util/Preconditions"), (0, u "checkIndex"), (0, u "(IILjava/util/function/BiFunction;)I"), (60, u "(II)I")] 12

def k28m0 : Method := ⟨"<init>", "()V", ⟨[], none⟩, 2, none⟩
def k28c1 : Code := { maxStack := 3, maxLocals := 2, code := jdk_31_method_17_code, exceptionTable := #[], attributes := #[] }
def k28m1 : Method := ⟨"checkIndex", "(II)I", ⟨[.int, .int], some .int⟩, 9, some k28c1⟩
/-- java/util/Objects -/
def k28 : Class := { plain "java/util/Objects" (some 0) with
  accessFlags := 49
  cf := some (fileOf pool28 42 #[] #[⟨2, 5, 6, #[]⟩, ⟨9, 109, 171, #[]⟩] 49 2 #[] #[])
  methods := #[k28m0, k28m1]
  resolved := Array.replicate 184 none }

def pool29 : Array CpInfo := pool [(2, .class_ 4), (1, u "java/lang/Object"), (0, u "<init>"), (0, u "()V"), (17, .class_ 26), (1, u "jdk/internal/util/Preconditions"), (6, u "checkIndex"), (21, .class_ 56), (0, u "jdk/internal/util/Preconditions$4"), (57, .class_ 115), (0, u "jdk/internal/util/Preconditions$1"), (7, u "SIOOBE_FORMATTER"), (0, u "Ljava/util/function/BiFunction;"), (0, .class_ 126), (0, u "jdk/internal/util/Preconditions$2"), (3, u "AIOOBE_FORMATTER"), (0, .class_ 132), (0, u "jdk/internal/util/Preconditions$3"), (3, u "IOOBE_FORMATTER"), (41, u "(IILjava/util/function/BiFunction;)I")] 15

def k29m0 : Method := ⟨"<init>", "()V", ⟨[], none⟩, 1, none⟩
def k29c1 : Code := { maxStack := 3, maxLocals := 3, code := jdk_41_method_11_code, exceptionTable := #[], attributes := #[] }
def k29m1 : Method := ⟨"checkIndex", "(IILjava/util/function/BiFunction;)I", ⟨[.int, .int, (.object "java/util/function/BiFunction")], some .int⟩, 9, some k29c1⟩
/-- jdk/internal/util/Preconditions -/
def k29 : Class := { plain "jdk/internal/util/Preconditions" (some 0) with
  accessFlags := 33
  cf := some (fileOf pool29 24 #[.nestMembers #[55, 131, 125, 114]] #[⟨1, 5, 6, #[]⟩, ⟨9, 33, 178, #[]⟩] 33 2 #[] #[⟨25, 123, 124, #[]⟩, ⟨25, 130, 124, #[]⟩, ⟨25, 136, 124, #[]⟩])
  fields := #[⟨"SIOOBE_FORMATTER", (.object "java/util/function/BiFunction"), 25, 0, 0⟩, ⟨"AIOOBE_FORMATTER", (.object "java/util/function/BiFunction"), 25, 1, 0⟩, ⟨"IOOBE_FORMATTER", (.object "java/util/function/BiFunction"), 25, 2, 0⟩]
  methods := #[k29m0, k29m1]
  staticTypes := #[(.object "java/util/function/BiFunction"), (.object "java/util/function/BiFunction"), (.object "java/util/function/BiFunction")]
  resolved := Array.replicate 194 none }

def pool30 : Array CpInfo := pool [(2, .class_ 4), (1, u "java/lang/Object"), (0, u "<init>"), (0, u "()V"), (1, .class_ 10), (1, u "java/lang/Number"), (2, .class_ 14), (0, u "java/io/Serializable"), (0, u "serialVersionUID"), (0, u "J")] 20

def k30m0 : Method := ⟨"<init>", "()V", ⟨[], none⟩, 1, none⟩
/-- java/lang/Number -/
def k30 : Class := { plain "java/lang/Number" (some 0) with
  accessFlags := 1057
  interfaces := #[5]
  cf := some (fileOf pool30 8 #[] #[⟨1, 5, 6, #[]⟩] 1057 2 #[13] #[⟨26, 15, 16, #[]⟩])
  fields := #[⟨"serialVersionUID", .long, 26, 0, 0⟩]
  methods := #[k30m0]
  staticTypes := #[.long]
  resolved := Array.replicate 37 none }

def pool31 : Array CpInfo := pool [(1, .class_ 2), (0, u "java/lang/Long"), (15, .class_ 20), (1, u "java/lang/Integer"), (79, u "numberOfLeadingZeros"), (0, u "(J)I"), (133, .class_ 237), (1, u "java/lang/Long$LongCache"), (33, .class_ 272), (0, u "java/lang/Number"), (2, u "value"), (0, u "J"), (31, .methodref 18 309), (0, .nameAndType 100 310), (0, u "(I)I"), (50, u "TYPE"), (0, u "Ljava/lang/Class;"), (0, .class_ 364), (0, u "java/lang/Comparable"), (0, .class_ 366), (0, u "java/lang/constant/Constable"), (0, .class_ 368), (0, u "java/lang/constant/ConstantDesc"), (0, u "MIN_VALUE"), (1, u "MAX_VALUE"), (4, u "SIZE"), (0, u "I"), (1, u "BYTES"), (1, u "serialVersionUID")] 142

def k31c0 : Code := { maxStack := 3, maxLocals := 3, code := jdk_35_method_48_code, exceptionTable := #[], attributes := #[] }
def k31m0 : Method := ⟨"numberOfLeadingZeros", "(J)I", ⟨[.long], some .int⟩, 9, some k31c0⟩
/-- java/lang/Long -/
def k31 : Class := { plain "java/lang/Long" (some 30) with
  accessFlags := 49
  interfaces := #[6, 8, 9]
  cf := some (fileOf pool31 1 #[.nestMembers #[235]] #[⟨9, 100, 101, #[]⟩] 49 271 #[363, 365, 367] #[⟨25, 369, 276, #[]⟩, ⟨25, 371, 276, #[]⟩, ⟨25, 361, 362, #[]⟩, ⟨18, 275, 276, #[]⟩, ⟨25, 376, 377, #[]⟩, ⟨25, 379, 377, #[]⟩, ⟨26, 381, 276, #[]⟩])
  fields := #[⟨"MIN_VALUE", .long, 25, 0, 0⟩, ⟨"MAX_VALUE", .long, 25, 1, 0⟩, ⟨"TYPE", (.object "java/lang/Class"), 25, 2, 0⟩, ⟨"value", .long, 18, 0, 0⟩, ⟨"SIZE", .int, 25, 3, 0⟩, ⟨"BYTES", .int, 25, 4, 0⟩, ⟨"serialVersionUID", .long, 26, 5, 0⟩]
  methods := #[k31m0]
  instanceTypes := #[.long]
  staticTypes := #[.long, .long, (.object "java/lang/Class"), .int, .int, .long]
  resolved := Array.replicate 524 none }

def pool32 : Array CpInfo := pool [(1, .class_ 2), (0, u "java/lang/Integer"), (16, u "digits"), (0, u "[C"), (32, u "numberOfLeadingZeros"), (0, u "(I)I"), (30, u "DigitOnes"), (0, u "[B"), (2, u "DigitTens"), (99, .class_ 190), (0, u "java/lang/Integer$IntegerCache"), (3, u "I"), (8, .class_ 204), (0, u "java/lang/Number"), (2, u "value"), (56, .integer 65536), (37, u "TYPE"), (0, u "Ljava/lang/Class;"), (0, .class_ 305), (0, u "java/lang/Comparable"), (0, .class_ 307), (0, u "java/lang/constant/Constable"), (0, .class_ 309), (0, u "java/lang/constant/ConstantDesc"), (0, u "MIN_VALUE"), (1, u "MAX_VALUE"), (3, u "SIZE"), (1, u "BYTES"), (1, u "serialVersionUID"), (0, u "J")] 131

def k32c0 : Code := { maxStack := 3, maxLocals := 2, code := jdk_33_method_47_code, exceptionTable := #[], attributes := #[] }
def k32m0 : Method := ⟨"numberOfLeadingZeros", "(I)I", ⟨[.int], some .int⟩, 9, some k32c0⟩
/-- java/lang/Integer -/
def k32 : Class := { plain "java/lang/Integer" (some 30) with
  accessFlags := 49
  interfaces := #[6, 8, 9]
  cf := some (fileOf pool32 1 #[.nestMembers #[189]] #[⟨9, 53, 54, #[]⟩] 49 203 #[304, 306, 308] #[⟨25, 310, 194, #[]⟩, ⟨25, 312, 194, #[]⟩, ⟨25, 302, 303, #[]⟩, ⟨24, 19, 20, #[]⟩, ⟨24, 89, 86, #[]⟩, ⟨24, 85, 86, #[]⟩, ⟨18, 207, 194, #[]⟩, ⟨25, 316, 194, #[]⟩, ⟨25, 318, 194, #[]⟩, ⟨26, 320, 321, #[]⟩])
  fields := #[⟨"MIN_VALUE", .int, 25, 0, 0⟩, ⟨"MAX_VALUE", .int, 25, 1, 0⟩, ⟨"TYPE", (.object "java/lang/Class"), 25, 2, 0⟩, ⟨"digits", (.array .char), 24, 3, 0⟩, ⟨"DigitTens", (.array .byte), 24, 4, 0⟩, ⟨"DigitOnes", (.array .byte), 24, 5, 0⟩, ⟨"value", .int, 18, 0, 0⟩, ⟨"SIZE", .int, 25, 6, 0⟩, ⟨"BYTES", .int, 25, 7, 0⟩, ⟨"serialVersionUID", .long, 26, 8, 0⟩]
  methods := #[k32m0]
  instanceTypes := #[.int]
  staticTypes := #[.int, .int, (.object "java/lang/Class"), (.array .char), (.array .byte), (.array .byte), .int, .int, .long]
  resolved := Array.replicate 453 none }

def pool33 : Array CpInfo := pool [(2, .class_ 4), (1, u "java/lang/Object"), (0, u "<init>"), (0, u "()V"), (1, .class_ 10), (1, u "org/counterpath/engine/Words"), (0, u "width"), (0, u "(J)I"), (2, .long 18446744073709551615), (1, .methodref 18 19), (0, .class_ 20), (0, .nameAndType 21 12), (0, u "java/lang/Long"), (0, u "numberOfLeadingZeros")] 104

def k33m0 : Method := ⟨"<init>", "()V", ⟨[], none⟩, 2, none⟩
def k33c1 : Code := { maxStack := 5, maxLocals := 2, code := prog_102_method_3_code, exceptionTable := #[], attributes := #[] }
def k33m1 : Method := ⟨"width", "(J)I", ⟨[.long], some .int⟩, 8, some k33c1⟩
/-- org/counterpath/engine/Words -/
def k33 : Class := { plain "org/counterpath/engine/Words" (some 0) with
  accessFlags := 48
  cf := some (fileOf pool33 8 #[] #[⟨2, 5, 6, #[]⟩, ⟨8, 11, 12, #[]⟩] 48 2 #[] #[])
  methods := #[k33m0, k33m1]
  resolved := Array.replicate 126 none }

def pool34 : Array CpInfo := pool [(1, u "java/lang/Class"), (0, .class_ 1), (0, u "java/lang/Object"), (0, .class_ 3)] 3

/-- java/lang/Class -/
def k34 : Class := { plain "java/lang/Class" (some 0) with
  accessFlags := 49
  cf := some (fileOf pool34 2 #[] #[] 49 4 #[] #[])
  resolved := Array.replicate 8 none }

/-- the primitive boolean -/
def k35 : Class := { plain "boolean" none with kind := .primitive 'Z', accessFlags := 0x411 }
/-- [Z -/
def k36 : Class := { plain "[Z" (some 0) with kind := .array 35 .boolean, interfaces := #[20, 5], accessFlags := 1041 }

/-- the primitive byte -/
def k37 : Class := { plain "byte" none with kind := .primitive 'B', accessFlags := 0x411 }
/-- [B -/
def k38 : Class := { plain "[B" (some 0) with kind := .array 37 .byte, interfaces := #[20, 5], accessFlags := 1041 }

/-- the primitive int -/
def k39 : Class := { plain "int" none with kind := .primitive 'I', accessFlags := 0x411 }
/-- [I -/
def k40 : Class := { plain "[I" (some 0) with kind := .array 39 .int, interfaces := #[20, 5], accessFlags := 1041 }

/-- the primitive long -/
def k41 : Class := { plain "long" none with kind := .primitive 'J', accessFlags := 0x411 }
/-- [J -/
def k42 : Class := { plain "[J" (some 0) with kind := .array 41 .long, interfaces := #[20, 5], accessFlags := 1041 }

/-- [Ljava/lang/Object; -/
def k43 : Class := { plain "[Ljava/lang/Object;" (some 0) with kind := .array 0 (.object "java/lang/Object"), interfaces := #[20, 5], accessFlags := 1041, mirror := some 1 }

def k44 : Class := { plain "[[J" (some 0) with kind := .array 42 (.array .long), interfaces := #[20, 5], accessFlags := 1041 }
def heap : Heap := #[{ cls := 21, slots := #[.long 0, .int 0, .ref 2, .ref 3], vm := .statics 21 },
  { cls := 34, slots := #[], vm := .mirror 43 },
  { cls := 43, slots := #[], vm := .none },
  { cls := 43, slots := #[], vm := .none }]
def classes : Array Class := #[k0, k1, k2, k3, k4, k5, k6, k7, k8, k9, k10, k11, k12, k13, k14, k15, k16, k17, k18, k19, k20, k21, k22, k23, k24, k25, k26, k27, k28, k29, k30, k31, k32, k33, k34, k35, k36, k37, k38, k39, k40, k41, k42, k43, k44]
def interned : List (Array UInt16 × Addr) := []
def slotsUsed : Nat := 4
def theMethod : MethodId := ⟨1, 1⟩
def args0 : Array Value := #[.long 1, .long 2, .long 1, .int 0, .int 0, .int 0]
def aboutOver (below : List Frame) : State where
  vm := { classes := classes, interned := interned.toArray }
  heap := heap
  slotsUsed := slotsUsed
  threads := #[{ frames := .invoking theMethod args0 :: below }]
def below0 : List Frame := [.native { method := ⟨0, 0⟩, args := #[] }]
def about1 : State := aboutOver below0
def p0 : Program := .bare "" "" ""
def e0 : Env := launch0.env 0 0 0
theorem w_frames : about1.frames = Frame.invoking theMethod args0 :: below0 := rfl
theorem w_args : argsFit about1.vm theMethod args0 = true := by decide +kernel
theorem w_heap : heapFits about1 = true := by decide +kernel
theorem w_runnable : about1.curStatus? = some .runnable := by decide +kernel
theorem w_alone : about1.alone = true := by decide +kernel
theorem w_named : about1.methodNamed? x = some theMethod := by decide +kernel
theorem w_hears : about1.hears theMethod below0 = true := by decide +kernel
theorem w_ripe : about1.ripe theMethod args0 below0 = true := by decide +kernel
theorem w_running : about1.status = .running := rfl
theorem w_room : about1.hasRoom e0.platform room_1 = true :=
  launch0.hasRoom_least _ room_1 (by decide +kernel) (by decide +kernel) (by decide +kernel) (by decide +kernel) (by decide +kernel) (by decide +kernel)
theorem allAtoms_all (ts : List Jvm.Cond) (a : Array Jvm.Value) (st : Jvm.State) : (allAtoms ts).before a st = ts.all (fun c => c.before a st) := by
  induction ts with
  | nil => rfl
  | cons c t ih =>
    show (Jvm.Cond.and c (allAtoms t)).before a st = _
    rw [Jvm.Cond.before_and, ih, List.all_cons]
def words1 : List Jvm.Cond := Jvm.Cond.code x code maxLocals ret :: tables_1
/-- a 'code' word, met by the world's own term for the bytes: nothing is compared byte by byte -/
theorem code_word {y : MethodName} {bytes : ByteArray} {mx : Nat} {rt : Option FieldType} {a : Array Value} {s : State} {m : MethodId} {meth : Method} {c : Code} (h1 : s.methodNamed? y = some m) (h2 : s.vm.method? m = some meth) (h3 : meth.code = some c) (h4 : c.code = bytes)
    (h5 : (c.maxLocals == mx && c.exceptionTable.isEmpty && decide (c.maxStack ≤ mostOperands) && decide (meth.sig.returnType = rt) && !meth.locks && decide (parseMethodDescriptor y.desc = some meth.sig)) = true) : (Jvm.Cond.code y bytes mx rt).before a s = true := by
  simp only [Bool.and_eq_true, beq_iff_eq, Bool.not_eq_true', decide_eq_true_eq] at h5
  obtain ⟨⟨⟨⟨⟨g1, g2⟩, g3⟩, g4⟩, g5⟩, g6⟩ := h5
  simp [Cond.before, Cond.holds, Cond.value, h1, h2, h3, h4, g1, g2, g3, g4, g5, g6]
def isCode : Jvm.Cond → Bool
  | .code _ _ _ _ => true
  | _ => false
theorem all_split {L : List Jvm.Cond} {P : Jvm.Cond → Bool} (h1 : L.all (fun c => isCode c || P c) = true) (h2 : ∀ c ∈ L.filter isCode, P c = true) : L.all P = true := by
  refine List.all_eq_true.mpr fun c hc => ?_
  have h := List.all_eq_true.mp h1 c hc
  rcases Bool.eq_false_or_eq_true (isCode c) with hi | hi
  · exact h2 c (List.mem_filter.mpr ⟨hc, hi⟩)
  · simpa [hi] using h
theorem w_c0 : (Jvm.Cond.code x code maxLocals ret).before args0 about1 = true := code_word (m := ⟨1, 1⟩) (meth := k1m1) (c := k1c1) (by decide +kernel) rfl rfl rfl (by decide +kernel)
theorem w_c1 : (Jvm.Cond.code (⟨"java/lang/Math", "min", "(JJ)J"⟩ : MethodName) jdk_29_method_70_code (4 : Nat) (Option.some Jvm.ClassFile.FieldType.long)).before args0 about1 = true := code_word (m := ⟨2, 4⟩) (meth := k2m4) (c := k2c4) (by decide +kernel) rfl rfl rfl (by decide +kernel)
theorem w_c2 : (Jvm.Cond.code (⟨"java/lang/Math", "max", "(JJ)J"⟩ : MethodName) jdk_29_method_66_code (4 : Nat) (Option.some Jvm.ClassFile.FieldType.long)).before args0 about1 = true := code_word (m := ⟨2, 2⟩) (meth := k2m2) (c := k2c2) (by decide +kernel) rfl rfl rfl (by decide +kernel)
theorem w_c3 : (Jvm.Cond.code (⟨"org/counterpath/model/Type$Range", "<init>", "(JJ)V"⟩ : MethodName) prog_156_method_1_code (5 : Nat) (Option.none : Option Jvm.ClassFile.FieldType)).before args0 about1 = true := code_word (m := ⟨12, 0⟩) (meth := k12m0) (c := k12c0) (by decide +kernel) rfl rfl rfl (by decide +kernel)
theorem w_c4 : (Jvm.Cond.code (⟨"java/lang/Record", "<init>", "()V"⟩ : MethodName) jdk_30_method_1_code (1 : Nat) (Option.none : Option Jvm.ClassFile.FieldType)).before args0 about1 = true := code_word (m := ⟨3, 0⟩) (meth := k3m0) (c := k3c0) (by decide +kernel) rfl rfl rfl (by decide +kernel)
theorem w_c5 : (Jvm.Cond.code (⟨"java/lang/Object", "<init>", "()V"⟩ : MethodName) object_method_1_code (1 : Nat) (Option.none : Option Jvm.ClassFile.FieldType)).before args0 about1 = true := code_word (m := ⟨0, 0⟩) (meth := k0m0) (c := k0c0) (by decide +kernel) rfl rfl rfl (by decide +kernel)
theorem w_c6 : (Jvm.Cond.code (⟨"org/counterpath/model/Variable", "<init>", "(Ljava/lang/String;Lorg/counterpath/model/Type;)V"⟩ : MethodName) prog_158_method_1_code (3 : Nat) (Option.none : Option Jvm.ClassFile.FieldType)).before args0 about1 = true := code_word (m := ⟨4, 0⟩) (meth := k4m0) (c := k4c0) (by decide +kernel) rfl rfl rfl (by decide +kernel)
theorem w_c7 : (Jvm.Cond.code (⟨"java/util/ArrayList", "<init>", "()V"⟩ : MethodName) jdk_38_method_2_code (1 : Nat) (Option.none : Option Jvm.ClassFile.FieldType)).before args0 about1 = true := code_word (m := ⟨21, 0⟩) (meth := k21m0) (c := k21c0) (by decide +kernel) rfl rfl rfl (by decide +kernel)
theorem w_c8 : (Jvm.Cond.code (⟨"java/util/AbstractList", "<init>", "()V"⟩ : MethodName) jdk_39_method_1_code (1 : Nat) (Option.none : Option Jvm.ClassFile.FieldType)).before args0 about1 = true := code_word (m := ⟨18, 0⟩) (meth := k18m0) (c := k18c0) (by decide +kernel) rfl rfl rfl (by decide +kernel)
theorem w_c9 : (Jvm.Cond.code (⟨"java/util/AbstractCollection", "<init>", "()V"⟩ : MethodName) jdk_22_method_1_code (1 : Nat) (Option.none : Option Jvm.ClassFile.FieldType)).before args0 about1 = true := code_word (m := ⟨15, 0⟩) (meth := k15m0) (c := k15c0) (by decide +kernel) rfl rfl rfl (by decide +kernel)
theorem w_c10 : (Jvm.Cond.code (⟨"java/util/ArrayList", "add", "(Ljava/lang/Object;)Z"⟩ : MethodName) jdk_38_method_25_code (2 : Nat) (Option.some Jvm.ClassFile.FieldType.boolean)).before args0 about1 = true := code_word (m := ⟨21, 8⟩) (meth := k21m8) (c := k21c8) (by decide +kernel) rfl rfl rfl (by decide +kernel)
theorem w_c11 : (Jvm.Cond.code (⟨"java/util/ArrayList", "add", "(Ljava/lang/Object;[Ljava/lang/Object;I)V"⟩ : MethodName) jdk_38_method_24_code (4 : Nat) (Option.none : Option Jvm.ClassFile.FieldType)).before args0 about1 = true := code_word (m := ⟨21, 7⟩) (meth := k21m7) (c := k21c7) (by decide +kernel) rfl rfl rfl (by decide +kernel)
theorem w_c12 : (Jvm.Cond.code (⟨"java/util/ArrayList", "grow", "()[Ljava/lang/Object;"⟩ : MethodName) jdk_38_method_7_code (1 : Nat) (Option.some (Jvm.ClassFile.FieldType.array (Jvm.ClassFile.FieldType.object "java/lang/Object")))).before args0 about1 = true := code_word (m := ⟨21, 2⟩) (meth := k21m2) (c := k21c2) (by decide +kernel) rfl rfl rfl (by decide +kernel)
theorem w_c13 : (Jvm.Cond.code (⟨"java/util/ArrayList", "grow", "(I)[Ljava/lang/Object;"⟩ : MethodName) jdk_38_method_6_code (4 : Nat) (Option.some (Jvm.ClassFile.FieldType.array (Jvm.ClassFile.FieldType.object "java/lang/Object")))).before args0 about1 = true := code_word (m := ⟨21, 1⟩) (meth := k21m1) (c := k21c1) (by decide +kernel) rfl rfl rfl (by decide +kernel)
theorem w_c14 : (Jvm.Cond.code (⟨"java/lang/Math", "max", "(II)I"⟩ : MethodName) jdk_29_method_65_code (2 : Nat) (Option.some Jvm.ClassFile.FieldType.int)).before args0 about1 = true := code_word (m := ⟨2, 1⟩) (meth := k2m1) (c := k2c1) (by decide +kernel) rfl rfl rfl (by decide +kernel)
theorem w_c15 : (Jvm.Cond.code (⟨"org/counterpath/engine/Encoding", "<init>", "(Ljava/util/List;Ljava/util/List;)V"⟩ : MethodName) prog_58_method_1_code (16 : Nat) (Option.none : Option Jvm.ClassFile.FieldType)).before args0 about1 = true := code_word (m := ⟨22, 0⟩) (meth := k22m0) (c := k22c0) (by decide +kernel) rfl rfl rfl (by decide +kernel)
theorem w_c16 : (Jvm.Cond.code (⟨"java/util/HashMap", "<init>", "()V"⟩ : MethodName) jdk_69_method_7_code (1 : Nat) (Option.none : Option Jvm.ClassFile.FieldType)).before args0 about1 = true := code_word (m := ⟨25, 0⟩) (meth := k25m0) (c := k25c0) (by decide +kernel) rfl rfl rfl (by decide +kernel)
theorem w_c17 : (Jvm.Cond.code (⟨"java/util/AbstractMap", "<init>", "()V"⟩ : MethodName) jdk_71_method_1_code (1 : Nat) (Option.none : Option Jvm.ClassFile.FieldType)).before args0 about1 = true := code_word (m := ⟨24, 0⟩) (meth := k24m0) (c := k24c0) (by decide +kernel) rfl rfl rfl (by decide +kernel)
theorem w_c18 : (Jvm.Cond.code (⟨"java/util/ArrayList", "addAll", "(Ljava/util/Collection;)Z"⟩ : MethodName) jdk_38_method_41_code (6 : Nat) (Option.some Jvm.ClassFile.FieldType.boolean)).before args0 about1 = true := code_word (m := ⟨21, 9⟩) (meth := k21m9) (c := k21c9) (by decide +kernel) rfl rfl rfl (by decide +kernel)
theorem w_c19 : (Jvm.Cond.code (⟨"java/util/ArrayList", "toArray", "()[Ljava/lang/Object;"⟩ : MethodName) jdk_38_method_16_code (1 : Nat) (Option.some (Jvm.ClassFile.FieldType.array (Jvm.ClassFile.FieldType.object "java/lang/Object")))).before args0 about1 = true := code_word (m := ⟨21, 4⟩) (meth := k21m4) (c := k21c4) (by decide +kernel) rfl rfl rfl (by decide +kernel)
theorem w_c20 : (Jvm.Cond.code (⟨"java/util/Arrays", "copyOf", "([Ljava/lang/Object;I)[Ljava/lang/Object;"⟩ : MethodName) jdk_65_method_119_code (2 : Nat) (Option.some (Jvm.ClassFile.FieldType.array (Jvm.ClassFile.FieldType.object "java/lang/Object")))).before args0 about1 = true := code_word (m := ⟨26, 1⟩) (meth := k26m1) (c := k26c1) (by decide +kernel) rfl rfl rfl (by decide +kernel)
theorem w_c21 : (Jvm.Cond.code (⟨"java/util/Arrays", "copyOf", "([Ljava/lang/Object;ILjava/lang/Class;)[Ljava/lang/Object;"⟩ : MethodName) jdk_65_method_120_code (4 : Nat) (Option.some (Jvm.ClassFile.FieldType.array (Jvm.ClassFile.FieldType.object "java/lang/Object")))).before args0 about1 = true := code_word (m := ⟨26, 2⟩) (meth := k26m2) (c := k26c2) (by decide +kernel) rfl rfl rfl (by decide +kernel)
theorem w_c22 : (Jvm.Cond.code (⟨"java/lang/Math", "min", "(II)I"⟩ : MethodName) jdk_29_method_69_code (2 : Nat) (Option.some Jvm.ClassFile.FieldType.int)).before args0 about1 = true := code_word (m := ⟨2, 3⟩) (meth := k2m3) (c := k2c3) (by decide +kernel) rfl rfl rfl (by decide +kernel)
theorem w_c23 : (Jvm.Cond.code (⟨"java/util/ArrayList", "size", "()I"⟩ : MethodName) jdk_38_method_8_code (1 : Nat) (Option.some Jvm.ClassFile.FieldType.int)).before args0 about1 = true := code_word (m := ⟨21, 3⟩) (meth := k21m3) (c := k21c3) (by decide +kernel) rfl rfl rfl (by decide +kernel)
theorem w_c24 : (Jvm.Cond.code (⟨"java/util/ArrayList", "get", "(I)Ljava/lang/Object;"⟩ : MethodName) jdk_38_method_20_code (2 : Nat) (Option.some (Jvm.ClassFile.FieldType.object "java/lang/Object"))).before args0 about1 = true := code_word (m := ⟨21, 6⟩) (meth := k21m6) (c := k21c6) (by decide +kernel) rfl rfl rfl (by decide +kernel)
theorem w_c25 : (Jvm.Cond.code (⟨"java/util/Objects", "checkIndex", "(II)I"⟩ : MethodName) jdk_31_method_17_code (2 : Nat) (Option.some Jvm.ClassFile.FieldType.int)).before args0 about1 = true := code_word (m := ⟨28, 1⟩) (meth := k28m1) (c := k28c1) (by decide +kernel) rfl rfl rfl (by decide +kernel)
theorem w_c26 : (Jvm.Cond.code (⟨"jdk/internal/util/Preconditions", "checkIndex", "(IILjava/util/function/BiFunction;)I"⟩ : MethodName) jdk_41_method_11_code (3 : Nat) (Option.some Jvm.ClassFile.FieldType.int)).before args0 about1 = true := code_word (m := ⟨29, 1⟩) (meth := k29m1) (c := k29c1) (by decide +kernel) rfl rfl rfl (by decide +kernel)
theorem w_c27 : (Jvm.Cond.code (⟨"java/util/ArrayList", "elementData", "(I)Ljava/lang/Object;"⟩ : MethodName) jdk_38_method_18_code (2 : Nat) (Option.some (Jvm.ClassFile.FieldType.object "java/lang/Object"))).before args0 about1 = true := code_word (m := ⟨21, 5⟩) (meth := k21m5) (c := k21c5) (by decide +kernel) rfl rfl rfl (by decide +kernel)
theorem w_c28 : (Jvm.Cond.code (⟨"org/counterpath/model/Variable", "type", "()Lorg/counterpath/model/Type;"⟩ : MethodName) prog_158_method_6_code (1 : Nat) (Option.some (Jvm.ClassFile.FieldType.object "org/counterpath/model/Type"))).before args0 about1 = true := code_word (m := ⟨4, 1⟩) (meth := k4m1) (c := k4c1) (by decide +kernel) rfl rfl rfl (by decide +kernel)
theorem w_c29 : (Jvm.Cond.code (⟨"org/counterpath/model/Type$Range", "low", "()J"⟩ : MethodName) prog_156_method_12_code (1 : Nat) (Option.some Jvm.ClassFile.FieldType.long)).before args0 about1 = true := code_word (m := ⟨12, 1⟩) (meth := k12m1) (c := k12c1) (by decide +kernel) rfl rfl rfl (by decide +kernel)
theorem w_c30 : (Jvm.Cond.code (⟨"org/counterpath/model/Type$Range", "high", "()J"⟩ : MethodName) prog_156_method_13_code (1 : Nat) (Option.some Jvm.ClassFile.FieldType.long)).before args0 about1 = true := code_word (m := ⟨12, 2⟩) (meth := k12m2) (c := k12c2) (by decide +kernel) rfl rfl rfl (by decide +kernel)
theorem w_c31 : (Jvm.Cond.code (⟨"java/lang/Long", "numberOfLeadingZeros", "(J)I"⟩ : MethodName) jdk_35_method_48_code (3 : Nat) (Option.some Jvm.ClassFile.FieldType.int)).before args0 about1 = true := code_word (m := ⟨31, 0⟩) (meth := k31m0) (c := k31c0) (by decide +kernel) rfl rfl rfl (by decide +kernel)
theorem w_c32 : (Jvm.Cond.code (⟨"java/lang/Integer", "numberOfLeadingZeros", "(I)I"⟩ : MethodName) jdk_33_method_47_code (2 : Nat) (Option.some Jvm.ClassFile.FieldType.int)).before args0 about1 = true := code_word (m := ⟨32, 0⟩) (meth := k32m0) (c := k32c0) (by decide +kernel) rfl rfl rfl (by decide +kernel)
theorem w_c33 : (Jvm.Cond.code (⟨"org/counterpath/engine/Words", "width", "(J)I"⟩ : MethodName) prog_102_method_3_code (2 : Nat) (Option.some Jvm.ClassFile.FieldType.int)).before args0 about1 = true := code_word (m := ⟨33, 1⟩) (meth := k33m1) (c := k33c1) (by decide +kernel) rfl rfl rfl (by decide +kernel)
theorem w_c34 : (Jvm.Cond.code (⟨"org/counterpath/engine/Encoding", "hold", "([ZIJ)V"⟩ : MethodName) prog_58_method_17_code (8 : Nat) (Option.none : Option Jvm.ClassFile.FieldType)).before args0 about1 = true := code_word (m := ⟨22, 2⟩) (meth := k22m2) (c := k22c2) (by decide +kernel) rfl rfl rfl (by decide +kernel)
theorem w_c35 : (Jvm.Cond.code (⟨"org/counterpath/engine/Encoding", "firstBit", "(I)I"⟩ : MethodName) prog_58_method_14_code (2 : Nat) (Option.some Jvm.ClassFile.FieldType.int)).before args0 about1 = true := code_word (m := ⟨22, 1⟩) (meth := k22m1) (c := k22c1) (by decide +kernel) rfl rfl rfl (by decide +kernel)
theorem w_c36 : (Jvm.Cond.code (⟨"org/counterpath/engine/Encoding", "value", "([ZI)J"⟩ : MethodName) prog_58_method_19_code (8 : Nat) (Option.some Jvm.ClassFile.FieldType.long)).before args0 about1 = true := code_word (m := ⟨22, 3⟩) (meth := k22m3) (c := k22c3) (by decide +kernel) rfl rfl rfl (by decide +kernel)
theorem w_c37 : (Jvm.Cond.code (⟨"org/counterpath/engine/EncodingHoldPinLaw", "bitOf", "(JI)Z"⟩ : MethodName) method_3_code (3 : Nat) (Option.some Jvm.ClassFile.FieldType.boolean)).before args0 about1 = true := code_word (m := ⟨1, 2⟩) (meth := k1m2) (c := k1c2) (by decide +kernel) rfl rfl rfl (by decide +kernel)
def codes1 : List Jvm.Cond := [Jvm.Cond.code x code maxLocals ret, Jvm.Cond.code (⟨"java/lang/Math", "min", "(JJ)J"⟩ : MethodName) jdk_29_method_70_code (4 : Nat) (Option.some Jvm.ClassFile.FieldType.long), Jvm.Cond.code (⟨"java/lang/Math", "max", "(JJ)J"⟩ : MethodName) jdk_29_method_66_code (4 : Nat) (Option.some Jvm.ClassFile.FieldType.long), Jvm.Cond.code (⟨"org/counterpath/model/Type$Range", "<init>", "(JJ)V"⟩ : MethodName) prog_156_method_1_code (5 : Nat) (Option.none : Option Jvm.ClassFile.FieldType), Jvm.Cond.code (⟨"java/lang/Record", "<init>", "()V"⟩ : MethodName) jdk_30_method_1_code (1 : Nat) (Option.none : Option Jvm.ClassFile.FieldType), Jvm.Cond.code (⟨"java/lang/Object", "<init>", "()V"⟩ : MethodName) object_method_1_code (1 : Nat) (Option.none : Option Jvm.ClassFile.FieldType), Jvm.Cond.code (⟨"org/counterpath/model/Variable", "<init>", "(Ljava/lang/String;Lorg/counterpath/model/Type;)V"⟩ : MethodName) prog_158_method_1_code (3 : Nat) (Option.none : Option Jvm.ClassFile.FieldType), Jvm.Cond.code (⟨"java/util/ArrayList", "<init>", "()V"⟩ : MethodName) jdk_38_method_2_code (1 : Nat) (Option.none : Option Jvm.ClassFile.FieldType), Jvm.Cond.code (⟨"java/util/AbstractList", "<init>", "()V"⟩ : MethodName) jdk_39_method_1_code (1 : Nat) (Option.none : Option Jvm.ClassFile.FieldType), Jvm.Cond.code (⟨"java/util/AbstractCollection", "<init>", "()V"⟩ : MethodName) jdk_22_method_1_code (1 : Nat) (Option.none : Option Jvm.ClassFile.FieldType), Jvm.Cond.code (⟨"java/util/ArrayList", "add", "(Ljava/lang/Object;)Z"⟩ : MethodName) jdk_38_method_25_code (2 : Nat) (Option.some Jvm.ClassFile.FieldType.boolean), Jvm.Cond.code (⟨"java/util/ArrayList", "add", "(Ljava/lang/Object;[Ljava/lang/Object;I)V"⟩ : MethodName) jdk_38_method_24_code (4 : Nat) (Option.none : Option Jvm.ClassFile.FieldType), Jvm.Cond.code (⟨"java/util/ArrayList", "grow", "()[Ljava/lang/Object;"⟩ : MethodName) jdk_38_method_7_code (1 : Nat) (Option.some (Jvm.ClassFile.FieldType.array (Jvm.ClassFile.FieldType.object "java/lang/Object"))), Jvm.Cond.code (⟨"java/util/ArrayList", "grow", "(I)[Ljava/lang/Object;"⟩ : MethodName) jdk_38_method_6_code (4 : Nat) (Option.some (Jvm.ClassFile.FieldType.array (Jvm.ClassFile.FieldType.object "java/lang/Object"))), Jvm.Cond.code (⟨"java/lang/Math", "max", "(II)I"⟩ : MethodName) jdk_29_method_65_code (2 : Nat) (Option.some Jvm.ClassFile.FieldType.int), Jvm.Cond.code (⟨"org/counterpath/engine/Encoding", "<init>", "(Ljava/util/List;Ljava/util/List;)V"⟩ : MethodName) prog_58_method_1_code (16 : Nat) (Option.none : Option Jvm.ClassFile.FieldType), Jvm.Cond.code (⟨"java/util/HashMap", "<init>", "()V"⟩ : MethodName) jdk_69_method_7_code (1 : Nat) (Option.none : Option Jvm.ClassFile.FieldType), Jvm.Cond.code (⟨"java/util/AbstractMap", "<init>", "()V"⟩ : MethodName) jdk_71_method_1_code (1 : Nat) (Option.none : Option Jvm.ClassFile.FieldType), Jvm.Cond.code (⟨"java/util/ArrayList", "addAll", "(Ljava/util/Collection;)Z"⟩ : MethodName) jdk_38_method_41_code (6 : Nat) (Option.some Jvm.ClassFile.FieldType.boolean), Jvm.Cond.code (⟨"java/util/ArrayList", "toArray", "()[Ljava/lang/Object;"⟩ : MethodName) jdk_38_method_16_code (1 : Nat) (Option.some (Jvm.ClassFile.FieldType.array (Jvm.ClassFile.FieldType.object "java/lang/Object"))), Jvm.Cond.code (⟨"java/util/Arrays", "copyOf", "([Ljava/lang/Object;I)[Ljava/lang/Object;"⟩ : MethodName) jdk_65_method_119_code (2 : Nat) (Option.some (Jvm.ClassFile.FieldType.array (Jvm.ClassFile.FieldType.object "java/lang/Object"))), Jvm.Cond.code (⟨"java/util/Arrays", "copyOf", "([Ljava/lang/Object;ILjava/lang/Class;)[Ljava/lang/Object;"⟩ : MethodName) jdk_65_method_120_code (4 : Nat) (Option.some (Jvm.ClassFile.FieldType.array (Jvm.ClassFile.FieldType.object "java/lang/Object"))), Jvm.Cond.code (⟨"java/lang/Math", "min", "(II)I"⟩ : MethodName) jdk_29_method_69_code (2 : Nat) (Option.some Jvm.ClassFile.FieldType.int), Jvm.Cond.code (⟨"java/util/ArrayList", "size", "()I"⟩ : MethodName) jdk_38_method_8_code (1 : Nat) (Option.some Jvm.ClassFile.FieldType.int), Jvm.Cond.code (⟨"java/util/ArrayList", "get", "(I)Ljava/lang/Object;"⟩ : MethodName) jdk_38_method_20_code (2 : Nat) (Option.some (Jvm.ClassFile.FieldType.object "java/lang/Object")), Jvm.Cond.code (⟨"java/util/Objects", "checkIndex", "(II)I"⟩ : MethodName) jdk_31_method_17_code (2 : Nat) (Option.some Jvm.ClassFile.FieldType.int), Jvm.Cond.code (⟨"jdk/internal/util/Preconditions", "checkIndex", "(IILjava/util/function/BiFunction;)I"⟩ : MethodName) jdk_41_method_11_code (3 : Nat) (Option.some Jvm.ClassFile.FieldType.int), Jvm.Cond.code (⟨"java/util/ArrayList", "elementData", "(I)Ljava/lang/Object;"⟩ : MethodName) jdk_38_method_18_code (2 : Nat) (Option.some (Jvm.ClassFile.FieldType.object "java/lang/Object")), Jvm.Cond.code (⟨"org/counterpath/model/Variable", "type", "()Lorg/counterpath/model/Type;"⟩ : MethodName) prog_158_method_6_code (1 : Nat) (Option.some (Jvm.ClassFile.FieldType.object "org/counterpath/model/Type")), Jvm.Cond.code (⟨"org/counterpath/model/Type$Range", "low", "()J"⟩ : MethodName) prog_156_method_12_code (1 : Nat) (Option.some Jvm.ClassFile.FieldType.long), Jvm.Cond.code (⟨"org/counterpath/model/Type$Range", "high", "()J"⟩ : MethodName) prog_156_method_13_code (1 : Nat) (Option.some Jvm.ClassFile.FieldType.long), Jvm.Cond.code (⟨"java/lang/Long", "numberOfLeadingZeros", "(J)I"⟩ : MethodName) jdk_35_method_48_code (3 : Nat) (Option.some Jvm.ClassFile.FieldType.int), Jvm.Cond.code (⟨"java/lang/Integer", "numberOfLeadingZeros", "(I)I"⟩ : MethodName) jdk_33_method_47_code (2 : Nat) (Option.some Jvm.ClassFile.FieldType.int), Jvm.Cond.code (⟨"org/counterpath/engine/Words", "width", "(J)I"⟩ : MethodName) prog_102_method_3_code (2 : Nat) (Option.some Jvm.ClassFile.FieldType.int), Jvm.Cond.code (⟨"org/counterpath/engine/Encoding", "hold", "([ZIJ)V"⟩ : MethodName) prog_58_method_17_code (8 : Nat) (Option.none : Option Jvm.ClassFile.FieldType), Jvm.Cond.code (⟨"org/counterpath/engine/Encoding", "firstBit", "(I)I"⟩ : MethodName) prog_58_method_14_code (2 : Nat) (Option.some Jvm.ClassFile.FieldType.int), Jvm.Cond.code (⟨"org/counterpath/engine/Encoding", "value", "([ZI)J"⟩ : MethodName) prog_58_method_19_code (8 : Nat) (Option.some Jvm.ClassFile.FieldType.long), Jvm.Cond.code (⟨"org/counterpath/engine/EncodingHoldPinLaw", "bitOf", "(JI)Z"⟩ : MethodName) method_3_code (3 : Nat) (Option.some Jvm.ClassFile.FieldType.boolean)]
theorem codes_eq : words1.filter isCode = codes1 := rfl
theorem w_codes : ∀ c ∈ words1.filter isCode, c.before args0 about1 = true := by
  rw [codes_eq]
  intro c hc
  simp only [codes1, List.mem_cons, List.not_mem_nil, or_false] at hc
  rcases hc with rfl | rfl | rfl | rfl | rfl | rfl | rfl | rfl | rfl | rfl | rfl | rfl | rfl | rfl | rfl | rfl | rfl | rfl | rfl | rfl | rfl | rfl | rfl | rfl | rfl | rfl | rfl | rfl | rfl | rfl | rfl | rfl | rfl | rfl | rfl | rfl | rfl | rfl
  · exact w_c0
  · exact w_c1
  · exact w_c2
  · exact w_c3
  · exact w_c4
  · exact w_c5
  · exact w_c6
  · exact w_c7
  · exact w_c8
  · exact w_c9
  · exact w_c10
  · exact w_c11
  · exact w_c12
  · exact w_c13
  · exact w_c14
  · exact w_c15
  · exact w_c16
  · exact w_c17
  · exact w_c18
  · exact w_c19
  · exact w_c20
  · exact w_c21
  · exact w_c22
  · exact w_c23
  · exact w_c24
  · exact w_c25
  · exact w_c26
  · exact w_c27
  · exact w_c28
  · exact w_c29
  · exact w_c30
  · exact w_c31
  · exact w_c32
  · exact w_c33
  · exact w_c34
  · exact w_c35
  · exact w_c36
  · exact w_c37
theorem w_t1 : (words1.take 24).all (fun c => isCode c || c.before args0 about1) = true := by decide +kernel
theorem w_t2 : ((words1.drop 24).take 24).all (fun c => isCode c || c.before args0 about1) = true := by decide +kernel
theorem w_t3 : (((words1.drop 24).drop 24).take 24).all (fun c => isCode c || c.before args0 about1) = true := by decide +kernel
theorem w_t4 : ((((words1.drop 24).drop 24).drop 24).take 24).all (fun c => isCode c || c.before args0 about1) = true := by decide +kernel
theorem w_t5 : (((((words1.drop 24).drop 24).drop 24).drop 24).take 24).all (fun c => isCode c || c.before args0 about1) = true := by decide +kernel
theorem w_t6 : ((((((words1.drop 24).drop 24).drop 24).drop 24).drop 24).take 24).all (fun c => isCode c || c.before args0 about1) = true := by decide +kernel
theorem w_t7 : (((((((words1.drop 24).drop 24).drop 24).drop 24).drop 24).drop 24).take 24).all (fun c => isCode c || c.before args0 about1) = true := by decide +kernel
theorem w_t8 : ((((((((words1.drop 24).drop 24).drop 24).drop 24).drop 24).drop 24).drop 24).take 24).all (fun c => isCode c || c.before args0 about1) = true := by decide +kernel
theorem w_t9 : (((((((((words1.drop 24).drop 24).drop 24).drop 24).drop 24).drop 24).drop 24).drop 24).take 24).all (fun c => isCode c || c.before args0 about1) = true := by decide +kernel
theorem w_t10 : ((((((((((words1.drop 24).drop 24).drop 24).drop 24).drop 24).drop 24).drop 24).drop 24).drop 24).take 24).all (fun c => isCode c || c.before args0 about1) = true := by decide +kernel
theorem w_t11 : (((((((((((words1.drop 24).drop 24).drop 24).drop 24).drop 24).drop 24).drop 24).drop 24).drop 24).drop 24).take 24).all (fun c => isCode c || c.before args0 about1) = true := by decide +kernel
theorem w_t12 : (((((((((((words1.drop 24).drop 24).drop 24).drop 24).drop 24).drop 24).drop 24).drop 24).drop 24).drop 24).drop 24).all (fun c => isCode c || c.before args0 about1) = true := by decide +kernel
theorem w_tables : (allAtoms (Jvm.Cond.code x code maxLocals ret :: tables_1)).before args0 about1 = true := by
  rw [allAtoms_all]
  show words1.all (fun c => c.before args0 about1) = true
  refine all_split ?_ w_codes
  rw [← List.take_append_drop 24 words1, List.all_append, w_t1, ← List.take_append_drop 24 (words1.drop 24), List.all_append, w_t2, ← List.take_append_drop 24 ((words1.drop 24).drop 24), List.all_append, w_t3, ← List.take_append_drop 24 (((words1.drop 24).drop 24).drop 24), List.all_append, w_t4, ← List.take_append_drop 24 ((((words1.drop 24).drop 24).drop 24).drop 24), List.all_append, w_t5, ← List.take_append_drop 24 (((((words1.drop 24).drop 24).drop 24).drop 24).drop 24), List.all_append, w_t6, ← List.take_append_drop 24 ((((((words1.drop 24).drop 24).drop 24).drop 24).drop 24).drop 24), List.all_append, w_t7, ← List.take_append_drop 24 (((((((words1.drop 24).drop 24).drop 24).drop 24).drop 24).drop 24).drop 24), List.all_append, w_t8, ← List.take_append_drop 24 ((((((((words1.drop 24).drop 24).drop 24).drop 24).drop 24).drop 24).drop 24).drop 24), List.all_append, w_t9, ← List.take_append_drop 24 (((((((((words1.drop 24).drop 24).drop 24).drop 24).drop 24).drop 24).drop 24).drop 24).drop 24), List.all_append, w_t10, ← List.take_append_drop 24 ((((((((((words1.drop 24).drop 24).drop 24).drop 24).drop 24).drop 24).drop 24).drop 24).drop 24).drop 24), List.all_append, w_t11, w_t12]
  rfl
theorem w_rest : rest_1_c.before args0 about1 = true := by decide +kernel
theorem w_case : (Jvm.Cond.and given_1 narrow_1).before args0 about1 = true := by decide +kernel
theorem w_applies : (headSpec (Jvm.Cond.code x code maxLocals ret :: tables_1) room_1).applies x e0.platform about1 = true :=
  (Spec.applies_iff w_frames).mpr ⟨w_running, w_runnable, w_alone, w_named, w_hears, w_ripe, w_room, w_tables⟩
theorem atStart : AtStart classFile x code maxLocals ret World_1 tables_1 room_1 Calls_1 rest_1 Pre_1 launch0 p0 e0 about1 theMethod args0 below0 :=
  ⟨lists_1, trivial, launch0.admits_env _ _ _, launch0.least_env, fairChoices_fair.cas, fairChoices_fair.clock, w_frames, w_args, w_heap, w_applies, ⟨⟨43, k43, 1, by decide +kernel, rfl, rfl, _, rfl, rfl⟩, trivial⟩, w_rest, w_case⟩
end start1
theorem witness_1 : WitnessClaimed_1 := ⟨start1.p0, start1.e0, start1.about1, start1.theMethod, start1.args0, start1.below0, start1.atStart⟩
end Jvm.Pilot.@@N@@
