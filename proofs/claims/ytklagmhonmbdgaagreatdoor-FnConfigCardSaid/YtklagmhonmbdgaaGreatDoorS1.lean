/- A step of the proofs (S1): contracts of the functions printed here, for all their arguments that meet what each names. -/
import Derived.Test.YtklagmhonmbdgaaGreatDoorBase
import Derived.Test.YtklagmhonmbdgaaGreatDoorSteps
set_option maxRecDepth 1000000
set_option linter.unusedVariables false
set_option linter.unusedSimpArgs false
set_option maxHeartbeats 4000000
namespace Go.Proofs
open Go Go.V
/-- loop.example/pub-g03440/spec.Four -/
def wp34 (x0 : Int) (R : Value → World → Prop) (w : World) : Prop := ShC (24 : Int) (ShC (16 : Int) (ShC (8 : Int) (AllocC w (.cells #[.int .u8 (IntKind.wrap .u8 (shrI .u32 x0 (24 : Int))), .int .u8 (IntKind.wrap .u8 (shrI .u32 x0 (16 : Int))), .int .u8 (IntKind.wrap .u8 (shrI .u32 x0 (8 : Int))), .int .u8 (IntKind.wrap .u8 x0)] 5) fun (r1 : Nat) (w2 : World) => R (.slice (some ⟨r1, 0, none⟩) 4 4 : Value) w2)))
theorem eq34 (x0 : Int) (R : Value → World → Prop) (w : World) : vc Pg Gg (annOf []) 0 (bodyOf Tryz.f34) (retK Pg Tryz.f34.results.toList R) (argE 0 [.int .u32 x0]) w = wp34 x0 R w := by kernel_rfl
theorem call34 {x0 : Int} {R : Value → World → Prop} {w : World} (h : wp34 x0 R w) : CallT Pg 34 #[.int .u32 x0] w R :=
  calls_of_vc follows bodies Tryz.func34 (by kernel_rfl) (by kernel_rfl) (by kernel_rfl) ((eq34 x0 R w).mpr h)

/-- loop.example/pub-g03440/spec.four -/
def wp46 (x0 : Option Addr) (x0l : Nat) (x0c : Nat) (x1 : Int) (R : Value → World → Prop) (w : World) : Prop := DrewC w fun (w1 : World) => And (0 ≤ x1 ∧ x1 < (x0l : Int)) (PtrC x0 fun (a2 : Addr) => LdI w1 (elemAt a2 x1.toNat 1) .u8 fun (n3 : Int) => ShC (24 : Int) (And (0 ≤ IntKind.wrap .i64 (x1 + (1 : Int)) ∧ IntKind.wrap .i64 (x1 + (1 : Int)) < (x0l : Int)) (PtrC x0 fun (a4 : Addr) => LdI w1 (elemAt a4 ((IntKind.wrap .i64 (x1 + (1 : Int))).toNat) 1) .u8 fun (n5 : Int) => ShC (16 : Int) (And (0 ≤ IntKind.wrap .i64 (x1 + (2 : Int)) ∧ IntKind.wrap .i64 (x1 + (2 : Int)) < (x0l : Int)) (PtrC x0 fun (a6 : Addr) => LdI w1 (elemAt a6 ((IntKind.wrap .i64 (x1 + (2 : Int))).toNat) 1) .u8 fun (n7 : Int) => ShC (8 : Int) (And (0 ≤ IntKind.wrap .i64 (x1 + (3 : Int)) ∧ IntKind.wrap .i64 (x1 + (3 : Int)) < (x0l : Int)) (PtrC x0 fun (a8 : Addr) => LdI w1 (elemAt a8 ((IntKind.wrap .i64 (x1 + (3 : Int))).toNat) 1) .u8 fun (n9 : Int) => R (.int .u32 (bOr .u32 (bOr .u32 (bOr .u32 (shlI .u32 (IntKind.wrap .u32 n3) (24 : Int)) (shlI .u32 (IntKind.wrap .u32 n5) (16 : Int))) (shlI .u32 (IntKind.wrap .u32 n7) (8 : Int))) (IntKind.wrap .u32 n9)) : Value) w1)))))))
theorem eq46 (x0 : Option Addr) (x0l : Nat) (x0c : Nat) (x1 : Int) (R : Value → World → Prop) (w : World) : vc Pg Gg (annOf []) 0 (bodyOf Tryz.f46) (retK Pg Tryz.f46.results.toList R) (argE 0 [.slice x0 x0l x0c, .int .i64 x1]) w = wp46 x0 x0l x0c x1 R w := by kernel_rfl
theorem call46 {x0 : Option Addr} {x0l : Nat} {x0c : Nat} {x1 : Int} {R : Value → World → Prop} {w : World} (h : wp46 x0 x0l x0c x1 R w) : CallT Pg 46 #[.slice x0 x0l x0c, .int .i64 x1] w R :=
  calls_of_vc follows bodies Tryz.func46 (by kernel_rfl) (by kernel_rfl) (by kernel_rfl) ((eq46 x0 x0l x0c x1 R w).mpr h)

/-- loop.example/pub-g03440/spec.Signature -/
def wp47  (R : Value → World → Prop) (w : World) : Prop := AllocC w (.cells #[.int .u8 (137 : Int), .int .u8 (80 : Int), .int .u8 (78 : Int), .int .u8 (71 : Int), .int .u8 (13 : Int), .int .u8 (10 : Int), .int .u8 (26 : Int), .int .u8 (10 : Int)] 5) fun (r1 : Nat) (w2 : World) => R (.slice (some ⟨r1, 0, none⟩) 8 8 : Value) w2
theorem eq47  (R : Value → World → Prop) (w : World) : vc Pg Gg (annOf []) 0 (bodyOf Tryz.f47) (retK Pg Tryz.f47.results.toList R) (argE 0 []) w = wp47  R w := by kernel_rfl
theorem call47  {R : Value → World → Prop} {w : World} (h : wp47  R w) : CallT Pg 47 #[] w R :=
  calls_of_vc follows bodies Tryz.func47 (by kernel_rfl) (by kernel_rfl) (by kernel_rfl) ((eq47  R w).mpr h)

/-- loop.example/pub-g03440/spec.Crc -/
def wp63 (x0 : Option Addr) (x0l : Nat) (x0c : Nat) (R : Value → World → Prop) (w : World) : Prop := LoopC (fun (J3 : (Int × Int × Unit) → World → Prop) => J3 ((4294967295 : Int), (0 : Int), ()) w) (fun (z1 : (Int × Int × Unit)) (w2 : World) (N4 : (Int × Int × Unit) → World → Prop) => IfC (decide (z1.2.1 < (x0l : Int))) (And (0 ≤ z1.2.1 ∧ z1.2.1 < (x0l : Int)) (PtrC x0 fun (a5 : Addr) => LdI w2 (elemAt a5 z1.2.1.toNat 1) .u8 fun (n6 : Int) => LoopC (fun (J9 : (Int × Int × Unit) → World → Prop) => J9 (bXor .u32 z1.1 (IntKind.wrap .u32 n6), (0 : Int), ()) w2) (fun (z7 : (Int × Int × Unit)) (w8 : World) (N10 : (Int × Int × Unit) → World → Prop) => IfC (decide (z7.2.1 < (8 : Int))) (IfC ((bAnd .u32 z7.1 (1 : Int)) == (1 : Int)) (ShC (1 : Int) (N10 (bXor .u32 (shrI .u32 z7.1 (1 : Int)) (3988292384 : Int), IntKind.wrap .i64 (z7.2.1 + (1 : Int)), ()) w8)) (ShC (1 : Int) (N10 (shrI .u32 z7.1 (1 : Int), IntKind.wrap .i64 (z7.2.1 + (1 : Int)), ()) w8))) (N4 (z7.1, IntKind.wrap .i64 (z1.2.1 + (1 : Int)), ()) w8)))) (R (.int .u32 (bXor .u32 (if IntKind.signed .u32 then -1 else IntKind.max .u32) z1.1) : Value) w2))
theorem eq63 (x0 : Option Addr) (x0l : Nat) (x0c : Nat) (R : Value → World → Prop) (w : World) : vc Pg Gg (annOf [(8, [(3, .i .u32), (8, .i .i64)], [2, 6, 7]), (24, [(3, .i .u32), (16, .i .i64)], [2, 6, 7, 8])]) 0 (bodyOf Tryz.f63) (retK Pg Tryz.f63.results.toList R) (argE 0 [.slice x0 x0l x0c]) w = wp63 x0 x0l x0c R w := by kernel_rfl
theorem call63 {x0 : Option Addr} {x0l : Nat} {x0c : Nat} {R : Value → World → Prop} {w : World} (h : wp63 x0 x0l x0c R w) : CallT Pg 63 #[.slice x0 x0l x0c] w R :=
  calls_of_vc follows bodies Tryz.func63 (by kernel_rfl) (by kernel_rfl) (by kernel_rfl) ((eq63 x0 x0l x0c R w).mpr h)

/-- loop.example/pub-g03440/spec.Chunk -/
def wp48 (x0 : ByteArray) (x1 : Option Addr) (x1l : Nat) (x1c : Nat) (R : Value → World → Prop) (w : World) : Prop := ConvS Pg w 9 33 (.string x0) fun (p1 : Option Addr) (l2 : Nat) (c3 : Nat) (w4 : World) => AppR Pg w4 #[33, 33] 33 (.slice p1 l2 c3) (.slice x1 x1l x1c) fun (p5 : Option Addr) (l6 : Nat) (c7 : Nat) (w8 : World) => CallT Pg 34 #[.int .u32 (IntKind.wrap .u32 (x1l : Int))] w8 fun (v9 : Value) (w10 : World) => Exists fun (p11 : Option Addr) => Exists fun (l12 : Nat) => Exists fun (c13 : Nat) => And (v9 = .slice p11 l12 c13) (AppR Pg w10 #[33, 33] 33 (.slice p11 l12 c13) (.slice p5 l6 c7) fun (p14 : Option Addr) (l15 : Nat) (c16 : Nat) (w17 : World) => CallT Pg 63 #[.slice p5 l6 c7] w17 fun (v18 : Value) (w19 : World) => Exists fun (n20 : Int) => And (v18 = .int .u32 n20) (CallT Pg 34 #[.int .u32 n20] w19 fun (v21 : Value) (w22 : World) => Exists fun (p23 : Option Addr) => Exists fun (l24 : Nat) => Exists fun (c25 : Nat) => And (v21 = .slice p23 l24 c25) (AppR Pg w22 #[33, 33] 33 (.slice p14 l15 c16) (.slice p23 l24 c25) fun (p26 : Option Addr) (l27 : Nat) (c28 : Nat) (w29 : World) => R (.slice p26 l27 c28 : Value) w29)))
theorem eq48 (x0 : ByteArray) (x1 : Option Addr) (x1l : Nat) (x1c : Nat) (R : Value → World → Prop) (w : World) : vc Pg Gg (annOf []) 0 (bodyOf Tryz.f48) (retK Pg Tryz.f48.results.toList R) (argE 0 [.string x0, .slice x1 x1l x1c]) w = wp48 x0 x1 x1l x1c R w := by kernel_rfl
theorem call48 {x0 : ByteArray} {x1 : Option Addr} {x1l : Nat} {x1c : Nat} {R : Value → World → Prop} {w : World} (h : wp48 x0 x1 x1l x1c R w) : CallT Pg 48 #[.string x0, .slice x1 x1l x1c] w R :=
  calls_of_vc follows bodies Tryz.func48 (by kernel_rfl) (by kernel_rfl) (by kernel_rfl) ((eq48 x0 x1 x1l x1c R w).mpr h)

/-- loop.example/pub-g03440/spec.Places -/
def wp26 (x0 : Option Addr) (x0l : Nat) (x0c : Nat) (R : Value → World → Prop) (w : World) : Prop := AllocC w (.cells #[] 3) fun (r1 : Nat) (w2 : World) => LoopC (fun (J5 : (Sl × Int × Unit) → World → Prop) => J5 ((⟨some ⟨r1, 0, none⟩, 0, 0⟩ : Sl), (8 : Int), ()) w2) (fun (z3 : (Sl × Int × Unit)) (w4 : World) (N6 : (Sl × Int × Unit) → World → Prop) => IfC (decide ((IntKind.wrap .i64 (z3.2.1 + (12 : Int))) ≤ (x0l : Int))) (AllocC w4 (.cells #[.int .i64 z3.2.1] 3) fun (r7 : Nat) (w8 : World) => AppR Pg w8 #[28, 28] 28 (.slice z3.1.a z3.1.len z3.1.cap) (.slice (some ⟨r7, 0, none⟩) 1 1) fun (p9 : Option Addr) (l10 : Nat) (c11 : Nat) (w12 : World) => CallT Pg 46 #[.slice x0 x0l x0c, .int .i64 z3.2.1] w12 fun (v13 : Value) (w14 : World) => Exists fun (n15 : Int) => And (v13 = .int .u32 n15) (N6 ((⟨p9, l10, c11⟩ : Sl), IntKind.wrap .i64 (z3.2.1 + (IntKind.wrap .i64 ((12 : Int) + (IntKind.wrap .i64 n15)))), ()) w14)) (R (.slice z3.1.a z3.1.len z3.1.cap : Value) w4))
theorem eq26 (x0 : Option Addr) (x0l : Nat) (x0c : Nat) (R : Value → World → Prop) (w : World) : vc Pg Gg (annOf [(8, [(3, .sl), (4, .i .i64)], [0, 2])]) 0 (bodyOf Tryz.f26) (retK Pg Tryz.f26.results.toList R) (argE 0 [.slice x0 x0l x0c]) w = wp26 x0 x0l x0c R w := by kernel_rfl
theorem call26 {x0 : Option Addr} {x0l : Nat} {x0c : Nat} {R : Value → World → Prop} {w : World} (h : wp26 x0 x0l x0c R w) : CallT Pg 26 #[.slice x0 x0l x0c] w R :=
  calls_of_vc follows bodies Tryz.func26 (by kernel_rfl) (by kernel_rfl) (by kernel_rfl) ((eq26 x0 x0l x0c R w).mpr h)

/-- loop.example/pub-g03440/spec.Pieces -/
def wp30 (x0 : Option Addr) (x0l : Nat) (x0c : Nat) (R : Value → World → Prop) (w : World) : Prop := AllocC w (.cells #[] 53) fun (r1 : Nat) (w2 : World) => LoopC (fun (J5 : (Sl × Int × Unit) → World → Prop) => J5 ((⟨some ⟨r1, 0, none⟩, 0, 0⟩ : Sl), (8 : Int), ()) w2) (fun (z3 : (Sl × Int × Unit)) (w4 : World) (N6 : (Sl × Int × Unit) → World → Prop) => IfC (decide ((IntKind.wrap .i64 (z3.2.1 + (12 : Int))) ≤ (x0l : Int))) (CallT Pg 46 #[.slice x0 x0l x0c, .int .i64 z3.2.1] w4 fun (v7 : Value) (w8 : World) => Exists fun (n9 : Int) => And (v7 = .int .u32 n9) (DrewC w8 fun (w10 : World) => And (0 ≤ IntKind.wrap .i64 (z3.2.1 + (8 : Int)) ∧ IntKind.wrap .i64 (z3.2.1 + (8 : Int)) ≤ (x0c : Int)) (And (0 ≤ IntKind.wrap .i64 (z3.2.1 + (4 : Int)) ∧ IntKind.wrap .i64 (z3.2.1 + (4 : Int)) ≤ IntKind.wrap .i64 (z3.2.1 + (8 : Int))) (And (0 ≤ IntKind.wrap .i64 ((IntKind.wrap .i64 (z3.2.1 + (8 : Int))) + (IntKind.wrap .i64 n9)) ∧ IntKind.wrap .i64 ((IntKind.wrap .i64 (z3.2.1 + (8 : Int))) + (IntKind.wrap .i64 n9)) ≤ (x0c : Int)) (And (0 ≤ IntKind.wrap .i64 (z3.2.1 + (8 : Int)) ∧ IntKind.wrap .i64 (z3.2.1 + (8 : Int)) ≤ IntKind.wrap .i64 ((IntKind.wrap .i64 (z3.2.1 + (8 : Int))) + (IntKind.wrap .i64 n9))) (B2S Pg w10 (slAdd x0 x0c ((IntKind.wrap .i64 (z3.2.1 + (4 : Int))).toNat) 1) (((IntKind.wrap .i64 (z3.2.1 + (8 : Int))).toNat) - ((IntKind.wrap .i64 (z3.2.1 + (4 : Int))).toNat)) (x0c - ((IntKind.wrap .i64 (z3.2.1 + (4 : Int))).toNat)) fun (s11 : ByteArray) => AllocC w10 (.cells #[.string s11, .slice (slAdd x0 x0c ((IntKind.wrap .i64 (z3.2.1 + (8 : Int))).toNat) 1) (((IntKind.wrap .i64 ((IntKind.wrap .i64 (z3.2.1 + (8 : Int))) + (IntKind.wrap .i64 n9))).toNat) - ((IntKind.wrap .i64 (z3.2.1 + (8 : Int))).toNat)) (x0c - ((IntKind.wrap .i64 (z3.2.1 + (8 : Int))).toNat))] 53) fun (r12 : Nat) (w13 : World) => AppR Pg w13 #[50, 50] 50 (.slice z3.1.a z3.1.len z3.1.cap) (.slice (some ⟨r12, 0, none⟩) 1 1) fun (p14 : Option Addr) (l15 : Nat) (c16 : Nat) (w17 : World) => N6 ((⟨p14, l15, c16⟩ : Sl), IntKind.wrap .i64 (z3.2.1 + (IntKind.wrap .i64 ((12 : Int) + (IntKind.wrap .i64 n9)))), ()) w17)))))) (R (.slice z3.1.a z3.1.len z3.1.cap : Value) w4))
theorem eq30 (x0 : Option Addr) (x0l : Nat) (x0c : Nat) (R : Value → World → Prop) (w : World) : vc Pg Gg (annOf [(8, [(3, .sl), (4, .i .i64)], [0, 2])]) 0 (bodyOf Tryz.f30) (retK Pg Tryz.f30.results.toList R) (argE 0 [.slice x0 x0l x0c]) w = wp30 x0 x0l x0c R w := by kernel_rfl
theorem call30 {x0 : Option Addr} {x0l : Nat} {x0c : Nat} {R : Value → World → Prop} {w : World} (h : wp30 x0 x0l x0c R w) : CallT Pg 30 #[.slice x0 x0l x0c] w R :=
  calls_of_vc follows bodies Tryz.func30 (by kernel_rfl) (by kernel_rfl) (by kernel_rfl) ((eq30 x0 x0l x0c R w).mpr h)

/-- loop.example/pub-g03440/spec.Glued -/
def wp31 (x0 : Option Addr) (x0l : Nat) (x0c : Nat) (R : Value → World → Prop) (w : World) : Prop := CallT Pg 47 #[] w fun (v1 : Value) (w2 : World) => Exists fun (p3 : Option Addr) => Exists fun (l4 : Nat) => Exists fun (c5 : Nat) => And (v1 = .slice p3 l4 c5) (LoopC (fun (J8 : (Sl × Int × Unit) → World → Prop) => J8 ((⟨p3, l4, c5⟩ : Sl), (0 : Int), ()) w2) (fun (z6 : (Sl × Int × Unit)) (w7 : World) (N9 : (Sl × Int × Unit) → World → Prop) => IfC (decide (z6.2.1 < (x0l : Int))) (And (0 ≤ z6.2.1 ∧ z6.2.1 < (x0l : Int)) (PtrC x0 fun (a10 : Addr) => LdS w7 (elemAt a10 z6.2.1.toNat 2) fun (s11 : ByteArray) => LdSl w7 ⟨(elemAt a10 z6.2.1.toNat 2).block, (elemAt a10 z6.2.1.toNat 2).off + 1, none⟩ fun (p12 : Option Addr) (l13 : Nat) (c14 : Nat) => AllocC w7 (.cells (zc Pg 53) 53) fun (r15 : Nat) (w16 : World) => StoreC w16 ⟨r15, 0, none⟩ (.string s11) fun (w17 : World) => StoreC w17 ⟨r15, 0 + 1, none⟩ (.slice p12 l13 c14) fun (w18 : World) => LdS w18 ⟨r15, 0, none⟩ fun (s19 : ByteArray) => LdSl w18 ⟨r15, 0 + 1, none⟩ fun (p20 : Option Addr) (l21 : Nat) (c22 : Nat) => CallT Pg 48 #[.string s19, .slice p20 l21 c22] w18 fun (v23 : Value) (w24 : World) => Exists fun (p25 : Option Addr) => Exists fun (l26 : Nat) => Exists fun (c27 : Nat) => And (v23 = .slice p25 l26 c27) (AppR Pg w24 #[33, 33] 33 (.slice z6.1.a z6.1.len z6.1.cap) (.slice p25 l26 c27) fun (p28 : Option Addr) (l29 : Nat) (c30 : Nat) (w31 : World) => N9 ((⟨p28, l29, c30⟩ : Sl), IntKind.wrap .i64 (z6.2.1 + (1 : Int)), ()) w31))) (R (.slice z6.1.a z6.1.len z6.1.cap : Value) w7)))
theorem eq31 (x0 : Option Addr) (x0l : Nat) (x0c : Nat) (R : Value → World → Prop) (w : World) : vc Pg Gg (annOf [(8, [(3, .sl), (9, .i .i64)], [2, 7, 8])]) 0 (bodyOf Tryz.f31) (retK Pg Tryz.f31.results.toList R) (argE 0 [.slice x0 x0l x0c]) w = wp31 x0 x0l x0c R w := by kernel_rfl
theorem call31 {x0 : Option Addr} {x0l : Nat} {x0c : Nat} {R : Value → World → Prop} {w : World} (h : wp31 x0 x0l x0c R w) : CallT Pg 31 #[.slice x0 x0l x0c] w R :=
  calls_of_vc follows bodies Tryz.func31 (by kernel_rfl) (by kernel_rfl) (by kernel_rfl) ((eq31 x0 x0l x0c R w).mpr h)

section
variable {w : World}
def fourL (n : Nat) : List UInt8 := [UInt8.ofNat (n / 2 ^ 24), UInt8.ofNat (n / 2 ^ 16), UInt8.ofNat (n / 2 ^ 8), UInt8.ofNat n]
/-- Bytes of one's own are handed back, and nothing else is changed. -/
def RetB (w : World) (xs : List UInt8) (v : Value) (w' : World) : Prop :=
  Fr [] w w' ∧ ∃ p c, v = .slice p xs.length c ∧ Own w' (hn w) 5 1 p xs.length c (bv xs)
theorem u8v_ofNat (n : Nat) : u8v (UInt8.ofNat n) = .int .u8 (n % 256 : Nat) := by simp [u8v]
theorem c34 {n : Nat} (h : n < 4294967296) : CallT Pg 34 #[.int .u32 n] w (RetB w (fourL n)) := by
  apply call34
  unfold wp34
  simp (disch := omega) only [ShC_eq, AllocC_eq, shr_u32, wrap_u8]
  refine ⟨Fr.alloc _ _ _, _, _, rfl, ?_⟩
  have := Own.new (w := w) (base := hn w) (e := 5) (size := 1) (cs := (bv (fourL n)).toArray) (l := 4) (Nat.le_refl _) rfl
  simpa [fourL, u8v_ofNat] using this

def be4 (xs : List UInt8) (i : Nat) : Nat := gb xs i * 16777216 + gb xs (i + 1) * 65536 + gb xs (i + 2) * 256 + gb xs (i + 3)
theorem be4_lt (xs : List UInt8) (i : Nat) : be4 xs i < 4294967296 := by
  have := gb_lt xs i; have := gb_lt xs (i + 1); have := gb_lt xs (i + 2); have := gb_lt xs (i + 3)
  unfold be4; omega
theorem c46 {p : Option Addr} {l c : Nat} {xs : List UInt8} {at_ : Int} (hx : Has w p (bv xs)) (hl : l = xs.length) (h0 : 0 ≤ at_) (h1 : at_ + 4 ≤ l) (h2 : at_ < 4611686018427387904) :
    CallT Pg 46 #[.slice p l c, .int .i64 at_] w fun v w' => v = .int .u32 (be4 xs at_.toNat) ∧ w' = w.drew := by
  apply call46
  unfold wp46
  have hx : Has w.drew p (bv xs) := hx.fr0 (Fr.drew _ _)
  rw [DrewC_eq]
  simp (disch := omega) only [wrap_i64_id, ShC_eq]
  refine IdxB hx hl (by omega) (by omega) ?_
  refine IdxB hx hl (by omega) (by omega) ?_
  refine IdxB hx hl (by omega) (by omega) ?_
  refine IdxB hx hl (by omega) (by omega) ?_
  have e1 : (at_ + 1).toNat = at_.toNat + 1 := by omega
  have e2 : (at_ + 2).toNat = at_.toNat + 2 := by omega
  have e3 : (at_ + 3).toNat = at_.toNat + 3 := by omega
  refine ⟨?_, by simp⟩
  have ha := gb_lt xs at_.toNat; have hb := gb_lt xs (at_.toNat + 1); have hc := gb_lt xs (at_.toNat + 2); have hd := gb_lt xs (at_.toNat + 3)
  simp only [e1, e2, e3, be4]
  generalize gb xs at_.toNat = a, gb xs (at_.toNat + 1) = b, gb xs (at_.toNat + 2) = c, gb xs (at_.toNat + 3) = d at *
  simp (disch := omega) only [wrap_u32_id, shl_u32, Int.reduceToNat, Int.reducePow, or24_u32, or16_u32, or8_u32]
  simp

theorem c47 : CallT Pg 47 #[] w (RetB w [137, 80, 78, 71, 13, 10, 26, 10]) := by
  apply call47
  unfold wp47
  rw [AllocC_eq]
  exact ⟨Fr.alloc _ _ _, _, _, rfl, Own.new (w := w) (base := hn w) (e := 5) (size := 1) (l := 8) (Nat.le_refl _) rfl⟩

def crcStep (x : Nat) : Nat := if x % 2 = 1 then (x / 2) ^^^ 3988292384 else x / 2
def crc8 : Nat → Nat → Nat | 0, x => x | n + 1, x => crc8 n (crcStep x)
def crcL (xs : List UInt8) : Nat := (xs.foldl (fun x v => crc8 8 (x ^^^ v.toNat)) 4294967295) ^^^ 4294967295
theorem crcStep_lt {x : Nat} (h : x < 4294967296) : crcStep x < 4294967296 := by
  unfold crcStep
  split
  · exact Nat.xor_lt_two_pow (n := 32) (by omega) (by omega)
  · omega
theorem crc8_lt {n x : Nat} (h : x < 4294967296) : crc8 n x < 4294967296 := by
  induction n generalizing x with
  | zero => exact h
  | succ n ih => exact ih (crcStep_lt h)
def crcF (x : Nat) (xs : List UInt8) : Nat := xs.foldl (fun x v => crc8 8 (x ^^^ v.toNat)) x
theorem crcF_lt {xs : List UInt8} {x : Nat} (h : x < 4294967296) : crcF x xs < 4294967296 := by
  induction xs generalizing x with
  | nil => exact h
  | cons v r ih => exact ih (crc8_lt (Nat.xor_lt_two_pow (n := 32) h (by have := UInt8.toNat_lt v; omega)))
theorem crcL_eq (xs : List UInt8) : crcL xs = crcF 4294967295 xs ^^^ 4294967295 := rfl
theorem crcL_lt (xs : List UInt8) : crcL xs < 4294967296 := Nat.xor_lt_two_pow (n := 32) (crcF_lt (by decide)) (by decide)
theorem crcF_snoc {x : Nat} {xs : List UInt8} {i : Nat} (h : i < xs.length) : crcF x (xs.take (i + 1)) = crc8 8 (crcF x (xs.take i) ^^^ gb xs i) := by
  rw [List.take_succ_eq_append_getElem h]
  simp only [crcF, List.foldl_append, List.foldl_cons, List.foldl_nil]
  simp [gb, List.getD, h]
theorem crc8_succ (n x : Nat) : crc8 (n + 1) x = crcStep (crc8 n x) := by
  induction n generalizing x with
  | zero => rfl
  | succ n ih => rw [crc8, ih (crcStep x)]; rfl

theorem c63 {p : Option Addr} {l c : Nat} {xs : List UInt8} (hx : Has w p (bv xs)) (hl : l = xs.length) (hb : l < 4611686018427387904) :
    CallT Pg 63 #[.slice p l c] w fun v w' => v = .int .u32 (crcL xs) ∧ w' = w := by
  apply call63
  unfold wp63
  refine LoopC_of (fun z w' => w' = w ∧ ∃ i : Nat, i ≤ l ∧ z.2.1 = i ∧ z.1 = crcF 4294967295 (xs.take i)) (fun z _ => l - z.2.1.toNat) ⟨rfl, 0, by omega, rfl, by simp [crcF]⟩ ?_
  rintro ⟨x, k, ⟨⟩⟩ w' ⟨rfl, i, hi, rfl, rfl⟩
  have hlt := crcF_lt (xs := xs.take i) (x := 4294967295) (by decide)
  refine IfC_dec (fun h => ?_) (fun h => ?_)
  · simp only at h
    have hi' : i < xs.length := by omega
    refine IdxB hx hl (by omega) h ?_
    have hg := gb_lt xs i
    simp (disch := omega) only [wrap_u32_id, xor_u32, Int.toNat_natCast]
    refine LoopC_of (fun z w'' => w'' = w' ∧ ∃ n : Nat, n ≤ 8 ∧ z.2.1 = n ∧ z.1 = crc8 n (crcF 4294967295 (xs.take i) ^^^ gb xs i)) (fun z _ => 8 - z.2.1.toNat) ⟨rfl, 0, by omega, rfl, rfl⟩ ?_
    rintro ⟨y, k, ⟨⟩⟩ w'' ⟨rfl, n, hn, rfl, rfl⟩
    have hy := crc8_lt (n := n) (x := crcF 4294967295 (xs.take i) ^^^ gb xs i) (Nat.xor_lt_two_pow (n := 32) hlt (by omega))
    have hs := crc8_succ n (crcF 4294967295 (xs.take i) ^^^ gb xs i)
    generalize hY : crc8 n (crcF 4294967295 (xs.take i) ^^^ gb xs i) = Y at *
    refine IfC_dec (fun h8 => ?_) (fun h8 => ?_)
    · simp only at h8
      simp (disch := omega) only [ShC_eq, and_u32, shr_u32, wrap_i64_id, Int.toNat_natCast, Int.reduceToNat, Nat.and_one_is_mod, Nat.reducePow, xor_u32]
      refine IfC_bool (fun h1 => ?_) (fun h1 => ?_)
      · simp only [beq_iff_eq] at h1
        refine ⟨⟨by trivial, n + 1, by omega, by simp, ?_⟩, by omega⟩
        rw [hs, crcStep, if_pos (by omega)]
      · simp only [beq_eq_false_iff_ne] at h1
        refine ⟨⟨by trivial, n + 1, by omega, by simp, ?_⟩, by omega⟩
        rw [hs, crcStep, if_neg (by omega)]
    · simp only at h8
      have h8' : n = 8 := by omega
      subst h8'
      simp (disch := omega) only [wrap_i64_id]
      refine ⟨⟨by trivial, i + 1, by omega, by simp, ?_⟩, by omega⟩
      rw [crcF_snoc hi', hY]
  · simp only at h
    have : i = xs.length := by omega
    subst this
    rw [List.take_length] at hlt
    refine ⟨?_, rfl⟩
    have e1 : (if IntKind.signed .u32 then (-1 : Int) else IntKind.max .u32) = 4294967295 := by decide
    simp (disch := omega) only [e1, xor_u32, List.take_length, Int.reduceToNat, Int.toNat_natCast, crcL_eq, Nat.xor_comm]

theorem bv_one (xs : List UInt8) : ∀ u ∈ bv xs, u.oneCell' = true := by
  intro u hu
  obtain ⟨x, _, rfl⟩ := List.mem_map.1 hu
  rfl
theorem ok33 : elOK Pg 33 5 1 1 = true := by kernel_rfl
theorem fourL_length (n : Nat) : (fourL n).length = 4 := rfl

def chunkL (name data : List UInt8) : List UInt8 := fourL data.length ++ (name ++ data) ++ fourL (crcL (name ++ data))
theorem c48 {nm : List UInt8} {p : Option Addr} {l c : Nat} {xs : List UInt8} (hx : Has w p (bv xs)) (hl : l = xs.length) (hb : l < 4294967296) (hs : nm.length < 4294967296) (hd : p = none → c = 0) :
    CallT Pg 48 #[.string ⟨nm.toArray⟩, .slice p l c] w (RetB w (chunkL nm xs)) := by
  subst hl
  apply call48
  unfold wp48
  refine ConvS_of (S := []) (w0 := w) (by kernel_rfl) (e := 5) (by kernel_rfl) (by kernel_rfl) (Fr.refl _ _) ?_
  intro p1 c1 w1 hf1 hf1' _ ho1
  refine AppR_own ok33 hf1 ho1 (hx.fr0 hf1) (by simp) (bv_one _) (by omega) hd ?_
  intro p2 c2 w2 hf2 hf2' ho2
  rw [wrap_u32_id (by omega) (by omega)]
  refine CallT.mono (c34 hb) ?_
  rintro _ w3 ⟨hf3, p3, c3, rfl, ho3⟩
  refine ⟨_, _, _, rfl, ?_⟩
  have ho2' := ho2.fr0 hf3
  have hf3' := hf2.trans hf3
  have hne : ∀ a, p2 = some a → a.block ∉ blkOf p3 := fun a ha hx => by have := ho2.at ha; have := ho3.blk _ hx; omega
  refine AppR_own ok33 hf3' (ho3.base_le hf2.size) ho2'.has (by simp) (by rw [← bv_append]; exact bv_one _) (by simp only [fourL_length]; omega) (by intro h; subst h; exact ho2'.none_iff.2.1) ?_
  intro p4 c4 w4 hf4 hf4' ho4
  have ho2'' := ho2'.fr hf4' hne
  refine CallT.mono (c63 (xs := nm ++ xs) (by rw [bv_append]; exact ho2''.has) (by simp) (by omega)) ?_
  rintro _ _ ⟨rfl, rfl⟩
  refine ⟨_, rfl, ?_⟩
  refine CallT.mono (c34 (crcL_lt _)) ?_
  rintro _ w5 ⟨hf5, p5, c5, rfl, ho5⟩
  refine ⟨_, _, _, rfl, ?_⟩
  refine AppR_own ok33 (hf4.trans hf5) (ho4.fr0 hf5) ho5.has (by simp) (bv_one _) (by simp only [fourL_length]; omega) (by intro h; subst h; exact ho5.none_iff.2.1) ?_
  intro p6 c6 w6 hf6 hf6' ho6
  have e : (chunkL nm xs).length = (fourL xs.length).length + (nm.length + xs.length) + (fourL (crcL (nm ++ xs))).length := by simp only [chunkL, List.length_append]
  refine ⟨hf6, p6, c6, by rw [e], ?_⟩
  rw [e]
  simpa only [chunkL, bv_append, List.append_assoc] using ho6

/-! ### Chunks -/
abbrev Ch := List UInt8 × List UInt8
def sigL : List UInt8 := [137, 80, 78, 71, 13, 10, 26, 10]
def chs (l : List Ch) : List UInt8 := l.flatMap fun c => chunkL c.1 c.2
def fileL (l : List Ch) : List UInt8 := sigL ++ chs l
def okCh (l : List Ch) : Prop := ∀ c ∈ l, c.1.length = 4 ∧ c.2.length < 4294967296
theorem chunkL_length {nm data : List UInt8} (h : nm.length = 4) : (chunkL nm data).length = 12 + data.length := by
  simp only [chunkL, List.length_append, fourL_length, h]; omega
def placesC : Nat → List Ch → List Nat
  | _, [] => []
  | at_, c :: r => at_ :: placesC (at_ + 12 + c.2.length) r
theorem gb_append_right (xs ys : List UInt8) (i : Nat) : gb (xs ++ ys) (xs.length + i) = gb ys i := by
  simp [gb, List.getD, List.getElem?_append_right]
theorem gb_append_left {xs ys : List UInt8} {i : Nat} (h : i < xs.length) : gb (xs ++ ys) i = gb xs i := by
  simp [gb, List.getD, List.getElem?_append_left h]
theorem be4_append_right (xs ys : List UInt8) (i : Nat) : be4 (xs ++ ys) (xs.length + i) = be4 ys i := by
  simp only [be4, Nat.add_assoc, gb_append_right]
theorem be4_append_left {xs ys : List UInt8} {i : Nat} (h : i + 4 ≤ xs.length) : be4 (xs ++ ys) i = be4 xs i := by
  simp only [be4]
  rw [gb_append_left (by omega), gb_append_left (by omega), gb_append_left (by omega), gb_append_left (by omega)]
theorem be4_fourL {n : Nat} (h : n < 4294967296) : be4 (fourL n) 0 = n := by
  simp [be4, gb, fourL]; omega
theorem be4_chunk {nm d ys : List UInt8} (h : d.length < 4294967296) : be4 (chunkL nm d ++ ys) 0 = d.length := by
  unfold chunkL
  rw [List.append_assoc, List.append_assoc, be4_append_left (by simp [fourL_length]), be4_fourL h]
theorem chs_nil : chs [] = [] := rfl
theorem chs_cons (c : Ch) (r : List Ch) : chs (c :: r) = chunkL c.1 c.2 ++ chs r := by simp [chs]
theorem chs_append (a b : List Ch) : chs (a ++ b) = chs a ++ chs b := by simp [chs]
theorem chs_length_ge {l : List Ch} (h : okCh l) : 12 * l.length ≤ (chs l).length := by
  induction l with
  | nil => simp [chs]
  | cons c r ih =>
    have := ih fun x hx => h x (by simp [hx])
    have hc := chunkL_length (data := c.2) (h c (by simp)).1
    simp only [chs_cons, List.length_append, List.length_cons]; omega
theorem placesC_snoc (l : List Ch) (c : Ch) : ∀ at_, okCh l → placesC at_ (l ++ [c]) = placesC at_ l ++ [at_ + (chs l).length] := by
  induction l with
  | nil => intro at_ _; simp [placesC, chs]
  | cons x r ih =>
    intro at_ h
    have hc := chunkL_length (data := x.2) (h x (by simp)).1
    simp only [List.cons_append, placesC, chs_cons, List.length_append]
    rw [ih _ fun y hy => h y (by simp [hy])]
    simp only [hc]
    have : at_ + (12 + x.2.length + (chs r).length) = at_ + 12 + x.2.length + (chs r).length := by omega
    rw [this]
theorem okCh_left {a b : List Ch} (h : okCh (a ++ b)) : okCh a := fun x hx => h x (by simp [hx])
theorem okCh_right {a b : List Ch} (h : okCh (a ++ b)) : okCh b := fun x hx => h x (by simp [hx])
/-- What stands where a chunk begins. -/
theorem file_at {a : List Ch} {c : Ch} {r : List Ch} : fileL (a ++ c :: r) = (sigL ++ chs a) ++ (chunkL c.1 c.2 ++ chs r) := by
  simp [fileL, chs_append, chs_cons]
theorem file_be4 {a : List Ch} {c : Ch} {r : List Ch} (hc : c.2.length < 4294967296) : be4 (fileL (a ++ c :: r)) (8 + (chs a).length) = c.2.length := by
  rw [file_at]
  have h := be4_append_right (sigL ++ chs a) (chunkL c.1 c.2 ++ chs r) 0
  have e : (sigL ++ chs a).length + 0 = 8 + (chs a).length := by simp [sigL]; omega
  rw [e] at h
  rw [h, be4_chunk hc]

def iv (ns : List Nat) : List Value := ns.map fun (n : Nat) => .int .i64 (n : Int)
theorem ok28 : elOK Pg 28 3 1 8 = true := by kernel_rfl
def RetR (e size : Nat) (w : World) (n : Nat) (vs : List Value) (v : Value) (w' : World) : Prop :=
  Fr [] w w' ∧ ∃ p c, v = .slice p n c ∧ Own w' (hn w) e size p n c vs
theorem c26 {p : Option Addr} {l c : Nat} {cs : List Ch} (hx : Has w p (bv (fileL cs))) (hl : l = (fileL cs).length) (hb : l < 1099511627776) (hok : okCh cs) :
    CallT Pg 26 #[.slice p l c] w (RetR 3 1 w cs.length (iv (placesC 8 cs))) := by
  apply call26
  unfold wp26
  rw [AllocC_eq]
  refine LoopC_of (fun z w' => Fr [] w w' ∧ ∃ a r, cs = a ++ r ∧ z.2.1 = ((8 + (chs a).length : Nat) : Int) ∧ z.1.len = a.length ∧ Own w' (hn w) 3 1 z.1.a z.1.len z.1.cap (iv (placesC 8 a)))
    (fun z _ => l + 1 - z.2.1.toNat) ⟨Fr.alloc _ _ _, [], cs, rfl, by simp [chs], rfl, Own.new (w := w) (e := 3) (size := 1) (cs := #[]) (l := 0) (Nat.le_refl _) (by simp)⟩ ?_
  rintro ⟨⟨q, n, m⟩, k, ⟨⟩⟩ w1 ⟨hf, a, r, rfl, rfl, rfl, ho⟩
  simp only at ho
  have hlen : l = 8 + (chs a).length + (chs r).length := by rw [hl]; simp [fileL, sigL, chs_append]; omega
  have ha := chs_length_ge (okCh_left hok)
  have hr := chs_length_ge (okCh_right hok)
  refine IfC_dec (fun h => ?_) (fun h => ?_)
  · simp only at h
    rw [wrap_i64_id (by omega) (by omega)] at h
    cases r with
    | nil => simp only [chs_nil, List.length_nil] at hlen; omega
    | cons ch r =>
      obtain ⟨h4, hd⟩ := hok ch (by simp)
      have hcl := chunkL_length (data := ch.2) h4
      simp only [chs_cons, List.length_append] at hlen
      dsimp only
      refine AppLit ok28 hf ho (cs := #[.int .i64 ((8 + (chs a).length : Nat) : Int)]) (by simp) (by simp [Value.oneCell']) (by omega) ?_
      intro q' m' w2 hf2 hf2' ho2
      refine CallT.mono (c46 (hx.fr0 hf2) hl (by omega) (by omega) (by omega)) ?_
      rintro _ _ ⟨rfl, rfl⟩
      rw [Int.toNat_natCast, file_be4 hd]
      refine ⟨_, rfl, ?_⟩
      simp (disch := omega) only [wrap_i64_id]
      refine ⟨⟨hf2.drewR, a ++ [ch], r, by simp, ?_, by simp, ?_⟩, by omega⟩
      · simp only [chs_append, chs_cons, chs_nil, List.length_append, List.append_nil, hcl]; omega
      · have := ho2.fr0 (Fr.drew [] w2)
        simpa [placesC_snoc _ _ _ (okCh_left hok), iv] using this
  · simp only at h
    rw [wrap_i64_id (by omega) (by omega)] at h
    cases r with
    | cons ch r =>
      exfalso
      obtain ⟨h4, hd⟩ := hok ch (by simp)
      have hcl := chunkL_length (data := ch.2) h4
      simp only [chs_cons, List.length_append] at hlen
      omega
    | nil => exact ⟨hf, q, m, by simp, by simpa using ho⟩

/-- Pieces of a file in memory: names, and rows of bytes that lie where Q tells. -/
def PcHas (Q : Nat → Prop) (w : World) : List Value → List Ch → Prop
  | [], [] => True
  | .string s :: .slice p l c :: r, ch :: cs => s = ⟨ch.1.toArray⟩ ∧ Has w p (bv ch.2) ∧ l = ch.2.length ∧ (p = none → c = 0) ∧ (∀ a, p = some a → Q a.block) ∧ PcHas Q w r cs
  | _, _ => False
theorem PcHas.fr {Q : Nat → Prop} {S : List Nat} {w w' : World} (hf : Fr S w w') (hS : ∀ b, Q b → b ∉ S) : ∀ {vs : List Value} {cs : List Ch}, PcHas Q w vs cs → PcHas Q w' vs cs
  | [], [], _ => trivial
  | .string _ :: .slice _ _ _ :: _, _ :: _, ⟨h1, h2, h3, h4, h5, h6⟩ => ⟨h1, h2.fr hf fun a ha => hS _ (h5 a ha), h3, h4, h5, PcHas.fr hf hS h6⟩
theorem PcHas.snoc {Q : Nat → Prop} {w : World} {p : Option Addr} {l c : Nat} {ch : Ch} (h2 : Has w p (bv ch.2)) (h3 : l = ch.2.length) (h4 : p = none → c = 0) (h5 : ∀ a, p = some a → Q a.block) :
    ∀ {vs : List Value} {cs : List Ch}, PcHas Q w vs cs → PcHas Q w (vs ++ [.string ⟨ch.1.toArray⟩, .slice p l c]) (cs ++ [ch])
  | [], [], _ => ⟨rfl, h2, h3, h4, h5, trivial⟩
  | .string _ :: .slice _ _ _ :: _, _ :: _, ⟨k1, k2, k3, k4, k5, k6⟩ => ⟨k1, k2, k3, k4, k5, PcHas.snoc h2 h3 h4 h5 k6⟩
theorem PcHas.at {Q : Nat → Prop} {w : World} : ∀ {vs : List Value} {cs : List Ch} {i : Nat} {ch : Ch}, PcHas Q w vs cs → cs[i]? = some ch →
    ∃ p l c, vs[i * 2]? = some (.string ⟨ch.1.toArray⟩) ∧ vs[i * 2 + 1]? = some (.slice p l c) ∧ Has w p (bv ch.2) ∧ l = ch.2.length ∧ (p = none → c = 0) ∧ (∀ a, p = some a → Q a.block)
  | [], [], _, _, _, h => by simp at h
  | .string _ :: .slice p l c :: _, _ :: _, 0, _, ⟨k1, k2, k3, k4, k5, _⟩, h => by
    simp at h; subst h
    exact ⟨p, l, c, by simp [k1], by simp, k2, k3, k4, k5⟩
  | .string _ :: .slice _ _ _ :: r, _ :: _, i + 1, ch, ⟨_, _, _, _, _, k6⟩, h => by
    obtain ⟨p, l, c, h1, h2, h3⟩ := PcHas.at (i := i) k6 (by simpa using h)
    refine ⟨p, l, c, ?_, ?_, h3⟩
    · rw [show (i + 1) * 2 = i * 2 + 1 + 1 by omega]; simpa using h1
    · rw [show (i + 1) * 2 + 1 = i * 2 + 1 + 1 + 1 by omega]; simpa using h2
theorem PcHas.len {Q : Nat → Prop} {w : World} : ∀ {vs : List Value} {cs : List Ch}, PcHas Q w vs cs → vs.length = 2 * cs.length
  | [], [], _ => rfl
  | .string _ :: .slice _ _ _ :: _, _ :: _, ⟨_, _, _, _, _, k6⟩ => by simp [PcHas.len k6]; omega
theorem Has.sub {w : World} {b o : Nat} {xs ys zs : List Value} (h : Has w (some ⟨b, o, none⟩) (xs ++ (ys ++ zs))) : Has w (some ⟨b, o + xs.length, none⟩) ys := by
  obtain ⟨_, T, arr, h1, h2⟩ := h
  refine ⟨rfl, T, arr, h1, fun j v hj => ?_⟩
  have := h2 (xs.length + j) v (by
    rw [List.getElem?_append_right (by omega), List.getElem?_append_left (by have := (List.getElem?_eq_some_iff.1 hj).1; omega)]
    rw [show xs.length + j - xs.length = j by omega]; exact hj)
  simpa [Nat.add_assoc] using this
theorem ok50 : elOK Pg 50 53 2 40 = true := by kernel_rfl
theorem c30 {b o l c : Nat} {cs : List Ch} (hx : Has w (some ⟨b, o, none⟩) (bv (fileL cs))) (hl : l = (fileL cs).length) (hb : l < 1099511627776) (hlc : l ≤ c) (hc : c < 4611686018427387904) (hok : okCh cs) :
    CallT Pg 30 #[.slice (some ⟨b, o, none⟩) l c] w fun v w' => ∃ vs, PcHas (· = b) w' vs cs ∧ RetR 53 2 w cs.length vs v w' := by
  apply call30
  unfold wp30
  rw [AllocC_eq]
  have hblt : b < hn w := by obtain ⟨_, T, arr, h1, _⟩ := hx; exact hp_lt h1
  refine LoopC_of (fun z w' => Fr [] w w' ∧ ∃ a r vs, cs = a ++ r ∧ z.2.1 = ((8 + (chs a).length : Nat) : Int) ∧ z.1.len = a.length ∧ PcHas (· = b) w' vs a ∧ Own w' (hn w) 53 2 z.1.a z.1.len z.1.cap vs)
    (fun z _ => l + 1 - z.2.1.toNat) ⟨Fr.alloc _ _ _, [], cs, [], rfl, by simp [chs], rfl, trivial, Own.new (w := w) (e := 53) (size := 2) (cs := #[]) (l := 0) (Nat.le_refl _) (by simp)⟩ ?_
  rintro ⟨⟨q, n, m⟩, k, ⟨⟩⟩ w1 ⟨hf, a, r, vs, rfl, rfl, rfl, hpc, ho⟩
  simp only at ho
  have hlen : l = 8 + (chs a).length + (chs r).length := by rw [hl]; simp [fileL, sigL, chs_append]; omega
  have ha := chs_length_ge (okCh_left hok)
  have hr := chs_length_ge (okCh_right hok)
  refine IfC_dec (fun h => ?_) (fun h => ?_)
  · simp only at h
    rw [wrap_i64_id (by omega) (by omega)] at h
    cases r with
    | nil => simp only [chs_nil, List.length_nil] at hlen; omega
    | cons ch r =>
      obtain ⟨h4, hd⟩ := hok ch (by simp)
      have hcl := chunkL_length (data := ch.2) h4
      simp only [chs_cons, List.length_append] at hlen
      dsimp only
      refine CallT.mono (c46 (hx.fr0 hf) hl (by omega) (by omega) (by omega)) ?_
      rintro _ _ ⟨rfl, rfl⟩
      rw [Int.toNat_natCast, file_be4 hd]
      refine ⟨_, rfl, ?_⟩
      rw [DrewC_eq]
      have hf2 := hf.drewR.drewR
      have hx2 := hx.fr0 hf2
      have e0 : bv (fileL (a ++ ch :: r)) = bv (sigL ++ chs a ++ fourL ch.2.length) ++ (bv ch.1 ++ bv (ch.2 ++ fourL (crcL (ch.1 ++ ch.2)) ++ chs r)) := by
        rw [file_at, ← bv_append, ← bv_append]; simp [chunkL]
      have e1 : bv (fileL (a ++ ch :: r)) = bv (sigL ++ chs a ++ fourL ch.2.length ++ ch.1) ++ (bv ch.2 ++ bv (fourL (crcL (ch.1 ++ ch.2)) ++ chs r)) := by
        rw [file_at, ← bv_append, ← bv_append]; simp [chunkL]
      have hx3 := hx2
      rw [e0] at hx2
      rw [e1] at hx3
      have g0 := Has.sub hx2
      have g1 := Has.sub hx3
      simp only [bv_length, List.length_append, fourL_length, h4] at g0 g1
      have es : sigL.length = 8 := rfl
      simp only [es] at g0 g1
      simp (disch := omega) only [wrap_i64_id]
      have t1 : ((((8 + (chs a).length : Nat) : Int) + 4).toNat) = 8 + (chs a).length + 4 := by omega
      have t2 : ((((8 + (chs a).length : Nat) : Int) + 8).toNat) = 8 + (chs a).length + 4 + 4 := by omega
      have t3 : ((((8 + (chs a).length : Nat) : Int) + 8 + (ch.2.length : Int)).toNat) = 8 + (chs a).length + 4 + 4 + ch.2.length := by omega
      simp only [t1, t2, t3]
      rw [slAdd_one _ _ _ _ (by omega), slAdd_one _ _ _ _ (by omega)]
      refine ⟨⟨by omega, by omega⟩, ⟨by omega, by omega⟩, ⟨by omega, by omega⟩, ⟨by omega, by omega⟩, ?_⟩
      refine B2S_of (xs := ch.1) g0 (by omega) ?_
      refine AppLit ok50 hf2 ((ho.fr0 (Fr.drew _ _)).fr0 (Fr.drew _ _)) (by simp) (by simp [Value.oneCell']) (by omega) ?_
      intro q' m' w3 hf3 hf3' ho3
      have hq : ∀ b', b' = b → b' ∉ blkOf q := by
        intro b' e hmem; have := ho.blk _ hmem; omega
      refine ⟨⟨hf3, a ++ [ch], r, _, by simp, ?_, by simp, ?_, ho3⟩, by omega⟩
      · simp only [chs_append, chs_cons, chs_nil, List.length_append, List.append_nil, hcl]; omega
      · refine PcHas.snoc (g1.fr hf3' ?_) (by omega) (by simp) (by intro a ha; cases ha; rfl) (((hpc.fr (Fr.drew [] _) (by simp)).fr (Fr.drew [] _) (by simp)).fr hf3' hq)
        intro a' ha'; cases ha'; exact hq _ rfl
  · simp only at h
    rw [wrap_i64_id (by omega) (by omega)] at h
    cases r with
    | cons ch r =>
      exfalso
      obtain ⟨h4, hd⟩ := hok ch (by simp)
      have hcl := chunkL_length (data := ch.2) h4
      simp only [chs_cons, List.length_append] at hlen
      omega
    | nil => exact ⟨vs, by simpa using hpc, hf, q, m, by simp, by simpa using ho⟩

theorem Has.at2 {w : World} {p : Option Addr} {vs : List Value} (h : Has w p vs) {i : Nat} {v1 v2 : Value} (h1 : vs[i * 2]? = some v1) (h2 : vs[i * 2 + 1]? = some v2) :
    ∃ b o, p = some ⟨b, o, none⟩ ∧ atR (hp w b) (o + i * 2) = some v1 ∧ atR (hp w b) (o + i * 2 + 1) = some v2 := by
  obtain ⟨b, o, rfl, e1⟩ := h.some h1
  obtain ⟨b', o', e, e2⟩ := h.some h2
  cases e
  exact ⟨b, o, rfl, e1, by rw [Nat.add_assoc]; exact e2⟩
theorem zc53 : zc Pg 53 = #[.string ⟨#[]⟩, .slice none 0 0] := by kernel_rfl
theorem c31 {Q : Nat → Prop} {p : Option Addr} {l c : Nat} {vs : List Value} {cs : List Ch} (hx : Has w p vs) (hpc : PcHas Q w vs cs) (hQ : ∀ b, Q b → b < hn w) (hl : l = cs.length) (hb : (fileL cs).length < 1099511627776) (hok : okCh cs) :
    CallT Pg 31 #[.slice p l c] w (RetB w (fileL cs)) := by
  subst hl
  apply call31
  unfold wp31
  have hge := chs_length_ge hok
  have hfl : ∀ a r, cs = a ++ r → (fileL cs).length = 8 + (chs a).length + (chs r).length := by
    intro a r e; rw [e]; simp [fileL, sigL, chs_append]; omega
  have hfl0 := hfl cs [] (by simp)
  refine CallT.mono c47 ?_
  rintro _ w1 ⟨hf1, p1, c1, rfl, ho1⟩
  refine ⟨_, _, _, rfl, ?_⟩
  refine LoopC_of (fun z w' => Fr [] w w' ∧ ∃ a r, cs = a ++ r ∧ z.2.1 = (a.length : Int) ∧ z.1.len = (fileL a).length ∧ Own w' (hn w) 5 1 z.1.a z.1.len z.1.cap (bv (fileL a)))
    (fun z _ => cs.length - z.2.1.toNat) ⟨hf1, [], cs, rfl, rfl, rfl, by simpa [fileL, sigL, chs] using ho1⟩ ?_
  rintro ⟨⟨q, n, m⟩, k, ⟨⟩⟩ w2 ⟨hf, a, r, e, rfl, rfl, ho⟩
  simp only at ho
  have hlen := hfl a r e
  refine IfC_dec (fun h => ?_) (fun h => ?_)
  · simp only at h
    cases r with
    | nil => simp [e] at h
    | cons ch r =>
      obtain ⟨h4, hd⟩ := hok ch (by simp [e])
      have hcl := chunkL_length (data := ch.2) h4
      obtain ⟨p2, l2, c2, e1, e2, g1, g2, g3, g4⟩ := hpc.at (i := a.length) (ch := ch) (by simp [e])
      obtain ⟨b, o, rfl, k1, k2⟩ := Has.at2 (hx.fr0 hf) e1 e2
      dsimp only
      refine ⟨⟨by omega, h⟩, ?_⟩
      simp only [chs_cons, List.length_append] at hlen
      rw [PtrC_some, elemAt_many, Int.toNat_natCast, LdS_eq, k1, RdS_some, LdSl_eq, k2, RdSl_some, AllocC_eq, zc53]
      refine StoreC_of ?_
      simp only [AllocC_eq, DrewC_eq, hp_alloc_new, hp_upd_same, hp_drew, hn_alloc, hn_upd, hn_drew, setR_Row, StO_Row, atR_Row, LdI_eq, LdB_eq, LdS_eq, LdSl_eq, LdP_eq, LdV_eq, RdI_some, RdB_some, RdS_some, RdSl_some, RdP_some, RdV_some, PtrC_some, IfC_true, IfC_false, OneC_true, elemAt_one, elemAt_many, Nat.zero_add, Nat.add_zero, Nat.reduceAdd, List.getElem?_toArray, List.getElem?_cons_zero, List.getElem?_cons_succ, List.setIfInBounds_toArray, List.set_cons_zero, List.set_cons_succ, List.size_toArray, List.length_cons, List.length_nil, Nat.reduceLT, true_and]
      refine StoreC_of ?_
      simp only [AllocC_eq, DrewC_eq, hp_alloc_new, hp_upd_same, hp_drew, hn_alloc, hn_upd, hn_drew, setR_Row, StO_Row, atR_Row, LdI_eq, LdB_eq, LdS_eq, LdSl_eq, LdP_eq, LdV_eq, RdI_some, RdB_some, RdS_some, RdSl_some, RdP_some, RdV_some, PtrC_some, IfC_true, IfC_false, OneC_true, elemAt_one, elemAt_many, Nat.zero_add, Nat.add_zero, Nat.reduceAdd, List.getElem?_toArray, List.getElem?_cons_zero, List.getElem?_cons_succ, List.setIfInBounds_toArray, List.set_cons_zero, List.set_cons_succ, List.size_toArray, List.length_cons, List.length_nil, Nat.reduceLT, true_and]
      have hf3 : Fr [] w2 (upd (upd (w2.alloc (.cells #[.string ⟨#[]⟩, .slice none 0 0] 53)) (hn w2) 0 (.string ⟨ch.1.toArray⟩)) (hn w2) 1 (.slice p2 l2 c2)) :=
        ((Fr.alloc [] w2 _).upd_new (Nat.le_refl _)).upd_new (Nat.le_refl _)
      refine CallT.mono (c48 ((g1.fr0 hf).fr0 hf3) g2 (by omega) (by omega) g3) ?_
      rintro _ w4 ⟨hf4, p4, c4, rfl, ho4⟩
      refine ⟨_, _, _, rfl, ?_⟩
      have hf34 := hf3.trans hf4
      refine AppR_own ok33 (hf.trans hf34) (ho.fr0 hf34) ho4.has (by simp) (bv_one _) (by simp [fileL, sigL, hcl]; omega) (by intro h; subst h; exact ho4.none_iff.2.1) ?_
      intro p5 c5 w5 hf5 hf5' ho5
      have e3 : fileL (a ++ [ch]) = fileL a ++ chunkL ch.1 ch.2 := by simp [fileL, chs_append, chs_cons, chs_nil]
      have hlt : a.length < cs.length := by simp [e]
      simp (disch := omega) only [wrap_i64_id]
      refine ⟨⟨hf5, a ++ [ch], r, by simp [e], by simp, by simp [e3], ?_⟩, by omega⟩
      simpa [e3] using ho5
  · simp only at h
    cases r with
    | cons ch r => simp [e] at h; omega
    | nil => simp at e; subst e; exact ⟨hf, q, m, rfl, ho⟩
end
end Go.Proofs
