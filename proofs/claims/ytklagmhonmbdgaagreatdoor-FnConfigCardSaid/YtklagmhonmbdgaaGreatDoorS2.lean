/- A step of the proofs (S2): contracts of the functions printed here, for all their arguments that meet what each names. -/
import Derived.Test.YtklagmhonmbdgaaGreatDoorBase
import Derived.Test.YtklagmhonmbdgaaGreatDoorSteps
import Derived.Test.YtklagmhonmbdgaaGreatDoorS1
set_option maxRecDepth 1000000
set_option linter.unusedVariables false
set_option linter.unusedSimpArgs false
set_option maxHeartbeats 4000000
namespace Go.Proofs
open Go Go.V
/-- loop.example/pub-g03440/spec.Channels -/
def wp38 (x0 : Int) (R : Value → World → Prop) (w : World) : Prop := IfC (x0 == (2 : Int)) (R (.int .i64 (3 : Int) : Value) w) (IfC (x0 == (4 : Int)) (R (.int .i64 (2 : Int) : Value) w) (IfC (x0 == (6 : Int)) (R (.int .i64 (4 : Int) : Value) w) (R (.int .i64 (1 : Int) : Value) w)))
theorem eq38 (x0 : Int) (R : Value → World → Prop) (w : World) : vc Pg Gg (annOf []) 0 (bodyOf Tryz.f38) (retK Pg Tryz.f38.results.toList R) (argE 0 [.int .i64 x0]) w = wp38 x0 R w := by kernel_rfl
theorem call38 {x0 : Int} {R : Value → World → Prop} {w : World} (h : wp38 x0 R w) : CallT Pg 38 #[.int .i64 x0] w R :=
  calls_of_vc follows bodies Tryz.func38 (by kernel_rfl) (by kernel_rfl) (by kernel_rfl) ((eq38 x0 R w).mpr h)

/-- loop.example/pub-g03440/spec.passes -/
def wp49 (x0 : Bool) (R : Value → World → Prop) (w : World) : Prop := IfC x0 (R (.int .i64 (7 : Int) : Value) w) (R (.int .i64 (1 : Int) : Value) w)
theorem eq49 (x0 : Bool) (R : Value → World → Prop) (w : World) : vc Pg Gg (annOf []) 0 (bodyOf Tryz.f49) (retK Pg Tryz.f49.results.toList R) (argE 0 [.bool x0]) w = wp49 x0 R w := by kernel_rfl
theorem call49 {x0 : Bool} {R : Value → World → Prop} {w : World} (h : wp49 x0 R w) : CallT Pg 49 #[.bool x0] w R :=
  calls_of_vc follows bodies Tryz.func49 (by kernel_rfl) (by kernel_rfl) (by kernel_rfl) ((eq49 x0 R w).mpr h)

/-- loop.example/pub-g03440/spec.distance -/
def wp97 (x0 : Int) (x1 : Int) (R : Value → World → Prop) (w : World) : Prop := R (.int .i64 (maxI (IntKind.wrap .i64 (x0 - x1)) (IntKind.wrap .i64 (x1 - x0))) : Value) w
theorem eq97 (x0 : Int) (x1 : Int) (R : Value → World → Prop) (w : World) : vc Pg Gg (annOf []) 0 (bodyOf Tryz.f97) (retK Pg Tryz.f97.results.toList R) (argE 0 [.int .i64 x0, .int .i64 x1]) w = wp97 x0 x1 R w := by kernel_rfl
theorem call97 {x0 : Int} {x1 : Int} {R : Value → World → Prop} {w : World} (h : wp97 x0 x1 R w) : CallT Pg 97 #[.int .i64 x0, .int .i64 x1] w R :=
  calls_of_vc follows bodies Tryz.func97 (by kernel_rfl) (by kernel_rfl) (by kernel_rfl) ((eq97 x0 x1 R w).mpr h)

/-- loop.example/pub-g03440/spec.Paeth -/
def wp86 (x0 : Int) (x1 : Int) (x2 : Int) (R : Value → World → Prop) (w : World) : Prop := CallT Pg 97 #[.int .i64 (IntKind.wrap .i64 ((IntKind.wrap .i64 (x0 + x1)) - x2)), .int .i64 x0] w fun (v1 : Value) (w2 : World) => Exists fun (n3 : Int) => And (v1 = .int .i64 n3) (CallT Pg 97 #[.int .i64 (IntKind.wrap .i64 ((IntKind.wrap .i64 (x0 + x1)) - x2)), .int .i64 x1] w2 fun (v4 : Value) (w5 : World) => Exists fun (n6 : Int) => And (v4 = .int .i64 n6) (IfC (decide (n3 ≤ n6)) (CallT Pg 97 #[.int .i64 (IntKind.wrap .i64 ((IntKind.wrap .i64 (x0 + x1)) - x2)), .int .i64 x0] w5 fun (v7 : Value) (w8 : World) => Exists fun (n9 : Int) => And (v7 = .int .i64 n9) (CallT Pg 97 #[.int .i64 (IntKind.wrap .i64 ((IntKind.wrap .i64 (x0 + x1)) - x2)), .int .i64 x2] w8 fun (v10 : Value) (w11 : World) => Exists fun (n12 : Int) => And (v10 = .int .i64 n12) (IfC (decide (n9 ≤ n12)) (R (.int .i64 x0 : Value) w11) (CallT Pg 97 #[.int .i64 (IntKind.wrap .i64 ((IntKind.wrap .i64 (x0 + x1)) - x2)), .int .i64 x1] w11 fun (v13 : Value) (w14 : World) => Exists fun (n15 : Int) => And (v13 = .int .i64 n15) (CallT Pg 97 #[.int .i64 (IntKind.wrap .i64 ((IntKind.wrap .i64 (x0 + x1)) - x2)), .int .i64 x2] w14 fun (v16 : Value) (w17 : World) => Exists fun (n18 : Int) => And (v16 = .int .i64 n18) (IfC (decide (n15 ≤ n18)) (R (.int .i64 x1 : Value) w17) (R (.int .i64 x2 : Value) w17))))))) (CallT Pg 97 #[.int .i64 (IntKind.wrap .i64 ((IntKind.wrap .i64 (x0 + x1)) - x2)), .int .i64 x1] w5 fun (v19 : Value) (w20 : World) => Exists fun (n21 : Int) => And (v19 = .int .i64 n21) (CallT Pg 97 #[.int .i64 (IntKind.wrap .i64 ((IntKind.wrap .i64 (x0 + x1)) - x2)), .int .i64 x2] w20 fun (v22 : Value) (w23 : World) => Exists fun (n24 : Int) => And (v22 = .int .i64 n24) (IfC (decide (n21 ≤ n24)) (R (.int .i64 x1 : Value) w23) (R (.int .i64 x2 : Value) w23))))))
theorem eq86 (x0 : Int) (x1 : Int) (x2 : Int) (R : Value → World → Prop) (w : World) : vc Pg Gg (annOf []) 0 (bodyOf Tryz.f86) (retK Pg Tryz.f86.results.toList R) (argE 0 [.int .i64 x0, .int .i64 x1, .int .i64 x2]) w = wp86 x0 x1 x2 R w := by kernel_rfl
theorem call86 {x0 : Int} {x1 : Int} {x2 : Int} {R : Value → World → Prop} {w : World} (h : wp86 x0 x1 x2 R w) : CallT Pg 86 #[.int .i64 x0, .int .i64 x1, .int .i64 x2] w R :=
  calls_of_vc follows bodies Tryz.func86 (by kernel_rfl) (by kernel_rfl) (by kernel_rfl) ((eq86 x0 x1 x2 R w).mpr h)

/-- loop.example/pub-g03440/spec.predicted -/
def wp64 (x0 : Int) (x1 : Option Addr) (x1l : Nat) (x1c : Nat) (x2 : Option Addr) (x2l : Nat) (x2c : Nat) (x3 : Int) (x4 : Int) (R : Value → World → Prop) (w : World) : Prop := DrewC w fun (w1 : World) => And (0 ≤ x3 ∧ x3 < (x2l : Int)) (PtrC x2 fun (a2 : Addr) => LdI w1 (elemAt a2 x3.toNat 1) .u8 fun (n3 : Int) => JoinC (fun (z4 : (Int × Int × Unit)) (w5 : World) => IfC (x0 == (1 : Int)) (R (.int .i64 z4.1 : Value) w5) (IfC (x0 == (2 : Int)) (R (.int .i64 (IntKind.wrap .i64 n3) : Value) w5) (IfC (x0 == (3 : Int)) (DivC (2 : Int) (R (.int .i64 (IntKind.wrap .i64 (Int.tdiv (IntKind.wrap .i64 (z4.1 + (IntKind.wrap .i64 n3))) (2 : Int))) : Value) w5)) (IfC (x0 == (4 : Int)) (CallT Pg 86 #[.int .i64 z4.1, .int .i64 (IntKind.wrap .i64 n3), .int .i64 z4.2.1] w5 fun (v7 : Value) (w8 : World) => Exists fun (n9 : Int) => And (v7 = .int .i64 n9) (R (.int .i64 n9 : Value) w8)) (R (.int .i64 (0 : Int) : Value) w5))))) (fun (J6 : (Int × Int × Unit) → World → Prop) => IfC (decide (x3 ≥ x4)) (DrewC w1 fun (w10 : World) => And (0 ≤ IntKind.wrap .i64 (x3 - x4) ∧ IntKind.wrap .i64 (x3 - x4) < (x1l : Int)) (PtrC x1 fun (a11 : Addr) => LdI w10 (elemAt a11 ((IntKind.wrap .i64 (x3 - x4)).toNat) 1) .u8 fun (n12 : Int) => And (0 ≤ IntKind.wrap .i64 (x3 - x4) ∧ IntKind.wrap .i64 (x3 - x4) < (x2l : Int)) (PtrC x2 fun (a13 : Addr) => LdI w10 (elemAt a13 ((IntKind.wrap .i64 (x3 - x4)).toNat) 1) .u8 fun (n14 : Int) => J6 (IntKind.wrap .i64 n12, IntKind.wrap .i64 n14, ()) w10))) (J6 ((0 : Int), (0 : Int), ()) w1)))
theorem eq64 (x0 : Int) (x1 : Option Addr) (x1l : Nat) (x1c : Nat) (x2 : Option Addr) (x2l : Nat) (x2c : Nat) (x3 : Int) (x4 : Int) (R : Value → World → Prop) (w : World) : vc Pg Gg (annOf [(4, [(11, .i .i64), (13, .i .i64)], [0, 12])]) 0 (bodyOf Tryz.f64) (retK Pg Tryz.f64.results.toList R) (argE 0 [.int .i64 x0, .slice x1 x1l x1c, .slice x2 x2l x2c, .int .i64 x3, .int .i64 x4]) w = wp64 x0 x1 x1l x1c x2 x2l x2c x3 x4 R w := by kernel_rfl
theorem call64 {x0 : Int} {x1 : Option Addr} {x1l : Nat} {x1c : Nat} {x2 : Option Addr} {x2l : Nat} {x2c : Nat} {x3 : Int} {x4 : Int} {R : Value → World → Prop} {w : World} (h : wp64 x0 x1 x1l x1c x2 x2l x2c x3 x4 R w) : CallT Pg 64 #[.int .i64 x0, .slice x1 x1l x1c, .slice x2 x2l x2c, .int .i64 x3, .int .i64 x4] w R :=
  calls_of_vc follows bodies Tryz.func64 (by kernel_rfl) (by kernel_rfl) (by kernel_rfl) ((eq64 x0 x1 x1l x1c x2 x2l x2c x3 x4 R w).mpr h)

/-- loop.example/pub-g03440/spec.Filtered -/
def wp54 (x0 : Int) (x1 : Option Addr) (x1l : Nat) (x1c : Nat) (x2 : Option Addr) (x2l : Nat) (x2c : Nat) (x3 : Int) (R : Value → World → Prop) (w : World) : Prop := AllocC w (.cells #[] 5) fun (r1 : Nat) (w2 : World) => LoopC (fun (J5 : (Sl × Int × Unit) → World → Prop) => J5 ((⟨some ⟨r1, 0, none⟩, 0, 0⟩ : Sl), (0 : Int), ()) w2) (fun (z3 : (Sl × Int × Unit)) (w4 : World) (N6 : (Sl × Int × Unit) → World → Prop) => IfC (decide (z3.2.1 < (x1l : Int))) (And (0 ≤ z3.2.1 ∧ z3.2.1 < (x1l : Int)) (PtrC x1 fun (a7 : Addr) => LdI w4 (elemAt a7 z3.2.1.toNat 1) .u8 fun (n8 : Int) => CallT Pg 64 #[.int .i64 x0, .slice x1 x1l x1c, .slice x2 x2l x2c, .int .i64 z3.2.1, .int .i64 x3] w4 fun (v9 : Value) (w10 : World) => Exists fun (n11 : Int) => And (v9 = .int .i64 n11) (AllocC w10 (.cells #[.int .u8 (IntKind.wrap .u8 (n8 - (IntKind.wrap .u8 n11)))] 5) fun (r12 : Nat) (w13 : World) => AppR Pg w13 #[33, 33] 33 (.slice z3.1.a z3.1.len z3.1.cap) (.slice (some ⟨r12, 0, none⟩) 1 1) fun (p14 : Option Addr) (l15 : Nat) (c16 : Nat) (w17 : World) => N6 ((⟨p14, l15, c16⟩ : Sl), IntKind.wrap .i64 (z3.2.1 + (1 : Int)), ()) w17))) (R (.slice z3.1.a z3.1.len z3.1.cap : Value) w4))
theorem eq54 (x0 : Int) (x1 : Option Addr) (x1l : Nat) (x1c : Nat) (x2 : Option Addr) (x2l : Nat) (x2c : Nat) (x3 : Int) (R : Value → World → Prop) (w : World) : vc Pg Gg (annOf [(8, [(9, .sl), (15, .i .i64)], [0, 1, 2, 3, 8, 13, 14])]) 0 (bodyOf Tryz.f54) (retK Pg Tryz.f54.results.toList R) (argE 0 [.int .i64 x0, .slice x1 x1l x1c, .slice x2 x2l x2c, .int .i64 x3]) w = wp54 x0 x1 x1l x1c x2 x2l x2c x3 R w := by kernel_rfl
theorem call54 {x0 : Int} {x1 : Option Addr} {x1l : Nat} {x1c : Nat} {x2 : Option Addr} {x2l : Nat} {x2c : Nat} {x3 : Int} {R : Value → World → Prop} {w : World} (h : wp54 x0 x1 x1l x1c x2 x2l x2c x3 R w) : CallT Pg 54 #[.int .i64 x0, .slice x1 x1l x1c, .slice x2 x2l x2c, .int .i64 x3] w R :=
  calls_of_vc follows bodies Tryz.func54 (by kernel_rfl) (by kernel_rfl) (by kernel_rfl) ((eq54 x0 x1 x1l x1c x2 x2l x2c x3 R w).mpr h)

/-- loop.example/pub-g03440/spec.step -/
def wp55 (x0_0 : Int) (x0_1 : Int) (x0_2 : Int) (x0_3 : Int) (x0_4 : Bool) (R : Value → World → Prop) (w : World) : Prop := AllocC w (.cells #[.int .i64 x0_0, .int .i64 x0_1, .int .i64 x0_2, .int .i64 x0_3, .bool x0_4] 27) fun (r1 : Nat) (w2 : World) => DrewC w2 fun (w3 : World) => LdI w3 ⟨r1, 0 + 3, none⟩ .i64 fun (n4 : Int) => LdI w3 ⟨r1, 0 + 2, none⟩ .i64 fun (n5 : Int) => CallT Pg 38 #[.int .i64 n4] w3 fun (v6 : Value) (w7 : World) => Exists fun (n8 : Int) => And (v6 = .int .i64 n8) (LdI w7 ⟨r1, 0 + 2, none⟩ .i64 fun (n9 : Int) => And ((.int .i64 n9 : Value) = .int .i64 n5) (DivC (8 : Int) (R (.int .i64 (maxI (1 : Int) (IntKind.wrap .i64 (Int.tdiv (IntKind.wrap .i64 (n8 * n5)) (8 : Int)))) : Value) w7)))
theorem eq55 (x0_0 : Int) (x0_1 : Int) (x0_2 : Int) (x0_3 : Int) (x0_4 : Bool) (R : Value → World → Prop) (w : World) : vc Pg Gg (annOf []) 0 (bodyOf Tryz.f55) (retK Pg Tryz.f55.results.toList R) (argE 0 [.agg #[.int .i64 x0_0, .int .i64 x0_1, .int .i64 x0_2, .int .i64 x0_3, .bool x0_4]]) w = wp55 x0_0 x0_1 x0_2 x0_3 x0_4 R w := by kernel_rfl
theorem call55 {x0_0 : Int} {x0_1 : Int} {x0_2 : Int} {x0_3 : Int} {x0_4 : Bool} {R : Value → World → Prop} {w : World} (h : wp55 x0_0 x0_1 x0_2 x0_3 x0_4 R w) : CallT Pg 55 #[.agg #[.int .i64 x0_0, .int .i64 x0_1, .int .i64 x0_2, .int .i64 x0_3, .bool x0_4]] w R :=
  calls_of_vc follows bodies Tryz.func55 (by kernel_rfl) (by kernel_rfl) (by kernel_rfl) ((eq55 x0_0 x0_1 x0_2 x0_3 x0_4 R w).mpr h)

/-- loop.example/pub-g03440/spec.rowBytes -/
def wp52 (x0_0 : Int) (x0_1 : Int) (x0_2 : Int) (x0_3 : Int) (x0_4 : Bool) (x1 : Int) (R : Value → World → Prop) (w : World) : Prop := AllocC w (.cells #[.int .i64 x0_0, .int .i64 x0_1, .int .i64 x0_2, .int .i64 x0_3, .bool x0_4] 27) fun (r1 : Nat) (w2 : World) => DrewC w2 fun (w3 : World) => LdI w3 ⟨r1, 0 + 3, none⟩ .i64 fun (n4 : Int) => LdI w3 ⟨r1, 0 + 2, none⟩ .i64 fun (n5 : Int) => CallT Pg 38 #[.int .i64 n4] w3 fun (v6 : Value) (w7 : World) => Exists fun (n8 : Int) => And (v6 = .int .i64 n8) (LdI w7 ⟨r1, 0 + 2, none⟩ .i64 fun (n9 : Int) => And ((.int .i64 n9 : Value) = .int .i64 n5) (DivC (8 : Int) (R (.int .i64 (IntKind.wrap .i64 (Int.tdiv (IntKind.wrap .i64 ((IntKind.wrap .i64 ((IntKind.wrap .i64 (x1 * n8)) * n5)) + (7 : Int))) (8 : Int))) : Value) w7)))
theorem eq52 (x0_0 : Int) (x0_1 : Int) (x0_2 : Int) (x0_3 : Int) (x0_4 : Bool) (x1 : Int) (R : Value → World → Prop) (w : World) : vc Pg Gg (annOf []) 0 (bodyOf Tryz.f52) (retK Pg Tryz.f52.results.toList R) (argE 0 [.agg #[.int .i64 x0_0, .int .i64 x0_1, .int .i64 x0_2, .int .i64 x0_3, .bool x0_4], .int .i64 x1]) w = wp52 x0_0 x0_1 x0_2 x0_3 x0_4 x1 R w := by kernel_rfl
theorem call52 {x0_0 : Int} {x0_1 : Int} {x0_2 : Int} {x0_3 : Int} {x0_4 : Bool} {x1 : Int} {R : Value → World → Prop} {w : World} (h : wp52 x0_0 x0_1 x0_2 x0_3 x0_4 x1 R w) : CallT Pg 52 #[.agg #[.int .i64 x0_0, .int .i64 x0_1, .int .i64 x0_2, .int .i64 x0_3, .bool x0_4], .int .i64 x1] w R :=
  calls_of_vc follows bodies Tryz.func52 (by kernel_rfl) (by kernel_rfl) (by kernel_rfl) ((eq52 x0_0 x0_1 x0_2 x0_3 x0_4 x1 R w).mpr h)

/-- (loop.example/pub-g03440/spec.Part).Size -/
def wp51 (x0_0 : Int) (x0_1 : Int) (x0_2 : Int) (x0_3 : Int) (x1 : Int) (x2 : Int) (R : Value → World → Prop) (w : World) : Prop := AllocC w (.cells #[.int .i64 x0_0, .int .i64 x0_1, .int .i64 x0_2, .int .i64 x0_3] 95) fun (r1 : Nat) (w2 : World) => LdI w2 ⟨r1, 0, none⟩ .i64 fun (n3 : Int) => LoopC (fun (J6 : (Int × Int × Unit) → World → Prop) => J6 ((0 : Int), n3, ()) w2) (fun (z4 : (Int × Int × Unit)) (w5 : World) (N7 : (Int × Int × Unit) → World → Prop) => IfC (decide (z4.2.1 < x1)) (LdI w5 ⟨r1, 0 + 2, none⟩ .i64 fun (n8 : Int) => N7 (IntKind.wrap .i64 (z4.1 + (1 : Int)), IntKind.wrap .i64 (z4.2.1 + n8), ()) w5) (LdI w5 ⟨r1, 0 + 1, none⟩ .i64 fun (n9 : Int) => LoopC (fun (J12 : (Int × Int × Unit) → World → Prop) => J12 ((0 : Int), n9, ()) w5) (fun (z10 : (Int × Int × Unit)) (w11 : World) (N13 : (Int × Int × Unit) → World → Prop) => IfC (decide (z10.2.1 < x2)) (LdI w11 ⟨r1, 0 + 3, none⟩ .i64 fun (n14 : Int) => N13 (IntKind.wrap .i64 (z10.1 + (1 : Int)), IntKind.wrap .i64 (z10.2.1 + n14), ()) w11) (IfC (z4.1 == (0 : Int)) (R (.tuple #[.int .i64 (0 : Int), .int .i64 (0 : Int)] : Value) w11) (IfC (z10.1 == (0 : Int)) (R (.tuple #[.int .i64 (0 : Int), .int .i64 (0 : Int)] : Value) w11) (R (.tuple #[.int .i64 z4.1, .int .i64 z10.1] : Value) w11))))))
theorem eq51 (x0_0 : Int) (x0_1 : Int) (x0_2 : Int) (x0_3 : Int) (x1 : Int) (x2 : Int) (R : Value → World → Prop) (w : World) : vc Pg Gg (annOf [(8, [(8, .i .i64), (10, .i .i64)], [1, 2, 3, 6, 7, 9]), (23, [(9, .i .i64), (11, .i .i64)], [2, 3, 6, 7, 8])]) 0 (bodyOf Tryz.f51) (retK Pg Tryz.f51.results.toList R) (argE 0 [.agg #[.int .i64 x0_0, .int .i64 x0_1, .int .i64 x0_2, .int .i64 x0_3], .int .i64 x1, .int .i64 x2]) w = wp51 x0_0 x0_1 x0_2 x0_3 x1 x2 R w := by kernel_rfl
theorem call51 {x0_0 : Int} {x0_1 : Int} {x0_2 : Int} {x0_3 : Int} {x1 : Int} {x2 : Int} {R : Value → World → Prop} {w : World} (h : wp51 x0_0 x0_1 x0_2 x0_3 x1 x2 R w) : CallT Pg 51 #[.agg #[.int .i64 x0_0, .int .i64 x0_1, .int .i64 x0_2, .int .i64 x0_3], .int .i64 x1, .int .i64 x2] w R :=
  calls_of_vc follows bodies Tryz.func51 (by kernel_rfl) (by kernel_rfl) (by kernel_rfl) ((eq51 x0_0 x0_1 x0_2 x0_3 x1 x2 R w).mpr h)

/-- loop.example/pub-g03440/spec.PartOf -/
def wp50 (x0 : Bool) (x1 : Int) (R : Value → World → Prop) (w : World) : Prop := AllocC w (.cells (zc Pg 95) 95) fun (r1 : Nat) (w2 : World) => IfC (!x0) (StoreC w2 ⟨r1, 0, none⟩ (.int .i64 (0 : Int)) fun (w3 : World) => StoreC w3 ⟨r1, 0 + 1, none⟩ (.int .i64 (0 : Int)) fun (w4 : World) => StoreC w4 ⟨r1, 0 + 2, none⟩ (.int .i64 (1 : Int)) fun (w5 : World) => StoreC w5 ⟨r1, 0 + 3, none⟩ (.int .i64 (1 : Int)) fun (w6 : World) => LdI w6 ⟨r1, 0, none⟩ .i64 fun (n7 : Int) => LdI w6 ⟨r1, 0 + 1, none⟩ .i64 fun (n8 : Int) => LdI w6 ⟨r1, 0 + 2, none⟩ .i64 fun (n9 : Int) => LdI w6 ⟨r1, 0 + 3, none⟩ .i64 fun (n10 : Int) => R (.agg #[.int .i64 n7, .int .i64 n8, .int .i64 n9, .int .i64 n10] : Value) w6) (AllocC w2 (.cells #[.int .i64 (0 : Int), .int .i64 (0 : Int), .int .i64 (8 : Int), .int .i64 (8 : Int), .int .i64 (4 : Int), .int .i64 (0 : Int), .int .i64 (8 : Int), .int .i64 (8 : Int), .int .i64 (0 : Int), .int .i64 (4 : Int), .int .i64 (4 : Int), .int .i64 (8 : Int), .int .i64 (2 : Int), .int .i64 (0 : Int), .int .i64 (4 : Int), .int .i64 (4 : Int), .int .i64 (0 : Int), .int .i64 (2 : Int), .int .i64 (2 : Int), .int .i64 (4 : Int), .int .i64 (1 : Int), .int .i64 (0 : Int), .int .i64 (2 : Int), .int .i64 (2 : Int), .int .i64 (0 : Int), .int .i64 (1 : Int), .int .i64 (1 : Int), .int .i64 (2 : Int)] 95) fun (r11 : Nat) (w12 : World) => And (0 ≤ x1 ∧ x1 < (7 : Int)) (LdI w12 (elemAt ⟨r11, 0, none⟩ x1.toNat 4) .i64 fun (n13 : Int) => LdI w12 ⟨(elemAt ⟨r11, 0, none⟩ x1.toNat 4).block, (elemAt ⟨r11, 0, none⟩ x1.toNat 4).off + 1, none⟩ .i64 fun (n14 : Int) => LdI w12 ⟨(elemAt ⟨r11, 0, none⟩ x1.toNat 4).block, (elemAt ⟨r11, 0, none⟩ x1.toNat 4).off + 2, none⟩ .i64 fun (n15 : Int) => LdI w12 ⟨(elemAt ⟨r11, 0, none⟩ x1.toNat 4).block, (elemAt ⟨r11, 0, none⟩ x1.toNat 4).off + 3, none⟩ .i64 fun (n16 : Int) => StoreC w12 ⟨r1, 0, none⟩ (.int .i64 n13) fun (w17 : World) => StoreC w17 ⟨r1, 0 + 1, none⟩ (.int .i64 n14) fun (w18 : World) => StoreC w18 ⟨r1, 0 + 2, none⟩ (.int .i64 n15) fun (w19 : World) => StoreC w19 ⟨r1, 0 + 3, none⟩ (.int .i64 n16) fun (w20 : World) => LdI w20 ⟨r1, 0, none⟩ .i64 fun (n21 : Int) => LdI w20 ⟨r1, 0 + 1, none⟩ .i64 fun (n22 : Int) => LdI w20 ⟨r1, 0 + 2, none⟩ .i64 fun (n23 : Int) => LdI w20 ⟨r1, 0 + 3, none⟩ .i64 fun (n24 : Int) => R (.agg #[.int .i64 n21, .int .i64 n22, .int .i64 n23, .int .i64 n24] : Value) w20))
theorem eq50 (x0 : Bool) (x1 : Int) (R : Value → World → Prop) (w : World) : vc Pg Gg (annOf []) 0 (bodyOf Tryz.f50) (retK Pg Tryz.f50.results.toList R) (argE 0 [.bool x0, .int .i64 x1]) w = wp50 x0 x1 R w := by kernel_rfl
theorem call50 {x0 : Bool} {x1 : Int} {R : Value → World → Prop} {w : World} (h : wp50 x0 x1 R w) : CallT Pg 50 #[.bool x0, .int .i64 x1] w R :=
  calls_of_vc follows bodies Tryz.func50 (by kernel_rfl) (by kernel_rfl) (by kernel_rfl) ((eq50 x0 x1 R w).mpr h)

/-- loop.example/pub-g03440/spec.row -/
def wp53 (x0 : Option Addr) (x0l : Nat) (x0c : Nat) (x1 : Int) (R : Value → World → Prop) (w : World) : Prop := AllocC w (.cells #[] 5) fun (r1 : Nat) (w2 : World) => LoopC (fun (J5 : (Sl × Int × Unit) → World → Prop) => J5 ((⟨some ⟨r1, 0, none⟩, 0, 0⟩ : Sl), (0 : Int), ()) w2) (fun (z3 : (Sl × Int × Unit)) (w4 : World) (N6 : (Sl × Int × Unit) → World → Prop) => IfC (decide (z3.2.1 < (x0l : Int))) (And (0 ≤ z3.2.1 ∧ z3.2.1 < (x0l : Int)) (PtrC x0 fun (a7 : Addr) => LdI w4 (elemAt a7 z3.2.1.toNat 1) .i64 fun (n8 : Int) => IfC (x1 == (8 : Int)) (AllocC w4 (.cells #[.int .u8 (IntKind.wrap .u8 n8)] 5) fun (r9 : Nat) (w10 : World) => AppR Pg w10 #[33, 33] 33 (.slice z3.1.a z3.1.len z3.1.cap) (.slice (some ⟨r9, 0, none⟩) 1 1) fun (p11 : Option Addr) (l12 : Nat) (c13 : Nat) (w14 : World) => N6 ((⟨p11, l12, c13⟩ : Sl), IntKind.wrap .i64 (z3.2.1 + (1 : Int)), ()) w14) (IfC (x1 == (16 : Int)) (ShC (8 : Int) (AllocC w4 (.cells #[.int .u8 (IntKind.wrap .u8 (shrI .i64 n8 (8 : Int))), .int .u8 (IntKind.wrap .u8 n8)] 5) fun (r15 : Nat) (w16 : World) => AppR Pg w16 #[33, 33] 33 (.slice z3.1.a z3.1.len z3.1.cap) (.slice (some ⟨r15, 0, none⟩) 2 2) fun (p17 : Option Addr) (l18 : Nat) (c19 : Nat) (w20 : World) => N6 ((⟨p17, l18, c19⟩ : Sl), IntKind.wrap .i64 (z3.2.1 + (1 : Int)), ()) w20)) (JoinC (fun (z21 : (Sl × Unit)) (w22 : World) => DrewC w22 fun (w24 : World) => DivC (8 : Int) (And (0 ≤ IntKind.wrap .i64 (Int.tdiv (IntKind.wrap .i64 (z3.2.1 * x1)) (8 : Int)) ∧ IntKind.wrap .i64 (Int.tdiv (IntKind.wrap .i64 (z3.2.1 * x1)) (8 : Int)) < (z21.1.len : Int)) (PtrC z21.1.a fun (a25 : Addr) => LdI w24 (elemAt a25 ((IntKind.wrap .i64 (Int.tdiv (IntKind.wrap .i64 (z3.2.1 * x1)) (8 : Int))).toNat) 1) .u8 fun (n26 : Int) => DivC (8 : Int) (ShC (IntKind.wrap .i64 ((IntKind.wrap .i64 ((8 : Int) - x1)) - (Int.tmod (IntKind.wrap .i64 (z3.2.1 * x1)) (8 : Int)))) (And (0 ≤ IntKind.wrap .i64 (Int.tdiv (IntKind.wrap .i64 (z3.2.1 * x1)) (8 : Int)) ∧ IntKind.wrap .i64 (Int.tdiv (IntKind.wrap .i64 (z3.2.1 * x1)) (8 : Int)) < (z21.1.len : Int)) (PtrC z21.1.a fun (a27 : Addr) => StoreC w24 (elemAt a27 ((IntKind.wrap .i64 (Int.tdiv (IntKind.wrap .i64 (z3.2.1 * x1)) (8 : Int))).toNat) 1) (.int .u8 (bOr .u8 n26 (IntKind.wrap .u8 (shlI .i64 n8 (IntKind.wrap .i64 ((IntKind.wrap .i64 ((8 : Int) - x1)) - (Int.tmod (IntKind.wrap .i64 (z3.2.1 * x1)) (8 : Int)))))))) fun (w28 : World) => N6 ((⟨z21.1.a, z21.1.len, z21.1.cap⟩ : Sl), IntKind.wrap .i64 (z3.2.1 + (1 : Int)), ()) w28)))))) (fun (J23 : (Sl × Unit) → World → Prop) => DivC (8 : Int) (IfC ((Int.tmod (IntKind.wrap .i64 (z3.2.1 * x1)) (8 : Int)) == (0 : Int)) (AllocC w4 (.cells #[.int .u8 (0 : Int)] 5) fun (r29 : Nat) (w30 : World) => AppR Pg w30 #[33, 33] 33 (.slice z3.1.a z3.1.len z3.1.cap) (.slice (some ⟨r29, 0, none⟩) 1 1) fun (p31 : Option Addr) (l32 : Nat) (c33 : Nat) (w34 : World) => J23 ((⟨p31, l32, c33⟩ : Sl), ()) w34) (J23 ((⟨z3.1.a, z3.1.len, z3.1.cap⟩ : Sl), ()) w4))))))) (R (.slice z3.1.a z3.1.len z3.1.cap : Value) w4))
theorem eq53 (x0 : Option Addr) (x0l : Nat) (x0c : Nat) (x1 : Int) (R : Value → World → Prop) (w : World) : vc Pg Gg (annOf [(8, [(5, .sl), (12, .i .i64)], [1, 4, 10, 11]), (32, [(5, .sl)], [1, 7, 8, 10, 11, 12])]) 0 (bodyOf Tryz.f53) (retK Pg Tryz.f53.results.toList R) (argE 0 [.slice x0 x0l x0c, .int .i64 x1]) w = wp53 x0 x0l x0c x1 R w := by kernel_rfl
theorem call53 {x0 : Option Addr} {x0l : Nat} {x0c : Nat} {x1 : Int} {R : Value → World → Prop} {w : World} (h : wp53 x0 x0l x0c x1 R w) : CallT Pg 53 #[.slice x0 x0l x0c, .int .i64 x1] w R :=
  calls_of_vc follows bodies Tryz.func53 (by kernel_rfl) (by kernel_rfl) (by kernel_rfl) ((eq53 x0 x0l x0c x1 R w).mpr h)

section
variable {w : World}
theorem c38 {x : Int} : CallT Pg 38 #[.int .i64 x] w fun v w' => v = .int .i64 (if x = 2 then 3 else if x = 4 then 2 else if x = 6 then 4 else 1) ∧ w' = w := by
  apply call38
  unfold wp38
  refine IfC_bool (fun h => ?_) (fun h => IfC_bool (fun h' => ?_) (fun h' => IfC_bool (fun h'' => ?_) (fun h'' => ?_))) <;> simp_all
theorem c49 {x : Bool} : CallT Pg 49 #[.bool x] w fun v w' => v = .int .i64 (if x then 7 else 1) ∧ w' = w := by
  apply call49
  unfold wp49
  refine IfC_bool (fun h => ?_) (fun h => ?_) <;> simp_all
theorem c97 {x y : Int} : CallT Pg 97 #[.int .i64 x, .int .i64 y] w fun v w' => (∃ n, v = .int .i64 n) ∧ w' = w := by
  apply call97
  exact ⟨⟨_, rfl⟩, rfl⟩
theorem c86 {x y z : Int} : CallT Pg 86 #[.int .i64 x, .int .i64 y, .int .i64 z] w fun v w' => (∃ n, v = .int .i64 n) ∧ w' = w := by
  apply call86
  unfold wp86
  refine CallT.mono c97 ?_
  rintro _ _ ⟨⟨n, rfl⟩, rfl⟩
  refine ⟨_, rfl, CallT.mono c97 ?_⟩
  rintro _ _ ⟨⟨n, rfl⟩, rfl⟩
  refine ⟨_, rfl, IfC_dec (fun _ => ?_) (fun _ => ?_)⟩
  · refine CallT.mono c97 ?_
    rintro _ _ ⟨⟨n, rfl⟩, rfl⟩
    refine ⟨_, rfl, CallT.mono c97 ?_⟩
    rintro _ _ ⟨⟨n, rfl⟩, rfl⟩
    refine ⟨_, rfl, IfC_dec (fun _ => ⟨⟨_, rfl⟩, rfl⟩) (fun _ => ?_)⟩
    refine CallT.mono c97 ?_
    rintro _ _ ⟨⟨n, rfl⟩, rfl⟩
    refine ⟨_, rfl, CallT.mono c97 ?_⟩
    rintro _ _ ⟨⟨n, rfl⟩, rfl⟩
    exact ⟨_, rfl, IfC_dec (fun _ => ⟨⟨_, rfl⟩, rfl⟩) (fun _ => ⟨⟨_, rfl⟩, rfl⟩)⟩
  · refine CallT.mono c97 ?_
    rintro _ _ ⟨⟨n, rfl⟩, rfl⟩
    refine ⟨_, rfl, CallT.mono c97 ?_⟩
    rintro _ _ ⟨⟨n, rfl⟩, rfl⟩
    exact ⟨_, rfl, IfC_dec (fun _ => ⟨⟨_, rfl⟩, rfl⟩) (fun _ => ⟨⟨_, rfl⟩, rfl⟩)⟩
theorem c64 {k at_ st : Int} {p q : Option Addr} {l c l' c' : Nat} {xs ys : List UInt8} (hx : Has w p (bv xs)) (hl : l = xs.length) (hy : Has w q (bv ys)) (hl' : l' = ys.length) (h0 : 0 ≤ at_) (h1 : at_ < l) (h2 : at_ < l') (hb : at_ < 1099511627776) (hs : 1 ≤ st) (hsb : st < 1099511627776) :
    CallT Pg 64 #[.int .i64 k, .slice p l c, .slice q l' c', .int .i64 at_, .int .i64 st] w fun v w' => (∃ n, v = .int .i64 n) ∧ Fr [] w w' := by
  apply call64
  unfold wp64
  have hf1 := Fr.drew [] w
  rw [DrewC_eq]
  refine IdxB (hy.fr0 hf1) hl' h0 h2 ?_
  refine JoinC_of (fun _ w' => Fr [] w w') ?_ ?_
  · intro z w2 hf
    refine IfC_bool (fun _ => ⟨⟨_, rfl⟩, hf⟩) (fun _ => IfC_bool (fun _ => ⟨⟨_, rfl⟩, hf⟩) (fun _ => IfC_bool (fun _ => DivC_of (by decide) ⟨⟨_, rfl⟩, hf⟩) (fun _ => IfC_bool (fun _ => ?_) (fun _ => ⟨⟨_, rfl⟩, hf⟩))))
    refine CallT.mono c86 ?_
    rintro _ _ ⟨⟨n, rfl⟩, rfl⟩
    exact ⟨_, rfl, ⟨_, rfl⟩, hf⟩
  · intro J hJ
    refine IfC_dec (fun h => ?_) (fun h => hJ _ _ hf1)
    have hf2 := hf1.drewR
    rw [DrewC_eq, wrap_i64_id (by omega) (by omega)]
    refine IdxB (hx.fr0 hf2) hl (by omega) (by omega) ?_
    refine IdxB (hy.fr0 hf2) hl' (by omega) (by omega) ?_
    exact hJ _ _ hf2
theorem c54 {k st : Int} {p q : Option Addr} {l c l' c' : Nat} {xs ys : List UInt8} (hx : Has w p (bv xs)) (hl : l = xs.length) (hy : Has w q (bv ys)) (hl' : l' = ys.length) (hll : l = l') (hb : l < 1099511627776) (hs : 1 ≤ st) (hsb : st < 1099511627776) :
    CallT Pg 54 #[.int .i64 k, .slice p l c, .slice q l' c', .int .i64 st] w fun v w' => ∃ zs, zs.length = l ∧ RetB w zs v w' := by
  apply call54
  unfold wp54
  rw [AllocC_eq]
  refine LoopC_of (fun z w' => Fr [] w w' ∧ ∃ zs : List UInt8, z.2.1 = (zs.length : Int) ∧ zs.length ≤ l ∧ z.1.len = zs.length ∧ Own w' (hn w) 5 1 z.1.a z.1.len z.1.cap (bv zs)) (fun z _ => l - z.2.1.toNat)
    ⟨Fr.alloc _ _ _, [], rfl, by simp, rfl, Own.new (w := w) (e := 5) (size := 1) (cs := #[]) (l := 0) (Nat.le_refl _) (by simp)⟩ ?_
  rintro ⟨⟨a, n, m⟩, i, ⟨⟩⟩ w2 ⟨hf, zs, rfl, hle, rfl, ho⟩
  dsimp only at *
  refine IfC_dec (fun h => ?_) (fun h => ?_)
  · refine IdxB (hx.fr0 hf) hl (by omega) h ?_
    refine CallT.mono (c64 (hx.fr0 hf) hl (hy.fr0 hf) hl' (by omega) h (by omega) (by omega) hs hsb) ?_
    rintro _ w3 ⟨⟨n, rfl⟩, hf3⟩
    refine ⟨_, rfl, ?_⟩
    generalize hv : IntKind.wrap .u8 (↑(gb xs (zs.length : Int).toNat) - IntKind.wrap .u8 n) = v
    have hv0 : ∃ y : UInt8, Value.int .u8 v = u8v y := ⟨UInt8.ofNat v.toNat, by rw [u8v_ofNat]; rw [wrap_u8] at hv; congr 1; omega⟩
    obtain ⟨y, hy'⟩ := hv0
    rw [hy']
    refine AppLit ok33 (hf.trans hf3) (ho.fr0 hf3) (cs := #[u8v y]) (m := 1) rfl (by simp [u8v, Value.oneCell']) (by omega) ?_
    intro p' c' w4 hf4 _ ho4
    rw [wrap_i64_id (by omega) (by omega)]
    exact ⟨⟨hf4, zs ++ [y], by simp, by simp; omega, by simp, by simpa using ho4⟩, by omega⟩
  · exact ⟨zs, by omega, hf, a, m, rfl, ho⟩

def chN (c : Nat) : Nat := if c = 2 then 3 else if c = 4 then 2 else if c = 6 then 4 else 1
theorem chN_le (c : Nat) : 1 ≤ chN c ∧ chN c ≤ 4 := by unfold chN; split <;> (try split) <;> (try split) <;> omega
theorem c38n {c : Nat} : CallT Pg 38 #[.int .i64 c] w fun v w' => v = .int .i64 (chN c) ∧ w' = w := by
  refine CallT.mono c38 ?_
  rintro _ _ ⟨rfl, rfl⟩
  refine ⟨?_, rfl⟩
  congr 1
  unfold chN
  repeat' split
  all_goals first | rfl | omega
def shp (W H D C : Nat) (L : Bool) : Value := .agg #[.int .i64 W, .int .i64 H, .int .i64 D, .int .i64 C, .bool L]
def rowB (C D n : Nat) : Nat := (n * chN C * D + 7) / 8
def stepN (C D : Nat) : Nat := max 1 (chN C * D / 8)
theorem c55 {W H D C : Nat} {L : Bool} (hD : D ≤ 16) : CallT Pg 55 #[shp W H D C L] w fun v w' => v = .int .i64 (stepN C D) ∧ Fr [] w w' := by
  apply call55
  unfold wp55
  have hc := chN_le C
  simp only [AllocC_eq, DrewC_eq, hp_alloc_new, hp_upd_same, hp_drew, hn_alloc, hn_upd, hn_drew, setR_Row, StO_Row, atR_Row, LdI_eq, LdB_eq, LdS_eq, LdSl_eq, LdP_eq, LdV_eq, RdI_some, RdB_some, RdS_some, RdSl_some, RdP_some, RdV_some, PtrC_some, IfC_true, IfC_false, OneC_true, elemAt_one, elemAt_many, Nat.zero_add, Nat.add_zero, Nat.reduceAdd, List.getElem?_toArray, List.getElem?_cons_zero, List.getElem?_cons_succ, List.setIfInBounds_toArray, List.set_cons_zero, List.set_cons_succ, List.size_toArray, List.length_cons, List.length_nil, Nat.reduceLT, true_and]
  refine CallT.mono c38n ?_
  rintro _ _ ⟨rfl, rfl⟩
  refine ⟨_, rfl, ?_⟩
  simp only [AllocC_eq, DrewC_eq, hp_alloc_new, hp_upd_same, hp_drew, hn_alloc, hn_upd, hn_drew, setR_Row, StO_Row, atR_Row, LdI_eq, LdB_eq, LdS_eq, LdSl_eq, LdP_eq, LdV_eq, RdI_some, RdB_some, RdS_some, RdSl_some, RdP_some, RdV_some, PtrC_some, IfC_true, IfC_false, OneC_true, elemAt_one, elemAt_many, Nat.zero_add, Nat.add_zero, Nat.reduceAdd, List.getElem?_toArray, List.getElem?_cons_zero, List.getElem?_cons_succ, List.setIfInBounds_toArray, List.set_cons_zero, List.set_cons_succ, List.size_toArray, List.length_cons, List.length_nil, Nat.reduceLT, true_and]
  refine DivC_of (by decide) ?_
  have h1 : chN C * D ≤ 4 * 16 := Nat.mul_le_mul hc.2 hD
  have e1 : ((chN C : Int) * (D : Int)) = ((chN C * D : Nat) : Int) := by simp
  have e2 : Int.tdiv ((chN C * D : Nat) : Int) 8 = ((chN C * D / 8 : Nat) : Int) := by
    rw [Int.tdiv_eq_ediv_of_nonneg (by omega)]; simp
  simp (disch := omega) only [e1, e2, wrap_i64_id]
  refine ⟨?_, (Fr.alloc _ _ _).drewR⟩
  congr 1
  unfold maxI stepN
  split <;> omega
theorem c52 {W H D C n : Nat} {L : Bool} (hD : D ≤ 16) (hn : n ≤ 65536) : CallT Pg 52 #[shp W H D C L, .int .i64 n] w fun v w' => v = .int .i64 (rowB C D n) ∧ Fr [] w w' := by
  apply call52
  unfold wp52
  have hc := chN_le C
  simp only [AllocC_eq, DrewC_eq, hp_alloc_new, hp_upd_same, hp_drew, hn_alloc, hn_upd, hn_drew, setR_Row, StO_Row, atR_Row, LdI_eq, LdB_eq, LdS_eq, LdSl_eq, LdP_eq, LdV_eq, RdI_some, RdB_some, RdS_some, RdSl_some, RdP_some, RdV_some, PtrC_some, IfC_true, IfC_false, OneC_true, elemAt_one, elemAt_many, Nat.zero_add, Nat.add_zero, Nat.reduceAdd, List.getElem?_toArray, List.getElem?_cons_zero, List.getElem?_cons_succ, List.setIfInBounds_toArray, List.set_cons_zero, List.set_cons_succ, List.size_toArray, List.length_cons, List.length_nil, Nat.reduceLT, true_and]
  refine CallT.mono c38n ?_
  rintro _ _ ⟨rfl, rfl⟩
  refine ⟨_, rfl, ?_⟩
  simp only [AllocC_eq, DrewC_eq, hp_alloc_new, hp_upd_same, hp_drew, hn_alloc, hn_upd, hn_drew, setR_Row, StO_Row, atR_Row, LdI_eq, LdB_eq, LdS_eq, LdSl_eq, LdP_eq, LdV_eq, RdI_some, RdB_some, RdS_some, RdSl_some, RdP_some, RdV_some, PtrC_some, IfC_true, IfC_false, OneC_true, elemAt_one, elemAt_many, Nat.zero_add, Nat.add_zero, Nat.reduceAdd, List.getElem?_toArray, List.getElem?_cons_zero, List.getElem?_cons_succ, List.setIfInBounds_toArray, List.set_cons_zero, List.set_cons_succ, List.size_toArray, List.length_cons, List.length_nil, Nat.reduceLT, true_and]
  refine DivC_of (by decide) ?_
  have h1 : n * chN C ≤ 65536 * 4 := Nat.mul_le_mul hn hc.2
  have h2 : n * chN C * D ≤ 65536 * 4 * 16 := Nat.mul_le_mul h1 hD
  have e1 : ((n : Int) * (chN C : Int)) = ((n * chN C : Nat) : Int) := by simp
  have e2 : (((n * chN C : Nat) : Int) * (D : Int)) = ((n * chN C * D : Nat) : Int) := by simp
  have e3 : Int.tdiv (((n * chN C * D : Nat) : Int) + 7) 8 = ((rowB C D n : Nat) : Int) := by
    rw [Int.tdiv_eq_ediv_of_nonneg (by omega)]; unfold rowB; omega
  have h3 : rowB C D n ≤ 4194304 := by unfold rowB; omega
  simp (disch := omega) only [e1, e2, e3, wrap_i64_id]
  exact ⟨by trivial, (Fr.alloc _ _ _).drewR⟩

def cntN (X D W : Nat) : Nat := (W - X + D - 1) / D
theorem c51 {X Y DX DY W H : Nat} (hDX : DX = 1 ∨ DX = 2 ∨ DX = 4 ∨ DX = 8) (hDY : DY = 1 ∨ DY = 2 ∨ DY = 4 ∨ DY = 8) (hX : X ≤ 8) (hY : Y ≤ 8) (hW : W ≤ 65536) (hH : H ≤ 65536) :
    CallT Pg 51 #[.agg #[.int .i64 X, .int .i64 Y, .int .i64 DX, .int .i64 DY], .int .i64 W, .int .i64 H] w fun v w' =>
      v = (if cntN X DX W = 0 ∨ cntN Y DY H = 0 then .tuple #[.int .i64 0, .int .i64 0] else .tuple #[.int .i64 (cntN X DX W), .int .i64 (cntN Y DY H)]) ∧ Fr [] w w' := by
  apply call51
  unfold wp51
  simp only [AllocC_eq, DrewC_eq, hp_alloc_new, hp_upd_same, hp_drew, hn_alloc, hn_upd, hn_drew, setR_Row, StO_Row, atR_Row, LdI_eq, LdB_eq, LdS_eq, LdSl_eq, LdP_eq, LdV_eq, RdI_some, RdB_some, RdS_some, RdSl_some, RdP_some, RdV_some, PtrC_some, IfC_true, IfC_false, OneC_true, elemAt_one, elemAt_many, Nat.zero_add, Nat.add_zero, Nat.reduceAdd, List.getElem?_toArray, List.getElem?_cons_zero, List.getElem?_cons_succ, List.setIfInBounds_toArray, List.set_cons_zero, List.set_cons_succ, List.size_toArray, List.length_cons, List.length_nil, Nat.reduceLT, true_and]
  have hf := Fr.alloc [] w (.cells #[.int .i64 X, .int .i64 Y, .int .i64 DX, .int .i64 DY] 95)
  have hg : hp (w.alloc (.cells #[.int .i64 X, .int .i64 Y, .int .i64 DX, .int .i64 DY] 95)) (hn w) = Row 95 #[.int .i64 X, .int .i64 Y, .int .i64 DX, .int .i64 DY] := hp_alloc_new _ _ _
  generalize w.alloc (.cells #[.int .i64 X, .int .i64 Y, .int .i64 DX, .int .i64 DY] 95) = w1 at *
  refine LoopC_of (fun z w' => w' = w1 ∧ ∃ i : Nat, z.1 = i ∧ z.2.1 = ((X + i * DX : Nat) : Int) ∧ (i = 0 ∨ X + i * DX < W + DX)) (fun z _ => W + 16 - z.2.1.toNat) ⟨rfl, 0, rfl, by simp, .inl rfl⟩ ?_
  rintro ⟨i', x', ⟨⟩⟩ w1 ⟨rfl, i, rfl, rfl, hi⟩
  dsimp only at *
  refine IfC_dec (fun h => ?_) (fun h => ?_)
  · simp only [AllocC_eq, DrewC_eq, hp_alloc_new, hp_upd_same, hp_drew, hn_alloc, hn_upd, hn_drew, setR_Row, StO_Row, atR_Row, LdI_eq, LdB_eq, LdS_eq, LdSl_eq, LdP_eq, LdV_eq, RdI_some, RdB_some, RdS_some, RdSl_some, RdP_some, RdV_some, PtrC_some, IfC_true, IfC_false, OneC_true, elemAt_one, elemAt_many, Nat.zero_add, Nat.add_zero, Nat.reduceAdd, List.getElem?_toArray, List.getElem?_cons_zero, List.getElem?_cons_succ, List.setIfInBounds_toArray, List.set_cons_zero, List.set_cons_succ, List.size_toArray, List.length_cons, List.length_nil, Nat.reduceLT, true_and, hg]
    have hi' : (i : Int) ≤ 65536 := by rcases hDX with rfl | rfl | rfl | rfl <;> omega
    have e : (X + (i + 1) * DX : Nat) = X + i * DX + DX := by rw [Nat.add_mul]; omega
    rw [wrap_i64_id (by omega) (by omega), wrap_i64_id (by omega) (by omega)]
    refine ⟨⟨i + 1, by simp, by rw [e]; simp, .inr (by rw [e]; omega)⟩, by omega⟩
  · have hi2 : i = cntN X DX W := by unfold cntN; rcases hDX with rfl | rfl | rfl | rfl <;> omega
    subst hi2
    simp only [AllocC_eq, DrewC_eq, hp_alloc_new, hp_upd_same, hp_drew, hn_alloc, hn_upd, hn_drew, setR_Row, StO_Row, atR_Row, LdI_eq, LdB_eq, LdS_eq, LdSl_eq, LdP_eq, LdV_eq, RdI_some, RdB_some, RdS_some, RdSl_some, RdP_some, RdV_some, PtrC_some, IfC_true, IfC_false, OneC_true, elemAt_one, elemAt_many, Nat.zero_add, Nat.add_zero, Nat.reduceAdd, List.getElem?_toArray, List.getElem?_cons_zero, List.getElem?_cons_succ, List.setIfInBounds_toArray, List.set_cons_zero, List.set_cons_succ, List.size_toArray, List.length_cons, List.length_nil, Nat.reduceLT, true_and, hg]
    refine LoopC_of (fun z w' => w' = w1 ∧ ∃ i : Nat, z.1 = i ∧ z.2.1 = ((Y + i * DY : Nat) : Int) ∧ (i = 0 ∨ Y + i * DY < H + DY)) (fun z _ => H + 16 - z.2.1.toNat) ⟨rfl, 0, rfl, by simp, .inl rfl⟩ ?_
    rintro ⟨i', x', ⟨⟩⟩ w1 ⟨rfl, i, rfl, rfl, hi⟩
    dsimp only at *
    refine IfC_dec (fun h => ?_) (fun h => ?_)
    · simp only [AllocC_eq, DrewC_eq, hp_alloc_new, hp_upd_same, hp_drew, hn_alloc, hn_upd, hn_drew, setR_Row, StO_Row, atR_Row, LdI_eq, LdB_eq, LdS_eq, LdSl_eq, LdP_eq, LdV_eq, RdI_some, RdB_some, RdS_some, RdSl_some, RdP_some, RdV_some, PtrC_some, IfC_true, IfC_false, OneC_true, elemAt_one, elemAt_many, Nat.zero_add, Nat.add_zero, Nat.reduceAdd, List.getElem?_toArray, List.getElem?_cons_zero, List.getElem?_cons_succ, List.setIfInBounds_toArray, List.set_cons_zero, List.set_cons_succ, List.size_toArray, List.length_cons, List.length_nil, Nat.reduceLT, true_and, hg]
      have hi' : (i : Int) ≤ 65536 := by rcases hDY with rfl | rfl | rfl | rfl <;> omega
      have e : (Y + (i + 1) * DY : Nat) = Y + i * DY + DY := by rw [Nat.add_mul]; omega
      rw [wrap_i64_id (by omega) (by omega), wrap_i64_id (by omega) (by omega)]
      refine ⟨⟨i + 1, by simp, by rw [e]; simp, .inr (by rw [e]; omega)⟩, by omega⟩
    · have hi2 : i = cntN Y DY H := by unfold cntN; rcases hDY with rfl | rfl | rfl | rfl <;> omega
      subst hi2
      refine IfC_bool (fun h1 => ?_) (fun h1 => IfC_bool (fun h2 => ?_) (fun h2 => ?_))
      · exact ⟨by rw [if_pos (.inl (by simpa using h1))], hf⟩
      · exact ⟨by rw [if_pos (.inr (by simpa using h2))], hf⟩
      · exact ⟨by rw [if_neg (by simp at h1 h2; omega)], hf⟩

def partN (L : Bool) (p : Nat) : Nat × Nat × Nat × Nat :=
  if L then [(0, 0, 8, 8), (4, 0, 8, 8), (0, 4, 4, 8), (2, 0, 4, 4), (0, 2, 2, 4), (1, 0, 2, 2), (0, 1, 1, 2)].getD p (0, 0, 1, 1) else (0, 0, 1, 1)
def partV (x : Nat × Nat × Nat × Nat) : Value := .agg #[.int .i64 x.1, .int .i64 x.2.1, .int .i64 x.2.2.1, .int .i64 x.2.2.2]
theorem zc95 : zc Pg 95 = #[.int .i64 0, .int .i64 0, .int .i64 0, .int .i64 0] := by kernel_rfl
theorem c50 {L : Bool} {p : Nat} (hp7 : p < 7) : CallT Pg 50 #[.bool L, .int .i64 p] w fun v w' => v = partV (partN L p) ∧ Fr [] w w' := by
  apply call50
  unfold wp50
  rw [zc95]
  cases L with
  | false =>
    simp only [AllocC_eq, DrewC_eq, hp_alloc_new, hp_upd_same, hp_drew, hn_alloc, hn_upd, hn_drew, setR_Row, StO_Row, atR_Row, LdI_eq, LdB_eq, LdS_eq, LdSl_eq, LdP_eq, LdV_eq, RdI_some, RdB_some, RdS_some, RdSl_some, RdP_some, RdV_some, PtrC_some, IfC_true, IfC_false, OneC_true, elemAt_one, elemAt_many, Nat.zero_add, Nat.add_zero, Nat.reduceAdd, List.getElem?_toArray, List.getElem?_cons_zero, List.getElem?_cons_succ, List.setIfInBounds_toArray, List.set_cons_zero, List.set_cons_succ, List.size_toArray, List.length_cons, List.length_nil, Nat.reduceLT, true_and, Bool.not_false]
    iterate 4 (refine StoreC_of ?_; simp only [AllocC_eq, DrewC_eq, hp_alloc_new, hp_upd_same, hp_drew, hn_alloc, hn_upd, hn_drew, setR_Row, StO_Row, atR_Row, LdI_eq, LdB_eq, LdS_eq, LdSl_eq, LdP_eq, LdV_eq, RdI_some, RdB_some, RdS_some, RdSl_some, RdP_some, RdV_some, PtrC_some, IfC_true, IfC_false, OneC_true, elemAt_one, elemAt_many, Nat.zero_add, Nat.add_zero, Nat.reduceAdd, List.getElem?_toArray, List.getElem?_cons_zero, List.getElem?_cons_succ, List.setIfInBounds_toArray, List.set_cons_zero, List.set_cons_succ, List.size_toArray, List.length_cons, List.length_nil, Nat.reduceLT, true_and])
    exact ⟨rfl, ((((Fr.alloc [] w _).upd_new (Nat.le_refl _)).upd_new (Nat.le_refl _)).upd_new (Nat.le_refl _)).upd_new (Nat.le_refl _)⟩
  | true =>
    simp only [AllocC_eq, DrewC_eq, hp_alloc_new, hp_upd_same, hp_drew, hn_alloc, hn_upd, hn_drew, setR_Row, StO_Row, atR_Row, LdI_eq, LdB_eq, LdS_eq, LdSl_eq, LdP_eq, LdV_eq, RdI_some, RdB_some, RdS_some, RdSl_some, RdP_some, RdV_some, PtrC_some, IfC_true, IfC_false, OneC_true, elemAt_one, elemAt_many, Nat.zero_add, Nat.add_zero, Nat.reduceAdd, List.getElem?_toArray, List.getElem?_cons_zero, List.getElem?_cons_succ, List.setIfInBounds_toArray, List.set_cons_zero, List.set_cons_succ, List.size_toArray, List.length_cons, List.length_nil, Nat.reduceLT, true_and, Bool.not_true]
    have h7 : p = 0 ∨ p = 1 ∨ p = 2 ∨ p = 3 ∨ p = 4 ∨ p = 5 ∨ p = 6 := by omega
    refine ⟨by omega, ?_⟩
    have hnew : ∀ c, hp ((w.alloc (.cells #[.int .i64 0, .int .i64 0, .int .i64 0, .int .i64 0] 95)).alloc (.cells c 95)) (hn w + 1) = Row 95 c := fun c => by
      have := hp_alloc_new (w.alloc (.cells #[.int .i64 0, .int .i64 0, .int .i64 0, .int .i64 0] 95)) c 95
      simpa using this
    have hold : ∀ c, hp ((w.alloc (.cells #[.int .i64 0, .int .i64 0, .int .i64 0, .int .i64 0] 95)).alloc (.cells c 95)) (hn w) = Row 95 #[.int .i64 0, .int .i64 0, .int .i64 0, .int .i64 0] := fun c => by
      rw [hp_alloc_old _ _ (by simp)]; simp
    rcases h7 with rfl | rfl | rfl | rfl | rfl | rfl | rfl <;>
    · simp only [AllocC_eq, DrewC_eq, hp_alloc_new, hp_upd_same, hp_drew, hn_alloc, hn_upd, hn_drew, setR_Row, StO_Row, atR_Row, LdI_eq, LdB_eq, LdS_eq, LdSl_eq, LdP_eq, LdV_eq, RdI_some, RdB_some, RdS_some, RdSl_some, RdP_some, RdV_some, PtrC_some, IfC_true, IfC_false, OneC_true, elemAt_one, elemAt_many, Nat.zero_add, Nat.add_zero, Nat.reduceAdd, List.getElem?_toArray, List.getElem?_cons_zero, List.getElem?_cons_succ, List.setIfInBounds_toArray, List.set_cons_zero, List.set_cons_succ, List.size_toArray, List.length_cons, List.length_nil, Nat.reduceLT, true_and, hnew, hold, Int.toNat_natCast, Nat.reduceMul]
      iterate 4 (refine StoreC_of ?_; simp only [AllocC_eq, DrewC_eq, hp_alloc_new, hp_upd_same, hp_drew, hn_alloc, hn_upd, hn_drew, setR_Row, StO_Row, atR_Row, LdI_eq, LdB_eq, LdS_eq, LdSl_eq, LdP_eq, LdV_eq, RdI_some, RdB_some, RdS_some, RdSl_some, RdP_some, RdV_some, PtrC_some, IfC_true, IfC_false, OneC_true, elemAt_one, elemAt_many, Nat.zero_add, Nat.add_zero, Nat.reduceAdd, List.getElem?_toArray, List.getElem?_cons_zero, List.getElem?_cons_succ, List.setIfInBounds_toArray, List.set_cons_zero, List.set_cons_succ, List.size_toArray, List.length_cons, List.length_nil, Nat.reduceLT, true_and, hnew, hold])
      exact ⟨rfl, (((((Fr.alloc [] w _).allocR _).upd_new (Nat.le_refl _)).upd_new (Nat.le_refl _)).upd_new (Nat.le_refl _)).upd_new (Nat.le_refl _)⟩

theorem u8_or (a b : Int) : ∃ y : UInt8, Value.int .u8 (bOr .u8 a b) = u8v y := u8_wrap _
theorem tdiv_nat (a b : Nat) : Int.tdiv (a : Int) (b : Int) = ((a / b : Nat) : Int) := by rw [Int.tdiv_eq_ediv_of_nonneg (by omega)]; simp
theorem tmod_nat (a b : Nat) : Int.tmod (a : Int) (b : Int) = ((a % b : Nat) : Int) := by rw [Int.tmod_eq_emod_of_nonneg (by omega)]; simp
theorem c53 {d : Nat} (hd : d = 1 ∨ d = 2 ∨ d = 4 ∨ d = 8 ∨ d = 16) {p : Option Addr} {l c : Nat} {vs : List Value} (hx : Has w p vs) (hl : l = vs.length) (hi : ∀ i, i < l → ∃ n, vs[i]? = some (.int .i64 n)) (hb : l ≤ 1048576) :
    CallT Pg 53 #[.slice p l c, .int .i64 d] w fun v w' => ∃ zs, zs.length = (l * d + 7) / 8 ∧ RetB w zs v w' := by
  apply call53
  unfold wp53
  rw [AllocC_eq]
  refine LoopC_of (fun z w' => Fr [] w w' ∧ ∃ (k : Nat) (zs : List UInt8), z.2.1 = (k : Int) ∧ k ≤ l ∧ zs.length = (k * d + 7) / 8 ∧ z.1.len = zs.length ∧ Own w' (hn w) 5 1 z.1.a z.1.len z.1.cap (bv zs)) (fun z _ => l - z.2.1.toNat)
    ⟨Fr.alloc _ _ _, 0, [], rfl, by omega, by simp, rfl, Own.new (w := w) (e := 5) (size := 1) (cs := #[]) (l := 0) (Nat.le_refl _) (by simp)⟩ ?_
  rintro ⟨⟨a, n, m⟩, i, ⟨⟩⟩ w2 ⟨hf, k, zs, rfl, hle, hz, rfl, ho⟩
  dsimp only at *
  refine IfC_dec (fun h => ?_) (fun h => ?_)
  · obtain ⟨nv, hnv⟩ := hi k (by omega)
    refine IdxI (hx.fr0 hf) (by omega) h (by rw [Int.toNat_natCast]; exact hnv) ?_
    have hkd : k * d ≤ 1048576 * 16 := Nat.mul_le_mul (by omega) (by omega)
    have e1 : ((k : Int) * (d : Int)) = ((k * d : Nat) : Int) := by simp
    have e2 : Int.tdiv ((k * d : Nat) : Int) 8 = ((k * d / 8 : Nat) : Int) := tdiv_nat _ 8
    have e3 : Int.tmod ((k * d : Nat) : Int) 8 = ((k * d % 8 : Nat) : Int) := tmod_nat _ 8
    have e4 : (k + 1) * d = k * d + d := by rw [Nat.add_mul]; omega
    refine IfC_bool (fun h1 => ?_) (fun h1 => IfC_bool (fun h2 => ?_) (fun h2 => ?_))
    · simp only [beq_iff_eq] at h1
      obtain ⟨y, hy⟩ := u8_wrap nv
      rw [hy]
      refine AppLit ok33 hf ho (cs := #[u8v y]) (m := 1) rfl (by simp [u8v, Value.oneCell']) (by omega) ?_
      intro p' c' w3 hf3 _ ho3
      rw [wrap_i64_id (by omega) (by omega)]
      exact ⟨⟨hf3, k + 1, zs ++ [y], by simp, by omega, by rw [e4]; simp; omega, by simp, by simpa using ho3⟩, by omega⟩
    · simp only [beq_iff_eq] at h2
      obtain ⟨y, hy⟩ := u8_wrap nv
      obtain ⟨y', hy'⟩ := u8_wrap (shrI .i64 nv 8)
      rw [hy, hy', ShC_eq (by decide)]
      refine AppLit ok33 hf ho (cs := #[u8v y', u8v y]) (m := 2) rfl (by simp [u8v, Value.oneCell']) (by omega) ?_
      intro p' c' w3 hf3 _ ho3
      rw [wrap_i64_id (by omega) (by omega)]
      exact ⟨⟨hf3, k + 1, zs ++ [y', y], by simp, by omega, by rw [e4]; simp; omega, by simp, by simpa using ho3⟩, by omega⟩
    · simp only [beq_eq_false_iff_ne, ne_eq] at h1 h2
      have hd' : d = 1 ∨ d = 2 ∨ d = 4 := by omega
      have hmod : k * d % 8 + d ≤ 8 := by rcases hd' with rfl | rfl | rfl <;> omega
      simp (disch := omega) only [e1, e2, e3, wrap_i64_id, Int.toNat_natCast, DivC_eq, ShC_eq]
      refine JoinC_of (fun z w' => Fr [] w w' ∧ ∃ (zs : List UInt8), zs.length = k * d / 8 + 1 ∧ z.1.len = zs.length ∧ Own w' (hn w) 5 1 z.1.a z.1.len z.1.cap (bv zs)) ?_ ?_
      · rintro ⟨⟨a, n, m⟩, ⟨⟩⟩ w3 ⟨hf3, zs, hz, rfl, ho3⟩
        dsimp only at *
        rw [DrewC_eq]
        have hd1 := Fr.drew [] w3
        refine IdxB (ho3.fr0 hd1).has rfl (by omega) (by omega) ?_
        refine ⟨⟨by omega, by omega⟩, ?_⟩
        rw [Int.toNat_natCast]
        generalize hv : Value.int .u8 (bOr .u8 _ _) = v
        obtain ⟨y, hy⟩ := u8_or (↑(gb zs (k * d / 8))) (IntKind.wrap .u8 (shlI .i64 nv (8 - ↑d - ↑(k * d % 8))))
        rw [hv] at hy
        subst hy
        refine StOwn (hf3.drewR) (ho3.fr0 hd1) (by omega) ?_
        intro w4 hf4 _ ho4
        rw [bv_set] at ho4
        exact ⟨⟨hf4, k + 1, zs.set (k * d / 8) y, by simp, by omega, by rw [e4, List.length_set, hz]; omega, by simp, by simpa using ho4⟩, by omega⟩
      · intro J hJ
        refine IfC_bool (fun h3 => ?_) (fun h3 => ?_)
        · simp only [beq_iff_eq] at h3
          refine AppLit ok33 hf ho (cs := #[u8v 0]) (m := 1) rfl (by simp [u8v, Value.oneCell']) (by omega) ?_
          intro p' c' w3 hf3 _ ho3
          exact hJ _ _ ⟨hf3, zs ++ [0], by simp; omega, by simp, by simpa using ho3⟩
        · simp only [beq_eq_false_iff_ne, ne_eq] at h3
          exact hJ _ _ ⟨hf, zs, by omega, rfl, ho⟩
  · have : k = l := by omega
    subst this
    exact ⟨zs, hz, hf, a, m, rfl, ho⟩
end
end Go.Proofs
