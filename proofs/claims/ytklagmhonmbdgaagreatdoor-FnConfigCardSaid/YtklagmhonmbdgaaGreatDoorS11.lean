/- A step of the proofs (S11): contracts of the functions printed here, for all their arguments that meet what each names. -/
import Derived.Test.YtklagmhonmbdgaaGreatDoorBase
import Derived.Test.YtklagmhonmbdgaaGreatDoorSteps
import Derived.Test.YtklagmhonmbdgaaGreatDoorS10
set_option maxRecDepth 1000000
set_option linter.unusedVariables false
set_option linter.unusedSimpArgs false
set_option maxHeartbeats 4000000
namespace Go.Proofs
open Go Go.V
/-- (*loop.example/pub-g03440/pub/png.decoder).parsePLTE -/
def wp76 (x0 : Addr) (x1 : Int) (R : Value → World → Prop) (w : World) : Prop := DivC (3 : Int) (JoinC (fun (z1 : (Unit)) (w2 : World) => DrewC w2 fun (w4 : World) => LdV w4 x0 fun (v5 : Value) => And (0 ≤ IntKind.wrap .i64 ((3 : Int) * (IntKind.wrap .i64 (IntKind.wrap .u32 (Int.tdiv x1 (3 : Int))))) ∧ IntKind.wrap .i64 ((3 : Int) * (IntKind.wrap .i64 (IntKind.wrap .u32 (Int.tdiv x1 (3 : Int))))) ≤ (768 : Int)) (CallT Pg 71 #[v5, .slice (some ⟨x0.block, x0.off + 10, none⟩) ((IntKind.wrap .i64 ((3 : Int) * (IntKind.wrap .i64 (IntKind.wrap .u32 (Int.tdiv x1 (3 : Int)))))).toNat) 768] w4 fun (v6 : Value) (w7 : World) => Exists fun (n8 : Int) => Exists fun (v9 : Value) => And (v6 = .tuple #[.int .i64 n8, v9]) (EqNil v9 fun (b10 : Bool) => IfC (!b10) (R (v9 : Value) w7) (DrewC w7 fun (w11 : World) => LdP w11 ⟨x0.block, x0.off + 2, none⟩ fun (p12 : Option Addr) => And (0 ≤ n8 ∧ n8 ≤ (768 : Int)) (CallT Pg 74 #[.pointer p12, .slice (some ⟨x0.block, x0.off + 10, none⟩) n8.toNat 768] w11 fun (v13 : Value) (w14 : World) => Exists fun (n15 : Int) => Exists fun (v16 : Value) => And (v13 = .tuple #[.int .i64 n15, v16]) (LdI w14 ⟨x0.block, x0.off + 7, none⟩ .i64 fun (n17 : Int) => JoinC (fun (z18 : (Bool × Unit)) (w19 : World) => IfC z18.1 (And (0 ≤ (256 : Int) ∧ (256 : Int) ≤ (256 : Int) ∧ (256 : Int) ≤ 281474976710656 ∧ (16 : Int) * (256 : Int) ≤ 281474976710656) (AllocC w19 (.cells (zrow Pg 131 256) 131) fun (r21 : Nat) (w22 : World) => StoreC w22 ⟨x0.block, x0.off + 6, none⟩ (.slice (some ⟨r21, 0, none⟩) 256 256) fun (w23 : World) => LoopC (fun (J26 : (Int × Unit) → World → Prop) => J26 ((0 : Int), ()) w23) (fun (z24 : (Int × Unit)) (w25 : World) (N27 : (Int × Unit) → World → Prop) => IfC (decide (z24.1 < (IntKind.wrap .i64 (IntKind.wrap .u32 (Int.tdiv x1 (3 : Int)))))) (DrewC w25 fun (w28 : World) => LdSl w28 ⟨x0.block, x0.off + 6, none⟩ fun (p29 : Option Addr) (l30 : Nat) (c31 : Nat) => And (0 ≤ IntKind.wrap .i64 ((IntKind.wrap .i64 ((3 : Int) * z24.1)) + (0 : Int)) ∧ IntKind.wrap .i64 ((IntKind.wrap .i64 ((3 : Int) * z24.1)) + (0 : Int)) < (768 : Int)) (LdI w28 (elemAt ⟨x0.block, x0.off + 10, none⟩ ((IntKind.wrap .i64 ((IntKind.wrap .i64 ((3 : Int) * z24.1)) + (0 : Int))).toNat) 1) .u8 fun (n32 : Int) => And (0 ≤ IntKind.wrap .i64 ((IntKind.wrap .i64 ((3 : Int) * z24.1)) + (1 : Int)) ∧ IntKind.wrap .i64 ((IntKind.wrap .i64 ((3 : Int) * z24.1)) + (1 : Int)) < (768 : Int)) (LdI w28 (elemAt ⟨x0.block, x0.off + 10, none⟩ ((IntKind.wrap .i64 ((IntKind.wrap .i64 ((3 : Int) * z24.1)) + (1 : Int))).toNat) 1) .u8 fun (n33 : Int) => And (0 ≤ IntKind.wrap .i64 ((IntKind.wrap .i64 ((3 : Int) * z24.1)) + (2 : Int)) ∧ IntKind.wrap .i64 ((IntKind.wrap .i64 ((3 : Int) * z24.1)) + (2 : Int)) < (768 : Int)) (LdI w28 (elemAt ⟨x0.block, x0.off + 10, none⟩ ((IntKind.wrap .i64 ((IntKind.wrap .i64 ((3 : Int) * z24.1)) + (2 : Int))).toNat) 1) .u8 fun (n34 : Int) => And (0 ≤ z24.1 ∧ z24.1 < (l30 : Int)) (PtrC p29 fun (a35 : Addr) => StoreC w28 (elemAt a35 z24.1.toNat 1) (.iface 133 (.agg #[.int .u8 n32, .int .u8 n33, .int .u8 n34, .int .u8 (255 : Int)])) fun (w36 : World) => N27 (IntKind.wrap .i64 (z24.1 + (1 : Int)), ()) w36))))) (LoopC (fun (J39 : (Int × Unit) → World → Prop) => J39 (IntKind.wrap .i64 (IntKind.wrap .u32 (Int.tdiv x1 (3 : Int))), ()) w25) (fun (z37 : (Int × Unit)) (w38 : World) (N40 : (Int × Unit) → World → Prop) => IfC (decide (z37.1 < (256 : Int))) (LdSl w38 ⟨x0.block, x0.off + 6, none⟩ fun (p41 : Option Addr) (l42 : Nat) (c43 : Nat) => And (0 ≤ z37.1 ∧ z37.1 < (l42 : Int)) (PtrC p41 fun (a44 : Addr) => StoreC w38 (elemAt a44 z37.1.toNat 1) (.iface 133 (.agg #[.int .u8 (0 : Int), .int .u8 (0 : Int), .int .u8 (0 : Int), .int .u8 (255 : Int)])) fun (w45 : World) => N40 (IntKind.wrap .i64 (z37.1 + (1 : Int)), ()) w45)) (LdSl w38 ⟨x0.block, x0.off + 6, none⟩ fun (p46 : Option Addr) (l47 : Nat) (c48 : Nat) => And (0 ≤ IntKind.wrap .i64 (IntKind.wrap .u32 (Int.tdiv x1 (3 : Int))) ∧ IntKind.wrap .i64 (IntKind.wrap .u32 (Int.tdiv x1 (3 : Int))) ≤ (c48 : Int)) (StoreC w38 ⟨x0.block, x0.off + 6, none⟩ (.slice p46 ((IntKind.wrap .i64 (IntKind.wrap .u32 (Int.tdiv x1 (3 : Int)))).toNat) c48) fun (w49 : World) => CallT Pg 81 #[.pointer (some x0)] w49 fun (v50 : Value) (w51 : World) => Exists fun (v52 : Value) => And (v50 = v52) (R (v52 : Value) w51)))))))) (IfC (n17 == (6 : Int)) (IfC (n17 == (6 : Int)) (CallT Pg 81 #[.pointer (some x0)] w19 fun (v53 : Value) (w54 : World) => Exists fun (v55 : Value) => And (v53 = v55) (R (v55 : Value) w54)) (R (.iface 125 (.string ⟨#[80, 76, 84, 69, 44, 32, 99, 111, 108, 111, 114, 32, 116, 121, 112, 101, 32, 109, 105, 115, 109, 97, 116, 99, 104]⟩) : Value) w19)) (IfC (n17 == (11 : Int)) (IfC (n17 == (11 : Int)) (CallT Pg 81 #[.pointer (some x0)] w19 fun (v56 : Value) (w57 : World) => Exists fun (v58 : Value) => And (v56 = v58) (R (v58 : Value) w57)) (R (.iface 125 (.string ⟨#[80, 76, 84, 69, 44, 32, 99, 111, 108, 111, 114, 32, 116, 121, 112, 101, 32, 109, 105, 115, 109, 97, 116, 99, 104]⟩) : Value) w19)) (IfC (n17 == (14 : Int)) (IfC (n17 == (14 : Int)) (CallT Pg 81 #[.pointer (some x0)] w19 fun (v59 : Value) (w60 : World) => Exists fun (v61 : Value) => And (v59 = v61) (R (v61 : Value) w60)) (R (.iface 125 (.string ⟨#[80, 76, 84, 69, 44, 32, 99, 111, 108, 111, 114, 32, 116, 121, 112, 101, 32, 109, 105, 115, 109, 97, 116, 99, 104]⟩) : Value) w19)) (IfC (n17 == (15 : Int)) (CallT Pg 81 #[.pointer (some x0)] w19 fun (v62 : Value) (w63 : World) => Exists fun (v64 : Value) => And (v62 = v64) (R (v64 : Value) w63)) (R (.iface 125 (.string ⟨#[80, 76, 84, 69, 44, 32, 99, 111, 108, 111, 114, 32, 116, 121, 112, 101, 32, 109, 105, 115, 109, 97, 116, 99, 104]⟩) : Value) w19)))))) (fun (J20 : (Bool × Unit) → World → Prop) => IfC (n17 == (7 : Int)) (J20 (n17 == (7 : Int), ()) w14) (IfC (n17 == (8 : Int)) (J20 (n17 == (8 : Int), ()) w14) (IfC (n17 == (9 : Int)) (J20 (n17 == (9 : Int), ()) w14) (J20 (n17 == (10 : Int), ()) w14)))))))))) (fun (J3 : (Unit) → World → Prop) => DivC (3 : Int) (IfC ((Int.tmod x1 (3 : Int)) != (0 : Int)) (R (.iface 125 (.string ⟨#[98, 97, 100, 32, 80, 76, 84, 69, 32, 108, 101, 110, 103, 116, 104]⟩) : Value) w) (IfC (decide ((IntKind.wrap .i64 (IntKind.wrap .u32 (Int.tdiv x1 (3 : Int)))) ≤ (0 : Int))) (R (.iface 125 (.string ⟨#[98, 97, 100, 32, 80, 76, 84, 69, 32, 108, 101, 110, 103, 116, 104]⟩) : Value) w) (IfC (decide ((IntKind.wrap .i64 (IntKind.wrap .u32 (Int.tdiv x1 (3 : Int)))) > (256 : Int))) (R (.iface 125 (.string ⟨#[98, 97, 100, 32, 80, 76, 84, 69, 32, 108, 101, 110, 103, 116, 104]⟩) : Value) w) (LdI w ⟨x0.block, x0.off + 5, none⟩ .i64 fun (n65 : Int) => ShC (IntKind.wrap .u64 n65) (IfC (decide ((IntKind.wrap .i64 (IntKind.wrap .u32 (Int.tdiv x1 (3 : Int)))) > (shlI .i64 (1 : Int) (IntKind.wrap .u64 n65)))) (R (.iface 125 (.string ⟨#[98, 97, 100, 32, 80, 76, 84, 69, 32, 108, 101, 110, 103, 116, 104]⟩) : Value) w) (J3 (()) w))))))))
theorem eq76 (x0 : Addr) (x1 : Int) (R : Value → World → Prop) (w : World) : vc Pg Gg (annOf [(4, [], [0, 5]), (28, [(67, .b)], [0, 5, 65]), (49, [(8, .i .i64)], [0, 4, 5]), (64, [(9, .i .i64)], [0, 4, 5])]) 0 (bodyOf Tryz.f76) (retK Pg Tryz.f76.results.toList R) (argE 0 [.pointer (some x0), .int .u32 x1]) w = wp76 x0 x1 R w := by kernel_rfl
theorem call76 {x0 : Addr} {x1 : Int} {R : Value → World → Prop} {w : World} (h : wp76 x0 x1 R w) : CallT Pg 76 #[.pointer (some x0), .int .u32 x1] w R :=
  calls_of_vc follows bodies Tryz.func76 (by kernel_rfl) (by kernel_rfl) (by kernel_rfl) ((eq76 x0 x1 R w).mpr h)

/-- (*loop.example/pub-g03440/pub/png.decoder).parsetRNS -/
def wp78 (x0 : Addr) (x1 : Int) (R : Value → World → Prop) (w : World) : Prop := LdI w ⟨x0.block, x0.off + 7, none⟩ .i64 fun (n1 : Int) => JoinC (fun (z2 : (Bool × Unit)) (w3 : World) => IfC z2.1 (IfC (x1 != (2 : Int)) (R (.iface 125 (.string ⟨#[98, 97, 100, 32, 116, 82, 78, 83, 32, 108, 101, 110, 103, 116, 104]⟩) : Value) w3) (DrewC w3 fun (w5 : World) => LdV w5 x0 fun (v6 : Value) => And (0 ≤ x1 ∧ x1 ≤ (768 : Int)) (CallT Pg 71 #[v6, .slice (some ⟨x0.block, x0.off + 10, none⟩) x1.toNat 768] w5 fun (v7 : Value) (w8 : World) => Exists fun (n9 : Int) => Exists fun (v10 : Value) => And (v7 = .tuple #[.int .i64 n9, v10]) (EqNil v10 fun (b11 : Bool) => IfC (!b11) (R (v10 : Value) w8) (DrewC w8 fun (w12 : World) => LdP w12 ⟨x0.block, x0.off + 2, none⟩ fun (p13 : Option Addr) => And (0 ≤ n9 ∧ n9 ≤ (768 : Int)) (CallT Pg 74 #[.pointer p13, .slice (some ⟨x0.block, x0.off + 10, none⟩) n9.toNat 768] w12 fun (v14 : Value) (w15 : World) => Exists fun (n16 : Int) => Exists fun (v17 : Value) => And (v14 = .tuple #[.int .i64 n16, v17]) (DrewC w15 fun (w18 : World) => And (0 ≤ x1 ∧ x1 ≤ (768 : Int)) (CopyR Pg w18 #[33, 33] 3 (.slice (some ⟨x0.block, x0.off + 780, none⟩) 6 6) (.slice (some ⟨x0.block, x0.off + 10, none⟩) x1.toNat 768) fun (n19 : Int) (w20 : World) => LdI w20 ⟨x0.block, x0.off + 7, none⟩ .i64 fun (n21 : Int) => IfC (n21 == (1 : Int)) (DrewC w20 fun (w22 : World) => And (0 ≤ (1 : Int) ∧ (1 : Int) < (6 : Int)) (LdI w22 ⟨x0.block, x0.off + 780 + 1, none⟩ .u8 fun (n23 : Int) => And (0 ≤ (1 : Int) ∧ (1 : Int) < (6 : Int)) (StoreC w22 ⟨x0.block, x0.off + 780 + 1, none⟩ (.int .u8 (IntKind.wrap .u8 (n23 * (255 : Int)))) fun (w24 : World) => StoreC w24 ⟨x0.block, x0.off + 779, none⟩ (.bool true) fun (w25 : World) => CallT Pg 81 #[.pointer (some x0)] w25 fun (v26 : Value) (w27 : World) => Exists fun (v28 : Value) => And (v26 = v28) (R (v28 : Value) w27)))) (IfC (n21 == (2 : Int)) (DrewC w20 fun (w29 : World) => And (0 ≤ (1 : Int) ∧ (1 : Int) < (6 : Int)) (LdI w29 ⟨x0.block, x0.off + 780 + 1, none⟩ .u8 fun (n30 : Int) => And (0 ≤ (1 : Int) ∧ (1 : Int) < (6 : Int)) (StoreC w29 ⟨x0.block, x0.off + 780 + 1, none⟩ (.int .u8 (IntKind.wrap .u8 (n30 * (85 : Int)))) fun (w31 : World) => StoreC w31 ⟨x0.block, x0.off + 779, none⟩ (.bool true) fun (w32 : World) => CallT Pg 81 #[.pointer (some x0)] w32 fun (v33 : Value) (w34 : World) => Exists fun (v35 : Value) => And (v33 = v35) (R (v35 : Value) w34)))) (IfC (n21 == (3 : Int)) (DrewC w20 fun (w36 : World) => And (0 ≤ (1 : Int) ∧ (1 : Int) < (6 : Int)) (LdI w36 ⟨x0.block, x0.off + 780 + 1, none⟩ .u8 fun (n37 : Int) => And (0 ≤ (1 : Int) ∧ (1 : Int) < (6 : Int)) (StoreC w36 ⟨x0.block, x0.off + 780 + 1, none⟩ (.int .u8 (IntKind.wrap .u8 (n37 * (17 : Int)))) fun (w38 : World) => StoreC w38 ⟨x0.block, x0.off + 779, none⟩ (.bool true) fun (w39 : World) => CallT Pg 81 #[.pointer (some x0)] w39 fun (v40 : Value) (w41 : World) => Exists fun (v42 : Value) => And (v40 = v42) (R (v42 : Value) w41)))) (StoreC w20 ⟨x0.block, x0.off + 779, none⟩ (.bool true) fun (w43 : World) => CallT Pg 81 #[.pointer (some x0)] w43 fun (v44 : Value) (w45 : World) => Exists fun (v46 : Value) => And (v44 = v46) (R (v46 : Value) w45)))))))))))) (JoinC (fun (z47 : (Bool × Unit)) (w48 : World) => IfC z47.1 (IfC (x1 != (6 : Int)) (R (.iface 125 (.string ⟨#[98, 97, 100, 32, 116, 82, 78, 83, 32, 108, 101, 110, 103, 116, 104]⟩) : Value) w48) (DrewC w48 fun (w50 : World) => LdV w50 x0 fun (v51 : Value) => And (0 ≤ x1 ∧ x1 ≤ (768 : Int)) (CallT Pg 71 #[v51, .slice (some ⟨x0.block, x0.off + 10, none⟩) x1.toNat 768] w50 fun (v52 : Value) (w53 : World) => Exists fun (n54 : Int) => Exists fun (v55 : Value) => And (v52 = .tuple #[.int .i64 n54, v55]) (EqNil v55 fun (b56 : Bool) => IfC (!b56) (R (v55 : Value) w53) (DrewC w53 fun (w57 : World) => LdP w57 ⟨x0.block, x0.off + 2, none⟩ fun (p58 : Option Addr) => And (0 ≤ n54 ∧ n54 ≤ (768 : Int)) (CallT Pg 74 #[.pointer p58, .slice (some ⟨x0.block, x0.off + 10, none⟩) n54.toNat 768] w57 fun (v59 : Value) (w60 : World) => Exists fun (n61 : Int) => Exists fun (v62 : Value) => And (v59 = .tuple #[.int .i64 n61, v62]) (DrewC w60 fun (w63 : World) => And (0 ≤ x1 ∧ x1 ≤ (768 : Int)) (CopyR Pg w63 #[33, 33] 3 (.slice (some ⟨x0.block, x0.off + 780, none⟩) 6 6) (.slice (some ⟨x0.block, x0.off + 10, none⟩) x1.toNat 768) fun (n64 : Int) (w65 : World) => StoreC w65 ⟨x0.block, x0.off + 779, none⟩ (.bool true) fun (w66 : World) => CallT Pg 81 #[.pointer (some x0)] w66 fun (v67 : Value) (w68 : World) => Exists fun (v69 : Value) => And (v67 = v69) (R (v69 : Value) w68))))))))) (JoinC (fun (z70 : (Bool × Unit)) (w71 : World) => IfC z70.1 (IfC (decide (x1 > (256 : Int))) (R (.iface 125 (.string ⟨#[98, 97, 100, 32, 116, 82, 78, 83, 32, 108, 101, 110, 103, 116, 104]⟩) : Value) w71) (DrewC w71 fun (w73 : World) => LdV w73 x0 fun (v74 : Value) => And (0 ≤ x1 ∧ x1 ≤ (768 : Int)) (CallT Pg 71 #[v74, .slice (some ⟨x0.block, x0.off + 10, none⟩) x1.toNat 768] w73 fun (v75 : Value) (w76 : World) => Exists fun (n77 : Int) => Exists fun (v78 : Value) => And (v75 = .tuple #[.int .i64 n77, v78]) (EqNil v78 fun (b79 : Bool) => IfC (!b79) (R (v78 : Value) w76) (DrewC w76 fun (w80 : World) => LdP w80 ⟨x0.block, x0.off + 2, none⟩ fun (p81 : Option Addr) => And (0 ≤ n77 ∧ n77 ≤ (768 : Int)) (CallT Pg 74 #[.pointer p81, .slice (some ⟨x0.block, x0.off + 10, none⟩) n77.toNat 768] w80 fun (v82 : Value) (w83 : World) => Exists fun (n84 : Int) => Exists fun (v85 : Value) => And (v82 = .tuple #[.int .i64 n84, v85]) (JoinC (fun (z86 : (Unit)) (w87 : World) => LoopC (fun (J91 : (Int × Unit) → World → Prop) => J91 ((0 : Int), ()) w87) (fun (z89 : (Int × Unit)) (w90 : World) (N92 : (Int × Unit) → World → Prop) => IfC (decide (z89.1 < n77)) (LdSl w90 ⟨x0.block, x0.off + 6, none⟩ fun (p93 : Option Addr) (l94 : Nat) (c95 : Nat) => And (0 ≤ z89.1 ∧ z89.1 < (l94 : Int)) (PtrC p93 fun (a96 : Addr) => LdV w90 (elemAt a96 z89.1.toNat 1) fun (v97 : Value) => TA Pg w90 v97 131 133 false fun (v98 : Value) (b99 : Bool) => Exists fun (n100 : Int) => Exists fun (n101 : Int) => Exists fun (n102 : Int) => Exists fun (n103 : Int) => And (v98 = .agg #[.int .u8 n100, .int .u8 n101, .int .u8 n102, .int .u8 n103]) (AllocC w90 (.cells (zc Pg 133) 133) fun (r104 : Nat) (w105 : World) => StoreC w105 ⟨r104, 0, none⟩ (.int .u8 n100) fun (w106 : World) => StoreC w106 ⟨r104, 0 + 1, none⟩ (.int .u8 n101) fun (w107 : World) => StoreC w107 ⟨r104, 0 + 2, none⟩ (.int .u8 n102) fun (w108 : World) => StoreC w108 ⟨r104, 0 + 3, none⟩ (.int .u8 n103) fun (w109 : World) => DrewC w109 fun (w110 : World) => LdSl w110 ⟨x0.block, x0.off + 6, none⟩ fun (p111 : Option Addr) (l112 : Nat) (c113 : Nat) => LdI w110 ⟨r104, 0, none⟩ .u8 fun (n114 : Int) => LdI w110 ⟨r104, 0 + 1, none⟩ .u8 fun (n115 : Int) => LdI w110 ⟨r104, 0 + 2, none⟩ .u8 fun (n116 : Int) => And (0 ≤ z89.1 ∧ z89.1 < (768 : Int)) (LdI w110 (elemAt ⟨x0.block, x0.off + 10, none⟩ z89.1.toNat 1) .u8 fun (n117 : Int) => And (0 ≤ z89.1 ∧ z89.1 < (l112 : Int)) (PtrC p111 fun (a118 : Addr) => StoreC w110 (elemAt a118 z89.1.toNat 1) (.iface 132 (.agg #[.int .u8 n114, .int .u8 n115, .int .u8 n116, .int .u8 n117])) fun (w119 : World) => N92 (IntKind.wrap .i64 (z89.1 + (1 : Int)), ()) w119))))) (CallT Pg 81 #[.pointer (some x0)] w90 fun (v120 : Value) (w121 : World) => Exists fun (v122 : Value) => And (v120 = v122) (R (v122 : Value) w121)))) (fun (J88 : (Unit) → World → Prop) => LdSl w83 ⟨x0.block, x0.off + 6, none⟩ fun (p123 : Option Addr) (l124 : Nat) (c125 : Nat) => IfC (decide ((l124 : Int) < n77)) (LdSl w83 ⟨x0.block, x0.off + 6, none⟩ fun (p126 : Option Addr) (l127 : Nat) (c128 : Nat) => And (0 ≤ n77 ∧ n77 ≤ (c128 : Int)) (StoreC w83 ⟨x0.block, x0.off + 6, none⟩ (.slice p126 n77.toNat c128) fun (w129 : World) => J88 (()) w129)) (J88 (()) w83))))))))) (R (.iface 125 (.string ⟨#[116, 82, 78, 83, 44, 32, 99, 111, 108, 111, 114, 32, 116, 121, 112, 101, 32, 109, 105, 115, 109, 97, 116, 99, 104]⟩) : Value) w71)) (fun (J72 : (Bool × Unit) → World → Prop) => IfC (n1 == (7 : Int)) (J72 (n1 == (7 : Int), ()) w48) (IfC (n1 == (8 : Int)) (J72 (n1 == (8 : Int), ()) w48) (IfC (n1 == (9 : Int)) (J72 (n1 == (9 : Int), ()) w48) (J72 (n1 == (10 : Int), ()) w48)))))) (fun (J49 : (Bool × Unit) → World → Prop) => IfC (n1 == (6 : Int)) (J49 (n1 == (6 : Int), ()) w3) (J49 (n1 == (14 : Int), ()) w3)))) (fun (J4 : (Bool × Unit) → World → Prop) => IfC (n1 == (1 : Int)) (J4 (n1 == (1 : Int), ()) w) (IfC (n1 == (2 : Int)) (J4 (n1 == (2 : Int), ()) w) (IfC (n1 == (3 : Int)) (J4 (n1 == (3 : Int), ()) w) (IfC (n1 == (4 : Int)) (J4 (n1 == (4 : Int), ()) w) (J4 (n1 == (12 : Int), ()) w)))))
theorem eq78 (x0 : Addr) (x1 : Int) (R : Value → World → Prop) (w : World) : vc Pg Gg (annOf [(6, [(18, .b)], [0, 1, 16]), (65, [(103, .b)], [0, 1, 16]), (95, [(148, .b)], [0, 1]), (130, [], [0, 9]), (139, [(11, .i .i64)], [0, 4, 9])]) 0 (bodyOf Tryz.f78) (retK Pg Tryz.f78.results.toList R) (argE 0 [.pointer (some x0), .int .u32 x1]) w = wp78 x0 x1 R w := by kernel_rfl
theorem call78 {x0 : Addr} {x1 : Int} {R : Value → World → Prop} {w : World} (h : wp78 x0 x1 R w) : CallT Pg 78 #[.pointer (some x0), .int .u32 x1] w R :=
  calls_of_vc follows bodies Tryz.func78 (by kernel_rfl) (by kernel_rfl) (by kernel_rfl) ((eq78 x0 x1 R w).mpr h)

section
variable {w : World}
/-- A colour of a palette. -/
def colV (c : Bool × Px) : Value := .iface (if c.1 then 132 else 133) (.agg #[.int .u8 c.2.1.toNat, .int .u8 c.2.2.1.toNat, .int .u8 c.2.2.2.1.toNat, .int .u8 c.2.2.2.2.toNat])
def PalAt (w : World) (db : Nat) (pal : Sl) (n : Nat) (cs : List (Bool × Px)) : Prop :=
  ∃ g, pal = ⟨some ⟨g, 0, none⟩, n, 256⟩ ∧ db < g ∧ hp w g = Row 131 (cs.map colV).toArray ∧ cs.length = 256 ∧ n ≤ 256
def plteC (bs : List UInt8) (n : Nat) : List (Bool × Px) := (List.range 256).map fun i => if i < n then (false, (bs.getD (3 * i) 0, bs.getD (3 * i + 1) 0, bs.getD (3 * i + 2) 0, 255)) else (false, (0, 0, 0, 255))
theorem plteC_length (bs : List UInt8) (n : Nat) : (plteC bs n).length = 256 := by simp [plteC]
theorem plteC_at (bs : List UInt8) (n : Nat) {i : Nat} (h : i < 256) : (plteC bs n)[i]? = some (if i < n then (false, (bs.getD (3 * i) 0, bs.getD (3 * i + 1) 0, bs.getD (3 * i + 2) 0, 255)) else (false, (0, 0, 0, 255))) := by
  simp [plteC, h]
theorem set_step {cs : List Value} {x v : Value} {k N : Nat} (hN : cs.length = N) (hk : cs[k]? = some v) : (cs.take k ++ List.replicate (N - k) x).set k v = cs.take (k + 1) ++ List.replicate (N - (k + 1)) x := by
  have hlt : k < cs.length := (List.getElem?_eq_some_iff.1 hk).1
  have e1 : (cs.take k).length = k := by simp; omega
  obtain ⟨m, hm⟩ : ∃ m, N - k = m + 1 := ⟨N - k - 1, by omega⟩
  rw [List.set_append_right _ _ (by omega), e1, Nat.sub_self, hm, List.replicate_succ, List.set_cons_zero, show N - (k + 1) = m by omega, List.take_add_one, hk]
  simp
theorem zc131 : zc Pg 131 = #[.nilIface] := by kernel_rfl
theorem zr131 : zrow Pg 131 256 = (List.replicate 256 Value.nilIface).toArray := by
  rw [zrow_one (by kernel_rfl) zc131, List.toArray_replicate]
theorem Dst.c76 {db rb kb crc : Nat} {p : Option Addr} {d : Dec} {rs : List UInt8} (h : Dst w db rb kb p d crc rs) {len D : Nat} (hlen : len < 4294967296) (hD : d.D = D) (hD' : D = 1 ∨ D = 2 ∨ D = 4 ∨ D = 8 ∨ D = 16) (hcb : d.cb = 7 ∨ d.cb = 8 ∨ d.cb = 9 ∨ d.cb = 10)
    (hl : len ≤ 768 → len + 4 ≤ rs.length) :
    CallT Pg 76 #[.pointer (some ⟨db, 0, none⟩), .int .u32 len] w fun v w' => if len % 3 ≠ 0 ∨ len / 3 = 0 ∨ 256 < len / 3 ∨ 2 ^ D < len / 3 then Refuse 125 v ∧ w' = w else
      Fr [rb, kb, db] w w' ∧ (if be4 (rs.drop len) 0 = crcU crc (rs.take len) then v = .nilIface else Refuse 125 v) ∧ ∃ tmp pal, tmp.length = 768 ∧ Dst w' db rb kb p { d with tmp := tmp, pal := pal } (crcU crc (rs.take len)) (rs.drop (len + 4)) ∧ PalAt w' db pal (len / 3) (plteC (rs.take len) (len / 3)) := by
  apply call76
  unfold wp76
  have eN : IntKind.wrap .i64 (IntKind.wrap .u32 (Int.tdiv (len : Int) (3 : Int))) = ((len / 3 : Nat) : Int) := by
    rw [show Int.tdiv (len : Int) 3 = ((len / 3 : Nat) : Int) from tdiv_nat _ 3, wrap_u32_id (by omega) (by omega), wrap_i64_id (by omega) (by omega)]
  rw [eN]
  generalize hn3 : len / 3 = n at *
  refine DivC_of (by decide) ?_
  refine JoinC_of (fun _ w' => w' = w ∧ len % 3 = 0 ∧ 0 < n ∧ n ≤ 256 ∧ n ≤ 2 ^ D) ?_ ?_
  · rintro ⟨⟩ w' ⟨rfl, hm3, hn0, hn256, hnD⟩
    have e3 : IntKind.wrap .i64 ((3 : Int) * (n : Int)) = (len : Int) := by rw [wrap_i64_id (by omega) (by omega)]; omega
    rw [e3]
    have hl := hl (by omega)
    refine DrewC_at fun w4 f4 n4 => ?_
    have h4 := h.fr0 f4
    refine LdV_at h4.dec d.at0 ⟨⟨by omega, by omega⟩, ?_⟩
    rw [Int.toNat_natCast]
    refine CallT.mono (h4.read (n := len) (by omega) (by omega) (by omega)) ?_
    rintro _ w7 ⟨rfl, h7, f7, n7⟩
    refine ⟨_, _, rfl, EqNil_nil (IfC_f ?_)⟩
    refine DrewC_at fun w11 f11 n11 => ?_
    have h11 := h7.fr0 f11
    refine LdP_at h11.dec ((Dec.at2 _).trans (congrArg some h11.ck)) ⟨⟨by omega, by omega⟩, ?_⟩
    rw [Int.toNat_natCast]
    refine CallT.mono (h11.sums (o := 0) (n := len) rfl (by omega)) ?_
    rintro _ w14 ⟨rfl, h14, f14, n14⟩
    have htl : (rs.take len).length = len := by simp; omega
    have e0 : ((({ d with tmp := rs.take len ++ d.tmp.drop len } : Dec).tmp.drop 0).take len) = rs.take len := by
      show ((rs.take len ++ d.tmp.drop len).drop 0).take len = _
      rw [List.drop_zero, List.take_append_of_le_length (by omega), List.take_of_length_le (by omega)]
    rw [e0] at h14
    refine ⟨_, _, rfl, LdI_at h14.dec (Dec.at7 _) ?_⟩
    have F14 : Fr [rb, kb, db] w' w14 := (f4.mono (by simp)).trans ((f7.mono (by simp)).trans ((f11.mono (by simp)).trans (f14.mono (by simp))))
    refine JoinC_of (fun z w' => w' = w14 ∧ z.1 = true) ?_ ?_
    · rintro ⟨z, ⟨⟩⟩ w19 ⟨rfl, rfl⟩
      refine IfC_t ⟨by decide, ?_⟩
      refine AllocC_at fun w22 h22 f22 n22 => ?_
      rw [zr131] at h22
      have hg : db < hn w19 := hp_lt h14.dec
      have hgw : hn w' ≤ hn w19 := by omega
      generalize hn w19 = g at *
      have h22d := h14.fr0 f22
      refine StoreC_at h22d.dec (by show 0 + 6 < _; rw [Dec.size, h22d.htmp, h22d.htr]; decide) fun w23 h23 f23 n23 => ?_
      have h23d := h22d.upd (d' := { d with tmp := rs.take len ++ d.tmp.drop len, pal := ⟨some ⟨g, 0, none⟩, 256, 256⟩ }) f23 (h23.trans (congrArg (Row 119) (Dec.set6 _ ⟨some ⟨g, 0, none⟩, 256, 256⟩))) rfl rfl h22d.htmp h22d.htr
      have h22g := f23.row1 h22 (by show g ≠ db; omega)
      have F23 : Fr [rb, kb, db] w' w23 := F14.trans ((f22.mono (by simp)).trans (f23.mono (by simp)))
      have hcl := plteC_length (rs.take len) n
      have hca := fun i h => plteC_at (rs.take len) n (i := i) h
      generalize hcs : plteC (rs.take len) n = cs at *
      -- one loop's round
      have round : ∀ (k : Nat) (wk wd : World) (v : Value), k < 256 → Dst wk db rb kb p { d with tmp := rs.take len ++ d.tmp.drop len, pal := ⟨some ⟨g, 0, none⟩, 256, 256⟩ } (crcU crc (rs.take len)) (rs.drop len) → Fr [g] w23 wk → hp wk g = Row 131 ((cs.map colV).take k ++ List.replicate (256 - k) Value.nilIface).toArray → (cs.map colV)[k]? = some v →
          ∀ K : World → Prop, (∀ w'', Dst w'' db rb kb p { d with tmp := rs.take len ++ d.tmp.drop len, pal := ⟨some ⟨g, 0, none⟩, 256, 256⟩ } (crcU crc (rs.take len)) (rs.drop len) → Fr [g] w23 w'' → hp w'' g = Row 131 ((cs.map colV).take (k + 1) ++ List.replicate (256 - (k + 1)) Value.nilIface).toArray → K w'') →
          PtrC (some ⟨g, 0, none⟩) fun a => StoreC wk (elemAt a ((k : Int).toNat) 1) v K := by
        intro k wk wd v hk hd hf hrow hv K hK
        rw [PtrC_some, elemAt_one, Int.toNat_natCast, Nat.zero_add]
        refine StoreC_at hrow (by simp; omega) fun w'' h'' f'' n'' => hK w'' (hd.fr f'' (by simp; omega)) (hf.trans f'') ?_
        rw [h'', List.setIfInBounds_toArray, set_step (by simp [hcl]) hv]
      refine LoopC_of (fun z wk => ∃ k : Nat, z.1 = k ∧ k ≤ n ∧ Dst wk db rb kb p { d with tmp := rs.take len ++ d.tmp.drop len, pal := ⟨some ⟨g, 0, none⟩, 256, 256⟩ } (crcU crc (rs.take len)) (rs.drop len) ∧ Fr [g] w23 wk ∧ hp wk g = Row 131 ((cs.map colV).take k ++ List.replicate (256 - k) Value.nilIface).toArray) (fun z _ => n - z.1.toNat)
        ⟨0, rfl, by omega, h23d, Fr.refl _ _, by simpa using h22g⟩ ?_
      rintro ⟨_, ⟨⟩⟩ wk ⟨k, rfl, hkn, hdk, hfk, hrk⟩
      dsimp only
      refine IfC_dec (fun hlt => ?_) (fun hge => ?_)
      · refine DrewC_at fun wd fd nd => ?_
        have hdd := hdk.fr0 fd
        refine LdSl_at hdd.dec (Dec.at6 _) ?_
        have hk3 : 3 * k + 2 < len := by omega
        have e0' : IntKind.wrap .i64 ((IntKind.wrap .i64 ((3 : Int) * (k : Int))) + (0 : Int)) = ((3 * k : Nat) : Int) := by rw [wrap_i64_id (n := 3 * (k : Int)) (by omega) (by omega), wrap_i64_id (by omega) (by omega)]; omega
        have e1' : IntKind.wrap .i64 ((IntKind.wrap .i64 ((3 : Int) * (k : Int))) + (1 : Int)) = ((3 * k + 1 : Nat) : Int) := by rw [wrap_i64_id (n := 3 * (k : Int)) (by omega) (by omega), wrap_i64_id (by omega) (by omega)]; omega
        have e2' : IntKind.wrap .i64 ((IntKind.wrap .i64 ((3 : Int) * (k : Int))) + (2 : Int)) = ((3 * k + 2 : Nat) : Int) := by rw [wrap_i64_id (n := 3 * (k : Int)) (by omega) (by omega), wrap_i64_id (by omega) (by omega)]; omega
        rw [e0', e1', e2']
        have hat : ∀ j, j < len → ({ d with tmp := rs.take len ++ d.tmp.drop len, pal := ⟨some ⟨g, 0, none⟩, 256, 256⟩ } : Dec).arr[0 + 10 + j]? = some (.int .u8 (gb (rs.take len) j)) := by
          intro j hj
          have := Dec.atT ({ d with tmp := rs.take len ++ d.tmp.drop len, pal := ⟨some ⟨g, 0, none⟩, 256, 256⟩ } : Dec) (j := j) (by have := hdd.htmp; omega)
          rw [show gb (rs.take len) j = gb ({ d with tmp := rs.take len ++ d.tmp.drop len, pal := ⟨some ⟨g, 0, none⟩, 256, 256⟩ } : Dec).tmp j from (gb_app (by omega)).symm]
          exact this
        refine ⟨⟨by omega, by omega⟩, ?_⟩
        rw [elemAt_one, Int.toNat_natCast]
        refine LdI_at hdd.dec (hat _ (by omega)) ⟨⟨by omega, by omega⟩, ?_⟩
        rw [elemAt_one, Int.toNat_natCast]
        refine LdI_at hdd.dec (hat _ (by omega)) ⟨⟨by omega, by omega⟩, ?_⟩
        rw [elemAt_one, Int.toNat_natCast]
        refine LdI_at hdd.dec (hat _ (by omega)) ⟨⟨by omega, by dsimp only; omega⟩, ?_⟩
        have hv : (cs.map colV)[k]? = some (Value.iface 133 (.agg #[.int .u8 (gb (rs.take len) (3 * k) : Nat), .int .u8 (gb (rs.take len) (3 * k + 1) : Nat), .int .u8 (gb (rs.take len) (3 * k + 2) : Nat), .int .u8 (255 : Int)])) := by
          rw [List.getElem?_map, hca k (by omega), if_pos (by omega)]
          rfl
        refine round k wd wd _ (by omega) hdd (hfk.trans (fd.mono (by simp))) (fd.row0 hrk) hv _ ?_
        intro w'' hd'' hf'' hr''
        rw [wrap_i64_id (by omega) (by omega)]
        exact ⟨⟨k + 1, by omega, by omega, hd'', hf'', hr''⟩, by omega⟩
      · have hkn' : k = n := by omega
        subst hkn'
        refine LoopC_of (fun z wj => ∃ j : Nat, z.1 = j ∧ k ≤ j ∧ j ≤ 256 ∧ Dst wj db rb kb p { d with tmp := rs.take len ++ d.tmp.drop len, pal := ⟨some ⟨g, 0, none⟩, 256, 256⟩ } (crcU crc (rs.take len)) (rs.drop len) ∧ Fr [g] w23 wj ∧ hp wj g = Row 131 ((cs.map colV).take j ++ List.replicate (256 - j) Value.nilIface).toArray) (fun z _ => 256 - z.1.toNat)
          ⟨k, rfl, by omega, by omega, hdk, hfk, hrk⟩ ?_
        rintro ⟨_, ⟨⟩⟩ wj ⟨j, rfl, hkj, hj256, hdj, hfj, hrj⟩
        dsimp only
        refine IfC_dec (fun hlt => ?_) (fun hge => ?_)
        · refine LdSl_at hdj.dec (Dec.at6 _) ⟨⟨by omega, by dsimp only; omega⟩, ?_⟩
          have hv : (cs.map colV)[j]? = some (Value.iface 133 (.agg #[.int .u8 (0 : Int), .int .u8 (0 : Int), .int .u8 (0 : Int), .int .u8 (255 : Int)])) := by
            rw [List.getElem?_map, hca j (by omega), if_neg (by omega)]
            rfl
          refine round j wj wj _ (by omega) hdj hfj hrj hv _ ?_
          intro w'' hd'' hf'' hr''
          rw [wrap_i64_id (by omega) (by omega)]
          exact ⟨⟨j + 1, by omega, by omega, by omega, hd'', hf'', hr''⟩, by omega⟩
        · have hj' : j = 256 := by omega
          subst hj'
          refine LdSl_at hdj.dec (Dec.at6 _) ⟨⟨by omega, by dsimp only; omega⟩, ?_⟩
          rw [Int.toNat_natCast]
          refine StoreC_at hdj.dec (by show 0 + 6 < _; rw [Dec.size, hdj.htmp, hdj.htr]; decide) fun w49 h49 f49 n49 => ?_
          have h49d := hdj.upd (d' := { d with tmp := rs.take len ++ d.tmp.drop len, pal := ⟨some ⟨g, 0, none⟩, k, 256⟩ }) f49 (h49.trans (congrArg (Row 119) (Dec.set6 _ ⟨some ⟨g, 0, none⟩, k, 256⟩))) rfl rfl hdj.htmp hdj.htr
          refine CallT.mono (h49d.c81 (by simp; omega)) ?_
          rintro _ w51 ⟨hv, h51, f51, n51⟩
          refine ⟨_, rfl, ?_⟩
          rw [if_neg (by omega)]
          have hrow := f51.row (f49.row1 hrj (by show g ≠ db; omega)) (by have := h.ne; simp; omega)
          rw [List.take_of_length_le (by simp [hcl]), Nat.sub_self, List.replicate_zero, List.append_nil] at hrow
          refine ⟨?_, hv, _, _, h51.htmp, ?_, g, rfl, hg, hrow, hcl, hn256⟩
          · exact ((F23.trans' hfj (fun x hx hlt => by simp at hx; omega)).trans (f49.mono (by simp))).trans (f51.mono (by simp))
          · have := h51
            rw [List.drop_drop] at this
            exact this
    · intro J hJ
      refine IfC_eqI (fun e => hJ _ _ ⟨rfl, by dsimp only at e ⊢; simp [e]⟩) (fun h7' => IfC_eqI (fun e => hJ _ _ ⟨rfl, by dsimp only at e ⊢; simp [e]⟩) (fun h8' => IfC_eqI (fun e => hJ _ _ ⟨rfl, by dsimp only at e ⊢; simp [e]⟩) (fun h9' => hJ _ _ ⟨rfl, ?_⟩)))
      have : d.cb = 10 := by rcases hcb with h | h | h | h <;> first | exact h | exact absurd h h7' | exact absurd h h8' | exact absurd h h9'
      simp [this]
  · intro J hJ
    refine DivC_of (by decide) ?_
    rw [show Int.tmod (len : Int) 3 = ((len % 3 : Nat) : Int) from tmod_nat _ 3]
    refine IfC_neI (fun hc => ?_) (fun hc => ?_)
    · dsimp only; rw [if_pos (Or.inl (by omega))]; exact ⟨⟨_, rfl⟩, rfl⟩
    refine IfC_dec (fun hc2 => ?_) (fun hc2 => ?_)
    · dsimp only; rw [if_pos (Or.inr (.inl (by omega)))]; exact ⟨⟨_, rfl⟩, rfl⟩
    refine IfC_dec (fun hc3 => ?_) (fun hc3 => ?_)
    · dsimp only; rw [if_pos (Or.inr (.inr (.inl (by omega))))]; exact ⟨⟨_, rfl⟩, rfl⟩
    refine LdI_at h.dec (Dec.at5 _) ?_
    rw [hD, wrap_u64_id (by omega) (by omega)]
    refine ShC_of (by omega) ?_
    rw [shl1D hD']
    refine IfC_dec (fun hc4 => ?_) (fun hc4 => hJ _ _ ⟨rfl, by omega, by omega, by omega, by omega⟩)
    dsimp only; rw [if_pos (Or.inr (.inr (.inr (by omega))))]; exact ⟨⟨_, rfl⟩, rfl⟩

def notIface (P : Program) (t : TypeId) : Bool := match P.underlying t with | some (.interface _) => false | some _ => true | none => false
theorem TA_hit {P : Program} {v : Value} {xt t : TypeId} {ok : Bool} {K : Value → Bool → Prop} (hs : notIface P t = true) (h : K v true) : TA P w (.iface t v) xt t ok K := by
  unfold TA vTA
  unfold notIface at hs
  split at hs
  · cases hs
  · rename_i u hu e
    rw [e]
    have : Nat.beq t t = true := by simp
    cases u <;> first | (exact absurd rfl (hu _)) | (simp only [this]; exact h)
  · cases hs
theorem TA_miss {P : Program} {v z : Value} {xt t t' : TypeId} {K : Value → Bool → Prop} (hs : notIface P t = true) (hne : Nat.beq t' t = false) (hz : zv P t = some z) (h : K z false) : TA P w (.iface t' v) xt t true K := by
  unfold TA vTA
  unfold notIface at hs
  split at hs
  · cases hs
  · rename_i u hu e
    rw [e]
    cases u <;> first | (exact absurd rfl (hu _)) | (simp only [hne, hz]; exact h)
  · cases hs
theorem ni133 : notIface Pg 133 = true := by kernel_rfl
theorem ni132 : notIface Pg 132 = true := by kernel_rfl
theorem zc133 : zc Pg 133 = #[.int .u8 0, .int .u8 0, .int .u8 0, .int .u8 0] := by kernel_rfl
theorem zc132 : zc Pg 132 = #[.int .u8 0, .int .u8 0, .int .u8 0, .int .u8 0] := by kernel_rfl
def c0 : Bool × Px := (false, (0, 0, 0, 0))
def trnsC (ts : List UInt8) (cs : List (Bool × Px)) : List (Bool × Px) := (List.range 256).map fun i => if i < ts.length then (true, ((cs.getD i c0).2.1, (cs.getD i c0).2.2.1, (cs.getD i c0).2.2.2.1, ts.getD i 0)) else cs.getD i c0
theorem trnsC_length (ts : List UInt8) (cs : List (Bool × Px)) : (trnsC ts cs).length = 256 := by simp [trnsC]
theorem trnsC_at (ts : List UInt8) (cs : List (Bool × Px)) {i : Nat} (h : i < 256) : (trnsC ts cs)[i]? = some (if i < ts.length then (true, ((cs.getD i c0).2.1, (cs.getD i c0).2.2.1, (cs.getD i c0).2.2.2.1, ts.getD i 0)) else cs.getD i c0) := by
  simp [trnsC, h]
theorem set_step2 {A B : List Value} {v : Value} {k : Nat} (hAB : A.length = B.length) (hk : A[k]? = some v) : (A.take k ++ B.drop k).set k v = A.take (k + 1) ++ B.drop (k + 1) := by
  have hlt : k < A.length := (List.getElem?_eq_some_iff.1 hk).1
  have e1 : (A.take k).length = k := by simp; omega
  rw [List.set_append_right _ _ (by omega), e1, Nat.sub_self, List.drop_eq_getElem_cons (show k < B.length by omega), List.set_cons_zero, List.take_add_one, hk]
  simp
theorem Dst.c78P {db rb kb crc : Nat} {p : Option Addr} {d : Dec} {rs : List UInt8} (h : Dst w db rb kb p d crc rs) {len n : Nat} {cs : List (Bool × Px)} (hpal : PalAt w db d.pal n cs) (hcs : ∀ c ∈ cs, c.1 = false) (hlen : len < 4294967296) (hlen0 : 0 < len) (hcb : d.cb = 7 ∨ d.cb = 8 ∨ d.cb = 9 ∨ d.cb = 10)
    (hl : len ≤ 256 → len + 4 ≤ rs.length) :
    CallT Pg 78 #[.pointer (some ⟨db, 0, none⟩), .int .u32 len] w fun v w' => if 256 < len then Refuse 125 v ∧ w' = w else
      (∀ g, d.pal.a = some ⟨g, 0, none⟩ → Fr [rb, kb, db, g] w w') ∧ (if be4 (rs.drop len) 0 = crcU crc (rs.take len) then v = .nilIface else Refuse 125 v) ∧ ∃ tmp pal, tmp.length = 768 ∧ pal.a = d.pal.a ∧ Dst w' db rb kb p { d with tmp := tmp, pal := pal } (crcU crc (rs.take len)) (rs.drop (len + 4)) ∧ PalAt w' db pal (max n len) (trnsC (rs.take len) cs) := by
  obtain ⟨g, hpe, hg, hrow, hcl, hn256⟩ := hpal
  apply call78
  unfold wp78
  refine LdI_at h.dec (Dec.at7 _) ?_
  have hcbn : ∀ x : Int, x < 7 ∨ 10 < x → ¬ d.cb = x := by intro x hx e; rcases hcb with h | h | h | h <;> omega
  refine JoinC_of (fun z w' => w' = w ∧ z.1 = false) ?_ ?_
  · rintro ⟨z, ⟨⟩⟩ w' ⟨rfl, rfl⟩
    refine IfC_f ?_
    refine JoinC_of (fun z w'' => w'' = w' ∧ z.1 = false) ?_ ?_
    · rintro ⟨z, ⟨⟩⟩ w'' ⟨rfl, rfl⟩
      refine IfC_f ?_
      refine JoinC_of (fun z w' => w' = w'' ∧ z.1 = true) ?_ ?_
      · rintro ⟨z, ⟨⟩⟩ w' ⟨rfl, rfl⟩
        refine IfC_t ?_
        refine IfC_dec (fun hc => ?_) (fun hc => ?_)
        · dsimp only; rw [if_pos (by omega)]; exact ⟨⟨_, rfl⟩, rfl⟩
        have hl := hl (by omega)
        refine DrewC_at fun w4 f4 n4 => ?_
        have h4 := h.fr0 f4
        refine LdV_at h4.dec d.at0 ⟨⟨by omega, by omega⟩, ?_⟩
        rw [Int.toNat_natCast]
        refine CallT.mono (h4.read (n := len) (by omega) (by omega) (by omega)) ?_
        rintro _ w7 ⟨rfl, h7, f7, n7⟩
        refine ⟨_, _, rfl, EqNil_nil (IfC_f ?_)⟩
        refine DrewC_at fun w11 f11 n11 => ?_
        have h11 := h7.fr0 f11
        refine LdP_at h11.dec ((Dec.at2 _).trans (congrArg some h11.ck)) ⟨⟨by omega, by omega⟩, ?_⟩
        rw [Int.toNat_natCast]
        refine CallT.mono (h11.sums (o := 0) (n := len) rfl (by omega)) ?_
        rintro _ w14 ⟨rfl, h14, f14, n14⟩
        have htl : (rs.take len).length = len := by simp; omega
        have e0 : ((({ d with tmp := rs.take len ++ d.tmp.drop len } : Dec).tmp.drop 0).take len) = rs.take len := by
          show ((rs.take len ++ d.tmp.drop len).drop 0).take len = _
          rw [List.drop_zero, List.take_append_of_le_length (by omega), List.take_of_length_le (by omega)]
        rw [e0] at h14
        refine ⟨_, _, rfl, ?_⟩
        have F14 : Fr [rb, kb, db] w' w14 := (f4.mono (by simp)).trans ((f7.mono (by simp)).trans ((f11.mono (by simp)).trans (f14.mono (by simp))))
        have hne := h.ne
        have hrow14 := F14.row hrow (by simp; omega)
        have hgn : g < hn w' := hp_lt hrow
        refine JoinC_of (fun _ w'' => Fr [db] w14 w'' ∧ Dst w'' db rb kb p { d with tmp := rs.take len ++ d.tmp.drop len, pal := ⟨some ⟨g, 0, none⟩, max n len, 256⟩ } (crcU crc (rs.take len)) (rs.drop len)) ?_ ?_
        · rintro ⟨⟩ w87 ⟨f87, h87⟩
          have hrow87 := f87.row1 hrow14 (by omega)
          have F87 : Fr [rb, kb, db] w' w87 := F14.trans (f87.mono (by simp))
          refine LoopC_of (fun z wk => ∃ k : Nat, z.1 = k ∧ k ≤ len ∧ Dst wk db rb kb p { d with tmp := rs.take len ++ d.tmp.drop len, pal := ⟨some ⟨g, 0, none⟩, max n len, 256⟩ } (crcU crc (rs.take len)) (rs.drop len) ∧ Fr [g] w87 wk ∧ hp wk g = Row 131 (((trnsC (rs.take len) cs).map colV).take k ++ (cs.map colV).drop k).toArray) (fun z _ => len - z.1.toNat)
            ⟨0, rfl, by omega, h87, Fr.refl _ _, by simpa using hrow87⟩ ?_
          rintro ⟨_, ⟨⟩⟩ wk ⟨k, rfl, hkn, hdk, hfk, hrk⟩
          dsimp only
          have hcl' := trnsC_length (rs.take len) cs
          refine IfC_dec (fun hlt => ?_) (fun hge => ?_)
          · refine LdSl_at hdk.dec (Dec.at6 _) ⟨⟨by omega, by dsimp only; omega⟩, ?_⟩
            obtain ⟨⟨cf, px⟩, hck⟩ : ∃ c, cs[k]? = some c := ⟨_, List.getElem?_eq_getElem (by omega)⟩
            have hcf : cf = false := hcs _ (List.mem_of_getElem? hck)
            subst hcf
            have hkr : (((trnsC (rs.take len) cs).map colV).take k ++ (cs.map colV).drop k).toArray[k]? = some (colV (false, px)) := by
              rw [List.getElem?_toArray, List.getElem?_append_right (by simp; omega)]
              simp only [List.length_take, List.length_map, hcl', List.getElem?_drop]
              rw [show k + (k - min k 256) = k by omega, List.getElem?_map, hck]
              rfl
            rw [PtrC_some, elemAt_one, Int.toNat_natCast, Nat.zero_add]
            refine LdV_at hrk hkr ?_
            refine TA_hit (t := 133) ni133 ?_
            refine ⟨_, _, _, _, rfl, ?_⟩
            have hg2 : g < hn wk := hp_lt hrk
            refine AllocC_at fun w105 h105 f105 n105 => ?_
            rw [zc133] at h105
            generalize hq0 : hn wk = q at *
            refine StoreC_at h105 (by simp) fun w106 h106 f106 n106 => ?_
            refine StoreC_at h106 (by simp) fun w107 h107 f107 n107 => ?_
            refine StoreC_at h107 (by simp) fun w108 h108 f108 n108 => ?_
            refine StoreC_at h108 (by simp) fun w109 h109 f109 n109 => ?_
            refine DrewC_at fun w110 f110 n110 => ?_
            have hq : hp w110 q = Row 133 #[.int .u8 px.1.toNat, .int .u8 px.2.1.toNat, .int .u8 px.2.2.1.toNat, .int .u8 px.2.2.2.toNat] := by simpa using f110.row0 h109
            have Fq : Fr [] wk w110 := (((((f105.new1 f106 (by omega)).new1 f107 (by omega)).new1 f108 (by omega)).new1 f109 (by omega))).trans f110
            have hdq := hdk.fr0 Fq
            have hrq := Fq.row0 hrk
            refine LdSl_at hdq.dec (Dec.at6 _) (LdI_at hq rfl (LdI_at hq rfl (LdI_at hq rfl ⟨⟨by omega, by omega⟩, ?_⟩)))
            rw [elemAt_one]
            have hat : ({ d with tmp := rs.take len ++ d.tmp.drop len, pal := ⟨some ⟨g, 0, none⟩, max n len, 256⟩ } : Dec).arr[0 + 10 + k]? = some (.int .u8 (gb (rs.take len) k)) := by
              have := Dec.atT ({ d with tmp := rs.take len ++ d.tmp.drop len, pal := ⟨some ⟨g, 0, none⟩, max n len, 256⟩ } : Dec) (j := k) (by have := hdq.htmp; omega)
              rw [show gb (rs.take len) k = gb ({ d with tmp := rs.take len ++ d.tmp.drop len, pal := ⟨some ⟨g, 0, none⟩, max n len, 256⟩ } : Dec).tmp k from (gb_app (by omega)).symm]
              exact this
            refine LdI_at hdq.dec hat ⟨⟨by omega, by dsimp only; omega⟩, ?_⟩
            have hv : ((trnsC (rs.take len) cs).map colV)[k]? = some (Value.iface 132 (.agg #[.int .u8 px.1.toNat, .int .u8 px.2.1.toNat, .int .u8 px.2.2.1.toNat, .int .u8 (gb (rs.take len) k : Nat)])) := by
              rw [List.getElem?_map, trnsC_at _ _ (by omega), if_pos (by omega), show cs.getD k c0 = (false, px) by simp [List.getD, hck]]
              rfl
            dsimp only
            rw [PtrC_some, elemAt_one, Nat.zero_add]
            refine StoreC_at hrq (by simp [hcl, hcl']; omega) fun w119 h119 f119 n119 => ?_
            rw [wrap_i64_id (by omega) (by omega)]
            refine ⟨⟨k + 1, by omega, by omega, hdq.fr f119 (by simp; omega), (hfk.trans (Fq.mono (by simp))).trans f119, ?_⟩, by omega⟩
            rw [h119, List.setIfInBounds_toArray, set_step2 (by simp [hcl, hcl']) hv]
          · have hkn' : k = len := by omega
            subst hkn'
            refine CallT.mono (hdk.c81 (by simp; omega)) ?_
            rintro _ w121 ⟨hv, h121, f121, n121⟩
            refine ⟨_, rfl, ?_⟩
            rw [if_neg (by omega)]
            have hall : ((trnsC (rs.take k) cs).map colV).take k ++ (cs.map colV).drop k = (trnsC (rs.take k) cs).map colV := by
              apply List.ext_getElem?
              intro j
              rcases Nat.lt_or_ge j k with hj | hj
              · rw [List.getElem?_append_left (by simp [hcl']; omega), List.getElem?_take, if_pos hj]
              · rw [List.getElem?_append_right (by simp; omega), List.getElem?_drop]
                simp only [List.length_take, List.length_map, hcl']
                rw [show k + (j - min k 256) = j by omega, List.getElem?_map, List.getElem?_map]
                rcases Nat.lt_or_ge j 256 with hj2 | hj2
                · rw [trnsC_at _ _ hj2, if_neg (by omega), List.getElem?_eq_getElem (show j < cs.length by omega)]
                  simp [List.getD, List.getElem?_eq_getElem (show j < cs.length by omega)]
                · rw [List.getElem?_eq_none (by omega), List.getElem?_eq_none (by omega)]
            rw [hall] at hrk
            have hrow := f121.row hrk (by simp; omega)
            refine ⟨?_, hv, _, _, h121.htmp, ?_, ?_, g, rfl, hg, hrow, hcl', by omega⟩
            · intro g' hg'
              rw [hpe] at hg'
              simp at hg'
              subst hg'
              exact (F87.mono (by simp)).trans ((hfk.mono (by simp)).trans (f121.mono (by simp)))
            · rw [hpe]
            · have := h121
              rw [List.drop_drop] at this
              exact this
        · intro J hJ
          refine LdSl_at h14.dec (Dec.at6 _) ?_
          refine IfC_dec (fun hlt => ?_) (fun hge => ?_)
          · refine LdSl_at h14.dec (Dec.at6 _) ⟨⟨by omega, by dsimp only; rw [hpe]; dsimp only; omega⟩, ?_⟩
            dsimp only at hlt ⊢
            rw [hpe] at hlt ⊢
            dsimp only at hlt ⊢
            refine StoreC_at h14.dec (by show 0 + 6 < _; rw [Dec.size, h14.htmp, h14.htr]; decide) fun w49 h49 f49 n49 => ?_
            refine hJ _ _ ⟨f49, h14.upd (d' := { d with tmp := rs.take len ++ d.tmp.drop len, pal := ⟨some ⟨g, 0, none⟩, max n len, 256⟩ }) f49 ?_ rfl rfl h14.htmp h14.htr⟩
            rw [show max n len = len by omega]
            exact h49.trans (congrArg (Row 119) (Dec.set6 _ ⟨some ⟨g, 0, none⟩, len, 256⟩))
          · refine hJ _ _ ⟨Fr.refl _ _, ?_⟩
            dsimp only at hge
            rw [hpe] at hge
            dsimp only at hge
            rw [show max n len = n by omega, ← hpe]
            exact h14
      · intro J hJ
        refine IfC_eqI (fun e => hJ _ _ ⟨rfl, by simp [e]⟩) (fun h7' => IfC_eqI (fun e => hJ _ _ ⟨rfl, by simp [e]⟩) (fun h8' => IfC_eqI (fun e => hJ _ _ ⟨rfl, by simp [e]⟩) (fun h9' => hJ _ _ ⟨rfl, ?_⟩)))
        have : d.cb = 10 := by omega
        simp [this]
    · intro J hJ
      refine IfC_eqI (fun e => absurd e (hcbn 6 (by decide))) (fun _ => hJ _ _ ⟨rfl, ?_⟩)
      have := hcbn 14 (by decide)
      simpa using this
  · intro J hJ
    refine IfC_eqI (fun e => absurd e (hcbn 1 (by decide))) (fun _ => IfC_eqI (fun e => absurd e (hcbn 2 (by decide))) (fun _ => IfC_eqI (fun e => absurd e (hcbn 3 (by decide))) (fun _ => IfC_eqI (fun e => absurd e (hcbn 4 (by decide))) (fun _ => hJ _ _ ⟨rfl, ?_⟩))))
    have := hcbn 12 (by decide)
    simpa using this
end
end Go.Proofs
