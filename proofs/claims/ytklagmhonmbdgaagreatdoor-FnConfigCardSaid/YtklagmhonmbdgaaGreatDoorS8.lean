/- A step of the proofs (S8): contracts of the functions printed here, for all their arguments that meet what each names. -/
import Derived.Test.YtklagmhonmbdgaaGreatDoorBase
import Derived.Test.YtklagmhonmbdgaaGreatDoorSteps
import Derived.Test.YtklagmhonmbdgaaGreatDoorS7
set_option maxRecDepth 1000000
set_option linter.unusedVariables false
set_option linter.unusedSimpArgs false
set_option maxHeartbeats 4000000
namespace Go.Proofs
open Go Go.V
/-- loop.example/pub-g03440/laws.drawnOf -/
def wp23 (x0 : Int) (x1 : Option Addr) (x1l : Nat) (x1c : Nat) (R : Value → World → Prop) (w : World) : Prop := AllocC w (.cells (zc Pg 31) 31) fun (r1 : Nat) (w2 : World) => DivC (15 : Int) (CallT Pg 37 #[.int .u8 (IntKind.wrap .u8 (Int.tmod x0 (15 : Int)))] w2 fun (v3 : Value) (w4 : World) => Exists fun (n5 : Int) => Exists fun (n6 : Int) => And (v3 = .tuple #[.int .i64 n5, .int .i64 n6]) (ShC (4 : Int) (DivC (20 : Int) (ShC (9 : Int) (DivC (20 : Int) (ShC (14 : Int) (AllocC w4 (.cells (zc Pg 31) 31) fun (r7 : Nat) (w8 : World) => StoreC w8 ⟨r7, 0, none⟩ (.int .i64 (IntKind.wrap .i64 ((1 : Int) + (IntKind.wrap .i64 (Int.tmod (shrI .u32 x0 (4 : Int)) (20 : Int)))))) fun (w9 : World) => StoreC w9 ⟨r7, 0 + 1, none⟩ (.int .i64 (IntKind.wrap .i64 ((1 : Int) + (IntKind.wrap .i64 (Int.tmod (shrI .u32 x0 (9 : Int)) (20 : Int)))))) fun (w10 : World) => StoreC w10 ⟨r7, 0 + 2, none⟩ (.int .i64 n6) fun (w11 : World) => StoreC w11 ⟨r7, 0 + 3, none⟩ (.int .i64 n5) fun (w12 : World) => StoreC w12 ⟨r7, 0 + 4, none⟩ (.bool ((bAnd .u32 (shrI .u32 x0 (14 : Int)) (1 : Int)) == (1 : Int))) fun (w13 : World) => StoreC w13 ⟨r7, 0 + 5, none⟩ (.slice none 0 0) fun (w14 : World) => StoreC w14 ⟨r7, 0 + 6, none⟩ (.slice none 0 0) fun (w15 : World) => StoreC w15 ⟨r7, 0 + 7, none⟩ (.slice none 0 0) fun (w16 : World) => DrewC w16 fun (w17 : World) => ShC n6 (CallT Pg 38 #[.int .i64 n5] w17 fun (v18 : Value) (w19 : World) => Exists fun (n20 : Int) => And (v18 = .int .i64 n20) (JoinC (fun (z21 : (Int × Unit)) (w22 : World) => LdI w22 ⟨r7, 0, none⟩ .i64 fun (n24 : Int) => LdI w22 ⟨r7, 0 + 1, none⟩ .i64 fun (n25 : Int) => LoopC (fun (J28 : (Int × Unit) → World → Prop) => J28 ((0 : Int), ()) w22) (fun (z26 : (Int × Unit)) (w27 : World) (N29 : (Int × Unit) → World → Prop) => IfC (decide (z26.1 < (IntKind.wrap .i64 ((IntKind.wrap .i64 (n24 * n25)) * n20)))) (IfC (decide ((x1l : Int) > (0 : Int))) (DivC (x1l : Int) (And (0 ≤ Int.tmod z26.1 (x1l : Int) ∧ Int.tmod z26.1 (x1l : Int) < (x1l : Int)) (PtrC x1 fun (a30 : Addr) => LdI w27 (elemAt a30 ((Int.tmod z26.1 (x1l : Int)).toNat) 1) .u16 fun (n31 : Int) => DrewC w27 fun (w32 : World) => DivC z21.1 (LdSl w32 ⟨r7, 0 + 5, none⟩ fun (p33 : Option Addr) (l34 : Nat) (c35 : Nat) => AllocC w32 (.cells #[.int .i64 (Int.tmod (IntKind.wrap .i64 n31) z21.1)] 3) fun (r36 : Nat) (w37 : World) => LdSl w37 ⟨r7, 0 + 5, none⟩ fun (p38 : Option Addr) (l39 : Nat) (c40 : Nat) => And ((.slice p38 l39 c40 : Value) = .slice p33 l34 c35) (AppR Pg w37 #[28, 28] 28 (.slice p33 l34 c35) (.slice (some ⟨r36, 0, none⟩) 1 1) fun (p41 : Option Addr) (l42 : Nat) (c43 : Nat) (w44 : World) => StoreC w44 ⟨r7, 0 + 5, none⟩ (.slice p41 l42 c43) fun (w45 : World) => N29 (IntKind.wrap .i64 (z26.1 + (1 : Int)), ()) w45))))) (DrewC w27 fun (w46 : World) => DivC z21.1 (LdSl w46 ⟨r7, 0 + 5, none⟩ fun (p47 : Option Addr) (l48 : Nat) (c49 : Nat) => AllocC w46 (.cells #[.int .i64 (Int.tmod (IntKind.wrap .i64 (z26.1 * (7 : Int))) z21.1)] 3) fun (r50 : Nat) (w51 : World) => LdSl w51 ⟨r7, 0 + 5, none⟩ fun (p52 : Option Addr) (l53 : Nat) (c54 : Nat) => And ((.slice p52 l53 c54 : Value) = .slice p47 l48 c49) (AppR Pg w51 #[28, 28] 28 (.slice p47 l48 c49) (.slice (some ⟨r50, 0, none⟩) 1 1) fun (p55 : Option Addr) (l56 : Nat) (c57 : Nat) (w58 : World) => StoreC w58 ⟨r7, 0 + 5, none⟩ (.slice p55 l56 c57) fun (w59 : World) => N29 (IntKind.wrap .i64 (z26.1 + (1 : Int)), ()) w59)))) (JoinC (fun (z60 : (Bool × Unit)) (w61 : World) => IfC z60.1 (LoopC (fun (J65 : (Int × Unit) → World → Prop) => J65 ((0 : Int), ()) w61) (fun (z63 : (Int × Unit)) (w64 : World) (N66 : (Int × Unit) → World → Prop) => IfC (decide (z63.1 < n20)) (DrewC w64 fun (w67 : World) => ShC (21 : Int) (DivC (8 : Int) (DivC z21.1 (LdSl w67 ⟨r7, 0 + 7, none⟩ fun (p68 : Option Addr) (l69 : Nat) (c70 : Nat) => AllocC w67 (.cells #[.int .i64 (Int.tmod (IntKind.wrap .i64 ((IntKind.wrap .i64 (z63.1 * (5 : Int))) + (IntKind.wrap .i64 (Int.tmod (shrI .u32 x0 (21 : Int)) (8 : Int))))) z21.1)] 3) fun (r71 : Nat) (w72 : World) => LdSl w72 ⟨r7, 0 + 7, none⟩ fun (p73 : Option Addr) (l74 : Nat) (c75 : Nat) => And ((.slice p73 l74 c75 : Value) = .slice p68 l69 c70) (AppR Pg w72 #[28, 28] 28 (.slice p68 l69 c70) (.slice (some ⟨r71, 0, none⟩) 1 1) fun (p76 : Option Addr) (l77 : Nat) (c78 : Nat) (w79 : World) => StoreC w79 ⟨r7, 0 + 7, none⟩ (.slice p76 l77 c78) fun (w80 : World) => N66 (IntKind.wrap .i64 (z63.1 + (1 : Int)), ()) w80))))) (LdI w64 ⟨r7, 0, none⟩ .i64 fun (n81 : Int) => LdI w64 ⟨r7, 0 + 1, none⟩ .i64 fun (n82 : Int) => LdI w64 ⟨r7, 0 + 2, none⟩ .i64 fun (n83 : Int) => LdI w64 ⟨r7, 0 + 3, none⟩ .i64 fun (n84 : Int) => LdB w64 ⟨r7, 0 + 4, none⟩ fun (b85 : Bool) => LdSl w64 ⟨r7, 0 + 5, none⟩ fun (p86 : Option Addr) (l87 : Nat) (c88 : Nat) => LdSl w64 ⟨r7, 0 + 6, none⟩ fun (p89 : Option Addr) (l90 : Nat) (c91 : Nat) => LdSl w64 ⟨r7, 0 + 7, none⟩ fun (p92 : Option Addr) (l93 : Nat) (c94 : Nat) => StoreC w64 ⟨r1, 0, none⟩ (.int .i64 n81) fun (w95 : World) => StoreC w95 ⟨r1, 0 + 1, none⟩ (.int .i64 n82) fun (w96 : World) => StoreC w96 ⟨r1, 0 + 2, none⟩ (.int .i64 n83) fun (w97 : World) => StoreC w97 ⟨r1, 0 + 3, none⟩ (.int .i64 n84) fun (w98 : World) => StoreC w98 ⟨r1, 0 + 4, none⟩ (.bool b85) fun (w99 : World) => StoreC w99 ⟨r1, 0 + 5, none⟩ (.slice p86 l87 c88) fun (w100 : World) => StoreC w100 ⟨r1, 0 + 6, none⟩ (.slice p89 l90 c91) fun (w101 : World) => StoreC w101 ⟨r1, 0 + 7, none⟩ (.slice p92 l93 c94) fun (w102 : World) => LdI w102 ⟨r1, 0, none⟩ .i64 fun (n103 : Int) => LdI w102 ⟨r1, 0 + 1, none⟩ .i64 fun (n104 : Int) => LdI w102 ⟨r1, 0 + 2, none⟩ .i64 fun (n105 : Int) => LdI w102 ⟨r1, 0 + 3, none⟩ .i64 fun (n106 : Int) => LdB w102 ⟨r1, 0 + 4, none⟩ fun (b107 : Bool) => LdSl w102 ⟨r1, 0 + 5, none⟩ fun (p108 : Option Addr) (l109 : Nat) (c110 : Nat) => LdSl w102 ⟨r1, 0 + 6, none⟩ fun (p111 : Option Addr) (l112 : Nat) (c113 : Nat) => LdSl w102 ⟨r1, 0 + 7, none⟩ fun (p114 : Option Addr) (l115 : Nat) (c116 : Nat) => R (.agg #[.int .i64 n103, .int .i64 n104, .int .i64 n105, .int .i64 n106, .bool b107, .slice p108 l109 c110, .slice p111 l112 c113, .slice p114 l115 c116] : Value) w102))) (LdI w61 ⟨r7, 0, none⟩ .i64 fun (n117 : Int) => LdI w61 ⟨r7, 0 + 1, none⟩ .i64 fun (n118 : Int) => LdI w61 ⟨r7, 0 + 2, none⟩ .i64 fun (n119 : Int) => LdI w61 ⟨r7, 0 + 3, none⟩ .i64 fun (n120 : Int) => LdB w61 ⟨r7, 0 + 4, none⟩ fun (b121 : Bool) => LdSl w61 ⟨r7, 0 + 5, none⟩ fun (p122 : Option Addr) (l123 : Nat) (c124 : Nat) => LdSl w61 ⟨r7, 0 + 6, none⟩ fun (p125 : Option Addr) (l126 : Nat) (c127 : Nat) => LdSl w61 ⟨r7, 0 + 7, none⟩ fun (p128 : Option Addr) (l129 : Nat) (c130 : Nat) => StoreC w61 ⟨r1, 0, none⟩ (.int .i64 n117) fun (w131 : World) => StoreC w131 ⟨r1, 0 + 1, none⟩ (.int .i64 n118) fun (w132 : World) => StoreC w132 ⟨r1, 0 + 2, none⟩ (.int .i64 n119) fun (w133 : World) => StoreC w133 ⟨r1, 0 + 3, none⟩ (.int .i64 n120) fun (w134 : World) => StoreC w134 ⟨r1, 0 + 4, none⟩ (.bool b121) fun (w135 : World) => StoreC w135 ⟨r1, 0 + 5, none⟩ (.slice p122 l123 c124) fun (w136 : World) => StoreC w136 ⟨r1, 0 + 6, none⟩ (.slice p125 l126 c127) fun (w137 : World) => StoreC w137 ⟨r1, 0 + 7, none⟩ (.slice p128 l129 c130) fun (w138 : World) => LdI w138 ⟨r1, 0, none⟩ .i64 fun (n139 : Int) => LdI w138 ⟨r1, 0 + 1, none⟩ .i64 fun (n140 : Int) => LdI w138 ⟨r1, 0 + 2, none⟩ .i64 fun (n141 : Int) => LdI w138 ⟨r1, 0 + 3, none⟩ .i64 fun (n142 : Int) => LdB w138 ⟨r1, 0 + 4, none⟩ fun (b143 : Bool) => LdSl w138 ⟨r1, 0 + 5, none⟩ fun (p144 : Option Addr) (l145 : Nat) (c146 : Nat) => LdSl w138 ⟨r1, 0 + 6, none⟩ fun (p147 : Option Addr) (l148 : Nat) (c149 : Nat) => LdSl w138 ⟨r1, 0 + 7, none⟩ fun (p150 : Option Addr) (l151 : Nat) (c152 : Nat) => R (.agg #[.int .i64 n139, .int .i64 n140, .int .i64 n141, .int .i64 n142, .bool b143, .slice p144 l145 c146, .slice p147 l148 c149, .slice p150 l151 c152] : Value) w138)) (fun (J62 : (Bool × Unit) → World → Prop) => IfC (n5 == (0 : Int)) (ShC (20 : Int) (J62 ((bAnd .u32 (shrI .u32 x0 (20 : Int)) (1 : Int)) == (1 : Int), ()) w27)) (IfC (n5 == (2 : Int)) (ShC (20 : Int) (J62 ((bAnd .u32 (shrI .u32 x0 (20 : Int)) (1 : Int)) == (1 : Int), ()) w27)) (J62 (false, ()) w27)))))) (fun (J23 : (Int × Unit) → World → Prop) => IfC (n5 == (3 : Int)) (ShC (15 : Int) (DivC (9 : Int) (LoopC (fun (J155 : (Int × Unit) → World → Prop) => J155 ((0 : Int), ()) w19) (fun (z153 : (Int × Unit)) (w154 : World) (N156 : (Int × Unit) → World → Prop) => IfC (decide (z153.1 < (minI (shlI .i64 (1 : Int) n6) (IntKind.wrap .i64 ((1 : Int) + (IntKind.wrap .i64 (Int.tmod (shrI .u32 x0 (15 : Int)) (9 : Int)))))))) (JoinC (fun (z157 : (Int × Unit)) (w158 : World) => LdSl w158 ⟨r7, 0 + 6, none⟩ fun (p160 : Option Addr) (l161 : Nat) (c162 : Nat) => DivC (256 : Int) (DivC (256 : Int) (AllocC w158 (.cells #[.int .i64 (IntKind.wrap .i64 ((257 : Int) * (Int.tmod (IntKind.wrap .i64 (z153.1 * (31 : Int))) (256 : Int)))), .int .i64 (IntKind.wrap .i64 ((257 : Int) * (Int.tmod (IntKind.wrap .i64 (z153.1 * (7 : Int))) (256 : Int)))), .int .i64 (IntKind.wrap .i64 ((257 : Int) * (IntKind.wrap .i64 ((255 : Int) - z153.1)))), .int .i64 z157.1] 43) fun (r163 : Nat) (w164 : World) => AppR Pg w164 #[29, 29] 29 (.slice p160 l161 c162) (.slice (some ⟨r163, 0, none⟩) 1 1) fun (p165 : Option Addr) (l166 : Nat) (c167 : Nat) (w168 : World) => StoreC w168 ⟨r7, 0 + 6, none⟩ (.slice p165 l166 c167) fun (w169 : World) => N156 (IntKind.wrap .i64 (z153.1 + (1 : Int)), ()) w169))) (fun (J159 : (Int × Unit) → World → Prop) => ShC (19 : Int) (IfC ((bAnd .u32 (shrI .u32 x0 (19 : Int)) (1 : Int)) == (1 : Int)) (DivC (256 : Int) (J159 (IntKind.wrap .i64 ((257 : Int) * (IntKind.wrap .i64 ((255 : Int) - (Int.tmod (IntKind.wrap .i64 ((40 : Int) * z153.1)) (256 : Int))))), ()) w154)) (J159 ((65535 : Int), ()) w154)))) (LdSl w154 ⟨r7, 0 + 6, none⟩ fun (p170 : Option Addr) (l171 : Nat) (c172 : Nat) => J23 ((l171 : Int), ()) w154))))) (J23 (shlI .i64 (1 : Int) n6, ()) w19)))))))))))
theorem eq23 (x0 : Int) (x1 : Option Addr) (x1l : Nat) (x1c : Nat) (R : Value → World → Prop) (w : World) : vc Pg Gg (annOf [(8, [(9, .i .i64)], [0, 1, 4, 5, 7, 8]), (16, [(53, .i .i64)], [0, 1, 4, 5, 7, 8, 52]), (29, [(11, .i .i64)], [0, 1, 4, 5, 7, 8, 10, 52, 53]), (43, [(96, .i .i64)], [0, 1, 4, 5, 7, 8, 9, 95]), (65, [(132, .b)], [0, 4, 7, 8, 9]), (71, [(134, .i .i64)], [0, 4, 7, 9, 133])]) 0 (bodyOf Tryz.f23) (retK Pg Tryz.f23.results.toList R) (argE 0 [.int .u32 x0, .slice x1 x1l x1c]) w = wp23 x0 x1 x1l x1c R w := by kernel_rfl
theorem call23 {x0 : Int} {x1 : Option Addr} {x1l : Nat} {x1c : Nat} {R : Value → World → Prop} {w : World} (h : wp23 x0 x1 x1l x1c R w) : CallT Pg 23 #[.int .u32 x0, .slice x1 x1l x1c] w R :=
  calls_of_vc follows bodies Tryz.func23 (by kernel_rfl) (by kernel_rfl) (by kernel_rfl) ((eq23 x0 x1 x1l x1c R w).mpr h)

/-- (loop.example/pub-g03440/laws.drawn).file -/
def wp24 (x0_0 : Int) (x0_1 : Int) (x0_2 : Int) (x0_3 : Int) (x0_4 : Bool) (x0_5 : Option Addr) (x0_5l : Nat) (x0_5c : Nat) (x0_6 : Option Addr) (x0_6l : Nat) (x0_6c : Nat) (x0_7 : Option Addr) (x0_7l : Nat) (x0_7c : Nat) (x1 : Int) (R : Value → World → Prop) (w : World) : Prop := AllocC w (.cells #[.int .i64 x0_0, .int .i64 x0_1, .int .i64 x0_2, .int .i64 x0_3, .bool x0_4, .slice x0_5 x0_5l x0_5c, .slice x0_6 x0_6l x0_6c, .slice x0_7 x0_7l x0_7c] 31) fun (r1 : Nat) (w2 : World) => ShC (3 : Int) (ShC (6 : Int) (ShC (9 : Int) (AllocC w2 (.cells #[.int .u8 (IntKind.wrap .u8 (shrI .u32 x1 (3 : Int))), .int .u8 (IntKind.wrap .u8 (shrI .u32 x1 (6 : Int))), .int .u8 (IntKind.wrap .u8 (shrI .u32 x1 (9 : Int)))] 5) fun (r3 : Nat) (w4 : World) => ShC (12 : Int) (DivC (200 : Int) (ShC (20 : Int) (DivC (8 : Int) (AllocC w4 (.cells (zc Pg 75) 75) fun (r5 : Nat) (w6 : World) => StoreC w6 ⟨r5, 0, none⟩ (.slice (some ⟨r3, 0, none⟩) 3 3) fun (w7 : World) => StoreC w7 ⟨r5, 0 + 1, none⟩ (.int .i64 (IntKind.wrap .i64 ((50 : Int) + (IntKind.wrap .i64 (Int.tmod (shrI .u32 x1 (12 : Int)) (200 : Int)))))) fun (w8 : World) => StoreC w8 ⟨r5, 0 + 2, none⟩ (.int .i64 (IntKind.wrap .i64 (Int.tmod (shrI .u32 x1 (20 : Int)) (8 : Int)))) fun (w9 : World) => StoreC w9 ⟨r5, 0 + 3, none⟩ (.slice none 0 0) fun (w10 : World) => ShC (24 : Int) (IfC ((bAnd .u32 (shrI .u32 x1 (24 : Int)) (1 : Int)) == (1 : Int)) (ShC (25 : Int) (AllocC w10 (.cells #[.int .u8 (IntKind.wrap .u8 ((IntKind.wrap .u8 (shrI .u32 x1 (25 : Int))) + (1 : Int))), .int .u8 (5 : Int)] 5) fun (r11 : Nat) (w12 : World) => StoreC w12 ⟨r5, 0 + 3, none⟩ (.slice (some ⟨r11, 0, none⟩) 2 2) fun (w13 : World) => LdI w13 ⟨r1, 0, none⟩ .i64 fun (n14 : Int) => LdI w13 ⟨r1, 0 + 1, none⟩ .i64 fun (n15 : Int) => LdI w13 ⟨r1, 0 + 2, none⟩ .i64 fun (n16 : Int) => LdI w13 ⟨r1, 0 + 3, none⟩ .i64 fun (n17 : Int) => LdB w13 ⟨r1, 0 + 4, none⟩ fun (b18 : Bool) => LdSl w13 ⟨r1, 0 + 5, none⟩ fun (p19 : Option Addr) (l20 : Nat) (c21 : Nat) => LdSl w13 ⟨r1, 0 + 6, none⟩ fun (p22 : Option Addr) (l23 : Nat) (c24 : Nat) => LdSl w13 ⟨r1, 0 + 7, none⟩ fun (p25 : Option Addr) (l26 : Nat) (c27 : Nat) => LdSl w13 ⟨r5, 0, none⟩ fun (p28 : Option Addr) (l29 : Nat) (c30 : Nat) => LdI w13 ⟨r5, 0 + 1, none⟩ .i64 fun (n31 : Int) => LdI w13 ⟨r5, 0 + 2, none⟩ .i64 fun (n32 : Int) => LdSl w13 ⟨r5, 0 + 3, none⟩ fun (p33 : Option Addr) (l34 : Nat) (c35 : Nat) => CallT Pg 39 #[.agg #[.int .i64 n14, .int .i64 n15, .int .i64 n16, .int .i64 n17, .bool b18], .slice p19 l20 c21, .slice p22 l23 c24, .slice p25 l26 c27, .agg #[.slice p28 l29 c30, .int .i64 n31, .int .i64 n32, .slice p33 l34 c35], .slice none 0 0, .slice none 0 0] w13 fun (v36 : Value) (w37 : World) => Exists fun (p38 : Option Addr) => Exists fun (l39 : Nat) => Exists fun (c40 : Nat) => And (v36 = .slice p38 l39 c40) (R (.slice p38 l39 c40 : Value) w37))) (LdI w10 ⟨r1, 0, none⟩ .i64 fun (n41 : Int) => LdI w10 ⟨r1, 0 + 1, none⟩ .i64 fun (n42 : Int) => LdI w10 ⟨r1, 0 + 2, none⟩ .i64 fun (n43 : Int) => LdI w10 ⟨r1, 0 + 3, none⟩ .i64 fun (n44 : Int) => LdB w10 ⟨r1, 0 + 4, none⟩ fun (b45 : Bool) => LdSl w10 ⟨r1, 0 + 5, none⟩ fun (p46 : Option Addr) (l47 : Nat) (c48 : Nat) => LdSl w10 ⟨r1, 0 + 6, none⟩ fun (p49 : Option Addr) (l50 : Nat) (c51 : Nat) => LdSl w10 ⟨r1, 0 + 7, none⟩ fun (p52 : Option Addr) (l53 : Nat) (c54 : Nat) => LdSl w10 ⟨r5, 0, none⟩ fun (p55 : Option Addr) (l56 : Nat) (c57 : Nat) => LdI w10 ⟨r5, 0 + 1, none⟩ .i64 fun (n58 : Int) => LdI w10 ⟨r5, 0 + 2, none⟩ .i64 fun (n59 : Int) => LdSl w10 ⟨r5, 0 + 3, none⟩ fun (p60 : Option Addr) (l61 : Nat) (c62 : Nat) => CallT Pg 39 #[.agg #[.int .i64 n41, .int .i64 n42, .int .i64 n43, .int .i64 n44, .bool b45], .slice p46 l47 c48, .slice p49 l50 c51, .slice p52 l53 c54, .agg #[.slice p55 l56 c57, .int .i64 n58, .int .i64 n59, .slice p60 l61 c62], .slice none 0 0, .slice none 0 0] w10 fun (v63 : Value) (w64 : World) => Exists fun (p65 : Option Addr) => Exists fun (l66 : Nat) => Exists fun (c67 : Nat) => And (v63 = .slice p65 l66 c67) (R (.slice p65 l66 c67 : Value) w64))))))))))
theorem eq24 (x0_0 : Int) (x0_1 : Int) (x0_2 : Int) (x0_3 : Int) (x0_4 : Bool) (x0_5 : Option Addr) (x0_5l : Nat) (x0_5c : Nat) (x0_6 : Option Addr) (x0_6l : Nat) (x0_6c : Nat) (x0_7 : Option Addr) (x0_7l : Nat) (x0_7c : Nat) (x1 : Int) (R : Value → World → Prop) (w : World) : vc Pg Gg (annOf []) 0 (bodyOf Tryz.f24) (retK Pg Tryz.f24.results.toList R) (argE 0 [.agg #[.int .i64 x0_0, .int .i64 x0_1, .int .i64 x0_2, .int .i64 x0_3, .bool x0_4, .slice x0_5 x0_5l x0_5c, .slice x0_6 x0_6l x0_6c, .slice x0_7 x0_7l x0_7c], .int .u32 x1]) w = wp24 x0_0 x0_1 x0_2 x0_3 x0_4 x0_5 x0_5l x0_5c x0_6 x0_6l x0_6c x0_7 x0_7l x0_7c x1 R w := by kernel_rfl
theorem call24 {x0_0 : Int} {x0_1 : Int} {x0_2 : Int} {x0_3 : Int} {x0_4 : Bool} {x0_5 : Option Addr} {x0_5l : Nat} {x0_5c : Nat} {x0_6 : Option Addr} {x0_6l : Nat} {x0_6c : Nat} {x0_7 : Option Addr} {x0_7l : Nat} {x0_7c : Nat} {x1 : Int} {R : Value → World → Prop} {w : World} (h : wp24 x0_0 x0_1 x0_2 x0_3 x0_4 x0_5 x0_5l x0_5c x0_6 x0_6l x0_6c x0_7 x0_7l x0_7c x1 R w) : CallT Pg 24 #[.agg #[.int .i64 x0_0, .int .i64 x0_1, .int .i64 x0_2, .int .i64 x0_3, .bool x0_4, .slice x0_5 x0_5l x0_5c, .slice x0_6 x0_6l x0_6c, .slice x0_7 x0_7l x0_7c], .int .u32 x1] w R :=
  calls_of_vc follows bodies Tryz.func24 (by kernel_rfl) (by kernel_rfl) (by kernel_rfl) ((eq24 x0_0 x0_1 x0_2 x0_3 x0_4 x0_5 x0_5l x0_5c x0_6 x0_6l x0_6c x0_7 x0_7l x0_7c x1 R w).mpr h)

/-- loop.example/pub-g03440/laws.madeOf -/
def wp27 (x0 : Int) (x1 : Option Addr) (x1l : Nat) (x1c : Nat) (R : Value → World → Prop) (w : World) : Prop := CallT Pg 23 #[.int .u32 x0, .slice x1 x1l x1c] w fun (v1 : Value) (w2 : World) => Exists fun (n3 : Int) => Exists fun (n4 : Int) => Exists fun (n5 : Int) => Exists fun (n6 : Int) => Exists fun (b7 : Bool) => Exists fun (p8 : Option Addr) => Exists fun (l9 : Nat) => Exists fun (c10 : Nat) => Exists fun (p11 : Option Addr) => Exists fun (l12 : Nat) => Exists fun (c13 : Nat) => Exists fun (p14 : Option Addr) => Exists fun (l15 : Nat) => Exists fun (c16 : Nat) => And (v1 = .agg #[.int .i64 n3, .int .i64 n4, .int .i64 n5, .int .i64 n6, .bool b7, .slice p8 l9 c10, .slice p11 l12 c13, .slice p14 l15 c16]) (CallT Pg 24 #[.agg #[.int .i64 n3, .int .i64 n4, .int .i64 n5, .int .i64 n6, .bool b7, .slice p8 l9 c10, .slice p11 l12 c13, .slice p14 l15 c16], .int .u32 (IntKind.wrap .u32 ((IntKind.wrap .u32 (x0 * (2654435761 : Int))) + (7 : Int)))] w2 fun (v17 : Value) (w18 : World) => Exists fun (p19 : Option Addr) => Exists fun (l20 : Nat) => Exists fun (c21 : Nat) => And (v17 = .slice p19 l20 c21) (R (.slice p19 l20 c21 : Value) w18))
theorem eq27 (x0 : Int) (x1 : Option Addr) (x1l : Nat) (x1c : Nat) (R : Value → World → Prop) (w : World) : vc Pg Gg (annOf []) 0 (bodyOf Tryz.f27) (retK Pg Tryz.f27.results.toList R) (argE 0 [.int .u32 x0, .slice x1 x1l x1c]) w = wp27 x0 x1 x1l x1c R w := by kernel_rfl
theorem call27 {x0 : Int} {x1 : Option Addr} {x1l : Nat} {x1c : Nat} {R : Value → World → Prop} {w : World} (h : wp27 x0 x1 x1l x1c R w) : CallT Pg 27 #[.int .u32 x0, .slice x1 x1l x1c] w R :=
  calls_of_vc follows bodies Tryz.func27 (by kernel_rfl) (by kernel_rfl) (by kernel_rfl) ((eq27 x0 x1 x1l x1c R w).mpr h)

section
variable {w : World}
theorem c22 {p : Option Addr} {l c : Nat} : CallT Pg 22 #[.slice p l c] w fun v w' => v = .bool (decide (l ≤ 1000)) ∧ w' = w := by
  apply call22
  unfold wp22
  refine ⟨?_, rfl⟩
  congr 1
  exact decide_eq_decide.2 (by omega)
def kindN (k : Nat) : Nat × Nat := if k < 5 then (0, 2 ^ k) else if k < 7 then (2, 8 * 2 ^ (k - 5)) else if k < 11 then (3, 2 ^ (k - 7)) else if k < 13 then (4, 8 * 2 ^ (k - 11)) else (6, 8 * 2 ^ (k - 13))
theorem c37 {k : Nat} (hk : k < 15) : CallT Pg 37 #[.int .u8 k] w fun v w' => v = .tuple #[.int .i64 (kindN k).1, .int .i64 (kindN k).2] ∧ Fr [] w w' := by
  apply call37
  obtain rfl | rfl | rfl | rfl | rfl | rfl | rfl | rfl | rfl | rfl | rfl | rfl | rfl | rfl | rfl := (by omega : k = 0 ∨ k = 1 ∨ k = 2 ∨ k = 3 ∨ k = 4 ∨ k = 5 ∨ k = 6 ∨ k = 7 ∨ k = 8 ∨ k = 9 ∨ k = 10 ∨ k = 11 ∨ k = 12 ∨ k = 13 ∨ k = 14)
  all_goals exact ⟨rfl, Fr.drew _ _⟩
theorem zc31 : zc Pg 31 = #[.int .i64 0, .int .i64 0, .int .i64 0, .int .i64 0, .bool false, .slice none 0 0, .slice none 0 0, .slice none 0 0] := by kernel_rfl
theorem ok29 : elOK Pg 29 43 4 32 = true := by kernel_rfl
def drawnC (W H D C : Int) (L : Bool) (s p c : Sl) : Array Value := #[.int .i64 W, .int .i64 H, .int .i64 D, .int .i64 C, .bool L, .slice s.a s.len s.cap, .slice p.a p.len p.cap, .slice c.a c.len c.cap]
/-- The kinds' palette and clear samples. -/
structure DrawnOk (D C : Nat) (pal : List Px) (cl : List Nat) : Prop where
  pal3 : C = 3 → 1 ≤ pal.length ∧ pal.length ≤ 9 ∧ pal.length ≤ 2 ^ D
  paln : C ≠ 3 → pal = []
  cl0 : C ≠ 0 → C ≠ 2 → cl = []
  cll : cl = [] ∨ cl.length = chN C
  clv : ∀ v ∈ cl, v < 2 ^ D
theorem kindN_ok {k : Nat} (hk : k < 15) : ((kindN k).2 = 1 ∨ (kindN k).2 = 2 ∨ (kindN k).2 = 4 ∨ (kindN k).2 = 8 ∨ (kindN k).2 = 16) ∧ (kindN k).1 ≤ 6 := by
  obtain rfl | rfl | rfl | rfl | rfl | rfl | rfl | rfl | rfl | rfl | rfl | rfl | rfl | rfl | rfl := (by omega : k = 0 ∨ k = 1 ∨ k = 2 ∨ k = 3 ∨ k = 4 ∨ k = 5 ∨ k = 6 ∨ k = 7 ∨ k = 8 ∨ k = 9 ∨ k = 10 ∨ k = 11 ∨ k = 12 ∨ k = 13 ∨ k = 14) <;> decide
theorem shl1D {D : Nat} (hD : D = 1 ∨ D = 2 ∨ D = 4 ∨ D = 8 ∨ D = 16) : shlI .i64 (1 : Int) (D : Int) = ((2 ^ D : Nat) : Int) := by
  obtain rfl | rfl | rfl | rfl | rfl := hD <;> rfl
theorem palV_snoc (l : List Px) (d : Px) : palV (l ++ [d]) = palV l ++ dotV d := by simp [palV]
/-- What a drawn image is. -/
def DrawnR (w : World) (D C : Nat) (v : Value) (w' : World) : Prop :=
  ∃ (W H : Nat) (L : Bool) (s p c : Sl) (ns : List Int) (pal : List Px) (cl : List Nat), (1 ≤ W ∧ W ≤ 20) ∧ (1 ≤ H ∧ H ≤ 20) ∧ v = .agg (drawnC W H D C L s p c) ∧ Fr [] w w' ∧
    Own w' (hn w) 3 1 s.a s.len s.cap (i64s ns) ∧ ns.length = W * H * chN C ∧ Own w' (hn w) 43 4 p.a p.len p.cap (palV pal) ∧ Own w' (hn w) 3 1 c.a c.len c.cap (iv cl) ∧ DrawnOk D C pal cl
theorem drawnC_5 (W H D C : Int) (L : Bool) (s p c s' : Sl) : (drawnC W H D C L s p c).setIfInBounds 5 (.slice s'.a s'.len s'.cap) = drawnC W H D C L s' p c := by simp [drawnC]
theorem drawnC_6 (W H D C : Int) (L : Bool) (s p c s' : Sl) : (drawnC W H D C L s p c).setIfInBounds 6 (.slice s'.a s'.len s'.cap) = drawnC W H D C L s s' c := by simp [drawnC]
theorem drawnC_7 (W H D C : Int) (L : Bool) (s p c s' : Sl) : (drawnC W H D C L s p c).setIfInBounds 7 (.slice s'.a s'.len s'.cap) = drawnC W H D C L s p s' := by simp [drawnC]
/-- A number is appended to a field. -/
theorem FieldAdd {S : List Nat} {w0 wc : World} {r i : Nat} {T : TypeId} {arr : Array Value} {p : Option Addr} {l c : Nat} {vs : List Value} {u : Int} (hf : Fr S w0 wc) (hS : hp wc r = Row T arr) (hr : r < hn w0) (hv : arr[i]? = some (.slice p l c)) (ho : Own wc (hn w0) 3 1 p l c vs)
    (hbig : l + 1 ≤ 1099511627776) {K : World → Prop}
    (hK : ∀ p' c' w', hp w' r = Row T (arr.setIfInBounds i (.slice p' (l + 1) c')) → Fr (r :: blkOf p) wc w' → Fr (r :: S) w0 w' → Own w' (hn w0) 3 1 p' (l + 1) c' (vs ++ [.int .i64 u]) → K w') :
    LdSl wc ⟨r, i, none⟩ fun p l c => AllocC wc (.cells #[.int .i64 u] 3) fun r' w2 => LdSl w2 ⟨r, i, none⟩ fun p' l' c' => And ((.slice p' l' c' : Value) = .slice p l c) (AppR Pg w2 #[28, 28] 28 (.slice p l c) (.slice (some ⟨r', 0, none⟩) 1 1) fun p2 l2 c2 w3 => StoreC w3 ⟨r, i, none⟩ (.slice p2 l2 c2) fun w4 => K w4) := by
  have hi : i < arr.size := (Array.getElem?_eq_some_iff.1 hv).1
  refine LdSl_at hS hv ?_
  refine AllocC_at fun w2 h2 f2 n2 => ?_
  have hS2 := f2.row0 hS
  refine LdSl_at hS2 hv ?_
  refine ⟨rfl, ?_⟩
  refine AppR_own2 ok28 (hf.trans (f2.mono (by simp))) (ho.fr0 f2) (Has.of_row h2) rfl (by simp [Value.oneCell']) hbig (by simp) ?_
  intro p' c' w3 F3 f3 ho3 hm
  have hne : ∀ x ∈ blkOf p, hn w0 ≤ x := fun x hx => (ho.blk x hx).1
  have hne' : ∀ x ∈ blkOf p', hn w0 ≤ x := fun x hx => (ho3.blk x hx).1
  have hS3 := f3.row hS2 (fun hx => by have := hne _ hx; omega)
  refine StoreC_at hS3 hi fun w4 h4 f4 n4 => ?_
  refine hK p' c' w4 h4 ((f2.mono (by simp)).trans ((f3.mono (by simp; intro x hx; exact .inr hx)).trans (f4.mono (by simp)))) ((F3.mono (by simp; intro x hx; exact .inr hx)).trans (f4.mono (by simp))) (ho3.fr f4 fun a ha hx => by simp at hx; have := ho3.at ha; omega)
theorem copyD {w : World} {r7 r1 : Nat} {W H D C : Int} {L : Bool} {s p c : Sl} (hS : hp w r7 = Row 31 (drawnC W H D C L s p c)) {v0 v1 v2 v3 v4 v5 v6 v7 : Value} (h1 : hp w r1 = Row 31 #[v0, v1, v2, v3, v4, v5, v6, v7])
    {K : Int → Int → Int → Int → Bool → Option Addr → Nat → Nat → Option Addr → Nat → Nat → Option Addr → Nat → Nat → World → Prop} (hK : ∀ w', Fr [r1] w w' → K W H D C L s.a s.len s.cap p.a p.len p.cap c.a c.len c.cap w') :
    (LdI w ⟨r7, 0, none⟩ .i64 fun (n81 : Int) => LdI w ⟨r7, 0 + 1, none⟩ .i64 fun (n82 : Int) => LdI w ⟨r7, 0 + 2, none⟩ .i64 fun (n83 : Int) => LdI w ⟨r7, 0 + 3, none⟩ .i64 fun (n84 : Int) => LdB w ⟨r7, 0 + 4, none⟩ fun (b85 : Bool) => LdSl w ⟨r7, 0 + 5, none⟩ fun (p86 : Option Addr) (l87 : Nat) (c88 : Nat) => LdSl w ⟨r7, 0 + 6, none⟩ fun (p89 : Option Addr) (l90 : Nat) (c91 : Nat) => LdSl w ⟨r7, 0 + 7, none⟩ fun (p92 : Option Addr) (l93 : Nat) (c94 : Nat) => StoreC w ⟨r1, 0, none⟩ (.int .i64 n81) fun (w95 : World) => StoreC w95 ⟨r1, 0 + 1, none⟩ (.int .i64 n82) fun (w96 : World) => StoreC w96 ⟨r1, 0 + 2, none⟩ (.int .i64 n83) fun (w97 : World) => StoreC w97 ⟨r1, 0 + 3, none⟩ (.int .i64 n84) fun (w98 : World) => StoreC w98 ⟨r1, 0 + 4, none⟩ (.bool b85) fun (w99 : World) => StoreC w99 ⟨r1, 0 + 5, none⟩ (.slice p86 l87 c88) fun (w100 : World) => StoreC w100 ⟨r1, 0 + 6, none⟩ (.slice p89 l90 c91) fun (w101 : World) => StoreC w101 ⟨r1, 0 + 7, none⟩ (.slice p92 l93 c94) fun (w102 : World) => LdI w102 ⟨r1, 0, none⟩ .i64 fun (n103 : Int) => LdI w102 ⟨r1, 0 + 1, none⟩ .i64 fun (n104 : Int) => LdI w102 ⟨r1, 0 + 2, none⟩ .i64 fun (n105 : Int) => LdI w102 ⟨r1, 0 + 3, none⟩ .i64 fun (n106 : Int) => LdB w102 ⟨r1, 0 + 4, none⟩ fun (b107 : Bool) => LdSl w102 ⟨r1, 0 + 5, none⟩ fun (p108 : Option Addr) (l109 : Nat) (c110 : Nat) => LdSl w102 ⟨r1, 0 + 6, none⟩ fun (p111 : Option Addr) (l112 : Nat) (c113 : Nat) => LdSl w102 ⟨r1, 0 + 7, none⟩ fun (p114 : Option Addr) (l115 : Nat) (c116 : Nat) => K n103 n104 n105 n106 b107 p108 l109 c110 p111 l112 c113 p114 l115 c116 w102) := by
  refine LdI_at hS rfl (LdI_at hS rfl (LdI_at hS rfl (LdI_at hS rfl (LdB_at hS rfl (LdSl_at hS rfl (LdSl_at hS rfl (LdSl_at hS rfl ?_)))))))
  refine StoreC_at h1 (by simp) fun w9 h9 f9 n9 => ?_
  refine StoreC_at h9 (by simp) fun w10 h10 f10 n10 => ?_
  refine StoreC_at h10 (by simp) fun w11 h11 f11 n11 => ?_
  refine StoreC_at h11 (by simp) fun w12 h12 f12 n12 => ?_
  refine StoreC_at h12 (by simp) fun w13 h13 f13 n13 => ?_
  refine StoreC_at h13 (by simp) fun w14 h14 f14 n14 => ?_
  refine StoreC_at h14 (by simp) fun w15 h15 f15 n15 => ?_
  refine StoreC_at h15 (by simp) fun w16 h16 f16 n16 => ?_
  have hR : hp w16 r1 = Row 31 (drawnC W H D C L s p c) := by
    simpa [drawnC] using h16
  refine LdI_at hR rfl (LdI_at hR rfl (LdI_at hR rfl (LdI_at hR rfl (LdB_at hR rfl (LdSl_at hR rfl (LdSl_at hR rfl (LdSl_at hR rfl ?_)))))))
  exact hK w16 (f9.trans (f10.trans (f11.trans (f12.trans (f13.trans (f14.trans (f15.trans f16)))))))
/-- What can be read of an argument (its block may hold more). -/
def HasW (w : World) (p : Option Addr) (vs : List Value) : Prop :=
  match p with
  | none => vs = []
  | some a => ∀ (j : Nat) (v : Value), vs[j]? = some v → a.spot = none ∧ w.cell? ⟨a.block, a.off + j, none⟩ = some v
theorem cell_lt {w : World} {b o : Nat} {v : Value} (h : w.cell? ⟨b, o, none⟩ = some v) : b < hn w := by
  rw [cell_hp] at h
  unfold hp at h
  rcases Nat.lt_or_ge b (hn w) with h1 | h1
  · exact h1
  · rw [Array.getElem?_eq_none (by exact h1)] at h
    cases h
theorem HasW.fr0 {w w' : World} {p : Option Addr} {vs : List Value} (h : HasW w p vs) (hf : Fr [] w w') : HasW w' p vs := by
  cases p with
  | none => exact h
  | some a =>
    intro j v hj
    obtain ⟨h0, h1⟩ := h j v hj
    have hlt := cell_lt h1
    refine ⟨h0, ?_⟩
    rw [cell_hp] at h1 ⊢
    rw [hf.hp0 hlt]; exact h1
theorem IdxW {w : World} {p : Option Addr} {vs : List Value} {k : IntKind} (h : HasW w p vs) {i : Int} {l : Nat} (h0 : 0 ≤ i) (h1 : i < l) {n : Int} (hv : vs[i.toNat]? = some (.int k n)) {K : Int → Prop} (hK : K n) :
    And (0 ≤ i ∧ i < (l : Int)) (PtrC p fun a => LdI w (elemAt a i.toNat 1) k K) := by
  refine ⟨⟨h0, h1⟩, ?_⟩
  cases p with
  | none => have : vs = [] := h; subst this; simp at hv
  | some a =>
    obtain ⟨b, o, s⟩ := a
    obtain ⟨hs, hc⟩ := h _ _ hv
    simp only at hs
    subst hs
    rw [PtrC_some, elemAt_one]
    exact ⟨n, hc, hK⟩
theorem c23 {n : Nat} (hn32 : n < 4294967296) {p : Option Addr} {l c : Nat} {ss : List Nat} (hx : HasW w p (ss.map fun (s : Nat) => .int .u16 (s : Int))) (hl : l = ss.length) (hb : l ≤ 1000) :
    CallT Pg 23 #[.int .u32 n, .slice p l c] w (DrawnR w (kindN (n % 15)).2 (kindN (n % 15)).1) := by
  apply call23
  unfold wp23
  refine AllocC_at fun w2 h1 hf1 hn1 => ?_
  refine DivC_of (by decide) ?_
  have hk15 : n % 15 < 15 := by omega
  have e15 : IntKind.wrap .u8 (Int.tmod (n : Int) 15) = ((n % 15 : Nat) : Int) := by
    rw [show Int.tmod (n : Int) 15 = ((n % 15 : Nat) : Int) from tmod_nat n 15, wrap_u8_id (by omega) (by omega)]
  rw [e15]
  refine CallT.mono (c37 hk15) ?_
  rintro _ w4 ⟨rfl, hf4⟩
  refine ⟨_, _, rfl, ?_⟩
  obtain ⟨hD, hC⟩ := kindN_ok hk15
  generalize (kindN (n % 15)).1 = C at *
  generalize (kindN (n % 15)).2 = D at *
  refine ShC_of (by decide) (DivC_of (by decide) (ShC_of (by decide) (DivC_of (by decide) (ShC_of (by decide) ?_))))
  have shr : ∀ (k : Nat), k ≤ 32 → shrI .u32 (n : Int) (k : Int) = ((n / 2 ^ k : Nat) : Int) := by
    intro k hk
    rw [shr_u32 (by omega) (by omega) (by omega)]
    simp
  obtain ⟨W, eW, hW⟩ : ∃ W : Nat, IntKind.wrap .i64 ((1 : Int) + (IntKind.wrap .i64 (Int.tmod (shrI .u32 n (4 : Int)) (20 : Int)))) = W ∧ 1 ≤ W ∧ W ≤ 20 := by
    refine ⟨1 + n / 2 ^ 4 % 20, ?_, by omega, by omega⟩
    rw [show shrI .u32 (n : Int) (4 : Int) = ((n / 2 ^ 4 : Nat) : Int) from shr 4 (by decide), show Int.tmod ((n / 2 ^ 4 : Nat) : Int) 20 = ((n / 2 ^ 4 % 20 : Nat) : Int) from tmod_nat _ 20, wrap_i64_id (n := ((n / 2 ^ 4 % 20 : Nat) : Int)) (by omega) (by omega), wrap_i64_id (by omega) (by omega)]
    omega
  obtain ⟨H, eH, hH⟩ : ∃ W : Nat, IntKind.wrap .i64 ((1 : Int) + (IntKind.wrap .i64 (Int.tmod (shrI .u32 n (9 : Int)) (20 : Int)))) = W ∧ 1 ≤ W ∧ W ≤ 20 := by
    refine ⟨1 + n / 2 ^ 9 % 20, ?_, by omega, by omega⟩
    rw [show shrI .u32 (n : Int) (9 : Int) = ((n / 2 ^ 9 : Nat) : Int) from shr 9 (by decide), show Int.tmod ((n / 2 ^ 9 : Nat) : Int) 20 = ((n / 2 ^ 9 % 20 : Nat) : Int) from tmod_nat _ 20, wrap_i64_id (n := ((n / 2 ^ 9 % 20 : Nat) : Int)) (by omega) (by omega), wrap_i64_id (by omega) (by omega)]
    omega
  rw [eW, eH]
  generalize (bAnd .u32 (shrI .u32 (n : Int) (14 : Int)) (1 : Int) == (1 : Int)) = L
  refine AllocC_at fun w8 h8 hf8 hn8 => ?_
  rw [zc31] at h1 h8
  have F8 := (hf1.trans hf4).trans hf8
  have h1 := hf8.row0 (hf4.row0 h1)
  have hr : hn w4 = hn w + 1 ∨ hn w + 1 ≤ hn w4 := by have := hf4.size; omega
  generalize hn w4 = r7 at *
  refine StoreC_at h8 (by simp) fun w9 h9 f9 n9 => ?_
  refine StoreC_at h9 (by simp) fun w10 h10 f10 n10 => ?_
  refine StoreC_at h10 (by simp) fun w11 h11 f11 n11 => ?_
  refine StoreC_at h11 (by simp) fun w12 h12 f12 n12 => ?_
  refine StoreC_at h12 (by simp) fun w13 h13 f13 n13 => ?_
  refine StoreC_at h13 (by simp) fun w14 h14 f14 n14 => ?_
  refine StoreC_at h14 (by simp) fun w15 h15 f15 n15 => ?_
  refine StoreC_at h15 (by simp) fun w16 h16 f16 n16 => ?_
  have hr' : hn w ≤ r7 := by omega
  have F16 : Fr [] w w16 := (((((((F8.new1 f9 hr').new1 f10 hr').new1 f11 hr').new1 f12 hr').new1 f13 hr').new1 f14 hr').new1 f15 hr').new1 f16 hr'
  have F816 : Fr [r7] w8 w16 := f9.trans (f10.trans (f11.trans (f12.trans (f13.trans (f14.trans (f15.trans f16))))))
  have h1 := F816.row1 h1 (by omega)
  have hS : hp w16 r7 = Row 31 (drawnC W H D C L ⟨none, 0, 0⟩ ⟨none, 0, 0⟩ ⟨none, 0, 0⟩) := by
    simpa [drawnC] using h16
  have hn16 : r7 < hn w16 := hp_lt hS
  clear h8 h9 h10 h11 h12 h13 h14 h15 h16 f9 f10 f11 f12 f13 f14 f15 f16 n9 n10 n11 n12 n13 n14 n15 n16 hf8 hf4 hf1 F8 F816 hn1 hn8
  refine DrewC_at fun w17 hf17 _ => ?_
  have F17 := F16.trans hf17
  have hS := hf17.row0 hS
  have h1 := hf17.row0 h1
  have hn17 : r7 < hn w17 := hp_lt hS
  clear hn16 F16 hf17
  refine ShC_of (by omega) ?_
  refine CallT.mono c38n ?_
  rintro _ w17 ⟨rfl, rfl⟩
  refine ⟨_, rfl, ?_⟩
  have hcN := chN_le C
  -- the join behind the palette
  refine JoinC_of (fun z w' => Fr [] w w' ∧ Fr [r7] w17 w' ∧ ∃ (top : Nat) (p : Sl) (pal : List Px), z.1 = top ∧ 1 ≤ top ∧ top ≤ 2 ^ D ∧ hp w' r7 = Row 31 (drawnC W H D C L ⟨none, 0, 0⟩ p ⟨none, 0, 0⟩) ∧
    Own w' (hn w17) 43 4 p.a p.len p.cap (palV pal) ∧ (C = 3 → 1 ≤ pal.length ∧ pal.length ≤ 9 ∧ pal.length ≤ 2 ^ D) ∧ (C ≠ 3 → pal = [])) ?_ ?_
  · rintro ⟨_, ⟨⟩⟩ w22 ⟨F22, f22, top, pl, pal, rfl, ht1, htD, hS22, hop, hp3, hpn⟩
    dsimp only
    have h1 := f22.row1 h1 (by omega)
    refine LdI_at hS22 rfl (LdI_at hS22 rfl ?_)
    have hWH : W * H ≤ 20 * 20 := Nat.mul_le_mul hW.2 hH.2
    have hWHC : W * H * chN C ≤ 400 * 4 := Nat.mul_le_mul hWH hcN.2
    have eN : IntKind.wrap .i64 (IntKind.wrap .i64 ((W : Int) * (H : Int)) * (chN C : Int)) = ((W * H * chN C : Nat) : Int) := by
      rw [← Int.natCast_mul, wrap_i64_id (n := ((W * H : Nat) : Int)) (by omega) (by omega), ← Int.natCast_mul, wrap_i64_id (by omega) (by omega)]
    rw [eN]
    generalize hN : W * H * chN C = N at *
    have hn22 : r7 < hn w22 := hp_lt hS22
    refine LoopC_of (fun z w' => Fr [] w w' ∧ Fr [r7] w22 w' ∧ ∃ (k : Nat) (s : Sl) (ns : List Int), z.1 = k ∧ k ≤ N ∧ ns.length = k ∧ s.len = k ∧ hp w' r7 = Row 31 (drawnC W H D C L s pl ⟨none, 0, 0⟩) ∧ Own w' (hn w22) 3 1 s.a s.len s.cap (i64s ns)) (fun z _ => N - z.1.toNat)
      ⟨F22, Fr.refl _ _, 0, ⟨none, 0, 0⟩, [], rfl, by omega, rfl, rfl, hS22, Own.nil _ _ _ _⟩ ?_
    rintro ⟨_, ⟨⟩⟩ w27 ⟨F27, f27, k, s, ns, rfl, hkN, hns, hsl, hS27, hos⟩
    dsimp only
    refine IfC_dec (fun hlt => ?_) (fun hge => ?_)
    · have add : ∀ (v : Int) (wd : World), Fr [] w27 wd → DivC (top : Int) (LdSl wd ⟨r7, 0 + 5, none⟩ fun (p33 : Option Addr) (l34 : Nat) (c35 : Nat) => AllocC wd (.cells #[.int .i64 (Int.tmod v top)] 3) fun (r36 : Nat) (w37 : World) => LdSl w37 ⟨r7, 0 + 5, none⟩ fun (p38 : Option Addr) (l39 : Nat) (c40 : Nat) => And ((.slice p38 l39 c40 : Value) = .slice p33 l34 c35) (AppR Pg w37 #[28, 28] 28 (.slice p33 l34 c35) (.slice (some ⟨r36, 0, none⟩) 1 1) fun (p41 : Option Addr) (l42 : Nat) (c43 : Nat) (w44 : World) => StoreC w44 ⟨r7, 0 + 5, none⟩ (.slice p41 l42 c43) fun (w45 : World) => 
          (Fr [] w w45 ∧ Fr [r7] w22 w45 ∧ ∃ (k' : Nat) (s : Sl) (ns : List Int), IntKind.wrap .i64 ((k : Int) + (1 : Int)) = k' ∧ k' ≤ N ∧ ns.length = k' ∧ s.len = k' ∧ hp w45 r7 = Row 31 (drawnC W H D C L s pl ⟨none, 0, 0⟩) ∧ Own w45 (hn w22) 3 1 s.a s.len s.cap (i64s ns)) ∧ N - (IntKind.wrap .i64 ((k : Int) + (1 : Int))).toNat < N - (k : Int).toNat)) := by
        intro v wd hwd
        refine DivC_of (by omega) ?_
        refine FieldAdd (w0 := w22) (S := [r7]) (f27.trans (hwd.mono (by simp))) (hwd.row0 hS27) hn22 rfl (hos.fr0 hwd) (by omega) ?_
        intro p' c' w' hS' f' F' ho'
        rw [wrap_i64_id (by omega) (by omega)]
        refine ⟨⟨F27.trans' (hwd.mono (by simp) |>.trans f') ?_, F'.mono (by simp), k + 1, ⟨p', s.len + 1, c'⟩, ns ++ [Int.tmod v top], by simp, by omega, by simp [hns], by simp [hsl], ?_, ?_⟩, by omega⟩
        · intro x hx hlt
          simp at hx
          rcases hx with rfl | hx
          · omega
          · have := (hos.blk x hx).1; have := F22.size; omega
        · rw [hS']; exact congrArg (Row 31) (drawnC_5 _ _ _ _ _ _ _ _ ⟨p', s.len + 1, c'⟩)
        · simpa [i64s] using ho'
      refine IfC_dec (fun hpos => ?_) (fun hneg => ?_)
      · refine DivC_of (by omega) ?_
        rw [show Int.tmod (k : Int) (l : Int) = ((k % l : Nat) : Int) from tmod_nat k l]
        have hml : k % l < l := Nat.mod_lt _ (by omega)
        refine IdxW (hx.fr0 F27) (by omega) (by omega) (n := ((ss[k % l]'(by omega) : Nat) : Int)) (by rw [Int.toNat_natCast, List.getElem?_map, List.getElem?_eq_getElem (by omega)]; rfl) ?_
        refine DrewC_at fun wd hwd _ => ?_
        exact add _ wd hwd
      · refine DrewC_at fun wd hwd _ => ?_
        exact add _ wd hwd
    · have hkN' : k = N := by omega
      have fin : ∀ (wd : World) (cs : Sl) (cl : List Nat), Fr [] w wd → Fr [r7] w27 wd → Own wd (hn w27) 3 1 cs.a cs.len cs.cap (iv cl) → DrawnOk D C pal cl → ∀ w'', Fr [hn w] wd w'' → DrawnR w D C (.agg (drawnC W H D C L s pl cs)) w'' := by
        intro wd cs cl Fd fd hoc hok w'' f''
        have hs22 := F22.size
        have hs17 := F17.size
        have hs27 := F27.size
        have h2227 := f27.size
        refine ⟨W, H, L, s, pl, cs, ns, pal, cl, hW, hH, rfl, Fd.new1 f'' (Nat.le_refl _), ?_, by omega, ?_, ?_, hok⟩
        · have := (hos.fr fd fun a ha hx => by simp at hx; have := hos.at ha; omega)
          exact (this.fr f'' fun a ha hx => by simp at hx; have := hos.at ha; omega).base_le hs22
        · have h2 := (hop.fr f27 fun a ha hx => by simp at hx; have := hop.at ha; omega)
          have h3 := (h2.fr fd fun a ha hx => by simp at hx; have := hop.at ha; omega)
          exact (h3.fr f'' fun a ha hx => by simp at hx; have := hop.at ha; omega).base_le hs17
        · exact (hoc.fr f'' fun a ha hx => by simp at hx; have := hoc.at ha; omega).base_le hs27
      have h1d : ∀ wd, Fr [r7] w27 wd → hp wd (hn w) = Row 31 _ := fun wd f => f.row1 (f27.row1 h1 (by omega)) (by omega)
      refine JoinC_of (fun z w' => w' = w27 ∧ (z.1 = true → C = 0 ∨ C = 2)) ?_ ?_
      · rintro ⟨z, ⟨⟩⟩ wj ⟨rfl, hz⟩
        dsimp only at *
        refine IfC_bool (fun hzt => ?_) (fun hzf => ?_)
        · have hn27 : r7 < hn wj := hp_lt hS27
          have hC02 := hz hzt
          refine LoopC_of (fun z w' => Fr [] w w' ∧ Fr [r7] wj w' ∧ ∃ (k : Nat) (cs : Sl) (cl : List Nat), z.1 = k ∧ k ≤ chN C ∧ cl.length = k ∧ cs.len = k ∧ hp w' r7 = Row 31 (drawnC W H D C L s pl cs) ∧ Own w' (hn wj) 3 1 cs.a cs.len cs.cap (iv cl) ∧ ∀ v ∈ cl, v < top) (fun z _ => chN C - z.1.toNat)
            ⟨F27, Fr.refl _ _, 0, ⟨none, 0, 0⟩, [], rfl, by omega, rfl, rfl, hS27, Own.nil _ _ _ _, by simp⟩ ?_
          rintro ⟨_, ⟨⟩⟩ w64 ⟨F64, f64, j, cs, cl, rfl, hjN, hcl, hcsl, hS64, hoc, hcv⟩
          dsimp only
          refine IfC_dec (fun hlt => ?_) (fun hge => ?_)
          · refine DrewC_at fun wd hwd _ => ?_
            refine ShC_of (by decide) (DivC_of (by decide) (DivC_of (by omega) ?_))
            have e21 : Int.tmod (shrI .u32 (n : Int) (21 : Int)) 8 = ((n / 2 ^ 21 % 8 : Nat) : Int) := by
              rw [show shrI .u32 (n : Int) (21 : Int) = ((n / 2 ^ 21 : Nat) : Int) from shr 21 (by decide), show Int.tmod ((n / 2 ^ 21 : Nat) : Int) 8 = ((n / 2 ^ 21 % 8 : Nat) : Int) from tmod_nat _ 8]
            have ev : Int.tmod (IntKind.wrap .i64 ((IntKind.wrap .i64 ((j : Int) * (5 : Int))) + (IntKind.wrap .i64 (Int.tmod (shrI .u32 (n : Int) (21 : Int)) (8 : Int))))) (top : Int) = (((j * 5 + n / 2 ^ 21 % 8) % top : Nat) : Int) := by
              rw [e21, wrap_i64_id (n := (j : Int) * 5) (by omega) (by omega), wrap_i64_id (n := ((n / 2 ^ 21 % 8 : Nat) : Int)) (by omega) (by omega), wrap_i64_id (by omega) (by omega), ← tmod_nat]
              congr 1
            rw [ev]
            refine FieldAdd (w0 := wj) (S := [r7]) (f64.trans (hwd.mono (by simp))) (hwd.row0 hS64) hn27 rfl (hoc.fr0 hwd) (by omega) ?_
            intro p' c' w' hS' f' F' ho'
            rw [wrap_i64_id (by omega) (by omega)]
            have hmt : (j * 5 + n / 2 ^ 21 % 8) % top < top := Nat.mod_lt _ (by omega)
            refine ⟨⟨F64.trans' (hwd.mono (by simp) |>.trans f') ?_, F'.mono (by simp), j + 1, ⟨p', cs.len + 1, c'⟩, cl ++ [(j * 5 + n / 2 ^ 21 % 8) % top], by simp, by omega, by simp [hcl], by simp [hcsl], ?_, ?_, ?_⟩, by omega⟩
            · intro x hx hlt
              simp at hx
              rcases hx with rfl | hx
              · omega
              · have := (hoc.blk x hx).1; have := F27.size; omega
            · rw [hS']; exact congrArg (Row 31) (drawnC_7 _ _ _ _ _ _ _ _ ⟨p', cs.len + 1, c'⟩)
            · simpa [iv] using ho'
            · intro v hv
              rcases List.mem_append.1 hv with h | h
              · exact hcv v h
              · exact (List.mem_singleton.1 h) ▸ hmt
          · refine copyD hS64 (h1d _ f64) fun w'' f'' => ?_
            refine fin w64 cs cl F64 f64 hoc ⟨hp3, hpn, fun h0 h2 => by omega, .inr (by omega), fun v hv => by have := hcv v hv; omega⟩ w'' f''
        · refine copyD hS27 (h1d _ (Fr.refl _ _)) fun w'' f'' => ?_
          exact fin wj ⟨none, 0, 0⟩ [] F27 (Fr.refl _ _) (Own.nil _ _ _ _) ⟨hp3, hpn, fun _ _ => rfl, .inl rfl, by simp⟩ w'' f''
      · intro J62 hJ
        refine IfC_bool (fun h0 => ?_) (fun h0 => ?_)
        · exact ShC_of (by decide) (hJ _ _ ⟨rfl, fun _ => .inl (by have := eq_of_beq h0; omega)⟩)
        · refine IfC_bool (fun h2 => ?_) (fun h2 => ?_)
          · exact ShC_of (by decide) (hJ _ _ ⟨rfl, fun _ => .inr (by have := eq_of_beq h2; omega)⟩)
          · exact hJ _ _ ⟨rfl, fun h => by cases h⟩
  · intro J23 hJ23
    have hD16 : 2 ^ D ≤ 2 ^ 16 := Nat.pow_le_pow_right (by omega) (by omega)
    have hD1 : 1 ≤ 2 ^ D := Nat.one_le_two_pow
    rw [shl1D hD]
    refine IfC_bool (fun h3 => ?_) (fun h3 => ?_)
    · have hC3 : C = 3 := by have := eq_of_beq h3; omega
      refine ShC_of (by decide) (DivC_of (by decide) ?_)
      obtain ⟨m, em, hm1, hm9, hmD⟩ : ∃ m : Nat, minI ((2 ^ D : Nat) : Int) (IntKind.wrap .i64 ((1 : Int) + (IntKind.wrap .i64 (Int.tmod (shrI .u32 (n : Int) (15 : Int)) (9 : Int))))) = m ∧ 1 ≤ m ∧ m ≤ 9 ∧ m ≤ 2 ^ D := by
        refine ⟨min (2 ^ D) (1 + n / 2 ^ 15 % 9), ?_, by omega, by omega, by omega⟩
        rw [show shrI .u32 (n : Int) (15 : Int) = ((n / 2 ^ 15 : Nat) : Int) from shr 15 (by decide), show Int.tmod ((n / 2 ^ 15 : Nat) : Int) 9 = ((n / 2 ^ 15 % 9 : Nat) : Int) from tmod_nat _ 9, wrap_i64_id (n := ((n / 2 ^ 15 % 9 : Nat) : Int)) (by omega) (by omega), wrap_i64_id (by omega) (by omega), ← minI_nat]
        congr 1
      rw [em]
      refine LoopC_of (fun z w' => Fr [] w w' ∧ Fr [r7] w17 w' ∧ ∃ (k : Nat) (p : Sl) (pal : List Px), z.1 = k ∧ k ≤ m ∧ pal.length = k ∧ p.len = k ∧ hp w' r7 = Row 31 (drawnC W H D C L ⟨none, 0, 0⟩ p ⟨none, 0, 0⟩) ∧ Own w' (hn w17) 43 4 p.a p.len p.cap (palV pal)) (fun z _ => m - z.1.toNat)
        ⟨F17, Fr.refl _ _, 0, ⟨none, 0, 0⟩, [], rfl, by omega, rfl, rfl, hS, Own.nil _ _ _ _⟩ ?_
      rintro ⟨_, ⟨⟩⟩ w54 ⟨F54, f54, k, p, pal, rfl, hkm, hpl, hpsl, hS54, hop⟩
      dsimp only
      refine IfC_dec (fun hlt => ?_) (fun hge => ?_)
      · refine JoinC_of (fun z w' => w' = w54 ∧ ∃ a : UInt8, z.1 = ((257 * a.toNat : Nat) : Int)) ?_ ?_
        · rintro ⟨_, ⟨⟩⟩ wj ⟨rfl, a, rfl⟩
          dsimp only
          refine LdSl_at hS54 rfl ?_
          refine DivC_of (by decide) (DivC_of (by decide) ?_)
          have e1 : IntKind.wrap .i64 ((257 : Int) * (Int.tmod (IntKind.wrap .i64 ((k : Int) * (31 : Int))) (256 : Int))) = ((257 * (UInt8.ofNat (k * 31)).toNat : Nat) : Int) := by
            rw [wrap_i64_id (n := (k : Int) * 31) (by omega) (by omega), show ((k : Int) * 31) = ((k * 31 : Nat) : Int) by omega, show Int.tmod ((k * 31 : Nat) : Int) 256 = ((k * 31 % 256 : Nat) : Int) from tmod_nat _ 256, wrap_i64_id (by omega) (by omega), UInt8.toNat_ofNat']
            omega
          have e2 : IntKind.wrap .i64 ((257 : Int) * (Int.tmod (IntKind.wrap .i64 ((k : Int) * (7 : Int))) (256 : Int))) = ((257 * (UInt8.ofNat (k * 7)).toNat : Nat) : Int) := by
            rw [wrap_i64_id (n := (k : Int) * 7) (by omega) (by omega), show ((k : Int) * 7) = ((k * 7 : Nat) : Int) by omega, show Int.tmod ((k * 7 : Nat) : Int) 256 = ((k * 7 % 256 : Nat) : Int) from tmod_nat _ 256, wrap_i64_id (by omega) (by omega), UInt8.toNat_ofNat']
            omega
          have e3 : IntKind.wrap .i64 ((257 : Int) * (IntKind.wrap .i64 ((255 : Int) - (k : Int)))) = ((257 * (UInt8.ofNat (255 - k)).toNat : Nat) : Int) := by
            rw [wrap_i64_id (n := (255 : Int) - (k : Int)) (by omega) (by omega), wrap_i64_id (by omega) (by omega), UInt8.toNat_ofNat']
            omega
          rw [e1, e2, e3]
          generalize UInt8.ofNat (k * 31) = r, UInt8.ofNat (k * 7) = g, UInt8.ofNat (255 - k) = b
          refine AppLit2 (S := [r7]) (w0 := w17) ok29 f54 hop (cs := (dotV (r, g, b, a)).toArray) (m := 1) rfl (by simp [dotV, Value.oneCell']) (by omega) ?_
          intro p' c' w4 F4 f4 ho4 _
          have hS4 := f4.row hS54 (fun hx => by have := (hop.blk _ hx).1; omega)
          refine StoreC_at hS4 (by simp [drawnC]) fun w5 h5 f5 n5 => ?_
          rw [wrap_i64_id (by omega) (by omega)]
          refine ⟨⟨F54.trans' (S' := r7 :: blkOf p.a) ((f4.mono (by simp; intro x hx; exact .inr hx)).trans (f5.mono (by simp))) ?_, F4.trans f5, k + 1, ⟨p', p.len + 1, c'⟩, pal ++ [(r, g, b, a)], by simp, by omega, by simp [hpl], by simp [hpsl], ?_, ?_⟩, by omega⟩
          · intro x hx hlt
            simp at hx
            rcases hx with rfl | hx
            · omega
            · have := (hop.blk x hx).1; have := F17.size; omega
          · rw [h5]; exact congrArg (Row 31) (drawnC_6 _ _ _ _ _ _ _ _ ⟨p', p.len + 1, c'⟩)
          · rw [palV_snoc]
            exact (by simpa using ho4 : Own w4 (hn w17) 43 4 p' (p.len + 1) c' (palV pal ++ dotV (r, g, b, a))).fr f5 fun a ha hx => by simp at hx; have := ho4.at ha; omega
        · intro J hJ
          refine ShC_of (by decide) (IfC_bool (fun _ => ?_) (fun _ => ?_))
          · refine DivC_of (by decide) (hJ _ _ ⟨rfl, UInt8.ofNat (255 - 40 * k % 256), ?_⟩)
            rw [wrap_i64_id (n := (40 : Int) * (k : Int)) (by omega) (by omega), show (40 : Int) * (k : Int) = ((40 * k : Nat) : Int) by omega, show Int.tmod ((40 * k : Nat) : Int) 256 = ((40 * k % 256 : Nat) : Int) from tmod_nat _ 256, wrap_i64_id (n := (255 : Int) - ((40 * k % 256 : Nat) : Int)) (by omega) (by omega), wrap_i64_id (by omega) (by omega), UInt8.toNat_ofNat']
            omega
          · exact hJ _ _ ⟨rfl, 255, rfl⟩
      · refine LdSl_at hS54 rfl ?_
        refine hJ23 _ _ ⟨F54, f54, p.len, p, pal, rfl, by omega, by omega, hS54, hop, fun _ => ⟨by omega, by omega, by omega⟩, fun h => absurd hC3 h⟩
    · have hC3 : C ≠ 3 := fun e => by subst e; simp at h3
      exact hJ23 _ _ ⟨F17, Fr.refl _ _, 2 ^ D, ⟨none, 0, 0⟩, [], rfl, hD1, Nat.le_refl _, hS, Own.nil _ _ _ _, fun e => absurd e hC3, fun _ => rfl⟩
theorem zc75 : zc Pg 75 = #[.slice none 0 0, .int .i64 0, .int .i64 0, .slice none 0 0] := by kernel_rfl
/-- A file of an image. -/
def FileR (w : World) (W H D C : Nat) (L : Bool) (pal : List Px) (cl : List Nat) (v : Value) (w' : World) : Prop :=
  ∃ fs xs zs ds, fs.length = 3 ∧ RowsOf (lens W H D C L) (filt fs) xs ∧ ZlibOf xs zs ∧ ds.flatten = zs ∧ (∀ d ∈ ds, d ≠ []) ∧ zs.length ≤ 2097152 ∧ RetB w (fileL (foreL W H D C L pal cl ++ datL ds ++ [(nIEND, [])])) v w'
theorem own_some {base e l c : Nat} {p : Option Addr} {vs : List Value} (h : Own w base e 1 p l c vs) (hl : 0 < l) : ∃ b, p = some ⟨b, 0, none⟩ ∧ l ≤ c := by
  rcases h with ⟨_, ⟨rfl, rfl, _⟩ | ⟨g, arr, rfl, _, _, hlc, _⟩⟩
  · omega
  · exact ⟨g, rfl, hlc⟩
theorem c24 {m : Nat} (hm : m < 4294967296) {W H D C : Nat} {L : Bool} {s p c : Sl} {ns : List Int} {pal : List Px} {cl : List Nat} (hW : 1 ≤ W ∧ W ≤ 20) (hH : 1 ≤ H ∧ H ≤ 20) (hD : D = 1 ∨ D = 2 ∨ D = 4 ∨ D = 8 ∨ D = 16) {base : Nat}
    (hos : Own w base 3 1 s.a s.len s.cap (i64s ns)) (hnn : ns.length = W * H * chN C) (hop : Own w base 43 4 p.a p.len p.cap (palV pal)) (hoc : Own w base 3 1 c.a c.len c.cap (iv cl)) (hok : DrawnOk D C pal cl) :
    CallT Pg 24 #[.agg (drawnC W H D C L s p c), .int .u32 m] w (FileR w W H D C L pal cl) := by
  have hcN := chN_le C
  have hsl : s.len = ns.length := by have := hos.1; simp [i64s] at this; omega
  have hpl : p.len = pal.length := by
    have h1 := hop.1
    have h2 : (palV pal).length = 4 * pal.length := by
      clear hop hok h1
      induction pal with
      | nil => rfl
      | cons d r ih => simp only [palV, List.flatMap_cons, List.length_append, dotV, List.length_cons, List.length_nil] at *; omega
    omega
  have hcl : c.len = cl.length := by have := hoc.1; simp [iv] at this; omega
  have hpos : 1 ≤ W * H * chN C := Nat.mul_le_mul (Nat.mul_le_mul hW.1 hH.1) hcN.1
  obtain ⟨bs, hbs, hsc⟩ := own_some hos (by omega)
  have hpal9 : pal.length ≤ 9 := by
    by_cases h : C = 3
    · exact (hok.pal3 h).2.1
    · rw [hok.paln h]; simp
  have hcl4 : cl.length ≤ 4 := by
    rcases hok.cll with h | h
    · rw [h]; simp
    · omega
  apply call24
  unfold wp24
  refine AllocC_at fun w2 h1 f1 n1 => ?_
  refine ShC_of (by decide) (ShC_of (by decide) (ShC_of (by decide) ?_))
  obtain ⟨y1, e1⟩ := u8_wrap (shrI .u32 (m : Int) (3 : Int))
  obtain ⟨y2, e2⟩ := u8_wrap (shrI .u32 (m : Int) (6 : Int))
  obtain ⟨y3, e3⟩ := u8_wrap (shrI .u32 (m : Int) (9 : Int))
  rw [e1, e2, e3]
  refine AllocC_at fun w4 h3 f3 n3 => ?_
  refine ShC_of (by decide) (DivC_of (by decide) (ShC_of (by decide) (DivC_of (by decide) ?_)))
  have shr : ∀ (k : Nat), k ≤ 32 → shrI .u32 (m : Int) (k : Int) = ((m / 2 ^ k : Nat) : Int) := by
    intro k hk
    rw [shr_u32 (by omega) (by omega) (by omega)]
    simp
  obtain ⟨size, eS, hS⟩ : ∃ z : Nat, IntKind.wrap .i64 ((50 : Int) + (IntKind.wrap .i64 (Int.tmod (shrI .u32 (m : Int) (12 : Int)) (200 : Int)))) = z ∧ z ≤ 250 := by
    refine ⟨50 + m / 2 ^ 12 % 200, ?_, by omega⟩
    rw [show shrI .u32 (m : Int) (12 : Int) = ((m / 2 ^ 12 : Nat) : Int) from shr 12 (by decide), show Int.tmod ((m / 2 ^ 12 : Nat) : Int) 200 = ((m / 2 ^ 12 % 200 : Nat) : Int) from tmod_nat _ 200, wrap_i64_id (n := ((m / 2 ^ 12 % 200 : Nat) : Int)) (by omega) (by omega), wrap_i64_id (by omega) (by omega)]
    omega
  obtain ⟨ways, eY⟩ : ∃ z : Nat, IntKind.wrap .i64 (Int.tmod (shrI .u32 (m : Int) (20 : Int)) (8 : Int)) = z := by
    refine ⟨m / 2 ^ 20 % 8, ?_⟩
    rw [show shrI .u32 (m : Int) (20 : Int) = ((m / 2 ^ 20 : Nat) : Int) from shr 20 (by decide), show Int.tmod ((m / 2 ^ 20 : Nat) : Int) 8 = ((m / 2 ^ 20 % 8 : Nat) : Int) from tmod_nat _ 8, wrap_i64_id (by omega) (by omega)]
  rw [eS, eY]
  refine AllocC_at fun w6 h5 f5 n5 => ?_
  rw [zc75] at h5
  refine StoreC_at h5 (by simp) fun w7 h7 f7 n7 => ?_
  refine StoreC_at h7 (by simp) fun w8 h8 f8 n8 => ?_
  refine StoreC_at h8 (by simp) fun w9 h9 f9 n9 => ?_
  refine StoreC_at h9 (by simp) fun w10 h10 f10 n10 => ?_
  have F10 : Fr [] w w10 := (((((f1.trans f3).trans f5).new1 f7 (by omega)).new1 f8 (by omega)).new1 f9 (by omega)).new1 f10 (by omega)
  have G10 : Fr [hn w4] w4 w10 := (f5.mono (by simp)).trans (f7.trans (f8.trans (f9.trans f10)))
  have h1 := G10.row1 (f3.row0 h1) (by omega)
  have h3 := G10.row1 h3 (by omega)
  have h5 : hp w10 (hn w4) = Row 75 #[.slice (some ⟨hn w2, 0, none⟩) 3 3, .int .i64 size, .int .i64 ways, .slice none 0 0] := by simpa using h10
  have hn10 : hn w4 < hn w10 := hp_lt h5
  generalize hn w4 = r5 at *
  generalize hr3 : hn w2 = r3 at *
  have hfin : ∀ (wd : World) (up : Option Addr) (us : List UInt8) (uc : Nat), Fr [] w wd → hp wd (hn w) = Row 31 (drawnC W H D C L s p c) → hp wd r3 = Row 5 #[u8v y1, u8v y2, u8v y3] → Has wd up (bv us) → us.length < 65536 → (∀ u ∈ us, 1 ≤ u.toNat) →
      CallT Pg 39 #[shp W H D C L, .slice s.a s.len s.cap, .slice p.a p.len p.cap, .slice c.a c.len c.cap, .agg #[.slice (some ⟨r3, 0, none⟩) 3 3, .int .i64 size, .int .i64 ways, .slice up us.length uc], .slice none 0 0, .slice none 0 0] wd fun v w' => Exists fun (p65 : Option Addr) => Exists fun (l66 : Nat) => Exists fun (c67 : Nat) => And (v = .slice p65 l66 c67) (FileR w W H D C L pal cl (.slice p65 l66 c67) w') := by
    intro wd up us uc Fd hd1 hd3 hu hul hu1
    have hxd := (hos.fr0 Fd).has
    rw [hbs] at hxd ⊢
    rw [hpl, hcl]
    refine CallT.mono (c39 (W := W) (H := H) (D := D) (C := C) (fs := [y1, y2, y3]) ⟨hW.1, by omega⟩ ⟨hH.1, by omega⟩ hD hxd hsl hnn hsc ((hop.fr0 Fd).has) (by omega) ((hoc.fr0 Fd).has) (by omega) (Has.of_row hd3) (by simp) (by omega) hu hul hu1) ?_
    rintro _ w' ⟨xs, zs, ds, hr, hz, hd, hne, hzl, hf, q, qc, rfl, ho⟩
    exact ⟨_, _, _, rfl, [y1, y2, y3], xs, zs, ds, rfl, hr, hz, hd, hne, hzl, Fd.trans hf, q, qc, rfl, ho.base_le Fd.size⟩
  refine ShC_of (by decide) (IfC_bool (fun _ => ?_) (fun _ => ?_))
  · refine ShC_of (by decide) ?_
    refine AllocC_at fun w12 h11 f11 n11 => ?_
    refine StoreC_at (f11.row0 h5) (by simp) fun w13 h13 f13 n13 => ?_
    have h5' : hp w13 r5 = Row 75 #[.slice (some ⟨r3, 0, none⟩) 3 3, .int .i64 size, .int .i64 ways, .slice (some ⟨hn w10, 0, none⟩) 2 2] := by simpa using h13
    have h1' := f13.row1 (f11.row0 h1) (by omega)
    have h3' := f13.row1 (f11.row0 h3) (by omega)
    have h11' := f13.row1 h11 (by omega)
    refine LdI_at h1' rfl (LdI_at h1' rfl (LdI_at h1' rfl (LdI_at h1' rfl (LdB_at h1' rfl (LdSl_at h1' rfl (LdSl_at h1' rfl (LdSl_at h1' rfl ?_)))))))
    refine LdSl_at h5' rfl (LdI_at h5' rfl (LdI_at h5' rfl (LdSl_at h5' rfl ?_)))
    have eu : ∃ u : UInt8, Value.int .u8 (IntKind.wrap .u8 ((IntKind.wrap .u8 (shrI .u32 (m : Int) (25 : Int))) + (1 : Int))) = u8v u ∧ 1 ≤ u.toNat := by
      refine ⟨UInt8.ofNat (m / 2 ^ 25 + 1), ?_, by rw [UInt8.toNat_ofNat']; omega⟩
      rw [show shrI .u32 (m : Int) (25 : Int) = ((m / 2 ^ 25 : Nat) : Int) from shr 25 (by decide), wrap_u8_id (n := ((m / 2 ^ 25 : Nat) : Int)) (by omega) (by omega), wrap_u8_id (by omega) (by omega)]
      simp only [u8v, UInt8.toNat_ofNat']
      congr 1; omega
    obtain ⟨u, eu, hu1⟩ := eu
    rw [eu] at h11'
    exact hfin w13 _ [u, 5] 2 ((F10.trans f11).new1 f13 (by omega)) h1' h3' (Has.of_row h11') (by simp) (by intro x hx; simp at hx; rcases hx with rfl | rfl <;> first | exact hu1 | decide)
  · refine LdI_at h1 rfl (LdI_at h1 rfl (LdI_at h1 rfl (LdI_at h1 rfl (LdB_at h1 rfl (LdSl_at h1 rfl (LdSl_at h1 rfl (LdSl_at h1 rfl ?_)))))))
    refine LdSl_at h5 rfl (LdI_at h5 rfl (LdI_at h5 rfl (LdSl_at h5 rfl ?_)))
    exact hfin w10 none [] 0 F10 h1 h3 rfl (by simp) (by simp)
theorem c27 {n : Nat} (hn32 : n < 4294967296) {p : Option Addr} {l c : Nat} {ss : List Nat} (hx : HasW w p (ss.map fun (s : Nat) => .int .u16 (s : Int))) (hl : l = ss.length) (hb : l ≤ 1000) :
    CallT Pg 27 #[.int .u32 n, .slice p l c] w fun v w' => ∃ W H L pal cl, (1 ≤ W ∧ W ≤ 20) ∧ (1 ≤ H ∧ H ≤ 20) ∧ DrawnOk (kindN (n % 15)).2 (kindN (n % 15)).1 pal cl ∧ FileR w W H (kindN (n % 15)).2 (kindN (n % 15)).1 L pal cl v w' := by
  apply call27
  unfold wp27
  refine CallT.mono (c23 hn32 hx hl hb) ?_
  rintro _ w2 ⟨W, H, L, s, pl, cs, ns, pal, cl, hW, hH, rfl, hf, hos, hnn, hop, hoc, hok⟩
  refine ⟨_, _, _, _, _, _, _, _, _, _, _, _, _, _, rfl, ?_⟩
  obtain ⟨m, em, hm⟩ : ∃ m : Nat, IntKind.wrap .u32 ((IntKind.wrap .u32 ((n : Int) * (2654435761 : Int))) + (7 : Int)) = m ∧ m < 4294967296 := by
    refine ⟨(IntKind.wrap .u32 ((IntKind.wrap .u32 ((n : Int) * (2654435761 : Int))) + (7 : Int))).toNat, ?_, ?_⟩ <;> rw [wrap_u32] <;> omega
  rw [em]
  refine CallT.mono (c24 hm hW hH (kindN_ok (by omega)).1 hos hnn hop hoc hok) ?_
  rintro _ w' ⟨fs, xs, zs, ds, hfs, hr, hz, hd, hne, hzl, hf', q, qc, rfl, ho⟩
  exact ⟨_, _, _, rfl, W, H, L, pal, cl, hW, hH, hok, fs, xs, zs, ds, hfs, hr, hz, hd, hne, hzl, hf.trans hf', q, qc, rfl, ho.base_le hf.size⟩
end
end Go.Proofs
