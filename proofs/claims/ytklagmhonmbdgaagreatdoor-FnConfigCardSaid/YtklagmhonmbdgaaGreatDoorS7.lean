/- A step of the proofs (S7): contracts of the functions printed here, for all their arguments that meet what each names. -/
import Derived.Test.YtklagmhonmbdgaaGreatDoorBase
import Derived.Test.YtklagmhonmbdgaaGreatDoorSteps
import Derived.Test.YtklagmhonmbdgaaGreatDoorS6
set_option maxRecDepth 1000000
set_option linter.unusedVariables false
set_option linter.unusedSimpArgs false
set_option maxHeartbeats 4000000
namespace Go.Proofs
open Go Go.V
/-- loop.example/pub-g03440/spec.Write -/
def wp39 (x0_0 : Int) (x0_1 : Int) (x0_2 : Int) (x0_3 : Int) (x0_4 : Bool) (x1 : Option Addr) (x1l : Nat) (x1c : Nat) (x2 : Option Addr) (x2l : Nat) (x2c : Nat) (x3 : Option Addr) (x3l : Nat) (x3c : Nat) (x4_0 : Option Addr) (x4_0l : Nat) (x4_0c : Nat) (x4_1 : Int) (x4_2 : Int) (x4_3 : Option Addr) (x4_3l : Nat) (x4_3c : Nat) (x5 : Option Addr) (x5l : Nat) (x5c : Nat) (x6 : Option Addr) (x6l : Nat) (x6c : Nat) (R : Value → World → Prop) (w : World) : Prop := AllocC w (.cells #[.int .i64 x0_0, .int .i64 x0_1, .int .i64 x0_2, .int .i64 x0_3, .bool x0_4] 27) fun (r1 : Nat) (w2 : World) => AllocC w2 (.cells #[.slice x4_0 x4_0l x4_0c, .int .i64 x4_1, .int .i64 x4_2, .slice x4_3 x4_3l x4_3c] 75) fun (r3 : Nat) (w4 : World) => JoinC (fun (z5 : (Int × Unit)) (w6 : World) => JoinC (fun (z8 : (Sl × Unit)) (w9 : World) => CallT Pg 47 #[] w9 fun (v11 : Value) (w12 : World) => Exists fun (p13 : Option Addr) => Exists fun (l14 : Nat) => Exists fun (c15 : Nat) => And (v11 = .slice p13 l14 c15) (CallT Pg 48 #[.string ⟨#[73, 72, 68, 82]⟩, .slice z8.1.a z8.1.len z8.1.cap] w12 fun (v16 : Value) (w17 : World) => Exists fun (p18 : Option Addr) => Exists fun (l19 : Nat) => Exists fun (c20 : Nat) => And (v16 = .slice p18 l19 c20) (AppR Pg w17 #[33, 33] 33 (.slice p13 l14 c15) (.slice p18 l19 c20) fun (p21 : Option Addr) (l22 : Nat) (c23 : Nat) (w24 : World) => AllocC w24 (.cells #[] 5) fun (r25 : Nat) (w26 : World) => AllocC w26 (.cells #[] 5) fun (r27 : Nat) (w28 : World) => LoopC (fun (J31 : (Sl × Sl × Bool × Int × Unit) → World → Prop) => J31 ((⟨some ⟨r25, 0, none⟩, 0, 0⟩ : Sl), (⟨some ⟨r27, 0, none⟩, 0, 0⟩ : Sl), false, (0 : Int), ()) w28) (fun (z29 : (Sl × Sl × Bool × Int × Unit)) (w30 : World) (N32 : (Sl × Sl × Bool × Int × Unit) → World → Prop) => IfC (decide (z29.2.2.2.1 < (x2l : Int))) (And (0 ≤ z29.2.2.2.1 ∧ z29.2.2.2.1 < (x2l : Int)) (PtrC x2 fun (a33 : Addr) => LdI w30 (elemAt a33 z29.2.2.2.1.toNat 4) .i64 fun (n34 : Int) => LdI w30 ⟨(elemAt a33 z29.2.2.2.1.toNat 4).block, (elemAt a33 z29.2.2.2.1.toNat 4).off + 1, none⟩ .i64 fun (n35 : Int) => LdI w30 ⟨(elemAt a33 z29.2.2.2.1.toNat 4).block, (elemAt a33 z29.2.2.2.1.toNat 4).off + 2, none⟩ .i64 fun (n36 : Int) => LdI w30 ⟨(elemAt a33 z29.2.2.2.1.toNat 4).block, (elemAt a33 z29.2.2.2.1.toNat 4).off + 3, none⟩ .i64 fun (n37 : Int) => AllocC w30 (.cells (zc Pg 43) 43) fun (r38 : Nat) (w39 : World) => StoreC w39 ⟨r38, 0, none⟩ (.int .i64 n34) fun (w40 : World) => StoreC w40 ⟨r38, 0 + 1, none⟩ (.int .i64 n35) fun (w41 : World) => StoreC w41 ⟨r38, 0 + 2, none⟩ (.int .i64 n36) fun (w42 : World) => StoreC w42 ⟨r38, 0 + 3, none⟩ (.int .i64 n37) fun (w43 : World) => LdI w43 ⟨r38, 0, none⟩ .i64 fun (n44 : Int) => DivC (257 : Int) (LdI w43 ⟨r38, 0 + 1, none⟩ .i64 fun (n45 : Int) => DivC (257 : Int) (LdI w43 ⟨r38, 0 + 2, none⟩ .i64 fun (n46 : Int) => DivC (257 : Int) (AllocC w43 (.cells #[.int .u8 (IntKind.wrap .u8 (IntKind.wrap .i64 (Int.tdiv n44 (257 : Int)))), .int .u8 (IntKind.wrap .u8 (IntKind.wrap .i64 (Int.tdiv n45 (257 : Int)))), .int .u8 (IntKind.wrap .u8 (IntKind.wrap .i64 (Int.tdiv n46 (257 : Int))))] 5) fun (r47 : Nat) (w48 : World) => AppR Pg w48 #[33, 33] 33 (.slice z29.1.a z29.1.len z29.1.cap) (.slice (some ⟨r47, 0, none⟩) 3 3) fun (p49 : Option Addr) (l50 : Nat) (c51 : Nat) (w52 : World) => LdI w52 ⟨r38, 0 + 3, none⟩ .i64 fun (n53 : Int) => DivC (257 : Int) (AllocC w52 (.cells #[.int .u8 (IntKind.wrap .u8 (IntKind.wrap .i64 (Int.tdiv n53 (257 : Int))))] 5) fun (r54 : Nat) (w55 : World) => AppR Pg w55 #[33, 33] 33 (.slice z29.2.1.a z29.2.1.len z29.2.1.cap) (.slice (some ⟨r54, 0, none⟩) 1 1) fun (p56 : Option Addr) (l57 : Nat) (c58 : Nat) (w59 : World) => IfC z29.2.2.1 (N32 ((⟨p49, l50, c51⟩ : Sl), (⟨p56, l57, c58⟩ : Sl), true, IntKind.wrap .i64 (z29.2.2.2.1 + (1 : Int)), ()) w59) (LdI w59 ⟨r38, 0 + 3, none⟩ .i64 fun (n60 : Int) => N32 ((⟨p49, l50, c51⟩ : Sl), (⟨p56, l57, c58⟩ : Sl), n60 != (65535 : Int), IntKind.wrap .i64 (z29.2.2.2.1 + (1 : Int)), ()) w59))))))) (JoinC (fun (z61 : (Sl × Unit)) (w62 : World) => JoinC (fun (z64 : (Sl × Unit)) (w65 : World) => JoinC (fun (z67 : (Sl × Unit)) (w68 : World) => AppR Pg w68 #[33, 33] 33 (.slice z67.1.a z67.1.len z67.1.cap) (.slice x5 x5l x5c) fun (p70 : Option Addr) (l71 : Nat) (c72 : Nat) (w73 : World) => DrewC w73 fun (w74 : World) => LdI w74 ⟨r1, 0, none⟩ .i64 fun (n75 : Int) => LdI w74 ⟨r1, 0 + 1, none⟩ .i64 fun (n76 : Int) => LdI w74 ⟨r1, 0 + 2, none⟩ .i64 fun (n77 : Int) => LdI w74 ⟨r1, 0 + 3, none⟩ .i64 fun (n78 : Int) => LdB w74 ⟨r1, 0 + 4, none⟩ fun (b79 : Bool) => LdSl w74 ⟨r3, 0, none⟩ fun (p80 : Option Addr) (l81 : Nat) (c82 : Nat) => LdI w74 ⟨r3, 0 + 1, none⟩ .i64 fun (n83 : Int) => LdI w74 ⟨r3, 0 + 2, none⟩ .i64 fun (n84 : Int) => CallT Pg 32 #[.agg #[.int .i64 n75, .int .i64 n76, .int .i64 n77, .int .i64 n78, .bool b79], .slice x1 x1l x1c, .slice p80 l81 c82] w74 fun (v85 : Value) (w86 : World) => Exists fun (p87 : Option Addr) => Exists fun (l88 : Nat) => Exists fun (c89 : Nat) => And (v85 = .slice p87 l88 c89) (LdI w86 ⟨r3, 0 + 2, none⟩ .i64 fun (n90 : Int) => And ((.int .i64 n90 : Value) = .int .i64 n84) (LdI w86 ⟨r3, 0 + 1, none⟩ .i64 fun (n91 : Int) => And ((.int .i64 n91 : Value) = .int .i64 n83) (CallT Pg 56 #[.slice p87 l88 c89, .int .i64 n83, .int .i64 n84] w86 fun (v92 : Value) (w93 : World) => Exists fun (p94 : Option Addr) => Exists fun (l95 : Nat) => Exists fun (c96 : Nat) => And (v92 = .slice p94 l95 c96) (LoopC (fun (J99 : (Sl × Sl × Int × Unit) → World → Prop) => J99 ((⟨p70, l71, c72⟩ : Sl), (⟨p94, l95, c96⟩ : Sl), (0 : Int), ()) w93) (fun (z97 : (Sl × Sl × Int × Unit)) (w98 : World) (N100 : (Sl × Sl × Int × Unit) → World → Prop) => IfC (decide ((z97.2.1.len : Int) > (0 : Int))) (LdSl w98 ⟨r3, 0 + 3, none⟩ fun (p101 : Option Addr) (l102 : Nat) (c103 : Nat) => IfC (decide (z97.2.2.1 < (l102 : Int))) (LdSl w98 ⟨r3, 0 + 3, none⟩ fun (p104 : Option Addr) (l105 : Nat) (c106 : Nat) => And (0 ≤ z97.2.2.1 ∧ z97.2.2.1 < (l105 : Int)) (PtrC p104 fun (a107 : Addr) => LdI w98 (elemAt a107 z97.2.2.1.toNat 1) .u8 fun (n108 : Int) => And (0 ≤ minI (IntKind.wrap .i64 n108) (z97.2.1.len : Int) ∧ minI (IntKind.wrap .i64 n108) (z97.2.1.len : Int) ≤ (z97.2.1.cap : Int)) (CallT Pg 48 #[.string ⟨#[73, 68, 65, 84]⟩, .slice z97.2.1.a ((minI (IntKind.wrap .i64 n108) (z97.2.1.len : Int)).toNat) z97.2.1.cap] w98 fun (v109 : Value) (w110 : World) => Exists fun (p111 : Option Addr) => Exists fun (l112 : Nat) => Exists fun (c113 : Nat) => And (v109 = .slice p111 l112 c113) (AppR Pg w110 #[33, 33] 33 (.slice z97.1.a z97.1.len z97.1.cap) (.slice p111 l112 c113) fun (p114 : Option Addr) (l115 : Nat) (c116 : Nat) (w117 : World) => And (0 ≤ minI (IntKind.wrap .i64 n108) (z97.2.1.len : Int) ∧ minI (IntKind.wrap .i64 n108) (z97.2.1.len : Int) ≤ (z97.2.1.len : Int)) (N100 ((⟨p114, l115, c116⟩ : Sl), (⟨slAdd z97.2.1.a z97.2.1.cap ((minI (IntKind.wrap .i64 n108) (z97.2.1.len : Int)).toNat) 1, z97.2.1.len - ((minI (IntKind.wrap .i64 n108) (z97.2.1.len : Int)).toNat), z97.2.1.cap - ((minI (IntKind.wrap .i64 n108) (z97.2.1.len : Int)).toNat)⟩ : Sl), IntKind.wrap .i64 (z97.2.2.1 + (1 : Int)), ()) w117))))) (And (0 ≤ (z97.2.1.len : Int) ∧ (z97.2.1.len : Int) ≤ (z97.2.1.cap : Int)) (CallT Pg 48 #[.string ⟨#[73, 68, 65, 84]⟩, .slice z97.2.1.a ((z97.2.1.len : Int).toNat) z97.2.1.cap] w98 fun (v118 : Value) (w119 : World) => Exists fun (p120 : Option Addr) => Exists fun (l121 : Nat) => Exists fun (c122 : Nat) => And (v118 = .slice p120 l121 c122) (AppR Pg w119 #[33, 33] 33 (.slice z97.1.a z97.1.len z97.1.cap) (.slice p120 l121 c122) fun (p123 : Option Addr) (l124 : Nat) (c125 : Nat) (w126 : World) => And (0 ≤ (z97.2.1.len : Int) ∧ (z97.2.1.len : Int) ≤ (z97.2.1.len : Int)) (N100 ((⟨p123, l124, c125⟩ : Sl), (⟨slAdd z97.2.1.a z97.2.1.cap ((z97.2.1.len : Int).toNat) 1, z97.2.1.len - ((z97.2.1.len : Int).toNat), z97.2.1.cap - ((z97.2.1.len : Int).toNat)⟩ : Sl), IntKind.wrap .i64 (z97.2.2.1 + (1 : Int)), ()) w126))))) (AppR Pg w98 #[33, 33] 33 (.slice z97.1.a z97.1.len z97.1.cap) (.slice x6 x6l x6c) fun (p127 : Option Addr) (l128 : Nat) (c129 : Nat) (w130 : World) => CallT Pg 48 #[.string ⟨#[73, 69, 78, 68]⟩, .slice none 0 0] w130 fun (v131 : Value) (w132 : World) => Exists fun (p133 : Option Addr) => Exists fun (l134 : Nat) => Exists fun (c135 : Nat) => And (v131 = .slice p133 l134 c135) (AppR Pg w132 #[33, 33] 33 (.slice p127 l128 c129) (.slice p133 l134 c135) fun (p136 : Option Addr) (l137 : Nat) (c138 : Nat) (w139 : World) => R (.slice p136 l137 c138 : Value) w139)))))))) (fun (J69 : (Sl × Unit) → World → Prop) => IfC (decide ((x3l : Int) > (0 : Int))) (AllocC w65 (.cells #[] 5) fun (r140 : Nat) (w141 : World) => LoopC (fun (J144 : (Sl × Int × Unit) → World → Prop) => J144 ((⟨some ⟨r140, 0, none⟩, 0, 0⟩ : Sl), (0 : Int), ()) w141) (fun (z142 : (Sl × Int × Unit)) (w143 : World) (N145 : (Sl × Int × Unit) → World → Prop) => IfC (decide (z142.2.1 < (x3l : Int))) (And (0 ≤ z142.2.1 ∧ z142.2.1 < (x3l : Int)) (PtrC x3 fun (a146 : Addr) => LdI w143 (elemAt a146 z142.2.1.toNat 1) .i64 fun (n147 : Int) => ShC (8 : Int) (AllocC w143 (.cells #[.int .u8 (IntKind.wrap .u8 (shrI .i64 n147 (8 : Int))), .int .u8 (IntKind.wrap .u8 n147)] 5) fun (r148 : Nat) (w149 : World) => AppR Pg w149 #[33, 33] 33 (.slice z142.1.a z142.1.len z142.1.cap) (.slice (some ⟨r148, 0, none⟩) 2 2) fun (p150 : Option Addr) (l151 : Nat) (c152 : Nat) (w153 : World) => N145 ((⟨p150, l151, c152⟩ : Sl), IntKind.wrap .i64 (z142.2.1 + (1 : Int)), ()) w153))) (CallT Pg 48 #[.string ⟨#[116, 82, 78, 83]⟩, .slice z142.1.a z142.1.len z142.1.cap] w143 fun (v154 : Value) (w155 : World) => Exists fun (p156 : Option Addr) => Exists fun (l157 : Nat) => Exists fun (c158 : Nat) => And (v154 = .slice p156 l157 c158) (AppR Pg w155 #[33, 33] 33 (.slice z64.1.a z64.1.len z64.1.cap) (.slice p156 l157 c158) fun (p159 : Option Addr) (l160 : Nat) (c161 : Nat) (w162 : World) => J69 ((⟨p159, l160, c161⟩ : Sl), ()) w162)))) (J69 ((⟨z64.1.a, z64.1.len, z64.1.cap⟩ : Sl), ()) w65))) (fun (J66 : (Sl × Unit) → World → Prop) => IfC z29.2.2.1 (CallT Pg 48 #[.string ⟨#[116, 82, 78, 83]⟩, .slice z29.2.1.a z29.2.1.len z29.2.1.cap] w62 fun (v163 : Value) (w164 : World) => Exists fun (p165 : Option Addr) => Exists fun (l166 : Nat) => Exists fun (c167 : Nat) => And (v163 = .slice p165 l166 c167) (AppR Pg w164 #[33, 33] 33 (.slice z61.1.a z61.1.len z61.1.cap) (.slice p165 l166 c167) fun (p168 : Option Addr) (l169 : Nat) (c170 : Nat) (w171 : World) => J66 ((⟨p168, l169, c170⟩ : Sl), ()) w171)) (J66 ((⟨z61.1.a, z61.1.len, z61.1.cap⟩ : Sl), ()) w62))) (fun (J63 : (Sl × Unit) → World → Prop) => IfC (decide ((x2l : Int) > (0 : Int))) (CallT Pg 48 #[.string ⟨#[80, 76, 84, 69]⟩, .slice z29.1.a z29.1.len z29.1.cap] w30 fun (v172 : Value) (w173 : World) => Exists fun (p174 : Option Addr) => Exists fun (l175 : Nat) => Exists fun (c176 : Nat) => And (v172 = .slice p174 l175 c176) (AppR Pg w173 #[33, 33] 33 (.slice p21 l22 c23) (.slice p174 l175 c176) fun (p177 : Option Addr) (l178 : Nat) (c179 : Nat) (w180 : World) => J63 ((⟨p177, l178, c179⟩ : Sl), ()) w180)) (J63 ((⟨p21, l22, c23⟩ : Sl), ()) w30))))))) (fun (J10 : (Sl × Unit) → World → Prop) => DrewC w6 fun (w181 : World) => LdI w181 ⟨r1, 0, none⟩ .i64 fun (n182 : Int) => LdI w181 ⟨r1, 0 + 1, none⟩ .i64 fun (n183 : Int) => LdI w181 ⟨r1, 0 + 2, none⟩ .i64 fun (n184 : Int) => LdI w181 ⟨r1, 0 + 3, none⟩ .i64 fun (n185 : Int) => And (CallT Pg 34 #[.int .u32 (IntKind.wrap .u32 n182)] w181 fun (v186 : Value) (w187 : World) => Exists fun (p188 : Option Addr) => Exists fun (l189 : Nat) => Exists fun (c190 : Nat) => And (v186 = .slice p188 l189 c190) (LdI w187 ⟨r1, 0 + 3, none⟩ .i64 fun (n191 : Int) => And ((.int .i64 n191 : Value) = .int .i64 n185) (LdI w187 ⟨r1, 0 + 2, none⟩ .i64 fun (n192 : Int) => And ((.int .i64 n192 : Value) = .int .i64 n184) (LdI w187 ⟨r1, 0 + 1, none⟩ .i64 fun (n193 : Int) => And ((.int .i64 n193 : Value) = .int .i64 n183) (And (CallT Pg 34 #[.int .u32 (IntKind.wrap .u32 n183)] w187 fun (v194 : Value) (w195 : World) => Exists fun (p196 : Option Addr) => Exists fun (l197 : Nat) => Exists fun (c198 : Nat) => And (v194 = .slice p196 l197 c198) (LdI w195 ⟨r1, 0 + 3, none⟩ .i64 fun (n199 : Int) => And ((.int .i64 n199 : Value) = .int .i64 n185) (LdI w195 ⟨r1, 0 + 2, none⟩ .i64 fun (n200 : Int) => And ((.int .i64 n200 : Value) = .int .i64 n184) (And (AppR Pg w195 #[33, 33] 33 (.slice p188 l189 c190) (.slice p196 l197 c198) fun (p201 : Option Addr) (l202 : Nat) (c203 : Nat) (w204 : World) => LdI w204 ⟨r1, 0 + 3, none⟩ .i64 fun (n205 : Int) => And ((.int .i64 n205 : Value) = .int .i64 n185) (LdI w204 ⟨r1, 0 + 2, none⟩ .i64 fun (n206 : Int) => And ((.int .i64 n206 : Value) = .int .i64 n184) (AllocC w204 (.cells #[.int .u8 (IntKind.wrap .u8 n184), .int .u8 (IntKind.wrap .u8 n185), .int .u8 (0 : Int), .int .u8 (0 : Int), .int .u8 z5.1] 5) fun (r207 : Nat) (w208 : World) => LdI w208 ⟨r1, 0 + 1, none⟩ .i64 fun (n209 : Int) => And ((.int .i64 n209 : Value) = .int .i64 n183) (LdI w208 ⟨r1, 0, none⟩ .i64 fun (n210 : Int) => And ((.int .i64 n210 : Value) = .int .i64 n182) (AppR Pg w208 #[33, 33] 33 (.slice p201 l202 c203) (.slice (some ⟨r207, 0, none⟩) 5 5) fun (p211 : Option Addr) (l212 : Nat) (c213 : Nat) (w214 : World) => J10 ((⟨p211, l212, c213⟩ : Sl), ()) w214))))) (AllocC w195 (.cells #[.int .u8 (IntKind.wrap .u8 n184), .int .u8 (IntKind.wrap .u8 n185), .int .u8 (0 : Int), .int .u8 (0 : Int), .int .u8 z5.1] 5) fun (r215 : Nat) (w216 : World) => LdI w216 ⟨r1, 0 + 1, none⟩ .i64 fun (n217 : Int) => And ((.int .i64 n217 : Value) = .int .i64 n183) (LdI w216 ⟨r1, 0, none⟩ .i64 fun (n218 : Int) => And ((.int .i64 n218 : Value) = .int .i64 n182) (AppR Pg w216 #[33, 33] 33 (.slice p188 l189 c190) (.slice p196 l197 c198) fun (p219 : Option Addr) (l220 : Nat) (c221 : Nat) (w222 : World) => LdI w222 ⟨r1, 0 + 3, none⟩ .i64 fun (n223 : Int) => And ((.int .i64 n223 : Value) = .int .i64 n185) (LdI w222 ⟨r1, 0 + 2, none⟩ .i64 fun (n224 : Int) => And ((.int .i64 n224 : Value) = .int .i64 n184) (AppR Pg w222 #[33, 33] 33 (.slice p219 l220 c221) (.slice (some ⟨r215, 0, none⟩) 5 5) fun (p225 : Option Addr) (l226 : Nat) (c227 : Nat) (w228 : World) => J10 ((⟨p225, l226, c227⟩ : Sl), ()) w228))))))))) (AllocC w187 (.cells #[.int .u8 (IntKind.wrap .u8 n184), .int .u8 (IntKind.wrap .u8 n185), .int .u8 (0 : Int), .int .u8 (0 : Int), .int .u8 z5.1] 5) fun (r229 : Nat) (w230 : World) => LdI w230 ⟨r1, 0 + 1, none⟩ .i64 fun (n231 : Int) => And ((.int .i64 n231 : Value) = .int .i64 n183) (LdI w230 ⟨r1, 0, none⟩ .i64 fun (n232 : Int) => And ((.int .i64 n232 : Value) = .int .i64 n182) (CallT Pg 34 #[.int .u32 (IntKind.wrap .u32 n183)] w230 fun (v233 : Value) (w234 : World) => Exists fun (p235 : Option Addr) => Exists fun (l236 : Nat) => Exists fun (c237 : Nat) => And (v233 = .slice p235 l236 c237) (LdI w234 ⟨r1, 0 + 3, none⟩ .i64 fun (n238 : Int) => And ((.int .i64 n238 : Value) = .int .i64 n185) (LdI w234 ⟨r1, 0 + 2, none⟩ .i64 fun (n239 : Int) => And ((.int .i64 n239 : Value) = .int .i64 n184) (AppR Pg w234 #[33, 33] 33 (.slice p188 l189 c190) (.slice p235 l236 c237) fun (p240 : Option Addr) (l241 : Nat) (c242 : Nat) (w243 : World) => LdI w243 ⟨r1, 0 + 3, none⟩ .i64 fun (n244 : Int) => And ((.int .i64 n244 : Value) = .int .i64 n185) (LdI w243 ⟨r1, 0 + 2, none⟩ .i64 fun (n245 : Int) => And ((.int .i64 n245 : Value) = .int .i64 n184) (AppR Pg w243 #[33, 33] 33 (.slice p240 l241 c242) (.slice (some ⟨r229, 0, none⟩) 5 5) fun (p246 : Option Addr) (l247 : Nat) (c248 : Nat) (w249 : World) => J10 ((⟨p246, l247, c248⟩ : Sl), ()) w249))))))))))))) (AllocC w181 (.cells #[.int .u8 (IntKind.wrap .u8 n184), .int .u8 (IntKind.wrap .u8 n185), .int .u8 (0 : Int), .int .u8 (0 : Int), .int .u8 z5.1] 5) fun (r250 : Nat) (w251 : World) => LdI w251 ⟨r1, 0 + 1, none⟩ .i64 fun (n252 : Int) => And ((.int .i64 n252 : Value) = .int .i64 n183) (LdI w251 ⟨r1, 0, none⟩ .i64 fun (n253 : Int) => And ((.int .i64 n253 : Value) = .int .i64 n182) (CallT Pg 34 #[.int .u32 (IntKind.wrap .u32 n182)] w251 fun (v254 : Value) (w255 : World) => Exists fun (p256 : Option Addr) => Exists fun (l257 : Nat) => Exists fun (c258 : Nat) => And (v254 = .slice p256 l257 c258) (LdI w255 ⟨r1, 0 + 3, none⟩ .i64 fun (n259 : Int) => And ((.int .i64 n259 : Value) = .int .i64 n185) (LdI w255 ⟨r1, 0 + 2, none⟩ .i64 fun (n260 : Int) => And ((.int .i64 n260 : Value) = .int .i64 n184) (LdI w255 ⟨r1, 0 + 1, none⟩ .i64 fun (n261 : Int) => And ((.int .i64 n261 : Value) = .int .i64 n183) (CallT Pg 34 #[.int .u32 (IntKind.wrap .u32 n183)] w255 fun (v262 : Value) (w263 : World) => Exists fun (p264 : Option Addr) => Exists fun (l265 : Nat) => Exists fun (c266 : Nat) => And (v262 = .slice p264 l265 c266) (LdI w263 ⟨r1, 0 + 3, none⟩ .i64 fun (n267 : Int) => And ((.int .i64 n267 : Value) = .int .i64 n185) (LdI w263 ⟨r1, 0 + 2, none⟩ .i64 fun (n268 : Int) => And ((.int .i64 n268 : Value) = .int .i64 n184) (AppR Pg w263 #[33, 33] 33 (.slice p256 l257 c258) (.slice p264 l265 c266) fun (p269 : Option Addr) (l270 : Nat) (c271 : Nat) (w272 : World) => LdI w272 ⟨r1, 0 + 3, none⟩ .i64 fun (n273 : Int) => And ((.int .i64 n273 : Value) = .int .i64 n185) (LdI w272 ⟨r1, 0 + 2, none⟩ .i64 fun (n274 : Int) => And ((.int .i64 n274 : Value) = .int .i64 n184) (AppR Pg w272 #[33, 33] 33 (.slice p269 l270 c271) (.slice (some ⟨r250, 0, none⟩) 5 5) fun (p275 : Option Addr) (l276 : Nat) (c277 : Nat) (w278 : World) => J10 ((⟨p275, l276, c277⟩ : Sl), ()) w278)))))))))))))) (fun (J7 : (Int × Unit) → World → Prop) => LdB w4 ⟨r1, 0 + 4, none⟩ fun (b279 : Bool) => IfC b279 (J7 ((1 : Int), ()) w4) (J7 ((0 : Int), ()) w4))
theorem eq39 (x0_0 : Int) (x0_1 : Int) (x0_2 : Int) (x0_3 : Int) (x0_4 : Bool) (x1 : Option Addr) (x1l : Nat) (x1c : Nat) (x2 : Option Addr) (x2l : Nat) (x2c : Nat) (x3 : Option Addr) (x3l : Nat) (x3c : Nat) (x4_0 : Option Addr) (x4_0l : Nat) (x4_0c : Nat) (x4_1 : Int) (x4_2 : Int) (x4_3 : Option Addr) (x4_3l : Nat) (x4_3c : Nat) (x5 : Option Addr) (x5l : Nat) (x5c : Nat) (x6 : Option Addr) (x6l : Nat) (x6c : Nat) (R : Value → World → Prop) (w : World) : vc Pg Gg (annOf [(4, [(15, .i .u8)], [1, 2, 3, 5, 6, 7, 11]), (10, [(16, .sl)], [1, 2, 3, 5, 6, 7, 11]), (20, [(18, .sl), (19, .sl), (20, .b), (56, .i .i64)], [1, 2, 3, 5, 6, 7, 11, 14, 17, 54, 55]), (37, [(17, .sl)], [1, 3, 5, 6, 7, 11, 19, 20]), (43, [(17, .sl)], [1, 3, 5, 6, 7, 11]), (49, [(17, .sl)], [1, 5, 6, 7, 11]), (59, [(19, .sl), (107, .i .i64)], [1, 5, 6, 7, 11, 14, 17, 105, 106]), (82, [(17, .sl), (25, .sl), (26, .i .i64)], [6, 11, 14])]) 0 (bodyOf Tryz.f39) (retK Pg Tryz.f39.results.toList R) (argE 0 [.agg #[.int .i64 x0_0, .int .i64 x0_1, .int .i64 x0_2, .int .i64 x0_3, .bool x0_4], .slice x1 x1l x1c, .slice x2 x2l x2c, .slice x3 x3l x3c, .agg #[.slice x4_0 x4_0l x4_0c, .int .i64 x4_1, .int .i64 x4_2, .slice x4_3 x4_3l x4_3c], .slice x5 x5l x5c, .slice x6 x6l x6c]) w = wp39 x0_0 x0_1 x0_2 x0_3 x0_4 x1 x1l x1c x2 x2l x2c x3 x3l x3c x4_0 x4_0l x4_0c x4_1 x4_2 x4_3 x4_3l x4_3c x5 x5l x5c x6 x6l x6c R w := by kernel_rfl
theorem call39 {x0_0 : Int} {x0_1 : Int} {x0_2 : Int} {x0_3 : Int} {x0_4 : Bool} {x1 : Option Addr} {x1l : Nat} {x1c : Nat} {x2 : Option Addr} {x2l : Nat} {x2c : Nat} {x3 : Option Addr} {x3l : Nat} {x3c : Nat} {x4_0 : Option Addr} {x4_0l : Nat} {x4_0c : Nat} {x4_1 : Int} {x4_2 : Int} {x4_3 : Option Addr} {x4_3l : Nat} {x4_3c : Nat} {x5 : Option Addr} {x5l : Nat} {x5c : Nat} {x6 : Option Addr} {x6l : Nat} {x6c : Nat} {R : Value → World → Prop} {w : World} (h : wp39 x0_0 x0_1 x0_2 x0_3 x0_4 x1 x1l x1c x2 x2l x2c x3 x3l x3c x4_0 x4_0l x4_0c x4_1 x4_2 x4_3 x4_3l x4_3c x5 x5l x5c x6 x6l x6c R w) : CallT Pg 39 #[.agg #[.int .i64 x0_0, .int .i64 x0_1, .int .i64 x0_2, .int .i64 x0_3, .bool x0_4], .slice x1 x1l x1c, .slice x2 x2l x2c, .slice x3 x3l x3c, .agg #[.slice x4_0 x4_0l x4_0c, .int .i64 x4_1, .int .i64 x4_2, .slice x4_3 x4_3l x4_3c], .slice x5 x5l x5c, .slice x6 x6l x6c] w R :=
  calls_of_vc follows bodies Tryz.func39 (by kernel_rfl) (by kernel_rfl) (by kernel_rfl) ((eq39 x0_0 x0_1 x0_2 x0_3 x0_4 x1 x1l x1c x2 x2l x2c x3 x3l x3c x4_0 x4_0l x4_0c x4_1 x4_2 x4_3 x4_3l x4_3c x5 x5l x5c x6 x6l x6c R w).mpr h)

/-- loop.example/pub-g03440/laws.few -/
def wp22 (x0 : Option Addr) (x0l : Nat) (x0c : Nat) (R : Value → World → Prop) (w : World) : Prop := R (.bool (decide ((x0l : Int) ≤ (1000 : Int))) : Value) w
theorem eq22 (x0 : Option Addr) (x0l : Nat) (x0c : Nat) (R : Value → World → Prop) (w : World) : vc Pg Gg (annOf []) 0 (bodyOf Tryz.f22) (retK Pg Tryz.f22.results.toList R) (argE 0 [.slice x0 x0l x0c]) w = wp22 x0 x0l x0c R w := by kernel_rfl
theorem call22 {x0 : Option Addr} {x0l : Nat} {x0c : Nat} {R : Value → World → Prop} {w : World} (h : wp22 x0 x0l x0c R w) : CallT Pg 22 #[.slice x0 x0l x0c] w R :=
  calls_of_vc follows bodies Tryz.func22 (by kernel_rfl) (by kernel_rfl) (by kernel_rfl) ((eq22 x0 x0l x0c R w).mpr h)

/-- loop.example/pub-g03440/laws.kindOf -/
def wp37 (x0 : Int) (R : Value → World → Prop) (w : World) : Prop := DivC (15 : Int) (IfC (decide ((Int.tmod (IntKind.wrap .i64 x0) (15 : Int)) < (5 : Int))) (DrewC w fun (w1 : World) => ShC (Int.tmod (IntKind.wrap .i64 x0) (15 : Int)) (R (.tuple #[.int .i64 (0 : Int), .int .i64 (shlI .i64 (1 : Int) (Int.tmod (IntKind.wrap .i64 x0) (15 : Int)))] : Value) w1)) (IfC (decide ((Int.tmod (IntKind.wrap .i64 x0) (15 : Int)) < (7 : Int))) (DrewC w fun (w2 : World) => ShC (IntKind.wrap .i64 ((Int.tmod (IntKind.wrap .i64 x0) (15 : Int)) - (5 : Int))) (R (.tuple #[.int .i64 (2 : Int), .int .i64 (shlI .i64 (8 : Int) (IntKind.wrap .i64 ((Int.tmod (IntKind.wrap .i64 x0) (15 : Int)) - (5 : Int))))] : Value) w2)) (IfC (decide ((Int.tmod (IntKind.wrap .i64 x0) (15 : Int)) < (11 : Int))) (DrewC w fun (w3 : World) => ShC (IntKind.wrap .i64 ((Int.tmod (IntKind.wrap .i64 x0) (15 : Int)) - (7 : Int))) (R (.tuple #[.int .i64 (3 : Int), .int .i64 (shlI .i64 (1 : Int) (IntKind.wrap .i64 ((Int.tmod (IntKind.wrap .i64 x0) (15 : Int)) - (7 : Int))))] : Value) w3)) (IfC (decide ((Int.tmod (IntKind.wrap .i64 x0) (15 : Int)) < (13 : Int))) (DrewC w fun (w4 : World) => ShC (IntKind.wrap .i64 ((Int.tmod (IntKind.wrap .i64 x0) (15 : Int)) - (11 : Int))) (R (.tuple #[.int .i64 (4 : Int), .int .i64 (shlI .i64 (8 : Int) (IntKind.wrap .i64 ((Int.tmod (IntKind.wrap .i64 x0) (15 : Int)) - (11 : Int))))] : Value) w4)) (DrewC w fun (w5 : World) => ShC (IntKind.wrap .i64 ((Int.tmod (IntKind.wrap .i64 x0) (15 : Int)) - (13 : Int))) (R (.tuple #[.int .i64 (6 : Int), .int .i64 (shlI .i64 (8 : Int) (IntKind.wrap .i64 ((Int.tmod (IntKind.wrap .i64 x0) (15 : Int)) - (13 : Int))))] : Value) w5))))))
theorem eq37 (x0 : Int) (R : Value → World → Prop) (w : World) : vc Pg Gg (annOf []) 0 (bodyOf Tryz.f37) (retK Pg Tryz.f37.results.toList R) (argE 0 [.int .u8 x0]) w = wp37 x0 R w := by kernel_rfl
theorem call37 {x0 : Int} {R : Value → World → Prop} {w : World} (h : wp37 x0 R w) : CallT Pg 37 #[.int .u8 x0] w R :=
  calls_of_vc follows bodies Tryz.func37 (by kernel_rfl) (by kernel_rfl) (by kernel_rfl) ((eq37 x0 R w).mpr h)

section
variable {w : World}
abbrev Px := UInt8 × UInt8 × UInt8 × UInt8
def dotV (d : Px) : List Value := [.int .i64 (257 * d.1.toNat : Nat), .int .i64 (257 * d.2.1.toNat : Nat), .int .i64 (257 * d.2.2.1.toNat : Nat), .int .i64 (257 * d.2.2.2.toNat : Nat)]
def palV (l : List Px) : List Value := l.flatMap dotV
def shadesL (l : List Px) : List UInt8 := l.flatMap fun d => [d.1, d.2.1, d.2.2.1]
def alphasL (l : List Px) : List UInt8 := l.map fun d => d.2.2.2
def anyClear (l : List Px) : Bool := l.any fun d => d.2.2.2 != 255
def clearL (l : List Nat) : List UInt8 := l.flatMap fun v => [UInt8.ofNat (v / 256), UInt8.ofNat v]
def headL (W H D C : Nat) (L : Bool) : List UInt8 := fourL W ++ fourL H ++ [UInt8.ofNat D, UInt8.ofNat C, 0, 0, if L then 1 else 0]
def nIHDR : List UInt8 := [73, 72, 68, 82]
def nPLTE : List UInt8 := [80, 76, 84, 69]
def ntRNS : List UInt8 := [116, 82, 78, 83]
def nIDAT : List UInt8 := [73, 68, 65, 84]
def nIEND : List UInt8 := [73, 69, 78, 68]
/-- The chunks of a file, ahead of its packed bytes. -/
def foreL (W H D C : Nat) (L : Bool) (pal : List Px) (cl : List Nat) : List Ch :=
  (nIHDR, headL W H D C L) :: ((if 0 < pal.length then [(nPLTE, shadesL pal)] else []) ++ ((if anyClear pal then [(ntRNS, alphasL pal)] else []) ++ (if 0 < cl.length then [(ntRNS, clearL cl)] else [])))
def datL (ds : List (List UInt8)) : List Ch := ds.map fun d => (nIDAT, d)
theorem fileL_snoc (cs : List Ch) (c : Ch) : fileL (cs ++ [c]) = fileL cs ++ chunkL c.1 c.2 := by simp [fileL, chs_append, chs_cons, chs_nil]
theorem fileL_nil : fileL [] = sigL := by simp [fileL, chs]
/-- A chunk is written behind a file. -/
theorem addChunk {w0 w wc : World} {p q : Option Addr} {l c lc cc : Nat} {cs : List Ch} {nm d : List UInt8} (hf : Fr [] w0 w) (ho : Own w (hn w0) 5 1 p l c (bv (fileL cs))) (hl : l = (fileL cs).length)
    (hfc : Fr [] w wc) (hlc : lc = (chunkL nm d).length) (hoc : Own wc (hn w) 5 1 q lc cc (bv (chunkL nm d))) (hb : (fileL cs).length + (chunkL nm d).length ≤ 1099511627776)
    {K : Option Addr → Nat → Nat → World → Prop} (hK : ∀ p' c' w', Fr [] w0 w' → Fr (blkOf p) wc w' → Own w' (hn w0) 5 1 p' (fileL (cs ++ [(nm, d)])).length c' (bv (fileL (cs ++ [(nm, d)]))) → (∀ x ∈ blkOf p', x ∈ blkOf p ∨ hn wc ≤ x) → K p' (fileL (cs ++ [(nm, d)])).length c' w') :
    AppR Pg wc #[33, 33] 33 (.slice p l c) (.slice q lc cc) K := by
  subst hl; subst hlc
  refine AppR_own2 (S := []) (w0 := w0) ok33 (hf.trans hfc) (ho.fr0 hfc) hoc.has (by simp) (bv_one _) hb (by intro h; subst h; exact hoc.none_iff.2.1) ?_
  intro p' c' w' h1 h2 h3 h4
  have e : fileL (cs ++ [(nm, d)]) = fileL cs ++ chunkL nm d := fileL_snoc cs (nm, d)
  have e2 : (fileL (cs ++ [(nm, d)])).length = (fileL cs).length + (chunkL nm d).length := by rw [e, List.length_append]
  have := hK p' c' w' h1 h2 (by rw [e2, e, bv_append]; exact h3) h4
  rw [e2] at this; exact this
theorem dotV_at {l : List Px} : ∀ {k : Nat} {d : Px}, l[k]? = some d → (palV l)[k * 4]? = some (.int .i64 (257 * d.1.toNat : Nat)) ∧ (palV l)[k * 4 + 1]? = some (.int .i64 (257 * d.2.1.toNat : Nat)) ∧ (palV l)[k * 4 + 2]? = some (.int .i64 (257 * d.2.2.1.toNat : Nat)) ∧ (palV l)[k * 4 + 3]? = some (.int .i64 (257 * d.2.2.2.toNat : Nat)) := by
  induction l with
  | nil => intro k d h; simp at h
  | cons x r ih =>
    intro k d h
    cases k with
    | zero => simp at h; subst h; simp [palV, dotV]
    | succ k =>
      have := ih (k := k) (d := d) (by simpa using h)
      have e : palV (x :: r) = dotV x ++ palV r := by simp [palV]
      have hlen : (dotV x).length = 4 := rfl
      rw [e]
      refine ⟨?_, ?_, ?_, ?_⟩
      · rw [List.getElem?_append_right (by omega), show (k + 1) * 4 - (dotV x).length = k * 4 by omega]; exact this.1
      · rw [List.getElem?_append_right (by omega), show (k + 1) * 4 + 1 - (dotV x).length = k * 4 + 1 by omega]; exact this.2.1
      · rw [List.getElem?_append_right (by omega), show (k + 1) * 4 + 2 - (dotV x).length = k * 4 + 2 by omega]; exact this.2.2.1
      · rw [List.getElem?_append_right (by omega), show (k + 1) * 4 + 3 - (dotV x).length = k * 4 + 3 by omega]; exact this.2.2.2
theorem zc43 : zc Pg 43 = #[.int .i64 0, .int .i64 0, .int .i64 0, .int .i64 0] := by kernel_rfl
theorem u8_257 (x : UInt8) : Value.int .u8 (IntKind.wrap .u8 (IntKind.wrap .i64 (Int.tdiv ((257 * x.toNat : Nat) : Int) 257))) = u8v x := by
  have hx := UInt8.toNat_lt x
  have e : Int.tdiv ((257 * x.toNat : Nat) : Int) 257 = ((257 * x.toNat / 257 : Nat) : Int) := tdiv_nat _ 257
  rw [e, show 257 * x.toNat / 257 = x.toNat by omega, wrap_i64_id (by omega) (by omega), wrap_u8_id (by omega) (by omega)]; rfl
theorem shadesL_length (l : List Px) : (shadesL l).length = 3 * l.length := by
  induction l with
  | nil => rfl
  | cons x r ih => simp only [shadesL, List.flatMap_cons, List.length_append, List.length_cons, List.length_nil] at *; omega
theorem lens_sum {W H D C : Nat} {L : Bool} (hW : W ≤ 64) (hH : H ≤ 64) (hD : D ≤ 16) : (lens W H D C L).sum ≤ 229824 := by
  have hcN := chN_le C
  have one : ∀ p, p < 7 → (lensP W H D C L p).sum ≤ 32832 := by
    intro p hp
    obtain ⟨hDX, hDY, _, _⟩ := partN_ok L hp
    have h1 := cntN_le (X := (partN L p).1) (W := W) hDX
    have h2 := cntN_le (X := (partN L p).2.1) (W := H) hDY
    unfold lensP
    dsimp only
    split
    · simp
    · rw [List.sum_replicate_nat]
      have h3 : rowB C D (cntN (partN L p).1 (partN L p).2.2.1 W) + 1 ≤ 513 := by
        have h1 : cntN (partN L p).1 (partN L p).2.2.1 W * chN C ≤ 64 * 4 := Nat.mul_le_mul (by omega) hcN.2
        have h2 : cntN (partN L p).1 (partN L p).2.2.1 W * chN C * D ≤ 64 * 4 * 16 := Nat.mul_le_mul h1 hD
        unfold rowB; omega
      have := Nat.mul_le_mul (show cntN (partN L p).2.1 (partN L p).2.2.2 H ≤ 64 by omega) h3
      omega
  have all : ∀ n, n ≤ 7 → ((List.range n).flatMap (lensP W H D C L)).sum ≤ n * 32832 := by
    intro n
    induction n with
    | zero => intro _; simp
    | succ n ih =>
      intro hn
      have := ih (by omega)
      have := one n (by omega)
      rw [List.range_succ, List.flatMap_append, List.sum_append_nat]
      simp only [List.flatMap_cons, List.flatMap_nil, List.append_nil]
      omega
  have h7 : nPass L ≤ 7 := by unfold nPass; split <;> omega
  have := all (nPass L) h7
  unfold lens
  omega
theorem RowsOf.length {ls : List Nat} {kind : Nat → Nat} {xs : List UInt8} (h : RowsOf ls kind xs) : xs.length = ls.sum := by
  obtain ⟨rows, rfl, h2, _⟩ := h
  rw [← h2, List.length_flatten]
theorem Has.adv {p : Option Addr} {cap n : Nat} {xs : List UInt8} (h : Has w p (bv xs)) (hc : xs.length ≤ cap) (hn : n ≤ xs.length) : Has w (slAdd p cap n 1) (bv (xs.drop n)) := by
  cases p with
  | none =>
    have : xs = [] := bv_inj (xs := xs) (ys := []) h
    subst this
    unfold slAdd
    split <;> simp [Has]
  | some a =>
    unfold slAdd
    split
    · rename_i e
      have : xs.drop n = [] := List.drop_eq_nil_of_le (by omega)
      rw [this]
      obtain ⟨h0, T, arr, h1, _⟩ := h
      exact ⟨h0, T, arr, h1, fun j v hj => by simp at hj⟩
    · obtain ⟨b, o, s⟩ := a
      have h0 := h.1
      simp only at h0
      subst h0
      have := Has.slice h n (xs.length - n)
      rw [Nat.mul_one, Option.map_some, add_none]
      have e : bv (xs.drop n) = ((bv xs).drop n).take (xs.length - n) := by
        rw [List.take_of_length_le (by simp)]; simp [bv, List.map_drop]
      rw [e]; exact this
theorem Has.pre {p : Option Addr} {xs : List UInt8} {n : Nat} (h : Has w p (bv xs)) : Has w p (bv (xs.take n)) := by
  cases p with
  | none =>
    have : xs = [] := bv_inj (xs := xs) (ys := []) h
    subst this
    simp [Has]
  | some a =>
    obtain ⟨h0, T, arr, h1, h2⟩ := h
    refine ⟨h0, T, arr, h1, fun j v hj => h2 j v ?_⟩
    simp only [bv, List.map_take, List.getElem?_take] at hj
    split at hj
    · exact hj
    · cases hj
theorem blkOf_slAdd (p : Option Addr) (c n : Nat) : blkOf (slAdd p c n 1) = blkOf p := by
  unfold slAdd
  split
  · rfl
  · cases p with
    | none => rfl
    | some a => simp [blkOf]; unfold Addr.add; split <;> rfl
theorem c39 {W H D C : Nat} {L : Bool} {b o l c : Nat} {ns : List Int} {pp : Option Addr} {pc : Nat} {pal : List Px} {cp : Option Addr} {cc : Nat} {cl : List Nat} {fp : Option Addr} {fc : Nat} {fs : List UInt8} {size ways : Nat} {up : Option Addr} {uc : Nat} {us : List UInt8}
    (hW : 1 ≤ W ∧ W ≤ 64) (hH : 1 ≤ H ∧ H ≤ 64) (hD : D = 1 ∨ D = 2 ∨ D = 4 ∨ D = 8 ∨ D = 16)
    (hx : Has w (some ⟨b, o, none⟩) (i64s ns)) (hl : l = ns.length) (hnn : ns.length = W * H * chN C) (hlc : l ≤ c)
    (hpal : Has w pp (palV pal)) (hpl : pal.length ≤ 256) (hcl : Has w cp (iv cl)) (hcll : cl.length ≤ 16)
    (hfs : Has w fp (bv fs)) (hfl : fs.length < 65536) (hsz : size ≤ 65535) (hus : Has w up (bv us)) (hul : us.length < 65536) (hu1 : ∀ u ∈ us, 1 ≤ u.toNat) :
    CallT Pg 39 #[shp W H D C L, .slice (some ⟨b, o, none⟩) l c, .slice pp pal.length pc, .slice cp cl.length cc, .agg #[.slice fp fs.length fc, .int .i64 size, .int .i64 ways, .slice up us.length uc], .slice none 0 0, .slice none 0 0] w
      fun v w' => ∃ xs zs ds, RowsOf (lens W H D C L) (filt fs) xs ∧ ZlibOf xs zs ∧ ds.flatten = zs ∧ (∀ d ∈ ds, d ≠ []) ∧ zs.length ≤ 2097152 ∧ RetB w (fileL (foreL W H D C L pal cl ++ datL ds ++ [(nIEND, [])])) v w' := by
  apply call39
  unfold wp39
  refine AllocC_at fun w1 hS1 hf1 hn1 => ?_
  refine AllocC_at fun wB hB hf2 hn2 => ?_
  have hS := hf2.row0 hS1
  have hwB := hf1.trans hf2
  have hx := hx.fr0 hwB
  have hpal := hpal.fr0 hwB
  have hcl := hcl.fr0 hwB
  have hfs := hfs.fr0 hwB
  have hus := hus.fr0 hwB
  generalize hn w = rS at *
  generalize hn w1 = rB at *
  refine JoinC_of (fun z w' => w' = wB ∧ z.1 = (if L then 1 else 0 : Int)) ?_ ?_
  · rintro ⟨lv, ⟨⟩⟩ wB ⟨rfl, rfl⟩
    dsimp only
    refine JoinC_of (fun z w' => Fr [] wB w' ∧ Own w' (hn wB) 5 1 z.1.a z.1.len z.1.cap (bv (headL W H D C L)) ∧ z.1.len = 13) ?_ ?_
    · rintro ⟨⟨ph, lh, chh⟩, ⟨⟩⟩ w9 ⟨F9, hh, rfl⟩
      dsimp only at *
      have hhl : (headL W H D C L).length = 13 := rfl
      refine CallT.mono c47 ?_
      rintro _ w12 ⟨hf12, p13, c15, rfl, ho13⟩
      refine ⟨_, _, _, rfl, ?_⟩
      have F12 := F9.trans hf12
      refine CallT.mono (c48 (nm := nIHDR) (xs := headL W H D C L) (hh.fr0 hf12).has rfl (by omega) (by decide) (by intro h; subst h; exact (hh.fr0 hf12).none_iff.2.1)) ?_
      rintro _ w17 ⟨hf17, p18, c20, rfl, ho18⟩
      refine ⟨_, _, _, rfl, ?_⟩
      have hcl0 := chunkL_length (nm := nIHDR) (data := headL W H D C L) rfl
      refine addChunk (cs := []) (nm := nIHDR) (d := headL W H D C L) F12 (by rw [fileL_nil]; exact ho13.base_le F9.size) rfl hf17 rfl ho18 (by rw [fileL_nil, hcl0, hhl]; decide) ?_
      intro p21 c23 w24 F24 _ ho21 _
      rw [List.nil_append] at *
      have hlen21 : (fileL [(nIHDR, headL W H D C L)]).length = 33 := by rw [← List.nil_append [(nIHDR, headL W H D C L)], fileL_snoc, List.length_append, fileL_nil, hcl0, hhl]; rfl
      have hblk21 := ho21.blk
      refine AllocC_at fun w26 hA hf26 hn26 => ?_
      refine AllocC_at fun w28 hBb hf28 hn28 => ?_
      have hoA := (Own.of_row (base := hn w24) (size := 1) (l := 0) hA (Nat.le_refl _) (by simp)).fr0 hf28
      have hoB := Own.of_row (base := hn w24) (size := 1) (l := 0) hBb (by omega) (by simp)
      refine LoopC_of (fun z w' => Fr [] w24 w' ∧ ∃ k : Nat, z.2.2.2.1 = k ∧ k ≤ pal.length ∧ z.1.len = (shadesL (pal.take k)).length ∧ Own w' (hn w24) 5 1 z.1.a z.1.len z.1.cap (bv (shadesL (pal.take k))) ∧
          z.2.1.len = (alphasL (pal.take k)).length ∧ Own w' (hn w24) 5 1 z.2.1.a z.2.1.len z.2.1.cap (bv (alphasL (pal.take k))) ∧ z.2.2.1 = anyClear (pal.take k) ∧ (∀ x ∈ blkOf z.1.a, x ∉ blkOf z.2.1.a)) (fun z _ => pal.length - z.2.2.2.1.toNat)
        ⟨hf26.trans hf28, 0, rfl, by omega, rfl, by simpa [shadesL] using hoA, rfl, by simpa [alphasL] using hoB, rfl, fun x hx hx' => by simp [blkOf] at hx hx'; omega⟩ ?_
      rintro ⟨⟨pA, lA, cA⟩, ⟨pB, lB, cB⟩, any, k', ⟨⟩⟩ w30 ⟨hf30, k, rfl, hk, rfl, hoA, rfl, hoB, rfl, hAB⟩
      dsimp only at *
      have F30 := F24.trans hf30
      have hshl : (shadesL (pal.take k)).length = 3 * k := by rw [shadesL_length]; simp; omega
      have hall : (alphasL (pal.take k)).length = k := by simp [alphasL]; omega
      refine IfC_dec (fun h => ?_) (fun h => ?_)
      · obtain ⟨d, hd⟩ : ∃ d, pal[k]? = some d := ⟨pal[k]'(by omega), List.getElem?_eq_getElem (by omega)⟩
        obtain ⟨v1, v2, v3, v4⟩ := dotV_at hd
        have hp30 := hpal.fr0 F30
        obtain ⟨bb, oo, q1, k1⟩ := Has.some hp30 v1
        obtain ⟨bb2, oo2, q2, k2⟩ := Has.some hp30 v2
        obtain ⟨bb3, oo3, q3, k3⟩ := Has.some hp30 v3
        obtain ⟨bb4, oo4, q4, k4⟩ := Has.some hp30 v4
        subst q1
        cases q2; cases q3; cases q4
        refine ⟨⟨by omega, h⟩, ?_⟩
        rw [PtrC_some, Int.toNat_natCast, elemAt_many]
        dsimp only
        simp only [← Nat.add_assoc] at k2 k3 k4
        rw [LdI_eq, k1, RdI_some, LdI_eq, k2, RdI_some, LdI_eq, k3, RdI_some, LdI_eq, k4, RdI_some, zc43]
        refine AllocC_at fun w39 h39 hf39 hn39 => ?_
        refine StoreC_at h39 (by simp) fun w40 h40 hf40 hn40 => ?_
        refine StoreC_at h40 (by simp) fun w41 h41 hf41 hn41 => ?_
        refine StoreC_at h41 (by simp) fun w42 h42 hf42 hn42 => ?_
        refine StoreC_at h42 (by simp) fun w43 h43 hf43 hn43 => ?_
        have h43 : hp w43 (hn w30) = Row 43 #[.int .i64 (257 * d.1.toNat : Nat), .int .i64 (257 * d.2.1.toNat : Nat), .int .i64 (257 * d.2.2.1.toNat : Nat), .int .i64 (257 * d.2.2.2.toNat : Nat)] := h43
        have h30n : hn w30 ≤ hn w30 := Nat.le_refl _
        have hf3043 : Fr [] w30 w43 := (((hf39.new1 hf40 h30n).new1 hf41 h30n).new1 hf42 h30n).new1 hf43 h30n
        refine LdI_at h43 rfl (DivC_of (by decide) (LdI_at h43 rfl (DivC_of (by decide) (LdI_at h43 rfl (DivC_of (by decide) ?_)))))
        rw [u8_257, u8_257, u8_257]
        have hblkA := hoA.blk
        have hblkB := hoB.blk
        have h3043 := hf3043.size
        have hr43 := hp_lt h43
        refine AppLit2 ok33 (hf30.trans hf3043) (hoA.fr0 hf3043) (cs := #[u8v d.1, u8v d.2.1, u8v d.2.2.1]) (m := 3) rfl (by simp [u8v, Value.oneCell']) (by omega) ?_
        intro p49 c51 w52 hf52 hf52' ho52 hsrc52
        have hr52 := hf52'.row h43 fun hx => by have := hblkA _ hx; omega
        refine LdI_at hr52 rfl (DivC_of (by decide) ?_)
        rw [u8_257]
        have hoB52 := (hoB.fr0 hf3043).fr hf52' fun a ha hx => hAB _ hx (by rw [ha]; exact mem_blkOf)
        have h4352 := hf52'.size
        refine AppLit2 ok33 hf52 hoB52 (cs := #[u8v d.2.2.2]) (m := 1) rfl (by simp [u8v, Value.oneCell']) (by omega) ?_
        intro p56 c58 w59 hf59 hf59' ho59 hsrc59
        have hr59 := hf59'.row hr52 fun hx => by have := hblkB _ hx; omega
        have hd52 : ∀ x ∈ blkOf p49, x ∉ blkOf pB := fun x hx hx' => by
          have := hblkB _ hx'
          rcases hsrc52 _ hx with h | h
          · exact hAB _ h hx'
          · omega
        have ho49 := ho52.fr hf59' fun a ha hx => hd52 _ (by rw [ha]; exact mem_blkOf) hx
        have hblk49 := ho52.blk
        have hdis : ∀ x ∈ blkOf p49, x ∉ blkOf p56 := fun x hx hx' => by
          rcases hsrc59 _ hx' with h | h
          · exact hd52 x hx h
          · have := hblk49 _ hx; omega
        have et : pal.take (k + 1) = pal.take k ++ [d] := by
          rw [List.take_succ_eq_append_getElem (by omega)]
          congr 2
          have := List.getElem?_eq_getElem (l := pal) (i := k) (by omega)
          rw [this] at hd; exact Option.some.inj hd
        have es : shadesL (pal.take (k + 1)) = shadesL (pal.take k) ++ [d.1, d.2.1, d.2.2.1] := by rw [et]; simp [shadesL]
        have ea : alphasL (pal.take (k + 1)) = alphasL (pal.take k) ++ [d.2.2.2] := by rw [et]; simp [alphasL]
        have en : anyClear (pal.take (k + 1)) = (anyClear (pal.take k) || d.2.2.2 != 255) := by rw [et]; simp [anyClear]
        have hlast : (((257 * d.2.2.2.toNat : Nat) : Int) != 65535) = (d.2.2.2 != 255) := by
          have hx := UInt8.toNat_lt d.2.2.2
          by_cases h5 : d.2.2.2 = 255
          · rw [h5]; rfl
          · have h6 : d.2.2.2.toNat ≠ 255 := fun e => h5 (UInt8.toNat_inj.1 e)
            have h7 : ((257 * d.2.2.2.toNat : Nat) : Int) ≠ 65535 := by omega
            rw [bne_iff_ne.2 h5, bne_iff_ne.2 h7]
        simp (disch := omega) only [wrap_i64_id]
        refine IfC_bool (fun hany => ?_) (fun hany => LdI_at hr59 rfl ?_)
        · exact ⟨⟨hf59, k + 1, by simp, by omega, by rw [es]; simp, by rw [es, bv_append]; exact ho49, by rw [ea]; simp, by rw [ea, bv_append]; exact ho59, by rw [en, hany]; rfl, hdis⟩, by omega⟩
        · exact ⟨⟨hf59, k + 1, by simp, by omega, by rw [es]; simp, by rw [es, bv_append]; exact ho49, by rw [ea]; simp, by rw [ea, bv_append]; exact ho59, by rw [en, hany, hlast]; rfl, hdis⟩, by omega⟩
      · have hke : k = pal.length := by omega
        subst hke
        rw [List.take_length] at *
        have hn24 := hf30.size
        have hblkB := hoB.blk
        have hplc := chunkL_length (nm := nPLTE) (data := shadesL pal) rfl
        have hshl' := shadesL_length pal
        refine JoinC_of (fun z w' => Fr [] wB w' ∧ z.1.len = (fileL ([(nIHDR, headL W H D C L)] ++ if 0 < pal.length then [(nPLTE, shadesL pal)] else [])).length ∧ z.1.len ≤ 813 ∧
            Own w' (hn wB) 5 1 z.1.a z.1.len z.1.cap (bv (fileL ([(nIHDR, headL W H D C L)] ++ if 0 < pal.length then [(nPLTE, shadesL pal)] else []))) ∧ Own w' (hn w24) 5 1 pB (alphasL pal).length cB (bv (alphasL pal)) ∧ (∀ x ∈ blkOf pB, x ∉ blkOf z.1.a)) ?_ ?_
        · rintro ⟨⟨q1, m1, k1⟩, ⟨⟩⟩ w62 ⟨F62, rfl, hm1, ho61, hoB62, hdB⟩
          dsimp only at *
          generalize hcs1 : [(nIHDR, headL W H D C L)] ++ (if 0 < pal.length then [(nPLTE, shadesL pal)] else []) = cs1 at *
          have halc := chunkL_length (nm := ntRNS) (data := alphasL pal) rfl
          refine JoinC_of (fun z w' => Fr [] wB w' ∧ z.1.len = (fileL (cs1 ++ if anyClear pal then [(ntRNS, alphasL pal)] else [])).length ∧ z.1.len ≤ 1081 ∧
              Own w' (hn wB) 5 1 z.1.a z.1.len z.1.cap (bv (fileL (cs1 ++ if anyClear pal then [(ntRNS, alphasL pal)] else [])))) ?_ ?_
          · rintro ⟨⟨q2, m2, k2⟩, ⟨⟩⟩ w65 ⟨F65, rfl, hm2, ho64⟩
            dsimp only at *
            generalize hcs2 : cs1 ++ (if anyClear pal then [(ntRNS, alphasL pal)] else []) = cs2 at *
            have hcll2 : ∀ l : List Nat, (clearL l).length = 2 * l.length := fun l => by
              induction l with
              | nil => rfl
              | cons x r ih => simp only [clearL, List.flatMap_cons, List.length_append, List.length_cons, List.length_nil] at *; omega
            have hclc := chunkL_length (nm := ntRNS) (data := clearL cl) rfl
            refine JoinC_of (fun z w' => Fr [] wB w' ∧ z.1.len = (fileL (cs2 ++ if 0 < cl.length then [(ntRNS, clearL cl)] else [])).length ∧ z.1.len ≤ 1125 ∧
                Own w' (hn wB) 5 1 z.1.a z.1.len z.1.cap (bv (fileL (cs2 ++ if 0 < cl.length then [(ntRNS, clearL cl)] else [])))) ?_ ?_
            · rintro ⟨⟨q3, m3, k3⟩, ⟨⟩⟩ w68 ⟨F68, rfl, hm3, ho67⟩
              dsimp only at *
              have hfore : cs2 ++ (if 0 < cl.length then [(ntRNS, clearL cl)] else []) = foreL W H D C L pal cl := by
                rw [← hcs2, ← hcs1]; simp [foreL, List.append_assoc]
              rw [hfore] at ho67 hm3 ⊢
              refine AppR_own2 (S := []) (w0 := wB) (q := none) (m := 0) (d := 0) (news := []) ok33 F68 ho67 (show Has w68 none [] from rfl) (by simp) (by simp) (by omega) (by simp) ?_
              intro p70 c72 w73 F73 _ ho70 _
              rw [List.append_nil, Nat.add_zero] at ho70
              refine DrewC_at fun w74 hf74 hn74 => ?_
              have F74 := F73.trans hf74
              have hS74 := F74.row0 hS
              have hB74 := F74.row0 hB
              refine LdI_at hS74 rfl (LdI_at hS74 rfl (LdI_at hS74 rfl (LdI_at hS74 rfl (LdB_at hS74 rfl (LdSl_at hB74 rfl (LdI_at hB74 rfl (LdI_at hB74 rfl ?_)))))))
              refine CallT.mono (c32 hW hH hD (hx.fr0 F74) hl hnn hlc (hfs.fr0 F74) rfl hfl) ?_
              rintro _ w86 ⟨xs, hR, hf86, p87, c89, rfl, ho87⟩
              have F86 := F74.trans hf86
              have hB86 := F86.row0 hB
              have hxl : xs.length ≤ 229824 := by rw [hR.length]; exact lens_sum hW.2 hH.2 (by omega)
              have hxc : xs.length ≤ c89 := by
                rcases ho87 with ⟨_, ⟨_, h0, _⟩ | ⟨_, _, _, _, _, h1, _⟩⟩ <;> omega
              refine ⟨_, _, _, rfl, LdI_at hB86 rfl ⟨rfl, LdI_at hB86 rfl ⟨rfl, ?_⟩⟩⟩
              refine CallT.mono (c56 ho87.has rfl hxc (by omega) hsz) ?_
              rintro _ w93 ⟨zs, hZ, hzl, hf93, p94, c96, rfl, ho94⟩
              refine ⟨_, _, _, rfl, ?_⟩
              have F93 := F86.trans hf93
              have hblk94 := ho94.blk
              have ho93 := (ho70.fr0 hf74).fr0 (hf86.trans hf93)
              have hblk70 := ho70.blk
              have h7374 := hf74.size
              have h7486 := hf86.size
              have hzc : zs.length ≤ c96 := by
                rcases ho94 with ⟨_, ⟨_, h0, _⟩ | ⟨_, _, _, _, _, h1, _⟩⟩ <;> omega
              refine LoopC_of (fun z w' => Fr [] wB w' ∧ ∃ (k : Nat) (ds : List (List UInt8)) (rest : List UInt8), z.2.2.1 = k ∧ k ≤ zs.length ∧ k + rest.length ≤ zs.length ∧ z.1.len = (fileL (foreL W H D C L pal cl ++ datL ds)).length ∧ z.1.len + 13 * rest.length ≤ 1125 + 13 * zs.length ∧
                  Own w' (hn wB) 5 1 z.1.a z.1.len z.1.cap (bv (fileL (foreL W H D C L pal cl ++ datL ds))) ∧ Has w' z.2.1.a (bv rest) ∧ z.2.1.len = rest.length ∧ rest.length ≤ z.2.1.cap ∧ (z.2.1.a = none → z.2.1.cap = 0) ∧
                  ds.flatten ++ rest = zs ∧ (∀ d ∈ ds, d ≠ []) ∧ (∀ x ∈ blkOf z.2.1.a, x < hn w' ∧ x ∉ blkOf z.1.a)) (fun z _ => z.2.1.len)
                ⟨F93, 0, [], zs, rfl, by omega, by omega, by simp [datL], by dsimp only; omega, by simpa [datL] using ho93, ho94.has, rfl, hzc, by intro h; dsimp only at h; subst h; exact ho94.none_iff.2.1, by simp, by simp, fun x hx => by
                  have := hblk94 x hx; exact ⟨by omega, fun hx' => by have := hblk70 x hx'; omega⟩⟩ ?_
              rintro ⟨⟨qo, lo, co⟩, ⟨qa, la, ca⟩, k', ⟨⟩⟩ w98 ⟨F98, k, ds, rest, rfl, hkz, hkr, rfl, hlo, hoo, har, rfl, hrc, hnone, hflat, hne, hdis⟩
              dsimp only at *
              have step : ∀ (n : Nat), 1 ≤ n → n ≤ rest.length → CallT Pg 48 #[.string ⟨nIDAT.toArray⟩, .slice qa n ca] w98 fun v w119 => ∃ (p120 : Option Addr) (l121 c122 : Nat), v = .slice p120 l121 c122 ∧
                  AppR Pg w119 #[33, 33] 33 (.slice qo (fileL (foreL W H D C L pal cl ++ datL ds)).length co) (.slice p120 l121 c122) fun p l c w' => (Fr [] wB w' ∧ ∃ (k2 : Nat) (ds : List (List UInt8)) (rest2 : List UInt8), IntKind.wrap .i64 ((k : Int) + 1) = k2 ∧ k2 ≤ zs.length ∧ k2 + rest2.length ≤ zs.length ∧ l = (fileL (foreL W H D C L pal cl ++ datL ds)).length ∧ l + 13 * rest2.length ≤ 1125 + 13 * zs.length ∧
                    Own w' (hn wB) 5 1 p l c (bv (fileL (foreL W H D C L pal cl ++ datL ds))) ∧ Has w' (slAdd qa ca n 1) (bv rest2) ∧ rest.length - n = rest2.length ∧ rest2.length ≤ ca - n ∧ (slAdd qa ca n 1 = none → ca - n = 0) ∧
                    ds.flatten ++ rest2 = zs ∧ (∀ d ∈ ds, d ≠ []) ∧ (∀ x ∈ blkOf (slAdd qa ca n 1), x < hn w' ∧ x ∉ blkOf p)) ∧ rest.length - n < rest.length := by
                intro n h1 h2
                have htk : (rest.take n).length = n := by simp; omega
                refine CallT.mono (c48 (nm := nIDAT) (xs := rest.take n) (Has.pre har) htk.symm (by omega) (by decide) hnone) ?_
                rintro _ w119 ⟨hf119, p120, c122, rfl, ho120⟩
                refine ⟨_, _, _, rfl, ?_⟩
                have hcl1 := chunkL_length (nm := nIDAT) (data := rest.take n) rfl
                refine addChunk (cs := foreL W H D C L pal cl ++ datL ds) (nm := nIDAT) (d := rest.take n) F98 hoo rfl hf119 rfl ho120 (by omega) ?_
                intro p' c' w' F' hf' ho' hsrc
                have h98 := hf119.size
                have h119 := hf'.size
                have ed : foreL W H D C L pal cl ++ datL ds ++ [(nIDAT, rest.take n)] = foreL W H D C L pal cl ++ datL (ds ++ [rest.take n]) := by simp [datL]
                have el : (fileL (foreL W H D C L pal cl ++ datL ds ++ [(nIDAT, rest.take n)])).length = (fileL (foreL W H D C L pal cl ++ datL ds)).length + (chunkL nIDAT (rest.take n)).length := by rw [fileL_snoc, List.length_append]
                have hdl : (rest.drop n).length = rest.length - n := by simp
                refine ⟨⟨F', k + 1, ds ++ [rest.take n], rest.drop n, by rw [wrap_i64_id (by omega) (by omega)]; simp, by omega, by omega, by rw [ed], by omega, by rw [← ed]; exact ho', ?_, by omega, by omega, ?_, by simp [← hflat], ?_, ?_⟩, by omega⟩
                · exact Has.adv ((har.fr0 hf119).fr hf' fun a ha hx => (hdis _ (by rw [ha]; exact mem_blkOf)).2 hx) hrc h2
                · intro hs
                  have : qa = none := by
                    unfold slAdd at hs
                    split at hs
                    · exact hs
                    · cases qa with
                      | none => rfl
                      | some a => simp at hs
                  have := hnone this
                  omega
                · intro d hd
                  rcases List.mem_append.1 hd with hd | hd
                  · exact hne d hd
                  · simp at hd; subst hd; intro e; rw [e] at htk; simp at htk; omega
                · intro x hx
                  rw [blkOf_slAdd] at hx
                  have := hdis x hx
                  refine ⟨by omega, fun hx' => ?_⟩
                  rcases hsrc _ hx' with h | h
                  · exact this.2 h
                  · omega
              have hBs := F98.row0 hB
              refine IfC_dec (fun hr0 => LdSl_at hBs rfl (IfC_dec (fun hku => LdSl_at hBs rfl ?_) (fun hku => ?_))) (fun hr0 => ?_)
              · refine IdxB (hus.fr0 F98) rfl (by omega) hku ?_
                have hu : 1 ≤ gb us k := by
                  have := List.getElem?_eq_getElem (l := us) (i := k) (by omega)
                  rw [gb_eq this]; exact hu1 _ (List.getElem_mem _)
                have hg := gb_lt us k
                rw [Int.toNat_natCast, wrap_i64_id (n := (gb us k : Int)) (by omega) (by omega), minI_nat]
                refine ⟨⟨by omega, by omega⟩, ?_⟩
                rw [Int.toNat_natCast]
                refine CallT.mono (step (min (gb us k) rest.length) (by omega) (by omega)) ?_
                rintro v w' ⟨p, l, c, rfl, hA⟩
                refine ⟨_, _, _, rfl, ?_⟩
                obtain ⟨p', l', c', w'', h1, h2⟩ := hA
                exact ⟨p', l', c', w'', h1, ⟨by omega, by omega⟩, h2⟩
              · refine ⟨⟨by omega, by omega⟩, ?_⟩
                rw [Int.toNat_natCast]
                refine CallT.mono (step rest.length (by omega) (by omega)) ?_
                rintro v w' ⟨p, l, c, rfl, hA⟩
                refine ⟨_, _, _, rfl, ?_⟩
                obtain ⟨p', l', c', w'', h1, h2⟩ := hA
                exact ⟨p', l', c', w'', h1, ⟨by omega, by omega⟩, h2⟩
              · have hr : rest = [] := List.length_eq_zero_iff.1 (by omega)
                subst hr
                refine AppR_own2 (S := []) (w0 := wB) (q := none) (m := 0) (d := 0) (news := []) ok33 F98 hoo (show Has w98 none [] from rfl) (by simp) (by simp) (by omega) (by simp) ?_
                intro p127 c129 w130 F130 _ ho127 _
                rw [List.append_nil, Nat.add_zero] at ho127
                refine CallT.mono (c48 (p := none) (l := 0) (c := 0) (nm := nIEND) (xs := []) rfl rfl (by omega) (by decide) (by simp)) ?_
                rintro _ w132 ⟨hf132, p133, c135, rfl, ho133⟩
                refine ⟨_, _, _, rfl, ?_⟩
                have hcl1 := chunkL_length (nm := nIEND) (data := []) rfl
                refine addChunk (cs := foreL W H D C L pal cl ++ datL ds) (nm := nIEND) (d := []) F130 ho127 rfl hf132 rfl ho133 (by omega) ?_
                intro p' c' w' F' _ ho' _
                exact ⟨xs, zs, ds, hR, hZ, by simpa using hflat, hne, by omega, hwB.trans F', p', c', rfl, ho'.base_le hwB.size⟩
            · intro J hJ
              have h65 : hn w65 ≤ hn w65 := Nat.le_refl _
              refine IfC_dec (fun hc0 => ?_) (fun hc0 => ?_)
              · refine AllocC_at fun w141 h141 hf141 hn141 => ?_
                have ho141 := Own.of_row (base := hn w65) (size := 1) (l := 0) h141 h65 (by simp)
                refine LoopC_of (fun z w' => Fr [] w65 w' ∧ ∃ k : Nat, z.2.1 = k ∧ k ≤ cl.length ∧ z.1.len = (clearL (cl.take k)).length ∧ Own w' (hn w65) 5 1 z.1.a z.1.len z.1.cap (bv (clearL (cl.take k)))) (fun z _ => cl.length - z.2.1.toNat)
                  ⟨hf141, 0, rfl, by omega, rfl, by simpa [clearL] using ho141⟩ ?_
                rintro ⟨⟨pc, lc, cc'⟩, k', ⟨⟩⟩ w143 ⟨hf143, k, rfl, hk, rfl, hoc⟩
                dsimp only at *
                have F143 := F65.trans hf143
                refine IfC_dec (fun hkc => ?_) (fun hkc => ?_)
                · have hv : (iv cl)[k]? = some (.int .i64 ((cl[k]'(by omega) : Nat) : Int)) := by simp [iv, List.getElem?_eq_getElem (show k < cl.length by omega)]
                  refine IdxI (hcl.fr0 F143) (by omega) hkc (by rw [Int.toNat_natCast]; exact hv) ?_
                  have et : cl.take (k + 1) = cl.take k ++ [cl[k]'(by omega)] := List.take_succ_eq_append_getElem (by omega)
                  generalize cl[k]'(by omega) = v at *
                  have hb1 : Value.int .u8 (IntKind.wrap .u8 (shrI .i64 (v : Int) 8)) = u8v (UInt8.ofNat (v / 256)) := by
                    have e8 : shrI .i64 (v : Int) ((8 : Nat) : Int) = ((v / 2 ^ 8 : Nat) : Int) := shrI_nat .i64 v 8 (by decide)
                    rw [show (8 : Int) = ((8 : Nat) : Int) from rfl, e8, u8v_ofNat, wrap_u8]; congr 1
                  have hb2 : Value.int .u8 (IntKind.wrap .u8 (v : Int)) = u8v (UInt8.ofNat v) := by rw [u8v_ofNat, wrap_u8]; congr 1
                  rw [hb1, hb2]
                  have h2k : (clearL (cl.take k)).length = 2 * k := by rw [hcll2]; simp; omega
                  refine ShC_of (by decide) (AppLit ok33 hf143 hoc (cs := #[u8v (UInt8.ofNat (v / 256)), u8v (UInt8.ofNat v)]) (m := 2) rfl (by simp [u8v, Value.oneCell']) (by omega) ?_)
                  intro p' c' w153 hf153 _ ho153
                  have es : clearL (cl.take (k + 1)) = clearL (cl.take k) ++ [UInt8.ofNat (v / 256), UInt8.ofNat v] := by rw [et]; simp [clearL]
                  rw [wrap_i64_id (by omega) (by omega)]
                  exact ⟨⟨hf153, k + 1, by simp, by omega, by rw [es]; simp, by rw [es, bv_append]; exact ho153⟩, by omega⟩
                · have : k = cl.length := by omega
                  subst this
                  rw [List.take_length] at *
                  have h2k := hcll2 cl
                  refine CallT.mono (c48 (nm := ntRNS) (xs := clearL cl) hoc.has rfl (by omega) (by decide) (by intro h; subst h; exact hoc.none_iff.2.1)) ?_
                  rintro _ w155 ⟨hf155, p156, c158, rfl, ho156⟩
                  refine ⟨_, _, _, rfl, ?_⟩
                  refine addChunk (cs := cs2) (nm := ntRNS) (d := clearL cl) F143 (ho64.fr0 hf143) rfl hf155 rfl ho156 (by omega) ?_
                  intro p' c' w' F' _ ho' _
                  have e : (fileL (cs2 ++ [(ntRNS, clearL cl)])).length = (fileL cs2).length + (chunkL ntRNS (clearL cl)).length := by rw [fileL_snoc, List.length_append]
                  refine hJ _ _ ⟨F', by rw [if_pos (by omega)], by dsimp only; omega, by rw [if_pos (by omega)]; exact ho'⟩
              · exact hJ _ _ ⟨F65, by rw [if_neg (by omega), List.append_nil], by dsimp only; omega, by rw [if_neg (by omega), List.append_nil]; exact ho64⟩
          · intro J hJ
            refine IfC_bool (fun hany => ?_) (fun hany => ?_)
            · have hal : (alphasL pal).length = pal.length := by simp [alphasL]
              refine CallT.mono (c48 (nm := ntRNS) (xs := alphasL pal) hoB62.has rfl (by omega) (by decide) (by intro h; subst h; exact hoB62.none_iff.2.1)) ?_
              rintro _ w164 ⟨hf164, p165, c167, rfl, ho165⟩
              refine ⟨_, _, _, rfl, ?_⟩
              refine addChunk (cs := cs1) (nm := ntRNS) (d := alphasL pal) F62 ho61 rfl hf164 rfl ho165 (by omega) ?_
              intro p' c' w' F' _ ho' _
              have e : (fileL (cs1 ++ [(ntRNS, alphasL pal)])).length = (fileL cs1).length + (chunkL ntRNS (alphasL pal)).length := by rw [fileL_snoc, List.length_append]
              exact hJ _ _ ⟨F', by rw [if_pos hany], by dsimp only; omega, by rw [if_pos hany]; exact ho'⟩
            · exact hJ _ _ ⟨F62, by rw [hany]; simp, by dsimp only; omega, by rw [hany]; simpa using ho61⟩
        · intro J hJ
          refine IfC_dec (fun hp0 => ?_) (fun hp0 => ?_)
          · refine CallT.mono (c48 (nm := nPLTE) (xs := shadesL pal) hoA.has rfl (by omega) (by decide) (by intro h; subst h; exact hoA.none_iff.2.1)) ?_
            rintro _ w173 ⟨hf173, p174, c176, rfl, ho174⟩
            refine ⟨_, _, _, rfl, ?_⟩
            refine addChunk (cs := [(nIHDR, headL W H D C L)]) (nm := nPLTE) (d := shadesL pal) F30 (ho21.fr0 hf30) rfl hf173 rfl ho174 (by omega) ?_
            intro p' c' w' F' hf' ho' hsrc
            have h173 := hf173.size
            have e : (fileL ([(nIHDR, headL W H D C L)] ++ [(nPLTE, shadesL pal)])).length = (fileL [(nIHDR, headL W H D C L)]).length + (chunkL nPLTE (shadesL pal)).length := by rw [fileL_snoc, List.length_append]
            refine hJ _ _ ⟨F', by rw [if_pos (by omega)], by dsimp only; omega, by rw [if_pos (by omega)]; exact ho', (hoB.fr0 hf173).fr hf' fun a ha hx => ?_, fun x hx hx' => ?_⟩
            · have := hblkB a.block (by rw [ha]; exact mem_blkOf); have := hblk21 _ hx; omega
            · have := hblkB x hx
              rcases hsrc _ hx' with h | h
              · have := hblk21 _ h; omega
              · omega
          · refine hJ _ _ ⟨F30, by rw [if_neg (by omega)]; rfl, by dsimp only; omega, by rw [if_neg (by omega)]; exact ho21.fr0 hf30, hoB, fun x hx hx' => ?_⟩
            have := hblkB x hx; have := hblk21 x hx'; omega
    · intro J hJ
      have ht : (#[Value.int .u8 (IntKind.wrap .u8 (D : Int)), .int .u8 (IntKind.wrap .u8 (C : Int)), .int .u8 0, .int .u8 0, .int .u8 (if L = true then 1 else 0)] : Array Value) = (bv [UInt8.ofNat D, UInt8.ofNat C, 0, 0, if L then 1 else 0]).toArray := by
        have e1 : ∀ n : Nat, Value.int .u8 (IntKind.wrap .u8 (n : Int)) = u8v (UInt8.ofNat n) := fun n => by rw [u8v_ofNat, wrap_u8]; congr 1
        rw [e1, e1]
        cases L <;> simp [u8v]
      have hend : ∀ {wX wY : World} {p q : Option Addr} {c d : Nat}, Fr [] wB wX → Own wX (hn wB) 5 1 p (4 + 4) c (bv (fourL W) ++ bv (fourL H)) → Has wX q (bv [UInt8.ofNat D, UInt8.ofNat C, 0, 0, if L then 1 else 0]) → (q = none → d = 0) →
          AppR Pg wX #[33, 33] 33 (.slice p (4 + 4) c) (.slice q 5 d) fun p l c w' => J ((⟨p, l, c⟩ : Sl), ()) w' := by
        intro wX wY p q c d F ho hq hd
        refine AppR_own (S := []) (w0 := wB) ok33 F ho hq (by simp) (bv_one _) (by omega) hd ?_
        intro p' c' w' F' _ ho'
        exact hJ _ _ ⟨F', by simpa [headL, List.append_assoc] using ho', rfl⟩
      refine DrewC_at fun w3 hf3 hn3 => ?_
      have hS3 := hf3.row0 hS
      refine LdI_at hS3 rfl (LdI_at hS3 rfl (LdI_at hS3 rfl (LdI_at hS3 rfl ?_)))
      have hW32 : IntKind.wrap .u32 (W : Int) = W := wrap_u32_id (by omega) (by omega)
      have hH32 : IntKind.wrap .u32 (H : Int) = H := wrap_u32_id (by omega) (by omega)
      rw [hW32, hH32, ht]
      refine ⟨?_, ?_⟩
      · refine CallT.mono (c34 (by omega)) ?_
        rintro _ w4 ⟨hf4, p4, c4, rfl, ho4⟩
        have F4 := hf3.trans hf4
        have hS4 := F4.row0 hS
        have hn3' := hf3.size
        have ho4 := ho4.base_le hn3'
        refine ⟨_, _, _, rfl, LdI_at hS4 rfl ⟨rfl, LdI_at hS4 rfl ⟨rfl, LdI_at hS4 rfl ⟨rfl, ?_, ?_⟩⟩⟩⟩
        · refine CallT.mono (c34 (by omega)) ?_
          rintro _ w5 ⟨hf5, p5, c5, rfl, ho5⟩
          have F5 := F4.trans hf5
          have hS5 := F5.row0 hS
          refine ⟨_, _, _, rfl, LdI_at hS5 rfl ⟨rfl, LdI_at hS5 rfl ⟨rfl, ?_, ?_⟩⟩⟩
          · refine AppR_own (S := []) (w0 := wB) ok33 F5 (ho4.fr0 hf5) ho5.has (by simp) (bv_one _) (by simp [fourL_length]) (by intro h; subst h; exact ho5.none_iff.2.1) ?_
            intro p6 c6 w6 F6 _ ho6
            have hS6 := F6.row0 hS
            refine LdI_at hS6 rfl ⟨rfl, LdI_at hS6 rfl ⟨rfl, ?_⟩⟩
            refine AllocC_at fun w7 hb7 hf7 hn7 => ?_
            have F7 := F6.trans hf7
            have hS7 := F7.row0 hS
            refine LdI_at hS7 rfl ⟨rfl, LdI_at hS7 rfl ⟨rfl, ?_⟩⟩
            exact hend (wY := w7) F7 (ho6.fr0 hf7) (Has.of_row hb7) (by simp)
          · refine AllocC_at fun w7 hb7 hf7 hn7 => ?_
            have F7 := F5.trans hf7
            have hS7 := F7.row0 hS
            refine LdI_at hS7 rfl ⟨rfl, LdI_at hS7 rfl ⟨rfl, ?_⟩⟩
            have hblk4 := ho4.blk
            have h45 := hf5.size
            refine AppR_own (S := []) (w0 := wB) ok33 F7 ((ho4.fr0 hf5).fr0 hf7) (ho5.fr0 hf7).has (by simp) (bv_one _) (by simp [fourL_length]) (by intro h; subst h; exact ho5.none_iff.2.1) ?_
            intro p6 c6 w6 F6 hf6 ho6
            have hS6 := F6.row0 hS
            refine LdI_at hS6 rfl ⟨rfl, LdI_at hS6 rfl ⟨rfl, ?_⟩⟩
            exact hend (wY := w6) F6 ho6 (Has.of_row (hf6.row hb7 fun hx => by have := hblk4 _ hx; omega)) (by simp)
        · refine AllocC_at fun w5 hb5 hf5 hn5 => ?_
          have F5 := F4.trans hf5
          have hS5 := F5.row0 hS
          refine LdI_at hS5 rfl ⟨rfl, LdI_at hS5 rfl ⟨rfl, ?_⟩⟩
          refine CallT.mono (c34 (by omega)) ?_
          rintro _ w6 ⟨hf6, p6, c6, rfl, ho6⟩
          have F6 := F5.trans hf6
          have hS6 := F6.row0 hS
          refine ⟨_, _, _, rfl, LdI_at hS6 rfl ⟨rfl, LdI_at hS6 rfl ⟨rfl, ?_⟩⟩⟩
          have hblk4 := ho4.blk
          refine AppR_own (S := []) (w0 := wB) ok33 F6 ((ho4.fr0 hf5).fr0 hf6) ho6.has (by simp) (bv_one _) (by simp [fourL_length]) (by intro h; subst h; exact ho6.none_iff.2.1) ?_
          intro p7 c7 w7 F7 hf7 ho7
          have hS7 := F7.row0 hS
          refine LdI_at hS7 rfl ⟨rfl, LdI_at hS7 rfl ⟨rfl, ?_⟩⟩
          exact hend (wY := w7) F7 ho7 (Has.of_row (hf7.row (hf6.row0 hb5) fun hx => by have := hblk4 _ hx; omega)) (by simp)
      · refine AllocC_at fun w4 hb4 hf4 hn4 => ?_
        have F4 := hf3.trans hf4
        have hS4 := F4.row0 hS
        refine LdI_at hS4 rfl ⟨rfl, LdI_at hS4 rfl ⟨rfl, ?_⟩⟩
        refine CallT.mono (c34 (by omega)) ?_
        rintro _ w5 ⟨hf5, p5, c5, rfl, ho5⟩
        have F5 := F4.trans hf5
        have hS5 := F5.row0 hS
        have hB4 := F4.size
        have hblk5 := ho5.blk
        have hlt4 := hp_lt hb4
        refine ⟨_, _, _, rfl, LdI_at hS5 rfl ⟨rfl, LdI_at hS5 rfl ⟨rfl, LdI_at hS5 rfl ⟨rfl, ?_⟩⟩⟩⟩
        refine CallT.mono (c34 (by omega)) ?_
        rintro _ w6 ⟨hf6, p6, c6, rfl, ho6⟩
        have F6 := F5.trans hf6
        have hS6 := F6.row0 hS
        refine ⟨_, _, _, rfl, LdI_at hS6 rfl ⟨rfl, LdI_at hS6 rfl ⟨rfl, ?_⟩⟩⟩
        refine AppR_own (S := []) (w0 := wB) ok33 F6 ((ho5.base_le hB4).fr0 hf6) ho6.has (by simp) (bv_one _) (by simp [fourL_length]) (by intro h; subst h; exact ho6.none_iff.2.1) ?_
        intro p7 c7 w7 F7 hf7 ho7
        have hS7 := F7.row0 hS
        refine LdI_at hS7 rfl ⟨rfl, LdI_at hS7 rfl ⟨rfl, ?_⟩⟩
        exact hend (wY := w7) F7 ho7 (Has.of_row (hf7.row ((hf5.trans hf6).row0 hb4) fun hx => by have := hblk5 _ hx; omega)) (by simp)
  · intro J hJ
    refine LdB_at hS rfl (IfC_bool (fun h => ?_) (fun h => ?_))
    · exact hJ _ _ ⟨rfl, by simp [h]⟩
    · exact hJ _ _ ⟨rfl, by simp [h]⟩
end
end Go.Proofs
