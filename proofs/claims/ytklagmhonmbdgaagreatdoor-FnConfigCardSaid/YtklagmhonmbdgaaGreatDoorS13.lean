/- A step of the proofs (S13): contracts of the functions printed here, for all their arguments that meet what each names. -/
import Derived.Test.YtklagmhonmbdgaaGreatDoorBase
import Derived.Test.YtklagmhonmbdgaaGreatDoorSteps
import Derived.Test.YtklagmhonmbdgaaGreatDoorS12
set_option maxRecDepth 1000000
set_option linter.unusedVariables false
set_option linter.unusedSimpArgs false
set_option maxHeartbeats 4000000
namespace Go.Proofs
open Go Go.V
/-- loop.example/pub-g03440/impl.kindOf -/
def wp44 (x0 : Int) (R : Value → World → Prop) (w : World) : Prop := IfC (x0 == (1 : Int)) (R (.int .i64 (1 : Int) : Value) w) (IfC (x0 == (2 : Int)) (R (.int .i64 (2 : Int) : Value) w) (IfC (x0 == (3 : Int)) (R (.int .i64 (4 : Int) : Value) w) (IfC (x0 == (4 : Int)) (R (.int .i64 (8 : Int) : Value) w) (IfC (x0 == (12 : Int)) (R (.int .i64 (16 : Int) : Value) w) (IfC (x0 == (6 : Int)) (R (.int .i64 (208 : Int) : Value) w) (IfC (x0 == (14 : Int)) (R (.int .i64 (216 : Int) : Value) w) (IfC (x0 == (7 : Int)) (R (.int .i64 (301 : Int) : Value) w) (IfC (x0 == (8 : Int)) (R (.int .i64 (302 : Int) : Value) w) (IfC (x0 == (9 : Int)) (R (.int .i64 (304 : Int) : Value) w) (IfC (x0 == (10 : Int)) (R (.int .i64 (308 : Int) : Value) w) (IfC (x0 == (5 : Int)) (R (.int .i64 (408 : Int) : Value) w) (IfC (x0 == (13 : Int)) (R (.int .i64 (416 : Int) : Value) w) (IfC (x0 == (11 : Int)) (R (.int .i64 (608 : Int) : Value) w) (IfC (x0 == (15 : Int)) (R (.int .i64 (616 : Int) : Value) w) (R (.int .i64 (0 : Int) : Value) w)))))))))))))))
theorem eq44 (x0 : Int) (R : Value → World → Prop) (w : World) : vc Pg Gg (annOf []) 0 (bodyOf Tryz.f44) (retK Pg Tryz.f44.results.toList R) (argE 0 [.int .i64 x0]) w = wp44 x0 R w := by kernel_rfl
theorem call44 {x0 : Int} {R : Value → World → Prop} {w : World} (h : wp44 x0 R w) : CallT Pg 44 #[.int .i64 x0] w R :=
  calls_of_vc follows bodies Tryz.func44 (by kernel_rfl) (by kernel_rfl) (by kernel_rfl) ((eq44 x0 R w).mpr h)

/-- loop.example/pub-g03440/impl.shadesOf -/
def wp45 (x0 : Option Addr) (x0l : Nat) (x0c : Nat) (R : Value → World → Prop) (w : World) : Prop := LoopC (fun (J3 : (Sl × Int × Unit) → World → Prop) => J3 ((⟨none, 0, 0⟩ : Sl), (0 : Int), ()) w) (fun (z1 : (Sl × Int × Unit)) (w2 : World) (N4 : (Sl × Int × Unit) → World → Prop) => IfC (decide (z1.2.1 < (x0l : Int))) (And (0 ≤ z1.2.1 ∧ z1.2.1 < (x0l : Int)) (PtrC x0 fun (a5 : Addr) => LdV w2 (elemAt a5 z1.2.1.toNat 1) fun (v6 : Value) => TA Pg w2 v6 131 132 true fun (v7 : Value) (b8 : Bool) => Exists fun (n9 : Int) => Exists fun (n10 : Int) => Exists fun (n11 : Int) => Exists fun (n12 : Int) => And (v7 = .agg #[.int .u8 n9, .int .u8 n10, .int .u8 n11, .int .u8 n12]) (IfC b8 (AllocC w2 (.cells (zc Pg 132) 132) fun (r13 : Nat) (w14 : World) => StoreC w14 ⟨r13, 0, none⟩ (.int .u8 n9) fun (w15 : World) => StoreC w15 ⟨r13, 0 + 1, none⟩ (.int .u8 n10) fun (w16 : World) => StoreC w16 ⟨r13, 0 + 2, none⟩ (.int .u8 n11) fun (w17 : World) => StoreC w17 ⟨r13, 0 + 3, none⟩ (.int .u8 n12) fun (w18 : World) => LdI w18 ⟨r13, 0, none⟩ .u8 fun (n19 : Int) => LdI w18 ⟨r13, 0 + 1, none⟩ .u8 fun (n20 : Int) => LdI w18 ⟨r13, 0 + 2, none⟩ .u8 fun (n21 : Int) => LdI w18 ⟨r13, 0 + 3, none⟩ .u8 fun (n22 : Int) => AllocC w18 (.cells #[.int .u8 n19, .int .u8 n20, .int .u8 n21, .int .u8 n22] 41) fun (r23 : Nat) (w24 : World) => AppR Pg w24 #[35, 35] 35 (.slice z1.1.a z1.1.len z1.1.cap) (.slice (some ⟨r23, 0, none⟩) 1 1) fun (p25 : Option Addr) (l26 : Nat) (c27 : Nat) (w28 : World) => N4 ((⟨p25, l26, c27⟩ : Sl), IntKind.wrap .i64 (z1.2.1 + (1 : Int)), ()) w28) (TA Pg w2 v6 131 133 true fun (v29 : Value) (b30 : Bool) => Exists fun (n31 : Int) => Exists fun (n32 : Int) => Exists fun (n33 : Int) => Exists fun (n34 : Int) => And (v29 = .agg #[.int .u8 n31, .int .u8 n32, .int .u8 n33, .int .u8 n34]) (IfC b30 (AllocC w2 (.cells (zc Pg 133) 133) fun (r35 : Nat) (w36 : World) => StoreC w36 ⟨r35, 0, none⟩ (.int .u8 n31) fun (w37 : World) => StoreC w37 ⟨r35, 0 + 1, none⟩ (.int .u8 n32) fun (w38 : World) => StoreC w38 ⟨r35, 0 + 2, none⟩ (.int .u8 n33) fun (w39 : World) => StoreC w39 ⟨r35, 0 + 3, none⟩ (.int .u8 n34) fun (w40 : World) => LdI w40 ⟨r35, 0, none⟩ .u8 fun (n41 : Int) => LdI w40 ⟨r35, 0 + 1, none⟩ .u8 fun (n42 : Int) => LdI w40 ⟨r35, 0 + 2, none⟩ .u8 fun (n43 : Int) => LdI w40 ⟨r35, 0 + 3, none⟩ .u8 fun (n44 : Int) => AllocC w40 (.cells #[.int .u8 n41, .int .u8 n42, .int .u8 n43, .int .u8 n44] 41) fun (r45 : Nat) (w46 : World) => AppR Pg w46 #[35, 35] 35 (.slice z1.1.a z1.1.len z1.1.cap) (.slice (some ⟨r45, 0, none⟩) 1 1) fun (p47 : Option Addr) (l48 : Nat) (c49 : Nat) (w50 : World) => N4 ((⟨p47, l48, c49⟩ : Sl), IntKind.wrap .i64 (z1.2.1 + (1 : Int)), ()) w50) (AllocC w2 (.cells #[.int .u8 (0 : Int), .int .u8 (0 : Int), .int .u8 (0 : Int), .int .u8 (0 : Int)] 41) fun (r51 : Nat) (w52 : World) => AppR Pg w52 #[35, 35] 35 (.slice z1.1.a z1.1.len z1.1.cap) (.slice (some ⟨r51, 0, none⟩) 1 1) fun (p53 : Option Addr) (l54 : Nat) (c55 : Nat) (w56 : World) => N4 ((⟨p53, l54, c55⟩ : Sl), IntKind.wrap .i64 (z1.2.1 + (1 : Int)), ()) w56)))))) (R (.slice z1.1.a z1.1.len z1.1.cap : Value) w2))
theorem eq45 (x0 : Option Addr) (x0l : Nat) (x0c : Nat) (R : Value → World → Prop) (w : World) : vc Pg Gg (annOf [(8, [(3, .sl), (11, .i .i64)], [2, 9, 10])]) 0 (bodyOf Tryz.f45) (retK Pg Tryz.f45.results.toList R) (argE 0 [.slice x0 x0l x0c]) w = wp45 x0 x0l x0c R w := by kernel_rfl
theorem call45 {x0 : Option Addr} {x0l : Nat} {x0c : Nat} {R : Value → World → Prop} {w : World} (h : wp45 x0 x0l x0c R w) : CallT Pg 45 #[.slice x0 x0l x0c] w R :=
  calls_of_vc follows bodies Tryz.func45 (by kernel_rfl) (by kernel_rfl) (by kernel_rfl) ((eq45 x0 x0l x0c R w).mpr h)

/-- loop.example/pub-g03440/pub/png.DecodeConfig -/
def wp40 (x0 : Value) (R : Value → World → Prop) (w : World) : Prop := AllocC w (.cells (zc Pg 80) 80) fun (r1 : Nat) (w2 : World) => AllocC w2 (.cells (zc Pg 113) 113) fun (r3 : Nat) (w4 : World) => OneC (Value.oneCell' x0) (AllocC w4 (.cells (bcells Pg 119 [(0, .agg #[x0]), (2, .agg #[.pointer (some ⟨r3, 0, none⟩)])]) 119) fun (r5 : Nat) (w6 : World) => CallT Pg 59 #[.pointer (some ⟨r5, 0, none⟩)] w6 fun (v7 : Value) (w8 : World) => Exists fun (v9 : Value) => And (v7 = v9) (EqNil v9 fun (b10 : Bool) => IfC (!b10) (LdV w8 ⟨0, 0, none⟩ fun (v11 : Value) => VEqI Pg 82 (.tmp 15) (.tmp 16) v9 v11 w8 fun (b12 : Bool) => IfC b12 (LdV w8 ⟨1, 0, none⟩ fun (v13 : Value) => StoreC w8 ⟨r1, 0, none⟩ (.int .i64 (0 : Int)) fun (w14 : World) => StoreC w14 ⟨r1, 0 + 1, none⟩ (.slice none 0 0) fun (w15 : World) => StoreC w15 ⟨r1, 0 + 2, none⟩ (.int .i64 (0 : Int)) fun (w16 : World) => StoreC w16 ⟨r1, 0 + 3, none⟩ (.int .i64 (0 : Int)) fun (w17 : World) => LdI w17 ⟨r1, 0, none⟩ .i64 fun (n18 : Int) => LdSl w17 ⟨r1, 0 + 1, none⟩ fun (p19 : Option Addr) (l20 : Nat) (c21 : Nat) => LdI w17 ⟨r1, 0 + 2, none⟩ .i64 fun (n22 : Int) => LdI w17 ⟨r1, 0 + 3, none⟩ .i64 fun (n23 : Int) => R (.tuple #[.agg #[.int .i64 n18, .slice p19 l20 c21, .int .i64 n22, .int .i64 n23], v13] : Value) w17) (StoreC w8 ⟨r1, 0, none⟩ (.int .i64 (0 : Int)) fun (w24 : World) => StoreC w24 ⟨r1, 0 + 1, none⟩ (.slice none 0 0) fun (w25 : World) => StoreC w25 ⟨r1, 0 + 2, none⟩ (.int .i64 (0 : Int)) fun (w26 : World) => StoreC w26 ⟨r1, 0 + 3, none⟩ (.int .i64 (0 : Int)) fun (w27 : World) => LdI w27 ⟨r1, 0, none⟩ .i64 fun (n28 : Int) => LdSl w27 ⟨r1, 0 + 1, none⟩ fun (p29 : Option Addr) (l30 : Nat) (c31 : Nat) => LdI w27 ⟨r1, 0 + 2, none⟩ .i64 fun (n32 : Int) => LdI w27 ⟨r1, 0 + 3, none⟩ .i64 fun (n33 : Int) => R (.tuple #[.agg #[.int .i64 n28, .slice p29 l30 c31, .int .i64 n32, .int .i64 n33], v9] : Value) w27)) (JoinC (fun (z34 : (Unit)) (w35 : World) => DrewC w35 fun (w37 : World) => LdI w37 ⟨r5, 0 + 7, none⟩ .i64 fun (n38 : Int) => LdSl w37 ⟨r5, 0 + 6, none⟩ fun (p39 : Option Addr) (l40 : Nat) (c41 : Nat) => LdI w37 ⟨r5, 0 + 3, none⟩ .i64 fun (n42 : Int) => LdI w37 ⟨r5, 0 + 4, none⟩ .i64 fun (n43 : Int) => StoreC w37 ⟨r1, 0, none⟩ (.int .i64 n38) fun (w44 : World) => StoreC w44 ⟨r1, 0 + 1, none⟩ (.slice p39 l40 c41) fun (w45 : World) => StoreC w45 ⟨r1, 0 + 2, none⟩ (.int .i64 n42) fun (w46 : World) => StoreC w46 ⟨r1, 0 + 3, none⟩ (.int .i64 n43) fun (w47 : World) => LdI w47 ⟨r1, 0, none⟩ .i64 fun (n48 : Int) => LdSl w47 ⟨r1, 0 + 1, none⟩ fun (p49 : Option Addr) (l50 : Nat) (c51 : Nat) => LdI w47 ⟨r1, 0 + 2, none⟩ .i64 fun (n52 : Int) => LdI w47 ⟨r1, 0 + 3, none⟩ .i64 fun (n53 : Int) => R (.tuple #[.agg #[.int .i64 n48, .slice p49 l50 c51, .int .i64 n52, .int .i64 n53], .nilIface] : Value) w47) (fun (J36 : (Unit) → World → Prop) => LoopC (fun (J56 : (Unit) → World → Prop) => J56 (()) w8) (fun (z54 : (Unit)) (w55 : World) (N57 : (Unit) → World → Prop) => CallT Pg 60 #[.pointer (some ⟨r5, 0, none⟩), .bool true] w55 fun (v58 : Value) (w59 : World) => Exists fun (v60 : Value) => And (v58 = v60) (EqNil v60 fun (b61 : Bool) => IfC (!b61) (LdV w59 ⟨0, 0, none⟩ fun (v62 : Value) => VEqI Pg 82 (.tmp 25) (.tmp 26) v60 v62 w59 fun (b63 : Bool) => IfC b63 (LdV w59 ⟨1, 0, none⟩ fun (v64 : Value) => StoreC w59 ⟨r1, 0, none⟩ (.int .i64 (0 : Int)) fun (w65 : World) => StoreC w65 ⟨r1, 0 + 1, none⟩ (.slice none 0 0) fun (w66 : World) => StoreC w66 ⟨r1, 0 + 2, none⟩ (.int .i64 (0 : Int)) fun (w67 : World) => StoreC w67 ⟨r1, 0 + 3, none⟩ (.int .i64 (0 : Int)) fun (w68 : World) => LdI w68 ⟨r1, 0, none⟩ .i64 fun (n69 : Int) => LdSl w68 ⟨r1, 0 + 1, none⟩ fun (p70 : Option Addr) (l71 : Nat) (c72 : Nat) => LdI w68 ⟨r1, 0 + 2, none⟩ .i64 fun (n73 : Int) => LdI w68 ⟨r1, 0 + 3, none⟩ .i64 fun (n74 : Int) => R (.tuple #[.agg #[.int .i64 n69, .slice p70 l71 c72, .int .i64 n73, .int .i64 n74], v64] : Value) w68) (StoreC w59 ⟨r1, 0, none⟩ (.int .i64 (0 : Int)) fun (w75 : World) => StoreC w75 ⟨r1, 0 + 1, none⟩ (.slice none 0 0) fun (w76 : World) => StoreC w76 ⟨r1, 0 + 2, none⟩ (.int .i64 (0 : Int)) fun (w77 : World) => StoreC w77 ⟨r1, 0 + 3, none⟩ (.int .i64 (0 : Int)) fun (w78 : World) => LdI w78 ⟨r1, 0, none⟩ .i64 fun (n79 : Int) => LdSl w78 ⟨r1, 0 + 1, none⟩ fun (p80 : Option Addr) (l81 : Nat) (c82 : Nat) => LdI w78 ⟨r1, 0 + 2, none⟩ .i64 fun (n83 : Int) => LdI w78 ⟨r1, 0 + 3, none⟩ .i64 fun (n84 : Int) => R (.tuple #[.agg #[.int .i64 n79, .slice p80 l81 c82, .int .i64 n83, .int .i64 n84], v60] : Value) w78)) (LdI w59 ⟨r5, 0 + 7, none⟩ .i64 fun (n85 : Int) => CallT Pg 61 #[.int .i64 n85] w59 fun (v86 : Value) (w87 : World) => Exists fun (b88 : Bool) => And (v86 = .bool b88) (IfC b88 (LdI w87 ⟨r5, 0 + 8, none⟩ .i64 fun (n89 : Int) => IfC (decide (n89 ≥ (3 : Int))) (J36 (()) w87) (N57 (()) w87)) (LdI w87 ⟨r5, 0 + 8, none⟩ .i64 fun (n90 : Int) => IfC (decide (n90 ≥ (1 : Int))) (J36 (()) w87) (N57 (()) w87))))))))))
theorem eq40 (x0 : Value) (R : Value → World → Prop) (w : World) : vc Pg Gg (annOf [(20, [], [2, 4]), (22, [], [2, 4])]) 0 (bodyOf Tryz.f40) (retK Pg Tryz.f40.results.toList R) (argE 0 [x0]) w = wp40 x0 R w := by kernel_rfl
theorem call40 {x0 : Value} {R : Value → World → Prop} {w : World} (h : wp40 x0 R w) : CallT Pg 40 #[x0] w R :=
  calls_of_vc follows bodies Tryz.func40 (by kernel_rfl) (by kernel_rfl) (by kernel_rfl) ((eq40 x0 R w).mpr h)

/-- loop.example/pub-g03440/impl.DecodeConfig -/
def wp25 (x0 : Option Addr) (x0l : Nat) (x0c : Nat) (R : Value → World → Prop) (w : World) : Prop := AllocC w (.cells (zc Pg 37) 37) fun (r1 : Nat) (w2 : World) => CallT Pg 42 #[.slice x0 x0l x0c] w2 fun (v3 : Value) (w4 : World) => Exists fun (p5 : Option Addr) => Exists fun (l6 : Nat) => Exists fun (c7 : Nat) => And (v3 = .slice p5 l6 c7) (CallT Pg 41 #[.slice p5 l6 c7] w4 fun (v8 : Value) (w9 : World) => Exists fun (p10 : Option Addr) => And (v8 = .pointer p10) (CallT Pg 40 #[.iface 85 (.pointer p10)] w9 fun (v11 : Value) (w12 : World) => Exists fun (n13 : Int) => Exists fun (p14 : Option Addr) => Exists fun (l15 : Nat) => Exists fun (c16 : Nat) => Exists fun (n17 : Int) => Exists fun (n18 : Int) => Exists fun (v19 : Value) => And (v11 = .tuple #[.agg #[.int .i64 n13, .slice p14 l15 c16, .int .i64 n17, .int .i64 n18], v19]) (AllocC w12 (.cells (zc Pg 80) 80) fun (r20 : Nat) (w21 : World) => StoreC w21 ⟨r20, 0, none⟩ (.int .i64 n13) fun (w22 : World) => StoreC w22 ⟨r20, 0 + 1, none⟩ (.slice p14 l15 c16) fun (w23 : World) => StoreC w23 ⟨r20, 0 + 2, none⟩ (.int .i64 n17) fun (w24 : World) => StoreC w24 ⟨r20, 0 + 3, none⟩ (.int .i64 n18) fun (w25 : World) => EqNil v19 fun (b26 : Bool) => IfC (!b26) (CallT Pg 43 #[v19] w25 fun (v27 : Value) (w28 : World) => Exists fun (n29 : Int) => And (v27 = .int .i64 n29) (StoreC w28 ⟨r1, 0, none⟩ (.int .i64 (0 : Int)) fun (w30 : World) => StoreC w30 ⟨r1, 0 + 1, none⟩ (.int .i64 (0 : Int)) fun (w31 : World) => StoreC w31 ⟨r1, 0 + 2, none⟩ (.int .i64 (0 : Int)) fun (w32 : World) => StoreC w32 ⟨r1, 0 + 3, none⟩ (.slice none 0 0) fun (w33 : World) => LdI w33 ⟨r1, 0, none⟩ .i64 fun (n34 : Int) => LdI w33 ⟨r1, 0 + 1, none⟩ .i64 fun (n35 : Int) => LdI w33 ⟨r1, 0 + 2, none⟩ .i64 fun (n36 : Int) => LdSl w33 ⟨r1, 0 + 3, none⟩ fun (p37 : Option Addr) (l38 : Nat) (c39 : Nat) => R (.tuple #[.agg #[.int .i64 n34, .int .i64 n35, .int .i64 n36, .slice p37 l38 c39], .int .i64 n29] : Value) w33)) (DrewC w25 fun (w40 : World) => LdI w40 ⟨r20, 0, none⟩ .i64 fun (n41 : Int) => LdI w40 ⟨r20, 0 + 2, none⟩ .i64 fun (n42 : Int) => LdI w40 ⟨r20, 0 + 3, none⟩ .i64 fun (n43 : Int) => LdSl w40 ⟨r20, 0 + 1, none⟩ fun (p44 : Option Addr) (l45 : Nat) (c46 : Nat) => CallT Pg 44 #[.int .i64 n41] w40 fun (v47 : Value) (w48 : World) => Exists fun (n49 : Int) => And (v47 = .int .i64 n49) (LdSl w48 ⟨r20, 0 + 1, none⟩ fun (p50 : Option Addr) (l51 : Nat) (c52 : Nat) => And ((.slice p50 l51 c52 : Value) = .slice p44 l45 c46) (LdI w48 ⟨r20, 0 + 3, none⟩ .i64 fun (n53 : Int) => And ((.int .i64 n53 : Value) = .int .i64 n43) (LdI w48 ⟨r20, 0 + 2, none⟩ .i64 fun (n54 : Int) => And ((.int .i64 n54 : Value) = .int .i64 n42) (CallT Pg 45 #[.slice p44 l45 c46] w48 fun (v55 : Value) (w56 : World) => Exists fun (p57 : Option Addr) => Exists fun (l58 : Nat) => Exists fun (c59 : Nat) => And (v55 = .slice p57 l58 c59) (LdI w56 ⟨r20, 0 + 3, none⟩ .i64 fun (n60 : Int) => And ((.int .i64 n60 : Value) = .int .i64 n43) (LdI w56 ⟨r20, 0 + 2, none⟩ .i64 fun (n61 : Int) => And ((.int .i64 n61 : Value) = .int .i64 n42) (StoreC w56 ⟨r1, 0, none⟩ (.int .i64 n49) fun (w62 : World) => StoreC w62 ⟨r1, 0 + 1, none⟩ (.int .i64 n42) fun (w63 : World) => StoreC w63 ⟨r1, 0 + 2, none⟩ (.int .i64 n43) fun (w64 : World) => StoreC w64 ⟨r1, 0 + 3, none⟩ (.slice p57 l58 c59) fun (w65 : World) => LdI w65 ⟨r1, 0, none⟩ .i64 fun (n66 : Int) => LdI w65 ⟨r1, 0 + 1, none⟩ .i64 fun (n67 : Int) => LdI w65 ⟨r1, 0 + 2, none⟩ .i64 fun (n68 : Int) => LdSl w65 ⟨r1, 0 + 3, none⟩ fun (p69 : Option Addr) (l70 : Nat) (c71 : Nat) => R (.tuple #[.agg #[.int .i64 n66, .int .i64 n67, .int .i64 n68, .slice p69 l70 c71], .int .i64 (0 : Int)] : Value) w65)))))))))))
theorem eq25 (x0 : Option Addr) (x0l : Nat) (x0c : Nat) (R : Value → World → Prop) (w : World) : vc Pg Gg (annOf []) 0 (bodyOf Tryz.f25) (retK Pg Tryz.f25.results.toList R) (argE 0 [.slice x0 x0l x0c]) w = wp25 x0 x0l x0c R w := by kernel_rfl
theorem call25 {x0 : Option Addr} {x0l : Nat} {x0c : Nat} {R : Value → World → Prop} {w : World} (h : wp25 x0 x0l x0c R w) : CallT Pg 25 #[.slice x0 x0l x0c] w R :=
  calls_of_vc follows bodies Tryz.func25 (by kernel_rfl) (by kernel_rfl) (by kernel_rfl) ((eq25 x0 x0l x0c R w).mpr h)

section
variable {w : World}
theorem c44 {k : Nat} (hk : k < 15) : CallT Pg 44 #[.int .i64 (cbN (kindN k).1 (kindN k).2)] w fun v w' => v = .int .i64 (100 * (kindN k).1 + (kindN k).2 : Nat) ∧ w' = w := by
  apply call44
  obtain rfl | rfl | rfl | rfl | rfl | rfl | rfl | rfl | rfl | rfl | rfl | rfl | rfl | rfl | rfl := (by omega : k = 0 ∨ k = 1 ∨ k = 2 ∨ k = 3 ∨ k = 4 ∨ k = 5 ∨ k = 6 ∨ k = 7 ∨ k = 8 ∨ k = 9 ∨ k = 10 ∨ k = 11 ∨ k = 12 ∨ k = 13 ∨ k = 14)
  all_goals exact ⟨rfl, rfl⟩
theorem cbN_pal {k : Nat} (hk : k < 15) : cbN (kindN k).1 (kindN k).2 ≠ 0 ∧ ((kindN k).1 = 3 ↔ 7 ≤ cbN (kindN k).1 (kindN k).2 ∧ cbN (kindN k).1 (kindN k).2 ≤ 10) := by
  obtain rfl | rfl | rfl | rfl | rfl | rfl | rfl | rfl | rfl | rfl | rfl | rfl | rfl | rfl | rfl := (by omega : k = 0 ∨ k = 1 ∨ k = 2 ∨ k = 3 ∨ k = 4 ∨ k = 5 ∨ k = 6 ∨ k = 7 ∨ k = 8 ∨ k = 9 ∨ k = 10 ∨ k = 11 ∨ k = 12 ∨ k = 13 ∨ k = 14) <;> decide
theorem ok35 : elOK Pg 35 41 4 4 = true := by kernel_rfl
def shV (d : Px) : List Value := [.int .u8 d.1.toNat, .int .u8 d.2.1.toNat, .int .u8 d.2.2.1.toNat, .int .u8 d.2.2.2.toNat]
def shsV (l : List Px) : List Value := l.flatMap shV
theorem zv132 : zv Pg 132 = some (.agg #[.int .u8 0, .int .u8 0, .int .u8 0, .int .u8 0]) := by kernel_rfl
/-- The colours of a palette, as shades. -/
theorem c45 {p : Option Addr} {l c : Nat} {cs : List (Bool × Px)} (hx : Has w p (cs.map colV)) (hl : l = cs.length) (hb : l ≤ 1000) : CallT Pg 45 #[.slice p l c] w fun v w' => Fr [] w w' ∧ ∃ q c', v = .slice q l c' ∧ Own w' (hn w) 41 4 q l c' (shsV (cs.map Prod.snd)) := by
  apply call45
  unfold wp45
  refine LoopC_of (fun z w' => Fr [] w w' ∧ ∃ k : Nat, z.2.1 = k ∧ k ≤ l ∧ z.1.len = k ∧ Own w' (hn w) 41 4 z.1.a z.1.len z.1.cap (shsV ((cs.map Prod.snd).take k))) (fun z _ => l - z.2.1.toNat)
    ⟨Fr.refl _ _, 0, rfl, by omega, rfl, Own.nil _ _ _ _⟩ ?_
  rintro ⟨s, _, ⟨⟩⟩ w2 ⟨F2, k, rfl, hkl, hsl, hos⟩
  dsimp only at *
  refine IfC_dec (fun hlt => ?_) (fun hge => ?_)
  · refine ⟨⟨by omega, hlt⟩, ?_⟩
    obtain ⟨⟨cf, px⟩, hck⟩ : ∃ c, cs[k]? = some c := ⟨_, List.getElem?_eq_getElem (by omega)⟩
    obtain ⟨b, o, rfl, hv⟩ := (hx.fr0 F2).some (i := k) (v := colV (cf, px)) (by rw [List.getElem?_map, hck]; rfl)
    rw [PtrC_some, elemAt_one, Int.toNat_natCast]
    rw [LdV_eq, hv, RdV_some]
    have tail : ∀ wd, Fr [] w wd → Own wd (hn w) 41 4 s.a s.len s.cap (shsV ((cs.map Prod.snd).take k)) → 
        AllocC wd (.cells #[.int .u8 px.1.toNat, .int .u8 px.2.1.toNat, .int .u8 px.2.2.1.toNat, .int .u8 px.2.2.2.toNat] 41) fun r23 w24 => AppR Pg w24 #[35, 35] 35 (.slice s.a s.len s.cap) (.slice (some ⟨r23, 0, none⟩) 1 1) fun p25 l26 c27 w28 =>
          (Fr [] w w28 ∧ ∃ k' : Nat, IntKind.wrap .i64 ((k : Int) + (1 : Int)) = k' ∧ k' ≤ l ∧ l26 = k' ∧ Own w28 (hn w) 41 4 p25 l26 c27 (shsV ((cs.map Prod.snd).take k'))) ∧ l - (IntKind.wrap .i64 ((k : Int) + (1 : Int))).toNat < l - (k : Int).toNat := by
      intro wd Fd ho
      refine AppLit ok35 Fd ho (cs := (shV px).toArray) (m := 1) rfl (by simp [shV, Value.oneCell']) (by omega) ?_
      intro p' c' w' F' f' ho'
      rw [wrap_i64_id (by omega) (by omega)]
      refine ⟨⟨F', k + 1, by omega, by omega, by omega, ?_⟩, by omega⟩
      have e : shsV ((cs.map Prod.snd).take (k + 1)) = shsV ((cs.map Prod.snd).take k) ++ shV px := by
        rw [List.take_add_one, List.getElem?_map, hck]
        simp [shsV]
      rw [e]
      simpa using ho'
    have struct : ∀ (T : TypeId) (K : Int → Int → Int → Int → World → Prop), zc Pg T = #[.int .u8 0, .int .u8 0, .int .u8 0, .int .u8 0] → (∀ wd, Fr [] w2 wd → K px.1.toNat px.2.1.toNat px.2.2.1.toNat px.2.2.2.toNat wd) →
        AllocC w2 (.cells (zc Pg T) T) fun r13 w14 => StoreC w14 ⟨r13, 0, none⟩ (.int .u8 px.1.toNat) fun w15 => StoreC w15 ⟨r13, 0 + 1, none⟩ (.int .u8 px.2.1.toNat) fun w16 => StoreC w16 ⟨r13, 0 + 2, none⟩ (.int .u8 px.2.2.1.toNat) fun w17 => StoreC w17 ⟨r13, 0 + 3, none⟩ (.int .u8 px.2.2.2.toNat) fun w18 => LdI w18 ⟨r13, 0, none⟩ .u8 fun n19 => LdI w18 ⟨r13, 0 + 1, none⟩ .u8 fun n20 => LdI w18 ⟨r13, 0 + 2, none⟩ .u8 fun n21 => LdI w18 ⟨r13, 0 + 3, none⟩ .u8 fun n22 => K n19 n20 n21 n22 w18 := by
      intro T K hz hK
      refine AllocC_at fun w14 h14 f14 n14 => ?_
      rw [hz] at h14
      refine StoreC_at h14 (by simp) fun w15 h15 f15 n15 => ?_
      refine StoreC_at h15 (by simp) fun w16 h16 f16 n16 => ?_
      refine StoreC_at h16 (by simp) fun w17 h17 f17 n17 => ?_
      refine StoreC_at h17 (by simp) fun w18 h18 f18 n18 => ?_
      have h : hp w18 (hn w2) = Row T #[.int .u8 px.1.toNat, .int .u8 px.2.1.toNat, .int .u8 px.2.2.1.toNat, .int .u8 px.2.2.2.toNat] := by simpa using h18
      refine LdI_at h rfl (LdI_at h rfl (LdI_at h rfl (LdI_at h rfl ?_)))
      exact hK w18 ((((f14.new1 f15 (Nat.le_refl _)).new1 f16 (Nat.le_refl _)).new1 f17 (Nat.le_refl _)).new1 f18 (Nat.le_refl _))
    cases cf with
    | true =>
      refine TA_hit (t := 132) ni132 ⟨_, _, _, _, rfl, IfC_t ?_⟩
      exact struct 132 _ zc132 fun wd fd => tail wd (F2.trans fd) (hos.fr0 fd)
    | false =>
      refine TA_miss (t := 132) (t' := 133) ni132 rfl zv132 ⟨_, _, _, _, rfl, IfC_f ?_⟩
      refine TA_hit (t := 133) ni133 ⟨_, _, _, _, rfl, IfC_t ?_⟩
      exact struct 133 _ zc133 fun wd fd => tail wd (F2.trans fd) (hos.fr0 fd)
  · have : k = cs.length := by omega
    subst this
    refine ⟨F2, s.a, s.cap, by rw [hl, hsl], ?_⟩
    rw [List.take_of_length_le (by simp)] at hos
    rw [hl, ← hsl]; exact hos
theorem sigL_length : sigL.length = 8 := rfl
theorem chunk_split {nm d rest : List UInt8} (hn : nm.length = 4) (hd : d.length < 4294967296) : 
    be4 (chunkL nm d ++ rest) 0 = d.length ∧ ((chunkL nm d ++ rest).drop 4).take 4 = nm ∧ (chunkL nm d ++ rest).drop 8 = d ++ (fourL (crcL (nm ++ d)) ++ rest) ∧ 12 ≤ (chunkL nm d ++ rest).length := by
  have e : chunkL nm d ++ rest = fourL d.length ++ (nm ++ (d ++ (fourL (crcL (nm ++ d)) ++ rest))) := by simp [chunkL]
  have h4 : ∀ n, (fourL n).length = 4 := fun _ => rfl
  refine ⟨?_, ?_, ?_, ?_⟩
  · rw [e, be4_app (by rw [h4]; decide)]
    exact be4_fourL hd
  · rw [e, List.drop_append_of_le_length (by rw [h4]; decide), show (fourL d.length).drop 4 = [] from rfl, List.nil_append, List.take_append_of_le_length (by omega), List.take_of_length_le (by omega)]
  · rw [e, ← List.append_assoc, List.drop_append_of_le_length (by simp [h4, hn])]
    rw [List.drop_of_length_le (by simp [h4, hn])]; rfl
  · rw [e]; simp only [List.length_append, h4]; omega
theorem body_split {d rest : List UInt8} {k : Nat} (hk : k < 4294967296) : (d ++ (fourL k ++ rest)).take d.length = d ∧ be4 ((d ++ (fourL k ++ rest)).drop d.length) 0 = k ∧ (d ++ (fourL k ++ rest)).drop (d.length + 4) = rest ∧ d.length + 4 ≤ (d ++ (fourL k ++ rest)).length := by
  have h4 : (fourL k).length = 4 := rfl
  refine ⟨by simp, ?_, ?_, by simp only [List.length_append, h4]; omega⟩
  · rw [List.drop_left, be4_app (by rw [h4]; decide)]
    exact be4_fourL hk
  · rw [← List.drop_drop, List.drop_left, ← h4, List.drop_left]
theorem crcU_chunk (nm d : List UInt8) : crcU (crcU 0 nm) d = crcL (nm ++ d) := by rw [crcU_app, crcU_nil]
theorem headL_ok {W H k : Nat} {L : Bool} (hW : 1 ≤ W ∧ W ≤ 64) (hH : 1 ≤ H ∧ H ≤ 64) (hk : k < 15) :
    (headL W H (kindN k).2 (kindN k).1 L).length = 13 ∧ ihdrV (headL W H (kindN k).2 (kindN k).1 L) = none ∧ be4 (headL W H (kindN k).2 (kindN k).1 L) 0 = W ∧ be4 (headL W H (kindN k).2 (kindN k).1 L) 4 = H ∧
      gb (headL W H (kindN k).2 (kindN k).1 L) 8 = (kindN k).2 ∧ gb (headL W H (kindN k).2 (kindN k).1 L) 9 = (kindN k).1 := by
  obtain ⟨hD, hC⟩ := kindN_ok hk
  have hc0 := (cbN_pal hk).1
  generalize (kindN k).2 = D at *
  generalize (kindN k).1 = C at *
  have e0 : be4 (headL W H D C L) 0 = W := by
    unfold headL
    rw [List.append_assoc, be4_app (by show 0 + 4 ≤ 4; decide)]
    exact be4_fourL (by omega)
  have e4 : be4 (headL W H D C L) 4 = H := by
    have : be4 (headL W H D C L) 4 = be4 (fourL H) 0 := rfl
    rw [this]; exact be4_fourL (by omega)
  have e8 : gb (headL W H D C L) 8 = D := by
    have : gb (headL W H D C L) 8 = (UInt8.ofNat D).toNat := rfl
    rw [this, UInt8.toNat_ofNat']; omega
  have e9 : gb (headL W H D C L) 9 = C := by
    have : gb (headL W H D C L) 9 = (UInt8.ofNat C).toNat := rfl
    rw [this, UInt8.toNat_ofNat']; omega
  refine ⟨rfl, ?_, e0, e4, e8, e9⟩
  unfold ihdrV
  rw [if_neg (by show ¬ (0 : Nat) ≠ 0; omega), if_neg (by show ¬ (0 : Nat) ≠ 0; omega), if_neg (by cases L; (show ¬ ((0 : Nat) ≠ 0 ∧ (0 : Nat) ≠ 1)); decide; (show ¬ ((1 : Nat) ≠ 0 ∧ (1 : Nat) ≠ 1)); decide), if_neg (by omega), if_neg (by omega), e8, e9, if_neg hc0]
def dec0 (x : Value) (kb : Nat) : Dec := { rd := x, img := .nilIface, crc := .pointer (some ⟨kb, 0, none⟩), W := 0, H := 0, D := 0, pal := ⟨none, 0, 0⟩, cb := 0, stage := 0, idat := 0, tmp := List.replicate 768 0, lace := 0, useT := false, tr := List.replicate 6 0 }
theorem bc119 (x : Value) (kb : Nat) : bcells Pg 119 [(0, .agg #[x]), (2, .agg #[.pointer (some ⟨kb, 0, none⟩)])] = (dec0 x kb).arr := by kernel_rfl
theorem zc80 : zc Pg 80 = #[.int .i64 0, .slice none 0 0, .int .i64 0, .int .i64 0] := by kernel_rfl
theorem zc113 : zc Pg 113 = #[.int .u32 0] := by kernel_rfl

namespace Dst
variable {db rb kb crc : Nat} {p : Option Addr} {d : Dec} {rest : List UInt8} {b : Bool}
/-- A right head. -/
theorem goodIHDR {W H k : Nat} {L : Bool} (h : Dst w db rb kb p d crc (chunkL nIHDR (headL W H (kindN k).2 (kindN k).1 L) ++ rest)) (hs : d.stage = 0) (hW : 1 ≤ W ∧ W ≤ 64) (hH : 1 ≤ H ∧ H ≤ 64) (hk : k < 15) :
    CallT Pg 60 #[.pointer (some ⟨db, 0, none⟩), .bool b] w fun v w' => v = .nilIface ∧ Fr [rb, kb, db] w w' ∧ ∃ tmp crc', Dst w' db rb kb p { d with stage := 1, W := W, H := H, D := (kindN k).2, cb := cbN (kindN k).1 (kindN k).2, lace := if L then 1 else 0, tmp := tmp } crc' rest := by
  obtain ⟨hl, hv, e0, e4, e8, e9⟩ := headL_ok (L := L) hW hH hk
  have e12 : gb (headL W H (kindN k).2 (kindN k).1 L) 12 = if L then 1 else 0 := by cases L <;> rfl
  generalize headL W H (kindN k).2 (kindN k).1 L = hd at *
  obtain ⟨a1, a2, a3, a4⟩ := chunk_split (nm := nIHDR) (d := hd) (rest := rest) rfl (by omega)
  have hc := crcL_lt (nIHDR ++ hd)
  obtain ⟨b1, b2, b3, b4⟩ := body_split (d := hd) (rest := rest) hc
  refine h.c60 (by omega) ?_
  intro w1 tmp s F n h1
  rw [a2] at h1 ⊢
  rw [a3] at h1
  rw [a1, hl]
  rw [show nextN d nIHDR = .call 75 1 by unfold nextN; rw [if_pos rfl, if_neg (by simp [hs])]]
  show s = 1 → _
  rintro rfl
  rw [hl] at b1 b2 b3 b4
  refine CallT.mono (h1.c75 (by omega) ?_) ?_
  · intro h2 h3
    rw [show be4 (hd ++ (fourL (crcL (nIHDR ++ hd)) ++ rest)) 0 = be4 hd 0 from be4_app (by omega), show be4 (hd ++ (fourL (crcL (nIHDR ++ hd)) ++ rest)) 4 = be4 hd 4 from be4_app (by omega), e0, e4]
    have : W * H ≤ 64 * 64 := Nat.mul_le_mul hW.2 hH.2
    omega
  · rintro v w' ⟨F', n', hm⟩
    rw [b1, hv] at hm
    obtain ⟨hm, tmp', ht', hd'⟩ := hm
    rw [b2, crcU_chunk, if_pos rfl] at hm
    refine ⟨hm, F.trans F', tmp', crcU (crcU 0 nIHDR) hd, ?_⟩
    have e17 : (hd ++ (fourL (crcL (nIHDR ++ hd)) ++ rest)).drop 17 = rest := b3
    rw [e17] at hd'
    unfold Dec.head at hd'
    rw [e0, e4, e8, e9, e12] at hd'
    cases L <;> exact hd'
/-- A right palette. -/
theorem goodPLTE {D : Nat} {pal : List Px} (h : Dst w db rb kb p d crc (chunkL nPLTE (shadesL pal) ++ rest)) (hs : d.stage = 1) (hD : d.D = D) (hD' : D = 1 ∨ D = 2 ∨ D = 4 ∨ D = 8 ∨ D = 16) (hcb : 7 ≤ d.cb ∧ d.cb ≤ 10) (hp0 : 0 < pal.length) (hp2 : pal.length ≤ 256) (hpD : pal.length ≤ 2 ^ D) :
    CallT Pg 60 #[.pointer (some ⟨db, 0, none⟩), .bool b] w fun v w' => v = .nilIface ∧ Fr [rb, kb, db] w w' ∧ ∃ tmp crc' pl, Dst w' db rb kb p { d with stage := 2, pal := pl, tmp := tmp } crc' rest ∧ PalAt w' db pl pal.length (plteC (shadesL pal) pal.length) := by
  have hsl := shadesL_length pal
  obtain ⟨a1, a2, a3, a4⟩ := chunk_split (nm := nPLTE) (d := shadesL pal) (rest := rest) rfl (by omega)
  have hc := crcL_lt (nPLTE ++ shadesL pal)
  obtain ⟨b1, b2, b3, b4⟩ := body_split (d := shadesL pal) (rest := rest) hc
  refine h.c60 (by omega) ?_
  intro w1 tmp s F n h1
  rw [a2] at h1 ⊢
  rw [a3] at h1
  rw [a1]
  rw [show nextN d nPLTE = .call 76 2 by unfold nextN; rw [if_neg (by decide), if_pos rfl, if_neg (by simp [hs])]]
  show s = 2 → _
  rintro rfl
  refine CallT.mono (h1.c76 (D := D) (by omega) hD hD' (by dsimp only; omega) (fun _ => by omega)) ?_
  rintro v w' hm
  rw [if_neg (by omega), b1, b2, b3, crcU_chunk, if_pos rfl] at hm
  obtain ⟨F', rfl, tmp', pl, ht', hd', hp'⟩ := hm
  refine ⟨rfl, F.trans F', tmp', _, pl, hd', ?_⟩
  rw [show (shadesL pal).length / 3 = pal.length by omega] at hp'
  exact hp'
/-- Right clear samples of a palette. -/
theorem goodTRNS {n : Nat} {cs : List (Bool × Px)} {al : List UInt8} (h : Dst w db rb kb p d crc (chunkL ntRNS al ++ rest)) (hs : d.stage = 2) (hcb : 7 ≤ d.cb ∧ d.cb ≤ 10) (hpal : PalAt w db d.pal n cs) (hcs : ∀ c ∈ cs, c.1 = false) (ha0 : 0 < al.length) (ha2 : al.length ≤ 256) :
    CallT Pg 60 #[.pointer (some ⟨db, 0, none⟩), .bool b] w fun v w' => v = .nilIface ∧ (∀ g, d.pal.a = some ⟨g, 0, none⟩ → Fr [rb, kb, db, g] w w') ∧ ∃ tmp crc' pl, Dst w' db rb kb p { d with stage := 3, pal := pl, tmp := tmp } crc' rest ∧ pl.a = d.pal.a ∧ PalAt w' db pl (max n al.length) (trnsC al cs) := by
  obtain ⟨a1, a2, a3, a4⟩ := chunk_split (nm := ntRNS) (d := al) (rest := rest) rfl (by omega)
  have hc := crcL_lt (ntRNS ++ al)
  obtain ⟨b1, b2, b3, b4⟩ := body_split (d := al) (rest := rest) hc
  refine h.c60 (by omega) ?_
  intro w1 tmp s F n h1
  rw [a2] at h1 ⊢
  rw [a3] at h1
  rw [a1]
  rw [show nextN d ntRNS = .call 78 3 by unfold nextN; rw [if_neg (by decide), if_neg (by decide), if_pos rfl, if_pos hcb, if_neg (by simp [hs])]]
  show s = 3 → _
  rintro rfl
  have hne := h.ne
  obtain ⟨g, hpe, hg, hrow, hcl, hn⟩ := hpal
  have hrow1 := F.row hrow (by simp; omega)
  refine CallT.mono (h1.c78P (len := al.length) ⟨g, hpe, hg, hrow1, hcl, hn⟩ hcs (by omega) ha0 (by dsimp only; omega) (fun _ => by omega)) ?_
  rintro v w' hm
  rw [if_neg (by omega), b1, b2, b3, crcU_chunk, if_pos rfl] at hm
  obtain ⟨F', rfl, tmp', pl, ht', hpa, hd', hp'⟩ := hm
  exact ⟨rfl, fun g hg => (F.mono (by simp)).trans (F' g hg), tmp', _, pl, hd', hpa, hp'⟩
/-- Packed bytes end what is told ahead. -/
theorem cfgIDAT {dd : List UInt8} (h : Dst w db rb kb p d crc (chunkL nIDAT dd ++ rest)) (hdd : dd.length < 4294967296) (hs : d.stage = 2 ∨ d.stage = 3) :
    CallT Pg 60 #[.pointer (some ⟨db, 0, none⟩), .bool true] w fun v w' => v = .nilIface ∧ Fr [rb, kb, db] w w' ∧ ∃ tmp crc' rs', Dst w' db rb kb p { d with stage := 4, tmp := tmp } crc' rs' := by
  obtain ⟨a1, a2, a3, a4⟩ := chunk_split (nm := nIDAT) (d := dd) (rest := rest) rfl hdd
  refine h.c60 (by omega) ?_
  intro w1 tmp s F n h1
  rw [a2] at h1 ⊢
  rw [show nextN d nIDAT = .idat by unfold nextN; rw [if_neg (by decide), if_neg (by decide), if_neg (by decide), if_pos rfl, if_neg (by omega), if_neg (by omega), if_neg (by omega)]]
  show s = 4 → _
  rintro rfl
  exact ⟨rfl, F, tmp, _, _, h1⟩
end Dst

theorem OneC_of {b : Bool} {X : Prop} (h : b = true) (hX : X) : OneC b X := by subst h; exact hX
def stageOf (w : World) (db : Nat) : Int := match atR (hp w db) 8 with | some (.int _ s) => s | _ => 0
theorem Dst.stage_eq {db rb kb crc : Nat} {p : Option Addr} {d : Dec} {rs : List UInt8} (h : Dst w db rb kb p d crc rs) : stageOf w db = d.stage := by
  unfold stageOf
  rw [h.dec, atR_Row, show d.arr[8]? = _ from Dec.at8 d]
theorem app_take8 (r : List UInt8) : (sigL ++ r).take 8 = sigL := rfl
theorem app_drop8 (r : List UInt8) : (sigL ++ r).drop 8 = r := rfl
/-- What is told ahead of a picture is written down. -/
theorem out40 {db rb kb crc r1 : Nat} {p : Option Addr} {d : Dec} {rs : List UInt8} {v0 v1 v2 v3 : Value} (h : Dst w db rb kb p d crc rs) (h1 : hp w r1 = Row 80 #[v0, v1, v2, v3]) {K : Int → Option Addr → Nat → Nat → Int → Int → World → Prop}
    (hK : ∀ w', Fr [r1] w w' → K d.cb d.pal.a d.pal.len d.pal.cap d.W d.H w') :
    DrewC w fun w37 => LdI w37 ⟨db, 0 + 7, none⟩ .i64 fun n38 => LdSl w37 ⟨db, 0 + 6, none⟩ fun p39 l40 c41 => LdI w37 ⟨db, 0 + 3, none⟩ .i64 fun n42 => LdI w37 ⟨db, 0 + 4, none⟩ .i64 fun n43 => StoreC w37 ⟨r1, 0, none⟩ (.int .i64 n38) fun w44 => StoreC w44 ⟨r1, 0 + 1, none⟩ (.slice p39 l40 c41) fun w45 => StoreC w45 ⟨r1, 0 + 2, none⟩ (.int .i64 n42) fun w46 => StoreC w46 ⟨r1, 0 + 3, none⟩ (.int .i64 n43) fun w47 => LdI w47 ⟨r1, 0, none⟩ .i64 fun n48 => LdSl w47 ⟨r1, 0 + 1, none⟩ fun p49 l50 c51 => LdI w47 ⟨r1, 0 + 2, none⟩ .i64 fun n52 => LdI w47 ⟨r1, 0 + 3, none⟩ .i64 fun n53 => K n48 p49 l50 c51 n52 n53 w47 := by
  refine DrewC_at fun w37 f37 n37 => ?_
  have h := h.fr0 f37
  have h1 := f37.row0 h1
  refine LdI_at h.dec (Dec.at7 _) (LdSl_at h.dec (Dec.at6 _) (LdI_at h.dec (Dec.at3 _) (LdI_at h.dec (Dec.at4 _) ?_)))
  refine StoreC_at h1 (by simp) fun w44 h44 f44 n44 => ?_
  refine StoreC_at h44 (by simp) fun w45 h45 f45 n45 => ?_
  refine StoreC_at h45 (by simp) fun w46 h46 f46 n46 => ?_
  refine StoreC_at h46 (by simp) fun w47 h47 f47 n47 => ?_
  have hR : hp w47 r1 = Row 80 #[.int .i64 d.cb, .slice d.pal.a d.pal.len d.pal.cap, .int .i64 d.W, .int .i64 d.H] := by simpa using h47
  refine LdI_at hR rfl (LdSl_at hR rfl (LdI_at hR rfl (LdI_at hR rfl ?_)))
  exact hK w47 ((f37.mono (by simp)).trans (f44.trans (f45.trans (f46.trans f47))))
theorem c40a {rb k W H : Nat} {L : Bool} {p : Option Addr} {rest : List UInt8} (hr : RdAt w rb p (sigL ++ (chunkL nIHDR (headL W H (kindN k).2 (kindN k).1 L) ++ rest))) (hT : Tab w) (hrb : 3 < rb ∧ rb < hn w) (hp : ∀ a, p = some a → 3 < a.block ∧ a.block < rb)
    (hW : 1 ≤ W ∧ W ≤ 64) (hH : 1 ≤ H ∧ H ≤ 64) (hk : k < 15) (hC : (kindN k).1 ≠ 3) :
    CallT Pg 40 #[.iface 85 (.pointer (some ⟨rb, 0, none⟩))] w fun v w' => v = .tuple #[.agg #[.int .i64 (cbN (kindN k).1 (kindN k).2), .slice none 0 0, .int .i64 W, .int .i64 H], .nilIface] ∧ Fr [rb] w w' := by
  apply call40
  unfold wp40
  refine AllocC_at fun w2 h2 f2 n2 => ?_
  refine AllocC_at fun w4 h4 f4 n4 => ?_
  refine OneC_of (by simp [Value.oneCell']) ?_
  rw [bc119]
  refine AllocC_at fun w6 h6 f6 n6 => ?_
  rw [zc80] at h2
  rw [zc113] at h4
  have h2 := f6.row0 (f4.row0 h2)
  have h4 := f6.row0 h4
  have F6 := (f2.trans f4).trans f6
  have hdb : hn w4 = hn w + 2 := by omega
  rw [hdb] at h6 ⊢
  rw [n2] at h4 h6
  have D6 : Dst w6 (hn w + 2) rb (hn w + 1) p (dec0 (.iface 85 (.pointer (some ⟨rb, 0, none⟩))) (hn w + 1)) 0 (sigL ++ (chunkL nIHDR (headL W H (kindN k).2 (kindN k).1 L) ++ rest)) :=
    ⟨h6, rfl, rfl, rfl, rfl, hr.fr F6 (by simp) (by simp), h4, by decide, hT.fr F6 (by simp), hrb.1, hp, by omega, by omega⟩
  refine CallT.mono (D6.c59 (by simp [sigL_length])) ?_
  rintro _ w8 ⟨hv, D8, F8, n8⟩
  rw [app_take8, if_pos rfl] at hv
  subst hv
  rw [app_drop8] at D8
  refine ⟨_, rfl, EqNil_nil (IfC_f ?_)⟩
  refine JoinC_of (fun _ w' => Fr [rb, hn w + 1, hn w + 2] w8 w' ∧ ∃ d crc rs, Dst w' (hn w + 2) rb (hn w + 1) p d crc rs ∧ d.cb = (cbN (kindN k).1 (kindN k).2 : Nat) ∧ d.pal = ⟨none, 0, 0⟩ ∧ d.W = W ∧ d.H = H) ?_ ?_
  · rintro ⟨⟩ w35 ⟨f35, d, crc, rs, D35, e1, e2, e3, e4⟩
    have h2' := f35.row (F8.row h2 (by simp; omega)) (by simp; omega)
    refine out40 D35 h2' fun w' f' => ⟨?_, ?_⟩
    · rw [e1, e2, e3, e4]
    · have F : Fr [rb] w w8 := (F6.mono (by simp)).trans' F8 (fun x hx hlt => by simp at hx ⊢; omega)
      have F2 : Fr [rb] w w35 := F.trans' f35 (fun x hx hlt => by simp at hx ⊢; omega)
      exact F2.trans' f' (fun x hx hlt => by simp at hx ⊢; omega)
  · intro J hJ
    refine LoopC_of (fun _ w' => w' = w8) (fun _ _ => 0) rfl ?_
    rintro ⟨⟩ w' rfl
    refine CallT.mono (D8.goodIHDR rfl hW hH hk) ?_
    rintro _ w59 ⟨rfl, f59, tmp, crc', D59⟩
    refine ⟨_, rfl, EqNil_nil (IfC_f ?_)⟩
    refine LdI_at D59.dec (Dec.at7 _) (CallT.mono c61 ?_)
    rintro _ w87 ⟨rfl, rfl⟩
    refine ⟨_, rfl, ?_⟩
    have hcb := cbN_pal hk
    refine IfC_bool (fun hp => ?_) (fun hp => ?_)
    · simp at hp
      exact absurd (hcb.2.2 ⟨by omega, by omega⟩) hC
    · refine LdI_at D59.dec (Dec.at8 _) (IfC_dec (fun _ => ?_) (fun h => absurd (show (1 : Int) ≥ 1 from Int.le_refl 1) h))
      exact hJ _ _ ⟨f59, _, _, _, D59, rfl, rfl, rfl, rfl⟩

theorem shades_at {l : List Px} : ∀ {i : Nat} {d : Px}, l[i]? = some d → (shadesL l).getD (3 * i) 0 = d.1 ∧ (shadesL l).getD (3 * i + 1) 0 = d.2.1 ∧ (shadesL l).getD (3 * i + 2) 0 = d.2.2.1 := by
  induction l with
  | nil => intro i d h; simp at h
  | cons x r ih =>
    intro i d h
    cases i with
    | zero => simp at h; subst h; simp [shadesL]
    | succ i =>
      have := ih (i := i) (d := d) (by simpa using h)
      have e : shadesL (x :: r) = x.1 :: x.2.1 :: x.2.2.1 :: shadesL r := by simp [shadesL]
      rw [e, show 3 * (i + 1) = 3 * i + 3 by omega, show 3 * i + 3 + 1 = 3 * i + 1 + 3 by omega, show 3 * i + 3 + 2 = 3 * i + 2 + 3 by omega]
      simpa [List.getD] using this
theorem plte_pal {pal : List Px} (hn : pal.length ≤ 256) (hc : anyClear pal = false) : ((plteC (shadesL pal) pal.length).take pal.length).map Prod.snd = pal := by
  apply List.ext_getElem?
  intro i
  rw [List.getElem?_map, List.getElem?_take]
  split
  · rename_i hi
    rw [plteC_at _ _ (by omega), if_pos hi]
    obtain ⟨d, hd⟩ : ∃ d, pal[i]? = some d := ⟨_, List.getElem?_eq_getElem hi⟩
    obtain ⟨h1, h2, h3⟩ := shades_at hd
    rw [h1, h2, h3, hd]
    have h4 : d.2.2.2 = 255 := by
      have : ∀ x ∈ pal, ¬ (x.2.2.2 != 255) = true := by
        intro x hx he
        have := List.any_eq_false.1 hc x hx
        exact this he
      have := this d (List.mem_of_getElem? hd)
      simpa using this
    simp [← h4]
  · rename_i hi
    rw [List.getElem?_eq_none (by omega)]; rfl
theorem trns_pal {pal : List Px} (hn : pal.length ≤ 256) : ((trnsC (alphasL pal) (plteC (shadesL pal) pal.length)).take pal.length).map Prod.snd = pal := by
  apply List.ext_getElem?
  intro i
  rw [List.getElem?_map, List.getElem?_take]
  have hal : (alphasL pal).length = pal.length := by simp [alphasL]
  split
  · rename_i hi
    rw [trnsC_at _ _ (by omega), if_pos (by omega)]
    obtain ⟨d, hd⟩ : ∃ d, pal[i]? = some d := ⟨_, List.getElem?_eq_getElem hi⟩
    obtain ⟨h1, h2, h3⟩ := shades_at hd
    have hg : (plteC (shadesL pal) pal.length).getD i c0 = (false, (d.1, d.2.1, d.2.2.1, 255)) := by
      rw [List.getD, plteC_at _ _ (by omega), if_pos hi, h1, h2, h3]; rfl
    have ha : (alphasL pal).getD i 0 = d.2.2.2 := by simp [alphasL, List.getD, hd]
    rw [hg, ha, hd]
    rfl
  · rename_i hi
    rw [List.getElem?_eq_none (by omega)]; rfl
theorem plte_false (bs : List UInt8) (n : Nat) : ∀ c ∈ plteC bs n, c.1 = false := by
  intro c hc
  simp only [plteC, List.mem_map] at hc
  obtain ⟨i, _, rfl⟩ := hc
  split <;> rfl
theorem c40b {rb k W H : Nat} {L : Bool} {p : Option Addr} {pal : List Px} {rest : List UInt8} (hr : RdAt w rb p (sigL ++ (chunkL nIHDR (headL W H (kindN k).2 (kindN k).1 L) ++ (chunkL nPLTE (shadesL pal) ++ rest)))) (hT : Tab w) (hrb : 3 < rb ∧ rb < hn w) (hp : ∀ a, p = some a → 3 < a.block ∧ a.block < rb)
    (hW : 1 ≤ W ∧ W ≤ 64) (hH : 1 ≤ H ∧ H ≤ 64) (hk : k < 15) (hC : (kindN k).1 = 3) (hp0 : 0 < pal.length) (hp2 : pal.length ≤ 256) (hpD : pal.length ≤ 2 ^ (kindN k).2)
    (hrest : (anyClear pal = true ∧ ∃ rest', rest = chunkL ntRNS (alphasL pal) ++ rest') ∨ (anyClear pal = false ∧ ∃ dd rest', dd.length < 4294967296 ∧ rest = chunkL nIDAT dd ++ rest')) :
    CallT Pg 40 #[.iface 85 (.pointer (some ⟨rb, 0, none⟩))] w fun v w' => Fr [rb] w w' ∧ ∃ g cs, v = .tuple #[.agg #[.int .i64 (cbN (kindN k).1 (kindN k).2), .slice (some ⟨g, 0, none⟩) pal.length 256, .int .i64 W, .int .i64 H], .nilIface] ∧
      Has w' (some ⟨g, 0, none⟩) (List.map colV cs) ∧ cs.length = pal.length ∧ cs.map Prod.snd = pal := by
  apply call40
  unfold wp40
  refine AllocC_at fun w2 h2 f2 n2 => ?_
  refine AllocC_at fun w4 h4 f4 n4 => ?_
  refine OneC_of (by simp [Value.oneCell']) ?_
  rw [bc119]
  refine AllocC_at fun w6 h6 f6 n6 => ?_
  rw [zc80] at h2
  rw [zc113] at h4
  have h2 := f6.row0 (f4.row0 h2)
  have h4 := f6.row0 h4
  have F6 := (f2.trans f4).trans f6
  have hdb : hn w4 = hn w + 2 := by omega
  rw [hdb] at h6 ⊢
  rw [n2] at h4 h6
  have D6 : Dst w6 (hn w + 2) rb (hn w + 1) p (dec0 (.iface 85 (.pointer (some ⟨rb, 0, none⟩))) (hn w + 1)) 0 (sigL ++ (chunkL nIHDR (headL W H (kindN k).2 (kindN k).1 L) ++ (chunkL nPLTE (shadesL pal) ++ rest))) :=
    ⟨h6, rfl, rfl, rfl, rfl, hr.fr F6 (by simp) (by simp), h4, by decide, hT.fr F6 (by simp), hrb.1, hp, by omega, by omega⟩
  refine CallT.mono (D6.c59 (by simp [sigL_length])) ?_
  rintro _ w8 ⟨hv, D8, F8, n8⟩
  rw [app_take8, if_pos rfl] at hv
  subst hv
  rw [app_drop8] at D8
  refine ⟨_, rfl, EqNil_nil (IfC_f ?_)⟩
  have hw8 : hn w8 = hn w + 3 := by omega
  have hcb := cbN_pal hk
  have hcb' := hcb.2.1 hC
  obtain ⟨hD, _⟩ := kindN_ok hk
  generalize hcbe : cbN (kindN k).1 (kindN k).2 = cb at *
  refine JoinC_of (fun _ w' => Fr [rb, hn w + 1, hn w + 2] w8 w' ∧ ∃ d crc rs cs, Dst w' (hn w + 2) rb (hn w + 1) p d crc rs ∧ d.cb = (cb : Nat) ∧ d.W = W ∧ d.H = H ∧ PalAt w' (hn w + 2) d.pal pal.length cs ∧ (cs.take pal.length).map Prod.snd = pal) ?_ ?_
  · rintro ⟨⟩ w35 ⟨f35, d, crc, rs, cs, D35, e1, e2, e3, ⟨g, hpe, hg, hrow, hcl, _⟩, hcs⟩
    have h2' := f35.row (F8.row h2 (by simp; omega)) (by simp; omega)
    refine out40 D35 h2' fun w' f' => ⟨?_, g, cs.take pal.length, ?_, ?_, by simp; omega, hcs⟩
    · have F : Fr [rb] w w8 := (F6.mono (by simp)).trans' F8 (fun x hx hlt => by simp at hx ⊢; omega)
      have F2 : Fr [rb] w w35 := F.trans' f35 (fun x hx hlt => by simp at hx ⊢; omega)
      exact F2.trans' f' (fun x hx hlt => by simp at hx ⊢; omega)
    · rw [e1, e2, e3, hpe]
    · have := (Has.of_row (f'.row1 hrow (by omega))).slice 0 pal.length
      simpa [List.map_take] using this
  · intro J hJ
    refine LoopC_of (fun _ w' => w' = w8 ∨ (Fr [rb, hn w + 1, hn w + 2] w8 w' ∧ ∃ d crc, Dst w' (hn w + 2) rb (hn w + 1) p d crc (chunkL nPLTE (shadesL pal) ++ rest) ∧ d.stage = 1 ∧ d.cb = (cb : Nat) ∧ d.W = W ∧ d.H = H ∧ d.D = (kindN k).2) ∨
      (Fr [rb, hn w + 1, hn w + 2] w8 w' ∧ ∃ d crc, Dst w' (hn w + 2) rb (hn w + 1) p d crc rest ∧ d.stage = 2 ∧ d.cb = (cb : Nat) ∧ d.W = W ∧ d.H = H ∧ PalAt w' (hn w + 2) d.pal pal.length (plteC (shadesL pal) pal.length))) (fun _ w' => (10 - stageOf w' (hn w + 2)).toNat) (.inl rfl) ?_
    rintro ⟨⟩ w' (rfl | ⟨F', d, crc, D', hst, e1, e2, e3, e4⟩ | ⟨F', d, crc, D', hst, e1, e2, e3, hpa⟩)
    · have hs0 : stageOf w' (hn w + 2) = 0 := D8.stage_eq
      refine CallT.mono (D8.goodIHDR rfl hW hH hk) ?_
      rintro _ w59 ⟨rfl, f59, tmp, crc', D59⟩
      have hs1 : stageOf w59 (hn w + 2) = 1 := D59.stage_eq
      refine ⟨_, rfl, EqNil_nil (IfC_f ?_)⟩
      refine LdI_at D59.dec (Dec.at7 _) (CallT.mono c61 ?_)
      rintro _ w87 ⟨rfl, rfl⟩
      refine ⟨_, rfl, ?_⟩
      refine IfC_bool (fun _ => ?_) (fun hp => ?_)
      · refine LdI_at D59.dec (Dec.at8 _) (IfC_dec (fun h => absurd (show (1 : Int) ≥ 3 from h) (by decide)) (fun _ => ?_))
        refine ⟨.inr (.inl ⟨f59, _, _, D59, rfl, ?_, rfl, rfl, rfl⟩), ?_⟩
        · rw [hcbe]
        · rw [hs0, hs1]; decide
      · dsimp only at hp
        rw [hcbe] at hp
        simp at hp
        omega
    · have hs0 := D'.stage_eq
      refine CallT.mono (D'.goodPLTE hst e4 hD (by omega) hp0 hp2 hpD) ?_
      rintro _ w59 ⟨rfl, f59, tmp, crc', pl, D59, hpa⟩
      have hs1 : stageOf w59 (hn w + 2) = 2 := D59.stage_eq
      refine ⟨_, rfl, EqNil_nil (IfC_f ?_)⟩
      refine LdI_at D59.dec (Dec.at7 _) (CallT.mono c61 ?_)
      rintro _ w87 ⟨rfl, rfl⟩
      refine ⟨_, rfl, ?_⟩
      refine IfC_bool (fun _ => ?_) (fun hp => ?_)
      · refine LdI_at D59.dec (Dec.at8 _) (IfC_dec (fun h => absurd (show (2 : Int) ≥ 3 from h) (by decide)) (fun _ => ?_))
        refine ⟨.inr (.inr ⟨F'.trans f59, _, _, D59, rfl, e1, e2, e3, hpa⟩), ?_⟩
        rw [hs0, hs1, hst]; decide
      · dsimp only at hp
        rw [e1] at hp
        simp at hp
        omega
    · obtain ⟨g, hpe, hg, hrow, hcl, _⟩ := id hpa
      rcases hrest with ⟨hcl1, rest', rfl⟩ | ⟨hcl1, dd, rest', hdd, rfl⟩
      · have hal : (alphasL pal).length = pal.length := by simp [alphasL]
        refine CallT.mono (D'.goodTRNS hst (by omega) hpa (plte_false _ _) (by omega) (by omega)) ?_
        rintro _ w59 ⟨rfl, f59, tmp, crc', pl, D59, hpla, hpa'⟩
        refine ⟨_, rfl, EqNil_nil (IfC_f ?_)⟩
        refine LdI_at D59.dec (Dec.at7 _) (CallT.mono c61 ?_)
        rintro _ w87 ⟨rfl, rfl⟩
        refine ⟨_, rfl, ?_⟩
        refine IfC_bool (fun _ => ?_) (fun hp => ?_)
        · refine LdI_at D59.dec (Dec.at8 _) (IfC_dec (fun _ => ?_) (fun h => absurd (show (3 : Int) ≥ 3 from Int.le_refl 3) h))
          rw [hal, Nat.max_self] at hpa'
          refine hJ _ _ ⟨F'.trans' (f59 g (by rw [hpe])) (fun x hx hlt => by simp at hx ⊢; omega), _, _, _, _, D59, e1, e2, e3, hpa', trns_pal hp2⟩
        · dsimp only at hp
          rw [e1] at hp
          simp at hp
          omega
      · refine CallT.mono (D'.cfgIDAT hdd (.inl hst)) ?_
        rintro _ w59 ⟨rfl, f59, tmp, crc', rs', D59⟩
        refine ⟨_, rfl, EqNil_nil (IfC_f ?_)⟩
        refine LdI_at D59.dec (Dec.at7 _) (CallT.mono c61 ?_)
        rintro _ w87 ⟨rfl, rfl⟩
        refine ⟨_, rfl, ?_⟩
        refine IfC_bool (fun _ => ?_) (fun hp => ?_)
        · refine LdI_at D59.dec (Dec.at8 _) (IfC_dec (fun _ => ?_) (fun h => absurd (show (4 : Int) ≥ 3 by decide) h))
          refine hJ _ _ ⟨F'.trans f59, _, _, _, _, D59, e1, e2, e3, ⟨g, hpe, hg, f59.row hrow (by simp; omega), hcl, hp2⟩, plte_pal hp2 hcl1⟩
        · dsimp only at hp
          rw [e1] at hp
          simp at hp
          omega
end
end Go.Proofs
