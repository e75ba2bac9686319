/- A step of the proofs (S10): contracts of the functions printed here, for all their arguments that meet what each names. -/
import Derived.Test.YtklagmhonmbdgaaGreatDoorBase
import Derived.Test.YtklagmhonmbdgaaGreatDoorSteps
import Derived.Test.YtklagmhonmbdgaaGreatDoorS9
import Derived.Laws.Strings
set_option maxRecDepth 1000000
set_option linter.unusedVariables false
set_option linter.unusedSimpArgs false
set_option maxHeartbeats 4000000
namespace Go.Proofs
open Go Go.V
/-- (*loop.example/pub-g03440/pub/png.decoder).checkHeader -/
def wp59 (x0 : Addr) (R : Value → World → Prop) (w : World) : Prop := DrewC w fun (w1 : World) => LdV w1 x0 fun (v2 : Value) => And (0 ≤ (8 : Int) ∧ (8 : Int) ≤ (768 : Int)) (CallT Pg 71 #[v2, .slice (some ⟨x0.block, x0.off + 10, none⟩) 8 768] w1 fun (v3 : Value) (w4 : World) => Exists fun (n5 : Int) => Exists fun (v6 : Value) => And (v3 = .tuple #[.int .i64 n5, v6]) (EqNil v6 fun (b7 : Bool) => IfC (!b7) (R (v6 : Value) w4) (And (0 ≤ (8 : Int) ∧ (8 : Int) ≤ (768 : Int)) (B2S Pg w4 (some ⟨x0.block, x0.off + 10, none⟩) 8 768 fun (s8 : ByteArray) => IfC (!(strEq s8 ⟨#[137, 80, 78, 71, 13, 10, 26, 10]⟩)) (R (.iface 125 (.string ⟨#[110, 111, 116, 32, 97, 32, 80, 78, 71, 32, 102, 105, 108, 101]⟩) : Value) w4) (R (.nilIface : Value) w4)))))
theorem eq59 (x0 : Addr) (R : Value → World → Prop) (w : World) : vc Pg Gg (annOf []) 0 (bodyOf Tryz.f59) (retK Pg Tryz.f59.results.toList R) (argE 0 [.pointer (some x0)]) w = wp59 x0 R w := by kernel_rfl
theorem call59 {x0 : Addr} {R : Value → World → Prop} {w : World} (h : wp59 x0 R w) : CallT Pg 59 #[.pointer (some x0)] w R :=
  calls_of_vc follows bodies Tryz.func59 (by kernel_rfl) (by kernel_rfl) (by kernel_rfl) ((eq59 x0 R w).mpr h)

/-- loop.example/pub-g03440/pub/png.cbPaletted -/
def wp61 (x0 : Int) (R : Value → World → Prop) (w : World) : Prop := IfC (decide ((7 : Int) ≤ x0)) (R (.bool (decide (x0 ≤ (10 : Int))) : Value) w) (R (.bool false : Value) w)
theorem eq61 (x0 : Int) (R : Value → World → Prop) (w : World) : vc Pg Gg (annOf []) 0 (bodyOf Tryz.f61) (retK Pg Tryz.f61.results.toList R) (argE 0 [.int .i64 x0]) w = wp61 x0 R w := by kernel_rfl
theorem call61 {x0 : Int} {R : Value → World → Prop} {w : World} (h : wp61 x0 R w) : CallT Pg 61 #[.int .i64 x0] w R :=
  calls_of_vc follows bodies Tryz.func61 (by kernel_rfl) (by kernel_rfl) (by kernel_rfl) ((eq61 x0 R w).mpr h)

/-- (*loop.example/pub-g03440/pub/png.decoder).verifyChecksum -/
def wp81 (x0 : Addr) (R : Value → World → Prop) (w : World) : Prop := DrewC w fun (w1 : World) => LdV w1 x0 fun (v2 : Value) => And (0 ≤ (4 : Int) ∧ (4 : Int) ≤ (768 : Int)) (CallT Pg 71 #[v2, .slice (some ⟨x0.block, x0.off + 10, none⟩) 4 768] w1 fun (v3 : Value) (w4 : World) => Exists fun (n5 : Int) => Exists fun (v6 : Value) => And (v3 = .tuple #[.int .i64 n5, v6]) (EqNil v6 fun (b7 : Bool) => IfC (!b7) (R (v6 : Value) w4) (DrewC w4 fun (w8 : World) => And (0 ≤ (4 : Int) ∧ (4 : Int) ≤ (768 : Int)) (LdP w8 ⟨x0.block, x0.off + 2, none⟩ fun (p9 : Option Addr) => CallT Pg 72 #[.slice (some ⟨x0.block, x0.off + 10, none⟩) 4 768] w8 fun (v10 : Value) (w11 : World) => Exists fun (n12 : Int) => And (v10 = .int .u32 n12) (LdP w11 ⟨x0.block, x0.off + 2, none⟩ fun (p13 : Option Addr) => And ((.pointer p13 : Value) = .pointer p9) (And ((.pointer (some x0) : Value) = .pointer (some x0)) (CallT Pg 93 #[.pointer p9] w11 fun (v14 : Value) (w15 : World) => Exists fun (n16 : Int) => And (v14 = .int .u32 n16) (IfC (n12 != n16) (R (.iface 125 (.string ⟨#[105, 110, 118, 97, 108, 105, 100, 32, 99, 104, 101, 99, 107, 115, 117, 109]⟩) : Value) w15) (R (.nilIface : Value) w15)))))))))
theorem eq81 (x0 : Addr) (R : Value → World → Prop) (w : World) : vc Pg Gg (annOf []) 0 (bodyOf Tryz.f81) (retK Pg Tryz.f81.results.toList R) (argE 0 [.pointer (some x0)]) w = wp81 x0 R w := by kernel_rfl
theorem call81 {x0 : Addr} {R : Value → World → Prop} {w : World} (h : wp81 x0 R w) : CallT Pg 81 #[.pointer (some x0)] w R :=
  calls_of_vc follows bodies Tryz.func81 (by kernel_rfl) (by kernel_rfl) (by kernel_rfl) ((eq81 x0 R w).mpr h)

/-- (*loop.example/pub-g03440/pub/png.decoder).parseIHDR -/
def wp75 (x0 : Addr) (x1 : Int) (R : Value → World → Prop) (w : World) : Prop := IfC (x1 != (13 : Int)) (R (.iface 125 (.string ⟨#[98, 97, 100, 32, 73, 72, 68, 82, 32, 108, 101, 110, 103, 116, 104]⟩) : Value) w) (DrewC w fun (w1 : World) => LdV w1 x0 fun (v2 : Value) => And (0 ≤ (13 : Int) ∧ (13 : Int) ≤ (768 : Int)) (CallT Pg 71 #[v2, .slice (some ⟨x0.block, x0.off + 10, none⟩) 13 768] w1 fun (v3 : Value) (w4 : World) => Exists fun (n5 : Int) => Exists fun (v6 : Value) => And (v3 = .tuple #[.int .i64 n5, v6]) (EqNil v6 fun (b7 : Bool) => IfC (!b7) (R (v6 : Value) w4) (DrewC w4 fun (w8 : World) => LdP w8 ⟨x0.block, x0.off + 2, none⟩ fun (p9 : Option Addr) => And (0 ≤ (13 : Int) ∧ (13 : Int) ≤ (768 : Int)) (CallT Pg 74 #[.pointer p9, .slice (some ⟨x0.block, x0.off + 10, none⟩) 13 768] w8 fun (v10 : Value) (w11 : World) => Exists fun (n12 : Int) => Exists fun (v13 : Value) => And (v10 = .tuple #[.int .i64 n12, v13]) (And (0 ≤ (10 : Int) ∧ (10 : Int) < (768 : Int)) (LdI w11 ⟨x0.block, x0.off + 10 + 10, none⟩ .u8 fun (n14 : Int) => IfC (n14 != (0 : Int)) (R (.iface 126 (.string ⟨#[99, 111, 109, 112, 114, 101, 115, 115, 105, 111, 110, 32, 109, 101, 116, 104, 111, 100]⟩) : Value) w11) (And (0 ≤ (11 : Int) ∧ (11 : Int) < (768 : Int)) (LdI w11 ⟨x0.block, x0.off + 10 + 11, none⟩ .u8 fun (n15 : Int) => IfC (n15 != (0 : Int)) (R (.iface 126 (.string ⟨#[102, 105, 108, 116, 101, 114, 32, 109, 101, 116, 104, 111, 100]⟩) : Value) w11) (JoinC (fun (z16 : (Unit)) (w17 : World) => And (0 ≤ (12 : Int) ∧ (12 : Int) < (768 : Int)) (LdI w17 ⟨x0.block, x0.off + 10 + 12, none⟩ .u8 fun (n19 : Int) => StoreC w17 ⟨x0.block, x0.off + 778, none⟩ (.int .i64 (IntKind.wrap .i64 n19)) fun (w20 : World) => And (0 ≤ (4 : Int) ∧ (4 : Int) ≤ (768 : Int)) (And (0 ≤ (0 : Int) ∧ (0 : Int) ≤ (4 : Int)) (CallT Pg 72 #[.slice (some ⟨x0.block, x0.off + 10, none⟩) 4 768] w20 fun (v21 : Value) (w22 : World) => Exists fun (n23 : Int) => And (v21 = .int .u32 n23) (And (0 ≤ (8 : Int) ∧ (8 : Int) ≤ (768 : Int)) (And (0 ≤ (4 : Int) ∧ (4 : Int) ≤ (8 : Int)) (CallT Pg 72 #[.slice (some ⟨x0.block, x0.off + 10 + 4, none⟩) 4 764] w22 fun (v24 : Value) (w25 : World) => Exists fun (n26 : Int) => And (v24 = .int .u32 n26) (JoinC (fun (z27 : (Unit)) (w28 : World) => IfC ((IntKind.wrap .i64 ((IntKind.wrap .i64 (IntKind.wrap .i32 n23)) * (IntKind.wrap .i64 (IntKind.wrap .i32 n26)))) != (IntKind.wrap .i64 ((IntKind.wrap .i64 (IntKind.wrap .i32 n23)) * (IntKind.wrap .i64 (IntKind.wrap .i32 n26))))) (R (.iface 126 (.string ⟨#[100, 105, 109, 101, 110, 115, 105, 111, 110, 32, 111, 118, 101, 114, 102, 108, 111, 119]⟩) : Value) w28) (DivC (8 : Int) (IfC ((IntKind.wrap .i64 ((IntKind.wrap .i64 (IntKind.wrap .i32 n23)) * (IntKind.wrap .i64 (IntKind.wrap .i32 n26)))) != (IntKind.wrap .i64 (Int.tdiv (IntKind.wrap .i64 ((IntKind.wrap .i64 ((IntKind.wrap .i64 (IntKind.wrap .i32 n23)) * (IntKind.wrap .i64 (IntKind.wrap .i32 n26)))) * (8 : Int))) (8 : Int)))) (R (.iface 126 (.string ⟨#[100, 105, 109, 101, 110, 115, 105, 111, 110, 32, 111, 118, 101, 114, 102, 108, 111, 119]⟩) : Value) w28) (StoreC w28 ⟨x0.block, x0.off + 7, none⟩ (.int .i64 (0 : Int)) fun (w30 : World) => And (0 ≤ (8 : Int) ∧ (8 : Int) < (768 : Int)) (LdI w30 ⟨x0.block, x0.off + 10 + 8, none⟩ .u8 fun (n31 : Int) => StoreC w30 ⟨x0.block, x0.off + 5, none⟩ (.int .i64 (IntKind.wrap .i64 n31)) fun (w32 : World) => JoinC (fun (z33 : (Unit)) (w34 : World) => LdI w34 ⟨x0.block, x0.off + 7, none⟩ .i64 fun (n36 : Int) => IfC (n36 == (0 : Int)) (R (.iface 126 (.string ⟨#[98, 105, 116, 32, 100, 101, 112, 116, 104, 32, 97, 110, 100, 32, 99, 111, 108, 111, 114, 32, 116, 121, 112, 101]⟩) : Value) w34) (StoreC w34 ⟨x0.block, x0.off + 3, none⟩ (.int .i64 (IntKind.wrap .i64 (IntKind.wrap .i32 n23))) fun (w37 : World) => StoreC w37 ⟨x0.block, x0.off + 4, none⟩ (.int .i64 (IntKind.wrap .i64 (IntKind.wrap .i32 n26))) fun (w38 : World) => CallT Pg 81 #[.pointer (some x0)] w38 fun (v39 : Value) (w40 : World) => Exists fun (v41 : Value) => And (v39 = v41) (R (v41 : Value) w40))) (fun (J35 : (Unit) → World → Prop) => LdI w32 ⟨x0.block, x0.off + 5, none⟩ .i64 fun (n42 : Int) => IfC (n42 == (1 : Int)) (And (0 ≤ (9 : Int) ∧ (9 : Int) < (768 : Int)) (LdI w32 ⟨x0.block, x0.off + 10 + 9, none⟩ .u8 fun (n43 : Int) => IfC (n43 == (0 : Int)) (StoreC w32 ⟨x0.block, x0.off + 7, none⟩ (.int .i64 (1 : Int)) fun (w44 : World) => J35 (()) w44) (IfC (n43 == (3 : Int)) (StoreC w32 ⟨x0.block, x0.off + 7, none⟩ (.int .i64 (7 : Int)) fun (w45 : World) => J35 (()) w45) (J35 (()) w32)))) (IfC (n42 == (2 : Int)) (And (0 ≤ (9 : Int) ∧ (9 : Int) < (768 : Int)) (LdI w32 ⟨x0.block, x0.off + 10 + 9, none⟩ .u8 fun (n46 : Int) => IfC (n46 == (0 : Int)) (StoreC w32 ⟨x0.block, x0.off + 7, none⟩ (.int .i64 (2 : Int)) fun (w47 : World) => J35 (()) w47) (IfC (n46 == (3 : Int)) (StoreC w32 ⟨x0.block, x0.off + 7, none⟩ (.int .i64 (8 : Int)) fun (w48 : World) => J35 (()) w48) (J35 (()) w32)))) (IfC (n42 == (4 : Int)) (And (0 ≤ (9 : Int) ∧ (9 : Int) < (768 : Int)) (LdI w32 ⟨x0.block, x0.off + 10 + 9, none⟩ .u8 fun (n49 : Int) => IfC (n49 == (0 : Int)) (StoreC w32 ⟨x0.block, x0.off + 7, none⟩ (.int .i64 (3 : Int)) fun (w50 : World) => J35 (()) w50) (IfC (n49 == (3 : Int)) (StoreC w32 ⟨x0.block, x0.off + 7, none⟩ (.int .i64 (9 : Int)) fun (w51 : World) => J35 (()) w51) (J35 (()) w32)))) (IfC (n42 == (8 : Int)) (And (0 ≤ (9 : Int) ∧ (9 : Int) < (768 : Int)) (LdI w32 ⟨x0.block, x0.off + 10 + 9, none⟩ .u8 fun (n52 : Int) => IfC (n52 == (0 : Int)) (StoreC w32 ⟨x0.block, x0.off + 7, none⟩ (.int .i64 (4 : Int)) fun (w53 : World) => J35 (()) w53) (IfC (n52 == (2 : Int)) (StoreC w32 ⟨x0.block, x0.off + 7, none⟩ (.int .i64 (6 : Int)) fun (w54 : World) => J35 (()) w54) (IfC (n52 == (3 : Int)) (StoreC w32 ⟨x0.block, x0.off + 7, none⟩ (.int .i64 (10 : Int)) fun (w55 : World) => J35 (()) w55) (IfC (n52 == (4 : Int)) (StoreC w32 ⟨x0.block, x0.off + 7, none⟩ (.int .i64 (5 : Int)) fun (w56 : World) => J35 (()) w56) (IfC (n52 == (6 : Int)) (StoreC w32 ⟨x0.block, x0.off + 7, none⟩ (.int .i64 (11 : Int)) fun (w57 : World) => J35 (()) w57) (J35 (()) w32))))))) (IfC (n42 == (16 : Int)) (And (0 ≤ (9 : Int) ∧ (9 : Int) < (768 : Int)) (LdI w32 ⟨x0.block, x0.off + 10 + 9, none⟩ .u8 fun (n58 : Int) => IfC (n58 == (0 : Int)) (StoreC w32 ⟨x0.block, x0.off + 7, none⟩ (.int .i64 (12 : Int)) fun (w59 : World) => J35 (()) w59) (IfC (n58 == (2 : Int)) (StoreC w32 ⟨x0.block, x0.off + 7, none⟩ (.int .i64 (14 : Int)) fun (w60 : World) => J35 (()) w60) (IfC (n58 == (4 : Int)) (StoreC w32 ⟨x0.block, x0.off + 7, none⟩ (.int .i64 (13 : Int)) fun (w61 : World) => J35 (()) w61) (IfC (n58 == (6 : Int)) (StoreC w32 ⟨x0.block, x0.off + 7, none⟩ (.int .i64 (15 : Int)) fun (w62 : World) => J35 (()) w62) (J35 (()) w32)))))) (J35 (()) w32))))))))))) (fun (J29 : (Unit) → World → Prop) => IfC (decide ((IntKind.wrap .i32 n23) ≤ (0 : Int))) (R (.iface 125 (.string ⟨#[110, 111, 110, 45, 112, 111, 115, 105, 116, 105, 118, 101, 32, 100, 105, 109, 101, 110, 115, 105, 111, 110]⟩) : Value) w25) (IfC (decide ((IntKind.wrap .i32 n26) ≤ (0 : Int))) (R (.iface 125 (.string ⟨#[110, 111, 110, 45, 112, 111, 115, 105, 116, 105, 118, 101, 32, 100, 105, 109, 101, 110, 115, 105, 111, 110]⟩) : Value) w25) (J29 (()) w25))))))))))) (fun (J18 : (Unit) → World → Prop) => And (0 ≤ (12 : Int) ∧ (12 : Int) < (768 : Int)) (LdI w11 ⟨x0.block, x0.off + 10 + 12, none⟩ .u8 fun (n63 : Int) => IfC (n63 != (0 : Int)) (And (0 ≤ (12 : Int) ∧ (12 : Int) < (768 : Int)) (LdI w11 ⟨x0.block, x0.off + 10 + 12, none⟩ .u8 fun (n64 : Int) => IfC (n64 != (1 : Int)) (R (.iface 125 (.string ⟨#[105, 110, 118, 97, 108, 105, 100, 32, 105, 110, 116, 101, 114, 108, 97, 99, 101, 32, 109, 101, 116, 104, 111, 100]⟩) : Value) w11) (J18 (()) w11))) (J18 (()) w11)))))))))))))
theorem eq75 (x0 : Addr) (x1 : Int) (R : Value → World → Prop) (w : World) : vc Pg Gg (annOf [(38, [], [0]), (52, [], [0, 7, 8]), (84, [], [0, 7, 8])]) 0 (bodyOf Tryz.f75) (retK Pg Tryz.f75.results.toList R) (argE 0 [.pointer (some x0), .int .u32 x1]) w = wp75 x0 x1 R w := by kernel_rfl
theorem call75 {x0 : Addr} {x1 : Int} {R : Value → World → Prop} {w : World} (h : wp75 x0 x1 R w) : CallT Pg 75 #[.pointer (some x0), .int .u32 x1] w R :=
  calls_of_vc follows bodies Tryz.func75 (by kernel_rfl) (by kernel_rfl) (by kernel_rfl) ((eq75 x0 x1 R w).mpr h)

section
variable {w : World}
/-- A decoder's fields. -/
structure Dec where
  rd : Value
  img : Value
  crc : Value
  W : Int
  H : Int
  D : Int
  pal : Sl
  cb : Int
  stage : Int
  idat : Int
  tmp : List UInt8
  lace : Int
  useT : Bool
  tr : List UInt8
def Dec.cells (d : Dec) : List Value := d.rd :: d.img :: d.crc :: .int .i64 d.W :: .int .i64 d.H :: .int .i64 d.D :: .slice d.pal.a d.pal.len d.pal.cap :: .int .i64 d.cb :: .int .i64 d.stage :: .int .u32 d.idat :: (bv d.tmp ++ (.int .i64 d.lace :: .bool d.useT :: bv d.tr))
def Dec.arr (d : Dec) : Array Value := d.cells.toArray
theorem Dec.at0 (d : Dec) : d.arr[0]? = some d.rd := by simp [Dec.arr, Dec.cells]
theorem Dec.at1 (d : Dec) : d.arr[0 + 1]? = some d.img := by simp [Dec.arr, Dec.cells]
theorem Dec.at2 (d : Dec) : d.arr[0 + 2]? = some d.crc := by simp [Dec.arr, Dec.cells]
theorem Dec.at3 (d : Dec) : d.arr[0 + 3]? = some (.int .i64 d.W) := by simp [Dec.arr, Dec.cells]
theorem Dec.at4 (d : Dec) : d.arr[0 + 4]? = some (.int .i64 d.H) := by simp [Dec.arr, Dec.cells]
theorem Dec.at5 (d : Dec) : d.arr[0 + 5]? = some (.int .i64 d.D) := by simp [Dec.arr, Dec.cells]
theorem Dec.at6 (d : Dec) : d.arr[0 + 6]? = some (.slice d.pal.a d.pal.len d.pal.cap) := by simp [Dec.arr, Dec.cells]
theorem Dec.at7 (d : Dec) : d.arr[0 + 7]? = some (.int .i64 d.cb) := by simp [Dec.arr, Dec.cells]
theorem Dec.at8 (d : Dec) : d.arr[0 + 8]? = some (.int .i64 d.stage) := by simp [Dec.arr, Dec.cells]
theorem Dec.at9 (d : Dec) : d.arr[0 + 9]? = some (.int .u32 d.idat) := by simp [Dec.arr, Dec.cells]
theorem Dec.set3 (d : Dec) (x : Int) : d.arr.setIfInBounds (0 + 3) (.int .i64 x) = ({ d with W := x } : Dec).arr := by simp [Dec.arr, Dec.cells]
theorem Dec.set4 (d : Dec) (x : Int) : d.arr.setIfInBounds (0 + 4) (.int .i64 x) = ({ d with H := x } : Dec).arr := by simp [Dec.arr, Dec.cells]
theorem Dec.set5 (d : Dec) (x : Int) : d.arr.setIfInBounds (0 + 5) (.int .i64 x) = ({ d with D := x } : Dec).arr := by simp [Dec.arr, Dec.cells]
theorem Dec.set6 (d : Dec) (x : Sl) : d.arr.setIfInBounds (0 + 6) (.slice x.a x.len x.cap) = ({ d with pal := x } : Dec).arr := by simp [Dec.arr, Dec.cells]
theorem Dec.set7 (d : Dec) (x : Int) : d.arr.setIfInBounds (0 + 7) (.int .i64 x) = ({ d with cb := x } : Dec).arr := by simp [Dec.arr, Dec.cells]
theorem Dec.set8 (d : Dec) (x : Int) : d.arr.setIfInBounds (0 + 8) (.int .i64 x) = ({ d with stage := x } : Dec).arr := by simp [Dec.arr, Dec.cells]
theorem Dec.set9 (d : Dec) (x : Int) : d.arr.setIfInBounds (0 + 9) (.int .u32 x) = ({ d with idat := x } : Dec).arr := by simp [Dec.arr, Dec.cells]
theorem Dec.size (d : Dec) : d.arr.size = 12 + d.tmp.length + d.tr.length := by simp [Dec.arr, Dec.cells]; omega
theorem Dec.atT (d : Dec) {j : Nat} (h : j < d.tmp.length) : d.arr[10 + j]? = some (.int .u8 (gb d.tmp j)) := by
  have e : d.arr[10 + j]? = (bv d.tmp ++ (.int .i64 d.lace :: .bool d.useT :: bv d.tr))[j]? := by
    rw [Nat.add_comm]
    simp [Dec.arr, Dec.cells]
  rw [e, List.getElem?_append_left (by simpa using h), bv_gb h]
theorem Dec.set778 (d : Dec) (x : Int) (h : d.tmp.length = 768) : d.arr.setIfInBounds (0 + 778) (.int .i64 x) = ({ d with lace := x } : Dec).arr := by
  simp [Dec.arr, Dec.cells, List.set_append, h]
theorem Dec.set779 (d : Dec) (x : Bool) (h : d.tmp.length = 768) : d.arr.setIfInBounds (0 + 779) (.bool x) = ({ d with useT := x } : Dec).arr := by
  simp [Dec.arr, Dec.cells, List.set_append, h]
theorem Dec.has (d : Dec) {db : Nat} (h : hp w db = Row 119 d.arr) (o n : Nat) : Has w (some ⟨db, 10 + o, none⟩) (bv ((d.tmp.drop o).take n)) := by
  refine ⟨rfl, 119, d.arr, h, fun j v hj => ?_⟩
  rw [bv_get, List.getElem?_take] at hj
  split at hj
  · rw [List.getElem?_drop] at hj
    have hlt : o + j < d.tmp.length := by
      rcases Nat.lt_or_ge (o + j) d.tmp.length with h | h
      · exact h
      · rw [List.getElem?_eq_none h] at hj; cases hj
    dsimp only
    rw [Nat.add_assoc, d.atT hlt, ← bv_gb hlt, bv_get]
    exact hj
  · cases hj
theorem Dec.put {d : Dec} {xs : List UInt8} {arr' : Array Value} (h : Put d.arr 10 (bv xs) arr') (hl : xs.length ≤ d.tmp.length) : arr' = ({ d with tmp := xs ++ d.tmp.drop xs.length } : Dec).arr := by
  obtain ⟨hs, hj⟩ := h
  apply Array.ext_getElem?
  intro j
  rw [hj j]
  have hbl : (bv xs).length = xs.length := bv_length xs
  rw [hbl]
  simp only [Dec.arr, Dec.cells, List.getElem?_toArray]
  rcases Nat.lt_or_ge j 10 with h10 | h10
  · rw [if_neg (by omega)]
    obtain rfl | rfl | rfl | rfl | rfl | rfl | rfl | rfl | rfl | rfl := (by omega : j = 0 ∨ j = 1 ∨ j = 2 ∨ j = 3 ∨ j = 4 ∨ j = 5 ∨ j = 6 ∨ j = 7 ∨ j = 8 ∨ j = 9) <;> rfl
  · obtain ⟨k, rfl⟩ : ∃ k, j = k + 10 := ⟨j - 10, by omega⟩
    simp only [List.getElem?_cons_succ, Nat.add_sub_cancel]
    rw [bv_append, List.append_assoc]
    split
    · rw [List.getElem?_append_left (by rw [bv_length]; omega)]
    · rw [List.getElem?_append_right (l₁ := bv xs) (by rw [bv_length]; omega), bv_length]
      have : bv (d.tmp.drop xs.length) = (bv d.tmp).drop xs.length := by simp [bv, List.map_drop]
      rw [this]
      rcases Nat.lt_or_ge k d.tmp.length with hk | hk
      · rw [List.getElem?_append_left (by rw [bv_length]; omega), List.getElem?_append_left (by simp; omega), List.getElem?_drop]
        congr 1; omega
      · rw [List.getElem?_append_right (by rw [bv_length]; omega), List.getElem?_append_right (by simp; omega)]
        simp only [bv_length, List.length_drop]
        congr 1; omega
/-- A decoder in the midst of its bytes. -/
structure Dst (w : World) (db rb kb : Nat) (p : Option Addr) (d : Dec) (crc : Nat) (rs : List UInt8) : Prop where
  dec : hp w db = Row 119 d.arr
  htmp : d.tmp.length = 768
  htr : d.tr.length = 6
  rd : d.rd = .iface 85 (.pointer (some ⟨rb, 0, none⟩))
  ck : d.crc = .pointer (some ⟨kb, 0, none⟩)
  at_ : RdAt w rb p rs
  sum : hp w kb = Row 113 #[.int .u32 crc]
  crc32 : crc < 4294967296
  tab : Tab w
  ne : 3 < rb ∧ (∀ a, p = some a → 3 < a.block ∧ a.block < rb) ∧ rb < kb ∧ kb < db
namespace Dst
variable {db rb kb crc : Nat} {p : Option Addr} {d d' : Dec} {rs : List UInt8} {w' : World}
theorem fr0 (h : Dst w db rb kb p d crc rs) (hf : Fr [] w w') : Dst w' db rb kb p d crc rs :=
  ⟨hf.row0 h.dec, h.htmp, h.htr, h.rd, h.ck, h.at_.fr hf (by simp) (by simp), hf.row0 h.sum, h.crc32, h.tab.fr hf (by simp), h.ne⟩
theorem fr {S : List Nat} (h : Dst w db rb kb p d crc rs) (hf : Fr S w w') (hS : ∀ x ∈ S, db < x) : Dst w' db rb kb p d crc rs := by
  have hne := h.ne
  have no : ∀ y, y ≤ db → y ∉ S := fun y hy hx => by have := hS y hx; omega
  exact ⟨hf.row h.dec (no _ (Nat.le_refl _)), h.htmp, h.htr, h.rd, h.ck, h.at_.fr hf (no _ (by omega)) (fun a ha => no _ (by have := hne.2.1 a ha; omega)), hf.row h.sum (no _ (by omega)), h.crc32, h.tab.fr hf (no _ (by omega)), h.ne⟩
theorem upd (h : Dst w db rb kb p d crc rs) (hf : Fr [db] w w') (hd : hp w' db = Row 119 d'.arr) (e1 : d'.rd = d.rd) (e2 : d'.crc = d.crc) (e3 : d'.tmp.length = 768) (e4 : d'.tr.length = 6) : Dst w' db rb kb p d' crc rs := by
  have hne := h.ne
  exact ⟨hd, e3, e4, e1.trans h.rd, e2.trans h.ck, h.at_.fr hf (by simp; omega) (fun a ha => by have := hne.2.1 a ha; simp; omega), hf.row1 h.sum (by omega), h.crc32, h.tab.fr hf (by simp; omega), h.ne⟩
/-- Bytes are read into the decoder's room. -/
theorem read (h : Dst w db rb kb p d crc rs) {n : Nat} (hn0 : 0 < n) (hm : n ≤ 768) (hnl : n ≤ rs.length) :
    CallT Pg 71 #[d.rd, .slice (some ⟨db, 0 + 10, none⟩) n 768] w fun v w' => v = .tuple #[.int .i64 n, .nilIface] ∧ Dst w' db rb kb p { d with tmp := rs.take n ++ d.tmp.drop n } crc (rs.drop n) ∧ Fr [rb, db] w w' ∧ hn w' = hn w := by
  have hne := h.ne
  have hsz := d.size
  have h1 := h.htmp; have h2 := h.htr
  suffices H : ∀ u, u = .iface 85 (.pointer (some ⟨rb, 0, none⟩)) → CallT Pg 71 #[u, .slice (some ⟨db, 0 + 10, none⟩) n 768] w fun v w' => v = .tuple #[.int .i64 n, .nilIface] ∧ Dst w' db rb kb p { d with tmp := rs.take n ++ d.tmp.drop n } crc (rs.drop n) ∧ Fr [rb, db] w w' ∧ hn w' = hn w from H _ h.rd
  rintro _ rfl
  refine CallT.mono (c71 (o := 10) h.at_ h.dec (by omega) (by omega) (fun a ha => by have := hne.2.1 a ha; omega) (fun a ha => by have := hne.2.1 a ha; omega) hn0 hnl (by omega)) ?_
  rintro _ w' ⟨rfl, hr, hf, hn', arr', hd, hp⟩
  have hlen : (rs.take n).length = n := by simp; omega
  have e := Dec.put hp (by omega)
  rw [hlen] at e
  subst e
  exact ⟨rfl, ⟨hd, by simp; omega, h2, h.rd, h.ck, hr, hf.row h.sum (by simp; omega), h.crc32, h.tab.fr hf (by simp; omega), h.ne⟩, hf, hn'⟩
/-- Bytes of the room go into the sum. -/
theorem sums (h : Dst w db rb kb p d crc rs) {o n cap : Nat} {q : Nat} (hq : q = 10 + o) (hm : o + n ≤ 768) :
    CallT Pg 74 #[.pointer (some ⟨kb, 0, none⟩), .slice (some ⟨db, q, none⟩) n cap] w fun v w' => v = .tuple #[.int .i64 n, .nilIface] ∧ Dst w' db rb kb p d (crcU crc ((d.tmp.drop o).take n)) rs ∧ Fr [kb] w w' ∧ hn w' = hn w := by
  have hne := h.ne
  have h1 := h.htmp
  subst hq
  refine CallT.mono (c74 (l := n) h.sum h.crc32 h.tab (d.has h.dec o n) (by simp; omega) (by omega)) ?_
  rintro _ w' ⟨rfl, hk, hf, hn'⟩
  exact ⟨rfl, ⟨hf.row1 h.dec (by omega), h.htmp, h.htr, h.rd, h.ck, h.at_.fr hf (by simp; omega) (fun a ha => by have := hne.2.1 a ha; simp; omega), hk, crcU_lt h.crc32 _, h.tab.fr hf (by simp; omega), h.ne⟩, hf, hn'⟩
theorem be4r (h : Dst w db rb kb p d crc rs) {o l c q : Nat} (hq : q = 10 + o) (ho : o + 4 ≤ 768) (hl : 4 ≤ l) : CallT Pg 72 #[.slice (some ⟨db, q, none⟩) l c] w fun v w' => v = .int .u32 (be4 d.tmp o) ∧ Fr [] w w' ∧ hn w' = hn w := by
  have h1 := h.htmp
  subst hq
  refine CallT.mono (c72 (d.has h.dec o 4) (by simp; omega) hl) ?_
  rintro _ w' ⟨rfl, hf⟩
  refine ⟨?_, hf⟩
  have e : ∀ j, j < 4 → gb ((d.tmp.drop o).take 4) j = gb d.tmp (o + j) := by
    intro j hj
    simp [gb, List.getD, List.getElem?_take, hj, List.getElem?_drop]
  simp only [be4, Nat.zero_add]
  rw [e 0 (by omega), e 1 (by omega), e 2 (by omega), e 3 (by omega)]
  rfl
end Dst
theorem gb_app {xs ys : List UInt8} {i : Nat} (h : i < xs.length) : gb (xs ++ ys) i = gb xs i := by
  simp [gb, List.getD, List.getElem?_append_left h]
theorem be4_app {xs ys : List UInt8} {i : Nat} (h : i + 4 ≤ xs.length) : be4 (xs ++ ys) i = be4 xs i := by
  unfold be4
  rw [gb_app (by omega), gb_app (by omega), gb_app (by omega), gb_app (by omega)]
theorem gb_take {xs : List UInt8} {n i : Nat} (h : i < n) : gb (xs.take n) i = gb xs i := by
  simp [gb, List.getD, List.getElem?_take, h]
theorem be4_take {xs : List UInt8} {n i : Nat} (h : i + 4 ≤ n) : be4 (xs.take n) i = be4 xs i := by
  unfold be4
  rw [gb_take (by omega), gb_take (by omega), gb_take (by omega), gb_take (by omega)]

theorem c61 {x : Int} : CallT Pg 61 #[.int .i64 x] w fun v w' => v = .bool (decide (7 ≤ x) && decide (x ≤ 10)) ∧ w' = w := by
  apply call61
  unfold wp61
  refine IfC_dec (fun h => ?_) (fun h => ?_) <;> simp [h]
theorem strEq_eq (xs ys : List UInt8) : strEq ⟨xs.toArray⟩ ⟨ys.toArray⟩ = (xs == ys) := by
  unfold strEq
  rw [ByteArray.toList_eq, ByteArray.toList_eq]
theorem EqNil_nil {K : Bool → Prop} (h : K true) : EqNil .nilIface K := h
theorem EqNil_if {t : TypeId} {x : Value} {K : Bool → Prop} (h : K false) : EqNil (.iface t x) K := h
theorem IfC_t {X Y : Prop} (h : X) : IfC true X Y := h
theorem IfC_f {X Y : Prop} (h : Y) : IfC false X Y := h
/-- A refusal of a kind: of type 125 (malformed) or 126 (not supported). -/
def Refuse (t : TypeId) (v : Value) : Prop := ∃ s, v = .iface t (.string s)
namespace Dst
variable {db rb kb crc : Nat} {p : Option Addr} {d d' : Dec} {rs : List UInt8} {w' : World}
/-- The sum behind a chunk. -/
theorem c81 (h : Dst w db rb kb p d crc rs) (hl : 4 ≤ rs.length) :
    CallT Pg 81 #[.pointer (some ⟨db, 0, none⟩)] w fun v w' => (if be4 rs 0 = crc then v = .nilIface else Refuse 125 v) ∧ Dst w' db rb kb p { d with tmp := rs.take 4 ++ d.tmp.drop 4 } crc (rs.drop 4) ∧ Fr [rb, db] w w' ∧ hn w' = hn w := by
  apply call81
  unfold wp81
  refine DrewC_at fun w1 f1 n1 => ?_
  have h := h.fr0 f1
  refine LdV_at h.dec d.at0 ⟨⟨by decide, by decide⟩, ?_⟩
  refine CallT.mono (h.read (n := 4) (by decide) (by decide) hl) ?_
  rintro _ w4 ⟨rfl, h4, f4, n4⟩
  refine ⟨_, _, rfl, ?_⟩
  refine EqNil_nil (IfC_f ?_)
  refine DrewC_at fun w8 f8 n8 => ⟨⟨by decide, by decide⟩, ?_⟩
  have h8 := h4.fr0 f8
  refine LdP_at h8.dec ((Dec.at2 _).trans (congrArg some h8.ck)) ?_
  refine CallT.mono (h8.be4r (o := 0) rfl (by decide) (by decide)) ?_
  rintro _ w11 ⟨rfl, f11, n11⟩
  have h11 := h8.fr0 f11
  refine ⟨_, rfl, LdP_at h11.dec ((Dec.at2 _).trans (congrArg some h11.ck)) ⟨rfl, rfl, ?_⟩⟩
  refine CallT.mono (c93 h11.sum) ?_
  rintro _ _ ⟨rfl, rfl⟩
  refine ⟨_, rfl, ?_⟩
  have e : be4 (rs.take 4 ++ d.tmp.drop 4) 0 = be4 rs 0 := by rw [be4_app (by simp; omega), be4_take (by omega)]
  have F : Fr [rb, db] w _ := (f1.mono (by simp)).trans (f4.trans ((f8.trans f11).mono (by simp)))
  dsimp only
  rw [e]
  refine IfC_bool (fun hc => ?_) (fun hc => ?_)
  · rw [if_neg (by intro he; rw [he] at hc; simp at hc)]
    exact ⟨⟨_, rfl⟩, h11, F, by omega⟩
  · rw [if_pos (by simp at hc; omega)]
    exact ⟨rfl, h11, F, by omega⟩
theorem c59 (h : Dst w db rb kb p d crc rs) (hl : 8 ≤ rs.length) :
    CallT Pg 59 #[.pointer (some ⟨db, 0, none⟩)] w fun v w' => (if rs.take 8 = sigL then v = .nilIface else Refuse 125 v) ∧ Dst w' db rb kb p { d with tmp := rs.take 8 ++ d.tmp.drop 8 } crc (rs.drop 8) ∧ Fr [rb, db] w w' ∧ hn w' = hn w := by
  apply call59
  unfold wp59
  refine DrewC_at fun w1 f1 n1 => ?_
  have h := h.fr0 f1
  refine LdV_at h.dec d.at0 ⟨⟨by decide, by decide⟩, ?_⟩
  refine CallT.mono (h.read (n := 8) (by decide) (by decide) hl) ?_
  rintro _ w4 ⟨rfl, h4, f4, n4⟩
  refine ⟨_, _, rfl, ?_⟩
  have F : Fr [rb, db] w _ := (f1.mono (by simp)).trans f4
  refine EqNil_nil (IfC_f ?_)
  refine ⟨⟨by decide, by decide⟩, ?_⟩
  have hb := Dec.has _ h4.dec 0 8
  have e : ((rs.take 8 ++ d.tmp.drop 8).drop 0).take 8 = rs.take 8 := by
    rw [List.drop_zero, List.take_append_of_le_length (by simp; omega), List.take_of_length_le (by simp; omega)]
  dsimp only at hb
  rw [e] at hb
  refine B2S_of hb (by simp; omega) ?_
  have es : strEq ⟨(rs.take 8).toArray⟩ ⟨#[137, 80, 78, 71, 13, 10, 26, 10]⟩ = (rs.take 8 == sigL) := strEq_eq _ sigL
  rw [es]
  refine IfC_bool (fun hc => ?_) (fun hc => ?_)
  · have : ¬ rs.take 8 = sigL := by intro he; rw [he] at hc; simp at hc
    dsimp only
    rw [if_neg this]
    exact ⟨⟨_, rfl⟩, h4, F, by omega⟩
  · have : rs.take 8 = sigL := by simpa using hc
    dsimp only
    rw [if_pos this]
    exact ⟨rfl, h4, F, by omega⟩
end Dst

theorem IfC_eqI {a b : Int} {X Y : Prop} (h1 : a = b → X) (h2 : a ≠ b → Y) : IfC (a == b) X Y := IfC_bool (fun h => h1 (eq_of_beq h)) (fun h => h2 fun e => by subst e; simp at h)
theorem IfC_neI {a b : Int} {X Y : Prop} (h1 : a ≠ b → X) (h2 : a = b → Y) : IfC (a != b) X Y := IfC_bool (fun h => h1 fun e => by subst e; simp at h) (fun h => h2 (by simpa using h))
/-- The kinds of pixels. -/
def cbN (C D : Nat) : Nat :=
  if D = 1 then (if C = 0 then 1 else if C = 3 then 7 else 0) else if D = 2 then (if C = 0 then 2 else if C = 3 then 8 else 0) else if D = 4 then (if C = 0 then 3 else if C = 3 then 9 else 0)
  else if D = 8 then (if C = 0 then 4 else if C = 2 then 6 else if C = 3 then 10 else if C = 4 then 5 else if C = 6 then 11 else 0)
  else if D = 16 then (if C = 0 then 12 else if C = 2 then 14 else if C = 4 then 13 else if C = 6 then 15 else 0) else 0
theorem IfC_eqN {a : Nat} (k : Nat) {b : Int} (hb : b = (k : Int)) {X Y : Prop} (h1 : a = k → X) (h2 : a ≠ k → Y) : IfC ((a : Int) == b) X Y := by
  subst hb
  exact IfC_eqI (fun h => h1 (Int.ofNat.inj h)) (fun h => h2 fun e => h (congrArg _ e))
theorem cbN_1 {C D : Nat} (h : D = 1) : cbN C D = if C = 0 then 1 else if C = 3 then 7 else 0 := by subst h; rfl
theorem cbN_2 {C D : Nat} (h : D = 2) : cbN C D = if C = 0 then 2 else if C = 3 then 8 else 0 := by subst h; rfl
theorem cbN_4 {C D : Nat} (h : D = 4) : cbN C D = if C = 0 then 3 else if C = 3 then 9 else 0 := by subst h; rfl
theorem cbN_8 {C D : Nat} (h : D = 8) : cbN C D = if C = 0 then 4 else if C = 2 then 6 else if C = 3 then 10 else if C = 4 then 5 else if C = 6 then 11 else 0 := by subst h; rfl
theorem cbN_16 {C D : Nat} (h : D = 16) : cbN C D = if C = 0 then 12 else if C = 2 then 14 else if C = 4 then 13 else if C = 6 then 15 else 0 := by subst h; rfl
/-- What is said of a head. -/
def ihdrV (hs : List UInt8) : Option Nat :=
  if gb hs 10 ≠ 0 then some 126 else if gb hs 11 ≠ 0 then some 126 else if gb hs 12 ≠ 0 ∧ gb hs 12 ≠ 1 then some 125 else if be4 hs 0 = 0 ∨ 2147483648 ≤ be4 hs 0 then some 125 else if be4 hs 4 = 0 ∨ 2147483648 ≤ be4 hs 4 then some 125
  else if cbN (gb hs 9) (gb hs 8) = 0 then some 126 else none
/-- The decoder behind its head. -/
def Dec.head (d : Dec) (hs tmp : List UInt8) : Dec := { d with W := be4 hs 0, H := be4 hs 4, D := gb hs 8, cb := cbN (gb hs 9) (gb hs 8), lace := gb hs 12, tmp := tmp }
theorem wrap32 {n : Nat} (h : n < 4294967296) : IntKind.wrap .i32 (n : Int) = if n < 2147483648 then (n : Int) else (n : Int) - 4294967296 := by
  simp only [IntKind.wrap, IntKind.bits, IntKind.signed]
  simp
  split <;> split <;> omega
theorem Dst.c75 {db rb kb crc : Nat} {p : Option Addr} {d : Dec} {rs : List UInt8} (h : Dst w db rb kb p d crc rs) (hl : 17 ≤ rs.length) (hpx : be4 rs 0 < 2147483648 → be4 rs 4 < 2147483648 → be4 rs 0 * be4 rs 4 < 1152921504606846976) :
    CallT Pg 75 #[.pointer (some ⟨db, 0, none⟩), .int .u32 13] w fun v w' => Fr [rb, kb, db] w w' ∧ hn w' = hn w ∧ match ihdrV (rs.take 13) with
      | some t => Refuse t v
      | none => (if be4 (rs.drop 13) 0 = crcU crc (rs.take 13) then v = .nilIface else Refuse 125 v) ∧ ∃ tmp, tmp.length = 768 ∧ Dst w' db rb kb p (d.head (rs.take 13) tmp) (crcU crc (rs.take 13)) (rs.drop 17) := by
  apply call75
  unfold wp75
  refine IfC_neI (fun h => absurd rfl h) (fun _ => ?_)
  refine DrewC_at fun w1 f1 n1 => ?_
  have h := h.fr0 f1
  refine LdV_at h.dec d.at0 ⟨⟨by decide, by decide⟩, ?_⟩
  refine CallT.mono (h.read (n := 13) (by decide) (by decide) (by omega)) ?_
  rintro _ w4 ⟨rfl, h4, f4, n4⟩
  refine ⟨_, _, rfl, EqNil_nil (IfC_f ?_)⟩
  refine DrewC_at fun w8 f8 n8 => ?_
  have h8 := h4.fr0 f8
  refine LdP_at h8.dec ((Dec.at2 _).trans (congrArg some h8.ck)) ⟨⟨by decide, by decide⟩, ?_⟩
  refine CallT.mono (h8.sums (o := 0) (n := 13) rfl (by decide)) ?_
  rintro _ w11 ⟨rfl, h11, f11, n11⟩
  have hn0 : hn w11 = hn w := by omega
  have F : Fr [rb, kb, db] w w11 := (f1.mono (by simp)).trans ((f4.mono (by simp)).trans ((f8.mono (by simp)).trans (f11.mono (by simp))))
  refine ⟨_, _, rfl, ?_⟩
  clear f1 f4 f8 f11 n1 n4 n8 n11 h4 h8 h
  have hlen : (rs.take 13).length = 13 := by simp; omega
  have e0 : ((({ d with tmp := rs.take 13 ++ d.tmp.drop 13 } : Dec).tmp.drop 0).take 13) = rs.take 13 := by
    show ((rs.take 13 ++ d.tmp.drop 13).drop 0).take 13 = _
    rw [List.drop_zero, List.take_append_of_le_length (by omega), List.take_of_length_le (by omega)]
  rw [e0] at h11
  have ht : ∀ j, j < 13 → ({ d with tmp := rs.take 13 ++ d.tmp.drop 13 } : Dec).arr[0 + 10 + j]? = some (.int .u8 (gb (rs.take 13) j)) := by
    intro j hj
    have := Dec.atT ({ d with tmp := rs.take 13 ++ d.tmp.drop 13 } : Dec) (j := j) (by have := h11.htmp; omega)
    rw [show gb (rs.take 13) j = gb ({ d with tmp := rs.take 13 ++ d.tmp.drop 13 } : Dec).tmp j from (gb_app (by omega)).symm]
    exact this
  have hb0 : be4 (rs.take 13 ++ d.tmp.drop 13) 0 = be4 (rs.take 13) 0 := be4_app (by omega)
  have hb4 : be4 (rs.take 13 ++ d.tmp.drop 13) 4 = be4 (rs.take 13) 4 := be4_app (by omega)
  have hpx : be4 (rs.take 13) 0 < 2147483648 → be4 (rs.take 13) 4 < 2147483648 → be4 (rs.take 13) 0 * be4 (rs.take 13) 4 < 1152921504606846976 := by rw [be4_take (by omega), be4_take (by omega)]; exact hpx
  have hdrop : rs.drop 17 = (rs.drop 13).drop 4 := by simp
  have hl4 : 4 ≤ (rs.drop 13).length := by simp; omega
  rw [hdrop]
  generalize rs.drop 13 = r4 at *
  generalize rs.take 13 = hs at *
  have hH := be4_lt hs 0; have hW := be4_lt hs 4
  refine ⟨⟨by decide, by decide⟩, LdI_at h11.dec (ht 10 (by decide)) ?_⟩
  refine IfC_neI (fun h10 => ⟨F, hn0, ?_⟩) (fun h10 => ?_)
  · rw [show ihdrV hs = some 126 by unfold ihdrV; rw [if_pos (by omega)]]; exact ⟨_, rfl⟩
  refine ⟨⟨by decide, by decide⟩, LdI_at h11.dec (ht 11 (by decide)) ?_⟩
  refine IfC_neI (fun h11' => ⟨F, hn0, ?_⟩) (fun h11' => ?_)
  · rw [show ihdrV hs = some 126 by unfold ihdrV; rw [if_neg (by omega), if_pos (by omega)]]; exact ⟨_, rfl⟩
  refine JoinC_of (fun _ w' => w' = w11 ∧ (gb hs 12 = 0 ∨ gb hs 12 = 1)) ?_ ?_
  · rintro ⟨⟩ w' ⟨rfl, h12⟩
    refine ⟨⟨by decide, by decide⟩, LdI_at h11.dec (ht 12 (by decide)) ?_⟩
    refine StoreC_at h11.dec (by show 0 + 778 < _; rw [Dec.size, h11.htmp, h11.htr]; decide) fun w20 h20 f20 n20 => ?_
    have hg := gb_lt hs 12
    rw [wrap_i64_id (by omega) (by omega)] at h20
    have h20' := h11.upd (d' := { d with tmp := hs ++ d.tmp.drop 13, lace := gb hs 12 }) f20 (h20.trans (congrArg (Row 119) (Dec.set778 _ _ h11.htmp))) rfl rfl h11.htmp h11.htr
    refine ⟨⟨by decide, by decide⟩, ⟨by decide, by decide⟩, ?_⟩
    refine CallT.mono (h20'.be4r (o := 0) rfl (by decide) (by decide)) ?_
    rintro _ w22 ⟨rfl, f22, n22⟩
    have h22 := h20'.fr0 f22
    refine ⟨_, rfl, ⟨by decide, by decide⟩, ⟨by decide, by decide⟩, ?_⟩
    refine CallT.mono (h22.be4r (o := 4) rfl (by decide) (by decide)) ?_
    rintro _ w25 ⟨rfl, f25, n25⟩
    have h25 := h22.fr0 f25
    refine ⟨_, rfl, ?_⟩
    dsimp only
    rw [hb0, hb4, wrap32 hH, wrap32 hW]
    have F25 : Fr [rb, kb, db] w w25 := F.trans ((f20.mono (by simp)).trans ((f22.trans f25).mono (by simp)))
    have hn25 : hn w25 = hn w := by omega
    generalize hWn : be4 hs 0 = W at *
    generalize hHn : be4 hs 4 = H at *
    have hV : ∀ t, (W = 0 ∨ 2147483648 ≤ W ∨ H = 0 ∨ 2147483648 ≤ H) → t = 125 → ihdrV hs = some t := by
      intro t ht he
      subst he
      unfold ihdrV
      rw [if_neg (by omega), if_neg (by omega), if_neg (by omega), hWn, hHn]
      split
      · rfl
      · rw [if_pos (by omega)]
    refine JoinC_of (fun _ w' => w' = w25 ∧ 0 < W ∧ W < 2147483648 ∧ 0 < H ∧ H < 2147483648) ?_ ?_
    · rintro ⟨⟩ w' ⟨rfl, hW0, hW1, hH0, hH1⟩
      rw [if_pos hW1, if_pos hH1]
      have hWH := hpx hW1 hH1
      generalize hP : W * H = P at *
      have eP : IntKind.wrap .i64 (IntKind.wrap .i64 (W : Int) * IntKind.wrap .i64 (H : Int)) = (P : Int) := by
        rw [wrap_i64_id (n := (W : Int)) (by omega) (by omega), wrap_i64_id (n := (H : Int)) (by omega) (by omega), ← Int.natCast_mul, hP, wrap_i64_id (by omega) (by omega)]
      have eP8 : IntKind.wrap .i64 (Int.tdiv (IntKind.wrap .i64 ((P : Int) * 8)) 8) = (P : Int) := by
        rw [wrap_i64_id (n := (P : Int) * 8) (by omega) (by omega), show (P : Int) * 8 = ((P * 8 : Nat) : Int) by omega, show Int.tdiv ((P * 8 : Nat) : Int) 8 = ((P * 8 / 8 : Nat) : Int) from tdiv_nat _ 8, wrap_i64_id (by omega) (by omega)]
        omega
      rw [eP, eP8]
      refine IfC_neI (fun hc => absurd rfl hc) (fun _ => DivC_of (by decide) ?_)
      refine IfC_neI (fun hc => absurd rfl hc) (fun _ => ?_)
      refine StoreC_at h25.dec (by show 0 + 7 < _; rw [Dec.size, h25.htmp, h25.htr]; decide) fun w30 h30 f30 n30 => ?_
      have h30' := h25.upd (d' := { d with tmp := hs ++ d.tmp.drop 13, lace := gb hs 12, cb := 0 }) f30 (h30.trans (congrArg (Row 119) (Dec.set7 _ _))) rfl rfl h25.htmp h25.htr
      have ht30 : ∀ j, j < 13 → ({ d with tmp := hs ++ d.tmp.drop 13, lace := gb hs 12, cb := 0 } : Dec).arr[0 + 10 + j]? = some (.int .u8 (gb hs j)) := by
        intro j hj
        have := Dec.atT ({ d with tmp := hs ++ d.tmp.drop 13, lace := gb hs 12, cb := 0 } : Dec) (j := j) (by have := h30'.htmp; omega)
        rw [show gb hs j = gb ({ d with tmp := hs ++ d.tmp.drop 13, lace := gb hs 12, cb := 0 } : Dec).tmp j from (gb_app (by omega)).symm]
        exact this
      refine ⟨⟨by decide, by decide⟩, LdI_at h30'.dec (ht30 8 (by decide)) ?_⟩
      refine StoreC_at h30'.dec (by show 0 + 5 < _; rw [Dec.size, h30'.htmp, h30'.htr]; decide) fun w32 h32 f32 n32 => ?_
      have hg8 := gb_lt hs 8; have hg9 := gb_lt hs 9
      rw [wrap_i64_id (n := (gb hs 8 : Int)) (by omega) (by omega)] at h32
      have h32' := h30'.upd (d' := { d with tmp := hs ++ d.tmp.drop 13, lace := gb hs 12, cb := 0, D := gb hs 8 }) f32 (h32.trans (congrArg (Row 119) (Dec.set5 _ _))) rfl rfl h30'.htmp h30'.htr
      have ht32 : ∀ j, j < 13 → ({ d with tmp := hs ++ d.tmp.drop 13, lace := gb hs 12, cb := 0, D := gb hs 8 } : Dec).arr[0 + 10 + j]? = some (.int .u8 (gb hs j)) := by
        intro j hj
        have := Dec.atT ({ d with tmp := hs ++ d.tmp.drop 13, lace := gb hs 12, cb := 0, D := gb hs 8 } : Dec) (j := j) (by have := h32'.htmp; omega)
        rw [show gb hs j = gb ({ d with tmp := hs ++ d.tmp.drop 13, lace := gb hs 12, cb := 0, D := gb hs 8 } : Dec).tmp j from (gb_app (by omega)).symm]
        exact this
      have F32 : Fr [rb, kb, db] w w32 := F25.trans ((f30.mono (by simp)).trans (f32.mono (by simp)))
      have hn32 : hn w32 = hn w := by omega
      refine JoinC_of (fun _ w' => Fr [db] w32 w' ∧ hn w' = hn w32 ∧ hp w' db = Row 119 ({ d with tmp := hs ++ d.tmp.drop 13, lace := gb hs 12, D := gb hs 8, cb := cbN (gb hs 9) (gb hs 8) } : Dec).arr) ?_ ?_
      · rintro ⟨⟩ w34 ⟨f34, n34, h34⟩
        have h34' := h32'.upd f34 h34 rfl rfl h32'.htmp h32'.htr
        refine LdI_at h34'.dec (Dec.at7 _) ?_
        have F34 : Fr [rb, kb, db] w w34 := F32.trans (f34.mono (by simp))
        refine IfC_eqI (fun hc => ⟨F34, by omega, ?_⟩) (fun hc => ?_)
        · rw [show ihdrV hs = some 126 by unfold ihdrV; rw [if_neg (by omega), if_neg (by omega), if_neg (by omega), if_neg (by omega), if_neg (by omega), if_pos (by dsimp only at hc; omega)]]; exact ⟨_, rfl⟩
        rw [wrap_i64_id (n := (W : Int)) (by omega) (by omega), wrap_i64_id (n := (H : Int)) (by omega) (by omega)]
        refine StoreC_at h34'.dec (by show 0 + 3 < _; rw [Dec.size, h34'.htmp, h34'.htr]; decide) fun w37 h37 f37 n37 => ?_
        have h37' := h34'.upd (d' := { d with tmp := hs ++ d.tmp.drop 13, lace := gb hs 12, D := gb hs 8, cb := cbN (gb hs 9) (gb hs 8), W := W }) f37 (h37.trans (congrArg (Row 119) (Dec.set3 _ _))) rfl rfl h34'.htmp h34'.htr
        refine StoreC_at h37'.dec (by show 0 + 4 < _; rw [Dec.size, h37'.htmp, h37'.htr]; decide) fun w38 h38 f38 n38 => ?_
        have h38' := h37'.upd (d' := { d with tmp := hs ++ d.tmp.drop 13, lace := gb hs 12, D := gb hs 8, cb := cbN (gb hs 9) (gb hs 8), W := W, H := H }) f38 (h38.trans (congrArg (Row 119) (Dec.set4 _ _))) rfl rfl h37'.htmp h37'.htr
        refine CallT.mono (h38'.c81 hl4) ?_
        rintro _ w40 ⟨hv, h40, f40, n40⟩
        refine ⟨_, rfl, F34.trans ((f37.mono (by simp)).trans ((f38.mono (by simp)).trans (f40.mono (by simp)))), by omega, ?_⟩
        rw [show ihdrV hs = none by unfold ihdrV; rw [if_neg (by omega), if_neg (by omega), if_neg (by omega), if_neg (by omega), if_neg (by omega), if_neg (by dsimp only at hc; omega)]]
        refine ⟨hv, r4.take 4 ++ (hs ++ d.tmp.drop 13).drop 4, h40.htmp, ?_⟩
        unfold Dec.head
        rw [hWn, hHn]
        exact h40
      · intro J hJ
        refine LdI_at h32'.dec (Dec.at5 _) ?_
        have leaf : ∀ c : Nat, cbN (gb hs 9) (gb hs 8) = c → StoreC w32 ⟨db, 0 + 7, none⟩ (.int .i64 (c : Int)) fun w' => J () w' := by
          intro c hc
          refine StoreC_at h32'.dec (by show 0 + 7 < _; rw [Dec.size, h32'.htmp, h32'.htr]; decide) fun w' h' f' n' => hJ _ _ ⟨f', n', ?_⟩
          rw [hc]
          exact h'.trans (congrArg (Row 119) (Dec.set7 _ _))
        have leaf0 : cbN (gb hs 9) (gb hs 8) = 0 → J () w32 := by
          intro hc
          refine hJ _ _ ⟨Fr.refl _ _, rfl, ?_⟩
          rw [hc]
          exact h32'.dec
        dsimp only
        refine IfC_eqN 1 rfl (fun a1 => ?_) (fun a1 => ?_)
        · refine ⟨⟨by decide, by decide⟩, LdI_at h32'.dec (ht32 9 (by decide)) ?_⟩
          refine IfC_eqN 0 rfl (fun b0 => leaf 1 (by rw [cbN_1 a1, if_pos b0])) (fun b0 => ?_)
          refine IfC_eqN 3 rfl (fun b3 => leaf 7 (by rw [cbN_1 a1, if_neg b0, if_pos b3])) (fun b3 => ?_)
          exact leaf0 (by rw [cbN_1 a1, if_neg b0, if_neg b3])
        refine IfC_eqN 2 rfl (fun a2 => ?_) (fun a2 => ?_)
        · refine ⟨⟨by decide, by decide⟩, LdI_at h32'.dec (ht32 9 (by decide)) ?_⟩
          refine IfC_eqN 0 rfl (fun b0 => leaf 2 (by rw [cbN_2 a2, if_pos b0])) (fun b0 => ?_)
          refine IfC_eqN 3 rfl (fun b3 => leaf 8 (by rw [cbN_2 a2, if_neg b0, if_pos b3])) (fun b3 => ?_)
          exact leaf0 (by rw [cbN_2 a2, if_neg b0, if_neg b3])
        refine IfC_eqN 4 rfl (fun a4 => ?_) (fun a4 => ?_)
        · refine ⟨⟨by decide, by decide⟩, LdI_at h32'.dec (ht32 9 (by decide)) ?_⟩
          refine IfC_eqN 0 rfl (fun b0 => leaf 3 (by rw [cbN_4 a4, if_pos b0])) (fun b0 => ?_)
          refine IfC_eqN 3 rfl (fun b3 => leaf 9 (by rw [cbN_4 a4, if_neg b0, if_pos b3])) (fun b3 => ?_)
          exact leaf0 (by rw [cbN_4 a4, if_neg b0, if_neg b3])
        refine IfC_eqN 8 rfl (fun a8 => ?_) (fun a8 => ?_)
        · refine ⟨⟨by decide, by decide⟩, LdI_at h32'.dec (ht32 9 (by decide)) ?_⟩
          refine IfC_eqN 0 rfl (fun b0 => leaf 4 (by rw [cbN_8 a8, if_pos b0])) (fun b0 => ?_)
          refine IfC_eqN 2 rfl (fun b2 => leaf 6 (by rw [cbN_8 a8, if_neg b0, if_pos b2])) (fun b2 => ?_)
          refine IfC_eqN 3 rfl (fun b3 => leaf 10 (by rw [cbN_8 a8, if_neg b0, if_neg b2, if_pos b3])) (fun b3 => ?_)
          refine IfC_eqN 4 rfl (fun b4 => leaf 5 (by rw [cbN_8 a8, if_neg b0, if_neg b2, if_neg b3, if_pos b4])) (fun b4 => ?_)
          refine IfC_eqN 6 rfl (fun b6 => leaf 11 (by rw [cbN_8 a8, if_neg b0, if_neg b2, if_neg b3, if_neg b4, if_pos b6])) (fun b6 => ?_)
          exact leaf0 (by rw [cbN_8 a8, if_neg b0, if_neg b2, if_neg b3, if_neg b4, if_neg b6])
        refine IfC_eqN 16 rfl (fun a16 => ?_) (fun a16 => ?_)
        · refine ⟨⟨by decide, by decide⟩, LdI_at h32'.dec (ht32 9 (by decide)) ?_⟩
          refine IfC_eqN 0 rfl (fun b0 => leaf 12 (by rw [cbN_16 a16, if_pos b0])) (fun b0 => ?_)
          refine IfC_eqN 2 rfl (fun b2 => leaf 14 (by rw [cbN_16 a16, if_neg b0, if_pos b2])) (fun b2 => ?_)
          refine IfC_eqN 4 rfl (fun b4 => leaf 13 (by rw [cbN_16 a16, if_neg b0, if_neg b2, if_pos b4])) (fun b4 => ?_)
          refine IfC_eqN 6 rfl (fun b6 => leaf 15 (by rw [cbN_16 a16, if_neg b0, if_neg b2, if_neg b4, if_pos b6])) (fun b6 => ?_)
          exact leaf0 (by rw [cbN_16 a16, if_neg b0, if_neg b2, if_neg b4, if_neg b6])
        exact leaf0 (by unfold cbN; rw [if_neg a1, if_neg a2, if_neg a4, if_neg a8, if_neg a16])
    · intro J hJ
      refine IfC_dec (fun hc => ⟨F25, hn25, ?_⟩) (fun hc => IfC_dec (fun hc' => ⟨F25, hn25, ?_⟩) (fun hc' => hJ _ _ ⟨rfl, ?_⟩))
      · rw [hV 125 (by split at hc <;> omega) rfl]; exact ⟨_, rfl⟩
      · rw [hV 125 (by split at hc' <;> omega) rfl]; exact ⟨_, rfl⟩
      · split at hc <;> split at hc' <;> omega
  · intro J hJ
    refine ⟨⟨by decide, by decide⟩, LdI_at h11.dec (ht 12 (by decide)) ?_⟩
    refine IfC_neI (fun h12 => ?_) (fun h12 => hJ _ _ ⟨rfl, by omega⟩)
    refine ⟨⟨by decide, by decide⟩, LdI_at h11.dec (ht 12 (by decide)) ?_⟩
    refine IfC_neI (fun h12' => ⟨F, hn0, ?_⟩) (fun h12' => hJ _ _ ⟨rfl, by omega⟩)
    rw [show ihdrV hs = some 125 by unfold ihdrV; rw [if_neg (by omega), if_neg (by omega), if_pos (by omega)]]; exact ⟨_, rfl⟩
end
end Go.Proofs
