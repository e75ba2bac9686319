/- A step of the proofs (S3): contracts of the functions printed here, for all their arguments that meet what each names. -/
import Derived.Test.YtklagmhonmbdgaaGreatDoorBase
import Derived.Test.YtklagmhonmbdgaaGreatDoorSteps
import Derived.Test.YtklagmhonmbdgaaGreatDoorS2
set_option maxRecDepth 1000000
set_option linter.unusedVariables false
set_option linter.unusedSimpArgs false
set_option maxHeartbeats 4000000
namespace Go.Proofs
open Go Go.V
/-- loop.example/pub-g03440/spec.Bare -/
def wp32 (x0_0 : Int) (x0_1 : Int) (x0_2 : Int) (x0_3 : Int) (x0_4 : Bool) (x1 : Option Addr) (x1l : Nat) (x1c : Nat) (x2 : Option Addr) (x2l : Nat) (x2c : Nat) (R : Value → World → Prop) (w : World) : Prop := AllocC w (.cells #[.int .i64 x0_0, .int .i64 x0_1, .int .i64 x0_2, .int .i64 x0_3, .bool x0_4] 27) fun (r1 : Nat) (w2 : World) => AllocC w2 (.cells #[] 5) fun (r3 : Nat) (w4 : World) => LdI w4 ⟨r1, 0 + 3, none⟩ .i64 fun (n5 : Int) => CallT Pg 38 #[.int .i64 n5] w4 fun (v6 : Value) (w7 : World) => Exists fun (n8 : Int) => And (v6 = .int .i64 n8) (LdB w7 ⟨r1, 0 + 4, none⟩ fun (b9 : Bool) => CallT Pg 49 #[.bool b9] w7 fun (v10 : Value) (w11 : World) => Exists fun (n12 : Int) => And (v10 = .int .i64 n12) (LoopC (fun (J15 : (Sl × Int × Int × Unit) → World → Prop) => J15 ((⟨some ⟨r3, 0, none⟩, 0, 0⟩ : Sl), (0 : Int), (0 : Int), ()) w11) (fun (z13 : (Sl × Int × Int × Unit)) (w14 : World) (N16 : (Sl × Int × Int × Unit) → World → Prop) => IfC (decide (z13.2.2.1 < n12)) (LdB w14 ⟨r1, 0 + 4, none⟩ fun (b17 : Bool) => CallT Pg 50 #[.bool b17, .int .i64 z13.2.2.1] w14 fun (v18 : Value) (w19 : World) => Exists fun (n20 : Int) => Exists fun (n21 : Int) => Exists fun (n22 : Int) => Exists fun (n23 : Int) => And (v18 = .agg #[.int .i64 n20, .int .i64 n21, .int .i64 n22, .int .i64 n23]) (AllocC w19 (.cells (zc Pg 95) 95) fun (r24 : Nat) (w25 : World) => StoreC w25 ⟨r24, 0, none⟩ (.int .i64 n20) fun (w26 : World) => StoreC w26 ⟨r24, 0 + 1, none⟩ (.int .i64 n21) fun (w27 : World) => StoreC w27 ⟨r24, 0 + 2, none⟩ (.int .i64 n22) fun (w28 : World) => StoreC w28 ⟨r24, 0 + 3, none⟩ (.int .i64 n23) fun (w29 : World) => LdI w29 ⟨r24, 0, none⟩ .i64 fun (n30 : Int) => LdI w29 ⟨r24, 0 + 1, none⟩ .i64 fun (n31 : Int) => LdI w29 ⟨r24, 0 + 2, none⟩ .i64 fun (n32 : Int) => LdI w29 ⟨r24, 0 + 3, none⟩ .i64 fun (n33 : Int) => LdI w29 ⟨r1, 0, none⟩ .i64 fun (n34 : Int) => LdI w29 ⟨r1, 0 + 1, none⟩ .i64 fun (n35 : Int) => CallT Pg 51 #[.agg #[.int .i64 n30, .int .i64 n31, .int .i64 n32, .int .i64 n33], .int .i64 n34, .int .i64 n35] w29 fun (v36 : Value) (w37 : World) => Exists fun (n38 : Int) => Exists fun (n39 : Int) => And (v36 = .tuple #[.int .i64 n38, .int .i64 n39]) (LdI w37 ⟨r1, 0, none⟩ .i64 fun (n40 : Int) => LdI w37 ⟨r1, 0 + 1, none⟩ .i64 fun (n41 : Int) => LdI w37 ⟨r1, 0 + 2, none⟩ .i64 fun (n42 : Int) => LdI w37 ⟨r1, 0 + 3, none⟩ .i64 fun (n43 : Int) => LdB w37 ⟨r1, 0 + 4, none⟩ fun (b44 : Bool) => CallT Pg 52 #[.agg #[.int .i64 n40, .int .i64 n41, .int .i64 n42, .int .i64 n43, .bool b44], .int .i64 n38] w37 fun (v45 : Value) (w46 : World) => Exists fun (n47 : Int) => And (v45 = .int .i64 n47) (And (0 ≤ n47 ∧ n47 ≤ n47 ∧ n47 ≤ 281474976710656 ∧ (1 : Int) * n47 ≤ 281474976710656) (AllocC w46 (.cells (zrow Pg 5 n47.toNat) 5) fun (r48 : Nat) (w49 : World) => LoopC (fun (J52 : (Sl × Int × Sl × Int × Unit) → World → Prop) => J52 ((⟨z13.1.a, z13.1.len, z13.1.cap⟩ : Sl), z13.2.1, (⟨some ⟨r48, 0, none⟩, n47.toNat, n47.toNat⟩ : Sl), (0 : Int), ()) w49) (fun (z50 : (Sl × Int × Sl × Int × Unit)) (w51 : World) (N53 : (Sl × Int × Sl × Int × Unit) → World → Prop) => IfC (decide (z50.2.2.2.1 < n39)) (AllocC w51 (.cells #[] 3) fun (r54 : Nat) (w55 : World) => LoopC (fun (J58 : (Sl × Int × Unit) → World → Prop) => J58 ((⟨some ⟨r54, 0, none⟩, 0, 0⟩ : Sl), (0 : Int), ()) w55) (fun (z56 : (Sl × Int × Unit)) (w57 : World) (N59 : (Sl × Int × Unit) → World → Prop) => IfC (decide (z56.2.1 < n38)) (LdI w57 ⟨r24, 0 + 1, none⟩ .i64 fun (n60 : Int) => LdI w57 ⟨r24, 0 + 3, none⟩ .i64 fun (n61 : Int) => LdI w57 ⟨r1, 0, none⟩ .i64 fun (n62 : Int) => LdI w57 ⟨r24, 0, none⟩ .i64 fun (n63 : Int) => LdI w57 ⟨r24, 0 + 2, none⟩ .i64 fun (n64 : Int) => And (0 ≤ IntKind.wrap .i64 ((IntKind.wrap .i64 ((IntKind.wrap .i64 ((IntKind.wrap .i64 ((IntKind.wrap .i64 ((IntKind.wrap .i64 (n60 + (IntKind.wrap .i64 (z50.2.2.2.1 * n61)))) * n62)) + n63)) + (IntKind.wrap .i64 (z56.2.1 * n64)))) * n8)) + n8) ∧ IntKind.wrap .i64 ((IntKind.wrap .i64 ((IntKind.wrap .i64 ((IntKind.wrap .i64 ((IntKind.wrap .i64 ((IntKind.wrap .i64 (n60 + (IntKind.wrap .i64 (z50.2.2.2.1 * n61)))) * n62)) + n63)) + (IntKind.wrap .i64 (z56.2.1 * n64)))) * n8)) + n8) ≤ (x1c : Int)) (And (0 ≤ IntKind.wrap .i64 ((IntKind.wrap .i64 ((IntKind.wrap .i64 ((IntKind.wrap .i64 ((IntKind.wrap .i64 (n60 + (IntKind.wrap .i64 (z50.2.2.2.1 * n61)))) * n62)) + n63)) + (IntKind.wrap .i64 (z56.2.1 * n64)))) * n8) ∧ IntKind.wrap .i64 ((IntKind.wrap .i64 ((IntKind.wrap .i64 ((IntKind.wrap .i64 ((IntKind.wrap .i64 (n60 + (IntKind.wrap .i64 (z50.2.2.2.1 * n61)))) * n62)) + n63)) + (IntKind.wrap .i64 (z56.2.1 * n64)))) * n8) ≤ IntKind.wrap .i64 ((IntKind.wrap .i64 ((IntKind.wrap .i64 ((IntKind.wrap .i64 ((IntKind.wrap .i64 ((IntKind.wrap .i64 (n60 + (IntKind.wrap .i64 (z50.2.2.2.1 * n61)))) * n62)) + n63)) + (IntKind.wrap .i64 (z56.2.1 * n64)))) * n8)) + n8)) (AppR Pg w57 #[28, 28] 28 (.slice z56.1.a z56.1.len z56.1.cap) (.slice (slAdd x1 x1c ((IntKind.wrap .i64 ((IntKind.wrap .i64 ((IntKind.wrap .i64 ((IntKind.wrap .i64 ((IntKind.wrap .i64 (n60 + (IntKind.wrap .i64 (z50.2.2.2.1 * n61)))) * n62)) + n63)) + (IntKind.wrap .i64 (z56.2.1 * n64)))) * n8)).toNat) 1) (((IntKind.wrap .i64 ((IntKind.wrap .i64 ((IntKind.wrap .i64 ((IntKind.wrap .i64 ((IntKind.wrap .i64 ((IntKind.wrap .i64 (n60 + (IntKind.wrap .i64 (z50.2.2.2.1 * n61)))) * n62)) + n63)) + (IntKind.wrap .i64 (z56.2.1 * n64)))) * n8)) + n8)).toNat) - ((IntKind.wrap .i64 ((IntKind.wrap .i64 ((IntKind.wrap .i64 ((IntKind.wrap .i64 ((IntKind.wrap .i64 (n60 + (IntKind.wrap .i64 (z50.2.2.2.1 * n61)))) * n62)) + n63)) + (IntKind.wrap .i64 (z56.2.1 * n64)))) * n8)).toNat)) (x1c - ((IntKind.wrap .i64 ((IntKind.wrap .i64 ((IntKind.wrap .i64 ((IntKind.wrap .i64 ((IntKind.wrap .i64 (n60 + (IntKind.wrap .i64 (z50.2.2.2.1 * n61)))) * n62)) + n63)) + (IntKind.wrap .i64 (z56.2.1 * n64)))) * n8)).toNat))) fun (p65 : Option Addr) (l66 : Nat) (c67 : Nat) (w68 : World) => N59 ((⟨p65, l66, c67⟩ : Sl), IntKind.wrap .i64 (z56.2.1 + (1 : Int)), ()) w68))) (JoinC (fun (z69 : (Int × Unit)) (w70 : World) => LdI w70 ⟨r1, 0 + 2, none⟩ .i64 fun (n72 : Int) => CallT Pg 53 #[.slice z56.1.a z56.1.len z56.1.cap, .int .i64 n72] w70 fun (v73 : Value) (w74 : World) => Exists fun (p75 : Option Addr) => Exists fun (l76 : Nat) => Exists fun (c77 : Nat) => And (v73 = .slice p75 l76 c77) (DrewC w74 fun (w78 : World) => LdI w78 ⟨r1, 0, none⟩ .i64 fun (n79 : Int) => LdI w78 ⟨r1, 0 + 1, none⟩ .i64 fun (n80 : Int) => LdI w78 ⟨r1, 0 + 2, none⟩ .i64 fun (n81 : Int) => LdI w78 ⟨r1, 0 + 3, none⟩ .i64 fun (n82 : Int) => LdB w78 ⟨r1, 0 + 4, none⟩ fun (b83 : Bool) => AllocC w78 (.cells #[.int .u8 (IntKind.wrap .u8 z69.1)] 5) fun (r84 : Nat) (w85 : World) => LdI w85 ⟨r1, 0, none⟩ .i64 fun (n86 : Int) => LdI w85 ⟨r1, 0 + 1, none⟩ .i64 fun (n87 : Int) => LdI w85 ⟨r1, 0 + 2, none⟩ .i64 fun (n88 : Int) => LdI w85 ⟨r1, 0 + 3, none⟩ .i64 fun (n89 : Int) => LdB w85 ⟨r1, 0 + 4, none⟩ fun (b90 : Bool) => And ((.agg #[.int .i64 n86, .int .i64 n87, .int .i64 n88, .int .i64 n89, .bool b90] : Value) = .agg #[.int .i64 n79, .int .i64 n80, .int .i64 n81, .int .i64 n82, .bool b83]) (AppR Pg w85 #[33, 33] 33 (.slice z50.1.a z50.1.len z50.1.cap) (.slice (some ⟨r84, 0, none⟩) 1 1) fun (p91 : Option Addr) (l92 : Nat) (c93 : Nat) (w94 : World) => LdI w94 ⟨r1, 0, none⟩ .i64 fun (n95 : Int) => LdI w94 ⟨r1, 0 + 1, none⟩ .i64 fun (n96 : Int) => LdI w94 ⟨r1, 0 + 2, none⟩ .i64 fun (n97 : Int) => LdI w94 ⟨r1, 0 + 3, none⟩ .i64 fun (n98 : Int) => LdB w94 ⟨r1, 0 + 4, none⟩ fun (b99 : Bool) => And ((.agg #[.int .i64 n95, .int .i64 n96, .int .i64 n97, .int .i64 n98, .bool b99] : Value) = .agg #[.int .i64 n79, .int .i64 n80, .int .i64 n81, .int .i64 n82, .bool b83]) (CallT Pg 55 #[.agg #[.int .i64 n79, .int .i64 n80, .int .i64 n81, .int .i64 n82, .bool b83]] w94 fun (v100 : Value) (w101 : World) => Exists fun (n102 : Int) => And (v100 = .int .i64 n102) (CallT Pg 54 #[.int .i64 z69.1, .slice p75 l76 c77, .slice z50.2.2.1.a z50.2.2.1.len z50.2.2.1.cap, .int .i64 n102] w101 fun (v103 : Value) (w104 : World) => Exists fun (p105 : Option Addr) => Exists fun (l106 : Nat) => Exists fun (c107 : Nat) => And (v103 = .slice p105 l106 c107) (AppR Pg w104 #[33, 33] 33 (.slice p91 l92 c93) (.slice p105 l106 c107) fun (p108 : Option Addr) (l109 : Nat) (c110 : Nat) (w111 : World) => N53 ((⟨p108, l109, c110⟩ : Sl), IntKind.wrap .i64 (z50.2.1 + (1 : Int)), (⟨p75, l76, c77⟩ : Sl), IntKind.wrap .i64 (z50.2.2.2.1 + (1 : Int)), ()) w111)))))) (fun (J71 : (Int × Unit) → World → Prop) => IfC (decide ((x2l : Int) > (0 : Int))) (DivC (x2l : Int) (And (0 ≤ Int.tmod z50.2.1 (x2l : Int) ∧ Int.tmod z50.2.1 (x2l : Int) < (x2l : Int)) (PtrC x2 fun (a112 : Addr) => LdI w57 (elemAt a112 ((Int.tmod z50.2.1 (x2l : Int)).toNat) 1) .u8 fun (n113 : Int) => DivC (5 : Int) (J71 (Int.tmod (IntKind.wrap .i64 n113) (5 : Int), ()) w57)))) (J71 ((0 : Int), ()) w57))))) (N16 ((⟨z50.1.a, z50.1.len, z50.1.cap⟩ : Sl), z50.2.1, IntKind.wrap .i64 (z13.2.2.1 + (1 : Int)), ()) w51))))))) (R (.slice z13.1.a z13.1.len z13.1.cap : Value) w14))))
theorem eq32 (x0_0 : Int) (x0_1 : Int) (x0_2 : Int) (x0_3 : Int) (x0_4 : Bool) (x1 : Option Addr) (x1l : Nat) (x1c : Nat) (x2 : Option Addr) (x2l : Nat) (x2c : Nat) (R : Value → World → Prop) (w : World) : vc Pg Gg (annOf [(12, [(7, .sl), (9, .i .i64), (28, .i .i64)], [1, 2, 3, 6, 8, 27]), (32, [(7, .sl), (9, .i .i64), (14, .sl), (49, .i .i64)], [1, 2, 3, 6, 8, 11, 12, 27, 28, 48]), (49, [(16, .sl), (54, .i .i64)], [1, 2, 3, 6, 7, 8, 9, 11, 12, 14, 15, 27, 28, 48, 49, 53]), (66, [(19, .i .i64)], [1, 2, 3, 7, 8, 9, 11, 12, 14, 16, 27, 28, 48, 49])]) 0 (bodyOf Tryz.f32) (retK Pg Tryz.f32.results.toList R) (argE 0 [.agg #[.int .i64 x0_0, .int .i64 x0_1, .int .i64 x0_2, .int .i64 x0_3, .bool x0_4], .slice x1 x1l x1c, .slice x2 x2l x2c]) w = wp32 x0_0 x0_1 x0_2 x0_3 x0_4 x1 x1l x1c x2 x2l x2c R w := by kernel_rfl
theorem call32 {x0_0 : Int} {x0_1 : Int} {x0_2 : Int} {x0_3 : Int} {x0_4 : Bool} {x1 : Option Addr} {x1l : Nat} {x1c : Nat} {x2 : Option Addr} {x2l : Nat} {x2c : Nat} {R : Value → World → Prop} {w : World} (h : wp32 x0_0 x0_1 x0_2 x0_3 x0_4 x1 x1l x1c x2 x2l x2c R w) : CallT Pg 32 #[.agg #[.int .i64 x0_0, .int .i64 x0_1, .int .i64 x0_2, .int .i64 x0_3, .bool x0_4], .slice x1 x1l x1c, .slice x2 x2l x2c] w R :=
  calls_of_vc follows bodies Tryz.func32 (by kernel_rfl) (by kernel_rfl) (by kernel_rfl) ((eq32 x0_0 x0_1 x0_2 x0_3 x0_4 x1 x1l x1c x2 x2l x2c R w).mpr h)

section
variable {w : World}
/-- Rows with their filters: how long each is, and the byte that begins it. -/
def RowsOf (ls : List Nat) (kind : Nat → Nat) (xs : List UInt8) : Prop :=
  ∃ rows : List (List UInt8), xs = rows.flatten ∧ rows.map List.length = ls ∧ ∀ i r, rows[i]? = some r → ∃ k t, r = k :: t ∧ k.toNat = kind i
theorem RowsOf.nil (kind : Nat → Nat) : RowsOf [] kind [] := ⟨[], rfl, rfl, fun i r h => by simp at h⟩
theorem RowsOf.snoc {ls : List Nat} {kind : Nat → Nat} {xs t : List UInt8} {k : UInt8} (h : RowsOf ls kind xs) (hk : k.toNat = kind ls.length) : RowsOf (ls ++ [t.length + 1]) kind (xs ++ k :: t) := by
  obtain ⟨rows, rfl, h2, h3⟩ := h
  refine ⟨rows ++ [k :: t], by simp, by simp [h2], fun i r hr => ?_⟩
  have hl : ls.length = rows.length := by rw [← h2]; simp
  by_cases hi : i < rows.length
  · rw [List.getElem?_append_left hi] at hr; exact h3 i r hr
  · rw [List.getElem?_append_right (by omega)] at hr
    have : i - rows.length = 0 := by
      have := (List.getElem?_eq_some_iff.1 hr).1
      simp at this; omega
    rw [this] at hr
    simp at hr
    exact ⟨k, t, hr.symm, by rw [hk]; congr 1; omega⟩
def lensP (W H D C : Nat) (L : Bool) (p : Nat) : List Nat :=
  let x := partN L p
  let a := cntN x.1 x.2.2.1 W
  let b := cntN x.2.1 x.2.2.2 H
  if a = 0 ∨ b = 0 then [] else List.replicate b (rowB C D a + 1)
def nPass (L : Bool) : Nat := if L then 7 else 1
def lens (W H D C : Nat) (L : Bool) : List Nat := (List.range (nPass L)).flatMap (lensP W H D C L)
def filt (fl : List UInt8) (i : Nat) : Nat := if fl.length = 0 then 0 else gb fl (i % fl.length) % 5
def i64s (ns : List Int) : List Value := ns.map (.int .i64)
theorem partN_ok (L : Bool) {p : Nat} (hp : p < 7) : ((partN L p).2.2.1 = 1 ∨ (partN L p).2.2.1 = 2 ∨ (partN L p).2.2.1 = 4 ∨ (partN L p).2.2.1 = 8) ∧
    ((partN L p).2.2.2 = 1 ∨ (partN L p).2.2.2 = 2 ∨ (partN L p).2.2.2 = 4 ∨ (partN L p).2.2.2 = 8) ∧ (partN L p).1 ≤ 8 ∧ (partN L p).2.1 ≤ 8 := by
  have : p = 0 ∨ p = 1 ∨ p = 2 ∨ p = 3 ∨ p = 4 ∨ p = 5 ∨ p = 6 := by omega
  cases L
  · simp [partN]
  · rcases this with rfl | rfl | rfl | rfl | rfl | rfl | rfl <;> simp [partN]
theorem cntN_lt {X D W y : Nat} (hD : D = 1 ∨ D = 2 ∨ D = 4 ∨ D = 8) (hy : y < cntN X D W) : X + y * D < W := by
  unfold cntN at hy
  rcases hD with rfl | rfl | rfl | rfl <;> omega
theorem cntN_le {X D W : Nat} (hD : D = 1 ∨ D = 2 ∨ D = 4 ∨ D = 8) : cntN X D W ≤ W := by
  unfold cntN
  rcases hD with rfl | rfl | rfl | rfl <;> omega
theorem c5u : Pg.cellsOf 5 = 1 := by kernel_rfl
theorem zc5 : zc Pg 5 = #[.int .u8 0] := by kernel_rfl

theorem c32 {W H D C : Nat} {L : Bool} {b o l c : Nat} {ns : List Int} {q : Option Addr} {fl fc : Nat} {fs : List UInt8} (hW : 1 ≤ W ∧ W ≤ 64) (hH : 1 ≤ H ∧ H ≤ 64) (hD : D = 1 ∨ D = 2 ∨ D = 4 ∨ D = 8 ∨ D = 16)
    (hx : Has w (some ⟨b, o, none⟩) (i64s ns)) (hl : l = ns.length) (hnn : ns.length = W * H * chN C) (hlc : l ≤ c) (hq : Has w q (bv fs)) (hfl : fl = fs.length) (hfb : fl < 65536) :
    CallT Pg 32 #[shp W H D C L, .slice (some ⟨b, o, none⟩) l c, .slice q fl fc] w fun v w' => ∃ zs, RowsOf (lens W H D C L) (filt fs) zs ∧ RetB w zs v w' := by
  apply call32
  unfold wp32
  refine AllocC_at fun w1 hS0 hf0 hn0 => ?_
  have hx1 := hx.fr0 hf0
  have hq1 := hq.fr0 hf0
  have hcN := chN_le C
  generalize hrS : hn w = rs at *
  refine AllocC_at fun w2 hA hfA hnA => ?_
  have hoA := Own.of_row (base := hn w1) (size := 1) (l := 0) hA (Nat.le_refl _) (by simp)
  have hS := hfA.row0 hS0
  refine LdI_at hS rfl ?_
  refine CallT.mono c38n ?_
  rintro _ _ ⟨rfl, rfl⟩
  refine ⟨_, rfl, LdB_at hS rfl ?_⟩
  refine CallT.mono c49 ?_
  rintro _ _ ⟨rfl, rfl⟩
  refine ⟨_, rfl, ?_⟩
  have hP : ((if L then 7 else 1 : Int)) = (nPass L : Int) := by unfold nPass; split <;> rfl
  rw [hP]
  have hP7 : nPass L ≤ 7 := by unfold nPass; split <;> omega
  refine LoopC_of (fun z w' => Fr [] w1 w' ∧ ∃ (k : Nat) (zs : List UInt8) (ls : List Nat), z.2.2.1 = (k : Int) ∧ k ≤ nPass L ∧ ls = (List.range k).flatMap (lensP W H D C L) ∧ z.2.1 = (ls.length : Int) ∧ RowsOf ls (filt fs) zs ∧ z.1.len = zs.length ∧ zs.length ≤ k * 40000 ∧ ls.length ≤ k * 64 ∧ Own w' (hn w1) 5 1 z.1.a z.1.len z.1.cap (bv zs))
    (fun z _ => nPass L - z.2.2.1.toNat) ⟨hfA, 0, [], [], rfl, by omega, by simp, rfl, RowsOf.nil _, rfl, by simp, by simp, by simpa using hoA⟩ ?_
  rintro ⟨⟨a, n, m⟩, tn, k', ⟨⟩⟩ w3 ⟨hf, k, zs, ls, rfl, hk, hls, rfl, hR, rfl, hzl, hlsl, ho⟩
  dsimp only at *
  refine IfC_dec (fun h => ?_) (fun h => ?_)
  · have hp7 : k < 7 := by omega
    obtain ⟨hDX, hDY, hX8, hY8⟩ := partN_ok L hp7
    refine LdB_at (hf.row0 hS0) rfl ?_
    refine CallT.mono (c50 hp7) ?_
    rintro _ w4 ⟨rfl, hf4⟩
    have hLP : lensP W H D C L k = if cntN (partN L k).1 (partN L k).2.2.1 W = 0 ∨ cntN (partN L k).2.1 (partN L k).2.2.2 H = 0 then [] else List.replicate (cntN (partN L k).2.1 (partN L k).2.2.2 H) (rowB C D (cntN (partN L k).1 (partN L k).2.2.1 W) + 1) := rfl
    unfold partV
    generalize (partN L k).1 = X at *
    generalize (partN L k).2.1 = Y at *
    generalize (partN L k).2.2.1 = DX at *
    generalize (partN L k).2.2.2 = DY at *
    refine ⟨_, _, _, _, rfl, ?_⟩
    rw [zc95]
    have h34 := hf4.size
    refine AllocC_at fun w5 hb5 hf5 hn5 => ?_
    refine StoreC_at hb5 (by simp) fun w51 hb51 hf51 hn51 => ?_
    refine StoreC_at hb51 (by simp) fun w52 hb52 hf52 hn52 => ?_
    refine StoreC_at hb52 (by simp) fun w53 hb53 hf53 hn53 => ?_
    refine StoreC_at hb53 (by simp) fun w54 hpart hf54 hn54 => ?_
    have hpart : hp w54 (hn w4) = Row 95 #[.int .i64 X, .int .i64 Y, .int .i64 DX, .int .i64 DY] := hpart
    have hf35 : Fr [] w3 w54 := ((((hf4.trans hf5).new1 hf51 h34).new1 hf52 h34).new1 hf53 h34).new1 hf54 h34
    have hrp : hn w4 < hn w54 := hp_lt hpart
    generalize hn w4 = rp at *
    clear hb5 hb51 hb52 hb53 hf5 hf51 hf52 hf53 hf54 hn5 hn51 hn52 hn53 hn54
    have hF5 := hf.trans hf35
    refine LdI_at hpart rfl (LdI_at hpart rfl (LdI_at hpart rfl (LdI_at hpart rfl (LdI_at (hF5.row0 hS0) rfl (LdI_at (hF5.row0 hS0) rfl ?_)))))
    refine CallT.mono (c51 hDX hDY hX8 hY8 (by omega) (by omega)) ?_
    rintro v w6 ⟨hv, hf6⟩
    obtain ⟨cw, ch, hv, hcw, hch, hcase⟩ : ∃ cw ch : Nat, v = .tuple #[.int .i64 cw, .int .i64 ch] ∧ cw ≤ cntN X DX W ∧ ch ≤ cntN Y DY H ∧ lensP W H D C L k = List.replicate ch (rowB C D cw + 1) := by
      rw [hLP]
      split at hv
      · rename_i h0; exact ⟨0, 0, hv, by omega, by omega, by rw [if_pos h0]; rfl⟩
      · rename_i h0; exact ⟨_, _, hv, Nat.le_refl _, Nat.le_refl _, by rw [if_neg h0]⟩
    subst hv
    have hcW := cntN_le (X := X) (W := W) hDX
    have hcH := cntN_le (X := Y) (W := H) hDY
    refine ⟨_, _, rfl, ?_⟩
    have hS6 := (hF5.trans hf6).row0 hS0
    refine LdI_at hS6 rfl (LdI_at hS6 rfl (LdI_at hS6 rfl (LdI_at hS6 rfl (LdB_at hS6 rfl ?_))))
    refine CallT.mono (c52 (by omega) (by omega)) ?_
    rintro _ w7 ⟨rfl, hf7⟩
    refine ⟨_, rfl, ?_⟩
    have hrB : rowB C D cw ≤ 512 := by
      have h1 : cw * chN C ≤ 64 * 4 := Nat.mul_le_mul (by omega) hcN.2
      have h2 : cw * chN C * D ≤ 64 * 4 * 16 := Nat.mul_le_mul h1 (by omega)
      unfold rowB; omega
    refine ⟨⟨by omega, by omega, by omega, by omega⟩, ?_⟩
    rw [zrow_one c5u zc5, bv_zeros, Int.toNat_natCast]
    refine AllocC_at fun w8 hab hf8 hn8 => ?_
    have hab := Has.of_row hab
    have hf58 := (hf6.trans hf7).trans hf8
    have h57 : hn w54 ≤ hn w7 := (hf6.trans hf7).size
    have ho8 := (ho.fr0 hf35).fr0 hf58
    have hoblk := ho.blk
    have h35 := hf35.size
    refine LoopC_of (fun z w' => Fr [] w1 w' ∧ hp w' rp = Row 95 #[.int .i64 X, .int .i64 Y, .int .i64 DX, .int .i64 DY] ∧ (∀ x ∈ blkOf z.1.a, x ≠ rp) ∧
        ∃ (y : Nat) (zs ys : List UInt8), z.2.2.2.1 = (y : Int) ∧ y ≤ ch ∧ z.2.1 = ((ls.length + y : Nat) : Int) ∧ RowsOf (ls ++ List.replicate y (rowB C D cw + 1)) (filt fs) zs ∧ z.1.len = zs.length ∧ zs.length ≤ k * 40000 + y * 513 ∧
          Own w' (hn w1) 5 1 z.1.a z.1.len z.1.cap (bv zs) ∧ Has w' z.2.2.1.a (bv ys) ∧ z.2.2.1.len = ys.length ∧ ys.length = rowB C D cw ∧ (∀ x ∈ blkOf z.2.2.1.a, x < hn w' ∧ x ∉ blkOf z.1.a))
      (fun z _ => ch - z.2.2.2.1.toNat)
      ⟨hF5.trans hf58, hf58.row0 hpart, fun x hx e => by have := hoblk x hx; omega,
        0, zs, List.replicate (rowB C D cw) 0, rfl, by omega, by simp, by simpa using hR, rfl, by omega, ho8, by simpa using hab, by simp, by simp, fun x hx => by
          simp [blkOf] at hx; subst hx; exact ⟨by omega, fun hx => by have := hoblk _ hx; omega⟩⟩ ?_
    rintro ⟨⟨a, n, m⟩, tn, ⟨pa, la, ca⟩, y', ⟨⟩⟩ w9 ⟨hF9, hp9, hne9, y, zs, ys, rfl, hy, rfl, hR9, rfl, hzl9, ho9, hab9, rfl, hys, hdis⟩
    dsimp only at *
    have hchH : ch ≤ 64 := by omega
    refine IfC_dec (fun hyc => ?_) (fun hyc => ?_)
    · have hs9 := hF9.row0 hS0
      refine AllocC_at fun w10 hb10 hf10 hn10 => ?_
      have ho10 := Own.of_row (base := hn w9) (size := 1) (l := 0) hb10 (Nat.le_refl _) (by simp)
      have hyH := cntN_lt hDY (show y < cntN Y DY H by omega)
      refine LoopC_of (fun z w' => Fr [] w9 w' ∧ ∃ (x : Nat) (lst : List Int), z.2.1 = (x : Int) ∧ x ≤ cw ∧ z.1.len = x * chN C ∧ lst.length = x * chN C ∧ Own w' (hn w9) 3 1 z.1.a z.1.len z.1.cap (i64s lst)) (fun z _ => cw - z.2.1.toNat)
        ⟨hf10, 0, [], rfl, by omega, by simp, by simp, by simpa [i64s] using ho10⟩ ?_
      rintro ⟨⟨ax, nx, mx⟩, x', ⟨⟩⟩ w11 ⟨hF11, x, lst, rfl, hx11, rfl, hlst, ho11⟩
      dsimp only at *
      have hF1 := hF9.trans hF11
      have hp11 := hF11.row0 hp9
      have hs11 := hF1.row0 hS0
      refine IfC_dec (fun hxc => ?_) (fun hxc => ?_)
      · have hxW := cntN_lt hDX (show x < cntN X DX W by omega)
        refine LdI_at hp11 rfl (LdI_at hp11 rfl (LdI_at hs11 rfl (LdI_at hp11 rfl (LdI_at hp11 rfl ?_))))
        have b1 : y * DY ≤ 64 * 8 := Nat.mul_le_mul (by omega) (by omega)
        have b3 : x * DX ≤ 64 * 8 := Nat.mul_le_mul (by omega) (by omega)
        have b2 : (Y + y * DY) * W ≤ (H - 1) * W := Nat.mul_le_mul_right _ (by omega)
        have hHW : (H - 1) * W + W = W * H := by
          obtain ⟨H', rfl⟩ : ∃ H', H = H' + 1 := ⟨H - 1, by omega⟩
          rw [Nat.add_sub_cancel, Nat.mul_comm W, Nat.succ_mul]
        have hWH : W * H ≤ 64 * 64 := Nat.mul_le_mul hW.2 hH.2
        have b4 : ((Y + y * DY) * W + X + x * DX + 1) * chN C ≤ W * H * chN C := Nat.mul_le_mul_right _ (by omega)
        have b5 : W * H * chN C ≤ 64 * 64 * 4 := Nat.mul_le_mul hWH hcN.2
        rw [Nat.succ_mul] at b4
        simp (disch := omega) only [← Int.natCast_mul, ← Int.natCast_add, wrap_i64_id, Int.toNat_natCast, Nat.add_sub_cancel_left]
        generalize hat : ((Y + y * DY) * W + X + x * DX) * chN C = at_ at *
        refine ⟨⟨by omega, by omega⟩, ⟨by omega, by omega⟩, ?_⟩
        rw [slAdd_one _ _ _ _ (by omega)]
        have hnews := Has.slice (hx1.fr0 hF1) at_ (chN C)
        refine AppR_own (S := []) (w0 := w9) ok28 hF11 ho11 hnews (by simp [i64s]; omega) (by intro u hu; simp only [i64s] at hu; obtain ⟨z, _, rfl⟩ := List.mem_map.1 (List.mem_of_mem_drop (List.mem_of_mem_take hu)); rfl) (by
          have : x * chN C ≤ 64 * 4 := Nat.mul_le_mul (by omega) hcN.2
          omega) (by simp) ?_
        intro p' c' w12 hf12 _ ho12
        refine ⟨⟨hf12, x + 1, lst ++ (ns.drop at_).take (chN C), by simp, by omega, by rw [Nat.succ_mul], by rw [List.length_append, hlst, Nat.succ_mul]; simp; omega, ?_⟩, by omega⟩
        have e : i64s (lst ++ (ns.drop at_).take (chN C)) = i64s lst ++ ((i64s ns).drop at_).take (chN C) := by simp [i64s, List.map_drop, List.map_take]
        rw [e]; exact ho12
      · have hxe : x = cw := by omega
        subst hxe
        refine JoinC_of (fun z w' => w' = w11 ∧ z.1 = (filt fs (ls.length + y) : Int)) ?_ ?_
        · rintro ⟨kd, ⟨⟩⟩ w11 ⟨rfl, rfl⟩
          dsimp only
          have hxb : x * chN C ≤ 64 * 4 := Nat.mul_le_mul (by omega) hcN.2
          have hoblk9 := ho9.blk
          have h911 := hF11.size
          refine LdI_at hs11 rfl ?_
          refine CallT.mono (c53 hD ho11.has (by simp [i64s, hlst]) (fun i hi => ⟨lst.getD i 0, by simp only [i64s, List.getElem?_map]; rw [List.getElem?_eq_getElem (by omega)]; simp [List.getD, show i < lst.length by omega]⟩) (by omega)) ?_
          rintro _ w12 ⟨zs2, hz2, hf12, p12, c12, rfl, ho12⟩
          refine ⟨_, _, _, rfl, ?_⟩
          have hz2' : zs2.length = rowB C D x := hz2
          refine DrewC_at fun w13 hf13 hn13 => ?_
          have hs13 := ((hF1.trans hf12).trans hf13).row0 hS0
          refine LdI_at hs13 rfl (LdI_at hs13 rfl (LdI_at hs13 rfl (LdI_at hs13 rfl (LdB_at hs13 rfl ?_))))
          have hfil : filt fs (ls.length + y) < 5 := by unfold filt; split <;> omega
          have hk8 : Value.int .u8 (IntKind.wrap .u8 (filt fs (ls.length + y) : Int)) = u8v (UInt8.ofNat (filt fs (ls.length + y))) := by
            rw [u8v_ofNat, wrap_u8]; congr 1
          rw [hk8]
          refine AllocC_at fun w14 hb14 hf14 hn14 => ?_
          have hf1214 := hf13.trans hf14
          have hf914 := (hF11.trans hf12).trans hf1214
          have hs14 := (hF9.trans hf914).row0 hS0
          refine LdI_at hs14 rfl (LdI_at hs14 rfl (LdI_at hs14 rfl (LdI_at hs14 rfl (LdB_at hs14 rfl ?_))))
          refine ⟨rfl, ?_⟩
          have h1112 := hf12.size
          have h1214 := hf1214.size
          refine AppR_own2 (S := []) (w0 := w1) ok33 (hF9.trans hf914) (ho9.fr0 hf914) (Has.of_row hb14) rfl (by simp [u8v, Value.oneCell']) (by omega) (by simp) ?_
          intro p15 c15 w15 hF15 hf15 ho15 hsrc15
          have hs15 := hF15.row0 hS0
          refine LdI_at hs15 rfl (LdI_at hs15 rfl (LdI_at hs15 rfl (LdI_at hs15 rfl (LdB_at hs15 rfl ?_))))
          refine ⟨rfl, ?_⟩
          refine CallT.mono (c55 (by omega)) ?_
          rintro _ w16 ⟨rfl, hf16⟩
          refine ⟨_, rfl, ?_⟩
          have hst : 1 ≤ stepN C D ∧ stepN C D ≤ 8 := by
            have h1 : chN C * D ≤ 4 * 16 := Nat.mul_le_mul hcN.2 (by omega)
            unfold stepN; omega
          have hne12 : ∀ a', p12 = some a' → a'.block ∉ blkOf a := fun a' ha hx => by have := ho12.at ha; have := hoblk9 _ hx; omega
          have hnea : ∀ a', pa = some a' → a'.block ∉ blkOf a := fun a' ha => (hdis _ (by rw [ha]; exact mem_blkOf)).2
          have ho12' := ((ho12.fr0 hf1214).fr hf15 hne12).fr0 hf16
          have hab' := ((hab9.fr0 hf914).fr hf15 hnea).fr0 hf16
          refine CallT.mono (c54 ho12'.has rfl hab' rfl (by omega) (by omega) (by omega) (by omega)) ?_
          rintro _ w17 ⟨zs3, hz3, hf17, p17, c17, rfl, ho17⟩
          refine ⟨_, _, _, rfl, ?_⟩
          have hf1517 := hf16.trans hf17
          have h1517 := hf1517.size
          have h1415 := hf15.size
          refine AppR_own2 (S := []) (w0 := w1) ok33 (hF15.trans hf1517) (ho15.fr0 hf1517) ho17.has (by simp) (bv_one _) (by omega) (by intro h; subst h; exact ho17.none_iff.2.1) ?_
          intro p18 c18 w18 hF18 hf18 ho18 hsrc18
          have hblk12 := ho12.blk
          have hn15 : rp ∉ blkOf p15 := fun hx => by
            have := hp_lt hp9; have := hf914.size
            rcases hsrc15 _ hx with h | h
            · exact hne9 _ h rfl
            · omega
          have hd15 : ∀ x ∈ blkOf p12, x ∉ blkOf p15 := fun x hx hx' => by
            have := hblk12 x hx
            rcases hsrc15 _ hx' with h | h
            · have := hoblk9 _ h; omega
            · omega
          have hp15 : hp w15 rp = _ := hf15.row (hf914.row0 hp9) fun hx => hne9 _ hx rfl
          have hp18 := hf18.row (hf1517.row0 hp15) hn15
          simp (disch := omega) only [wrap_i64_id]
          have hrp9 := hp_lt hp9
          have h914 := hf914.size
          have h1718 := hf18.size
          refine ⟨⟨hF18, hp18, fun x hx e => ?_, y + 1, zs ++ UInt8.ofNat (filt fs (ls.length + y)) :: zs3, zs2, by simp, by omega, by simp only [Int.natCast_add]; omega, ?_, ?_, ?_, ?_, ?_, rfl, hz2', fun x hx => ⟨?_, fun hx' => ?_⟩⟩, by omega⟩
          · subst e
            rcases hsrc18 _ hx with h | h
            · exact hn15 h
            · omega
          · have := hR9.snoc (k := UInt8.ofNat (filt fs (ls.length + y))) (t := zs3) (by simp; omega)
            rw [hz3, hz2'] at this
            rw [List.replicate_succ', ← List.append_assoc]
            exact this
          · simp; omega
          · simp; omega
          · have e : (zs ++ UInt8.ofNat (filt fs (ls.length + y)) :: zs3).length = zs.length + 1 + zs3.length := by simp; omega
            simpa using ho18
          · exact (((ho12'.fr0 hf17).fr hf18 fun a' ha => hd15 _ (by rw [ha]; exact mem_blkOf))).has
          · have := hblk12 x hx; omega
          · have := hblk12 x hx
            rcases hsrc18 _ hx' with h | h
            · exact hd15 x hx h
            · omega
        · intro J hJ
          have hq11 := hq1.fr0 hF1
          refine IfC_dec (fun hq0 => ?_) (fun hq0 => ?_)
          · refine DivC_of (by omega) ?_
            rw [tmod_nat]
            have hml := Nat.mod_lt (ls.length + y) (show 0 < fl by omega)
            refine IdxB hq11 hfl (by omega) (by omega) (DivC_of (by decide) ?_)
            have hg := gb_lt fs ((ls.length + y) % fl)
            rw [Int.toNat_natCast, wrap_i64_id (by omega) (by omega)]
            refine hJ _ _ ⟨rfl, ?_⟩
            have := tmod_nat (gb fs ((ls.length + y) % fl)) 5
            simp only at this ⊢
            rw [show (5 : Int) = ((5 : Nat) : Int) from rfl, this]
            unfold filt
            rw [if_neg (by omega), hfl]
          · refine hJ _ _ ⟨rfl, ?_⟩
            unfold filt
            rw [if_pos (by omega)]; rfl
    · have : y = ch := by omega
      subst this
      rw [wrap_i64_id (by omega) (by omega)]
      refine ⟨⟨hF9, k + 1, zs, ls ++ List.replicate y (rowB C D cw + 1), by simp, by omega, ?_, by simp, hR9, rfl, by omega, by simp; omega, ho9⟩, by omega⟩
      rw [List.range_succ, List.flatMap_append, ← hls]
      simp [hcase]
  · have : k = nPass L := by omega
    subst this
    refine ⟨zs, by rw [hls] at hR; exact hR, hf0.trans hf, a, m, rfl, ?_⟩
    exact ho.base_le (by omega)
end
end Go.Proofs
