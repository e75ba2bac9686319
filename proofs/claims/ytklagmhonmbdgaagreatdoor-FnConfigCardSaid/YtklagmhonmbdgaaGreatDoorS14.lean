/- A step of the proofs (S14): contracts of the functions printed here, for all their arguments that meet what each names. -/
import Derived.Test.YtklagmhonmbdgaaGreatDoorBase
import Derived.Test.YtklagmhonmbdgaaGreatDoorSteps
import Derived.Test.YtklagmhonmbdgaaGreatDoorS13
import Derived.Laws.StructEq
import Derived.ChangeKeysEq
set_option maxRecDepth 1000000
set_option linter.unusedVariables false
set_option linter.unusedSimpArgs false
set_option maxHeartbeats 4000000
namespace Go.Proofs
open Go Go.V
/-- loop.example/pub-g03440/laws.FnConfig -/
def wp3 (x0 : Int) (x1 : Option Addr) (x1l : Nat) (x1c : Nat) (x2 : Int) (x3 : Int) (R : Value → World → Prop) (w : World) : Prop := IfC (decide ((x1l : Int) > (2147483647 : Int))) (R (.bool true : Value) w) (CallT Pg 22 #[.slice x1 x1l x1c] w fun (v1 : Value) (w2 : World) => Exists fun (b3 : Bool) => And (v1 = .bool b3) (IfC (!b3) (R (.bool true : Value) w2) (CallT Pg 23 #[.int .u32 x0, .slice x1 x1l x1c] w2 fun (v4 : Value) (w5 : World) => Exists fun (n6 : Int) => Exists fun (n7 : Int) => Exists fun (n8 : Int) => Exists fun (n9 : Int) => Exists fun (b10 : Bool) => Exists fun (p11 : Option Addr) => Exists fun (l12 : Nat) => Exists fun (c13 : Nat) => Exists fun (p14 : Option Addr) => Exists fun (l15 : Nat) => Exists fun (c16 : Nat) => Exists fun (p17 : Option Addr) => Exists fun (l18 : Nat) => Exists fun (c19 : Nat) => And (v4 = .agg #[.int .i64 n6, .int .i64 n7, .int .i64 n8, .int .i64 n9, .bool b10, .slice p11 l12 c13, .slice p14 l15 c16, .slice p17 l18 c19]) (AllocC w5 (.cells (zc Pg 31) 31) fun (r20 : Nat) (w21 : World) => StoreC w21 ⟨r20, 0, none⟩ (.int .i64 n6) fun (w22 : World) => StoreC w22 ⟨r20, 0 + 1, none⟩ (.int .i64 n7) fun (w23 : World) => StoreC w23 ⟨r20, 0 + 2, none⟩ (.int .i64 n8) fun (w24 : World) => StoreC w24 ⟨r20, 0 + 3, none⟩ (.int .i64 n9) fun (w25 : World) => StoreC w25 ⟨r20, 0 + 4, none⟩ (.bool b10) fun (w26 : World) => StoreC w26 ⟨r20, 0 + 5, none⟩ (.slice p11 l12 c13) fun (w27 : World) => StoreC w27 ⟨r20, 0 + 6, none⟩ (.slice p14 l15 c16) fun (w28 : World) => StoreC w28 ⟨r20, 0 + 7, none⟩ (.slice p17 l18 c19) fun (w29 : World) => LdI w29 ⟨r20, 0, none⟩ .i64 fun (n30 : Int) => LdI w29 ⟨r20, 0 + 1, none⟩ .i64 fun (n31 : Int) => LdI w29 ⟨r20, 0 + 2, none⟩ .i64 fun (n32 : Int) => LdI w29 ⟨r20, 0 + 3, none⟩ .i64 fun (n33 : Int) => LdB w29 ⟨r20, 0 + 4, none⟩ fun (b34 : Bool) => LdSl w29 ⟨r20, 0 + 5, none⟩ fun (p35 : Option Addr) (l36 : Nat) (c37 : Nat) => LdSl w29 ⟨r20, 0 + 6, none⟩ fun (p38 : Option Addr) (l39 : Nat) (c40 : Nat) => LdSl w29 ⟨r20, 0 + 7, none⟩ fun (p41 : Option Addr) (l42 : Nat) (c43 : Nat) => CallT Pg 24 #[.agg #[.int .i64 n30, .int .i64 n31, .int .i64 n32, .int .i64 n33, .bool b34, .slice p35 l36 c37, .slice p38 l39 c40, .slice p41 l42 c43], .int .u32 x0] w29 fun (v44 : Value) (w45 : World) => Exists fun (p46 : Option Addr) => Exists fun (l47 : Nat) => Exists fun (c48 : Nat) => And (v44 = .slice p46 l47 c48) (CallT Pg 25 #[.slice p46 l47 c48] w45 fun (v49 : Value) (w50 : World) => Exists fun (n51 : Int) => Exists fun (n52 : Int) => Exists fun (n53 : Int) => Exists fun (p54 : Option Addr) => Exists fun (l55 : Nat) => Exists fun (c56 : Nat) => Exists fun (n57 : Int) => And (v49 = .tuple #[.agg #[.int .i64 n51, .int .i64 n52, .int .i64 n53, .slice p54 l55 c56], .int .i64 n57]) (AllocC w50 (.cells (zc Pg 37) 37) fun (r58 : Nat) (w59 : World) => StoreC w59 ⟨r58, 0, none⟩ (.int .i64 n51) fun (w60 : World) => StoreC w60 ⟨r58, 0 + 1, none⟩ (.int .i64 n52) fun (w61 : World) => StoreC w61 ⟨r58, 0 + 2, none⟩ (.int .i64 n53) fun (w62 : World) => StoreC w62 ⟨r58, 0 + 3, none⟩ (.slice p54 l55 c56) fun (w63 : World) => JoinC (fun (z64 : (Unit)) (w65 : World) => LdI w65 ⟨r20, 0 + 3, none⟩ .i64 fun (n67 : Int) => IfC (n67 == (3 : Int)) (LdSl w65 ⟨r58, 0 + 3, none⟩ fun (p68 : Option Addr) (l69 : Nat) (c70 : Nat) => LdSl w65 ⟨r20, 0 + 6, none⟩ fun (p71 : Option Addr) (l72 : Nat) (c73 : Nat) => IfC ((l69 : Int) != (l72 : Int)) (R (.bool false : Value) w65) (LdSl w65 ⟨r58, 0 + 3, none⟩ fun (p74 : Option Addr) (l75 : Nat) (c76 : Nat) => LoopC (fun (J79 : (Int × Unit) → World → Prop) => J79 ((0 : Int), ()) w65) (fun (z77 : (Int × Unit)) (w78 : World) (N80 : (Int × Unit) → World → Prop) => IfC (decide (z77.1 < (l75 : Int))) (And (0 ≤ z77.1 ∧ z77.1 < (l75 : Int)) (PtrC p74 fun (a81 : Addr) => LdI w78 (elemAt a81 z77.1.toNat 4) .u8 fun (n82 : Int) => LdI w78 ⟨(elemAt a81 z77.1.toNat 4).block, (elemAt a81 z77.1.toNat 4).off + 1, none⟩ .u8 fun (n83 : Int) => LdI w78 ⟨(elemAt a81 z77.1.toNat 4).block, (elemAt a81 z77.1.toNat 4).off + 2, none⟩ .u8 fun (n84 : Int) => LdI w78 ⟨(elemAt a81 z77.1.toNat 4).block, (elemAt a81 z77.1.toNat 4).off + 3, none⟩ .u8 fun (n85 : Int) => AllocC w78 (.cells (zc Pg 41) 41) fun (r86 : Nat) (w87 : World) => StoreC w87 ⟨r86, 0, none⟩ (.int .u8 n82) fun (w88 : World) => StoreC w88 ⟨r86, 0 + 1, none⟩ (.int .u8 n83) fun (w89 : World) => StoreC w89 ⟨r86, 0 + 2, none⟩ (.int .u8 n84) fun (w90 : World) => StoreC w90 ⟨r86, 0 + 3, none⟩ (.int .u8 n85) fun (w91 : World) => DrewC w91 fun (w92 : World) => LdI w92 ⟨r86, 0, none⟩ .u8 fun (n93 : Int) => LdI w92 ⟨r86, 0 + 1, none⟩ .u8 fun (n94 : Int) => LdI w92 ⟨r86, 0 + 2, none⟩ .u8 fun (n95 : Int) => LdI w92 ⟨r86, 0 + 3, none⟩ .u8 fun (n96 : Int) => LdSl w92 ⟨r20, 0 + 6, none⟩ fun (p97 : Option Addr) (l98 : Nat) (c99 : Nat) => And (0 ≤ z77.1 ∧ z77.1 < (l98 : Int)) (PtrC p97 fun (a100 : Addr) => LdI w92 (elemAt a100 z77.1.toNat 4) .i64 fun (n101 : Int) => LdI w92 ⟨(elemAt a100 z77.1.toNat 4).block, (elemAt a100 z77.1.toNat 4).off + 1, none⟩ .i64 fun (n102 : Int) => LdI w92 ⟨(elemAt a100 z77.1.toNat 4).block, (elemAt a100 z77.1.toNat 4).off + 2, none⟩ .i64 fun (n103 : Int) => LdI w92 ⟨(elemAt a100 z77.1.toNat 4).block, (elemAt a100 z77.1.toNat 4).off + 3, none⟩ .i64 fun (n104 : Int) => VEqN Pg 43 (.tmp 101) (.tmp 106) (.agg #[.int .i64 (IntKind.wrap .i64 ((257 : Int) * (IntKind.wrap .i64 n93))), .int .i64 (IntKind.wrap .i64 ((257 : Int) * (IntKind.wrap .i64 n94))), .int .i64 (IntKind.wrap .i64 ((257 : Int) * (IntKind.wrap .i64 n95))), .int .i64 (IntKind.wrap .i64 ((257 : Int) * (IntKind.wrap .i64 n96)))]) (.agg #[.int .i64 n101, .int .i64 n102, .int .i64 n103, .int .i64 n104]) w92 fun (b105 : Bool) => IfC (!b105) (R (.bool false : Value) w92) (N80 (IntKind.wrap .i64 (z77.1 + (1 : Int)), ()) w92)))) (R (.bool true : Value) w78)))) (CallT Pg 26 #[.slice p46 l47 c48] w65 fun (v106 : Value) (w107 : World) => Exists fun (p108 : Option Addr) => Exists fun (l109 : Nat) => Exists fun (c110 : Nat) => And (v106 = .slice p108 l109 c110) (And (0 ≤ (1 : Int) ∧ (1 : Int) < (l109 : Int)) (PtrC p108 fun (a111 : Addr) => LdI w107 ⟨a111.block, a111.off + 1, none⟩ .i64 fun (n112 : Int) => DivC (IntKind.wrap .i64 ((l47 : Int) - n112)) (And (0 ≤ IntKind.wrap .i64 (n112 + (Int.tmod (IntKind.wrap .i64 x2) (IntKind.wrap .i64 ((l47 : Int) - n112)))) ∧ IntKind.wrap .i64 (n112 + (Int.tmod (IntKind.wrap .i64 x2) (IntKind.wrap .i64 ((l47 : Int) - n112)))) < (l47 : Int)) (PtrC p46 fun (a113 : Addr) => LdI w107 (elemAt a113 ((IntKind.wrap .i64 (n112 + (Int.tmod (IntKind.wrap .i64 x2) (IntKind.wrap .i64 ((l47 : Int) - n112))))).toNat) 1) .u8 fun (n114 : Int) => And (0 ≤ IntKind.wrap .i64 (n112 + (Int.tmod (IntKind.wrap .i64 x2) (IntKind.wrap .i64 ((l47 : Int) - n112)))) ∧ IntKind.wrap .i64 (n112 + (Int.tmod (IntKind.wrap .i64 x2) (IntKind.wrap .i64 ((l47 : Int) - n112)))) < (l47 : Int)) (PtrC p46 fun (a115 : Addr) => StoreC w107 (elemAt a115 ((IntKind.wrap .i64 (n112 + (Int.tmod (IntKind.wrap .i64 x2) (IntKind.wrap .i64 ((l47 : Int) - n112))))).toNat) 1) (.int .u8 (bXor .u8 n114 x3)) fun (w116 : World) => CallT Pg 25 #[.slice p46 l47 c48] w116 fun (v117 : Value) (w118 : World) => Exists fun (n119 : Int) => Exists fun (n120 : Int) => Exists fun (n121 : Int) => Exists fun (p122 : Option Addr) => Exists fun (l123 : Nat) => Exists fun (c124 : Nat) => Exists fun (n125 : Int) => And (v117 = .tuple #[.agg #[.int .i64 n119, .int .i64 n120, .int .i64 n121, .slice p122 l123 c124], .int .i64 n125]) (AllocC w118 (.cells (zc Pg 37) 37) fun (r126 : Nat) (w127 : World) => StoreC w127 ⟨r126, 0, none⟩ (.int .i64 n119) fun (w128 : World) => StoreC w128 ⟨r126, 0 + 1, none⟩ (.int .i64 n120) fun (w129 : World) => StoreC w129 ⟨r126, 0 + 2, none⟩ (.int .i64 n121) fun (w130 : World) => StoreC w130 ⟨r126, 0 + 3, none⟩ (.slice p122 l123 c124) fun (w131 : World) => IfC (n125 == (0 : Int)) (LdI w131 ⟨r126, 0 + 1, none⟩ .i64 fun (n132 : Int) => LdI w131 ⟨r58, 0 + 1, none⟩ .i64 fun (n133 : Int) => IfC (n132 == n133) (LdI w131 ⟨r126, 0 + 2, none⟩ .i64 fun (n134 : Int) => LdI w131 ⟨r58, 0 + 2, none⟩ .i64 fun (n135 : Int) => IfC (n134 == n135) (LdI w131 ⟨r126, 0, none⟩ .i64 fun (n136 : Int) => LdI w131 ⟨r58, 0, none⟩ .i64 fun (n137 : Int) => IfC (n136 == n137) (LdSl w131 ⟨r58, 0 + 3, none⟩ fun (p138 : Option Addr) (l139 : Nat) (c140 : Nat) => R (.bool ((l139 : Int) == (0 : Int)) : Value) w131) (R (.bool false : Value) w131)) (R (.bool false : Value) w131)) (R (.bool false : Value) w131)) (R (.bool false : Value) w131))))))))) (fun (J66 : (Unit) → World → Prop) => IfC (n57 != (0 : Int)) (R (.bool false : Value) w63) (LdI w63 ⟨r58, 0 + 1, none⟩ .i64 fun (n141 : Int) => LdI w63 ⟨r20, 0, none⟩ .i64 fun (n142 : Int) => IfC (n141 != n142) (R (.bool false : Value) w63) (LdI w63 ⟨r58, 0 + 2, none⟩ .i64 fun (n143 : Int) => LdI w63 ⟨r20, 0 + 1, none⟩ .i64 fun (n144 : Int) => IfC (n143 != n144) (R (.bool false : Value) w63) (LdI w63 ⟨r58, 0, none⟩ .i64 fun (n145 : Int) => LdI w63 ⟨r20, 0 + 3, none⟩ .i64 fun (n146 : Int) => LdI w63 ⟨r20, 0 + 2, none⟩ .i64 fun (n147 : Int) => IfC (n145 != (IntKind.wrap .i64 ((IntKind.wrap .i64 ((100 : Int) * n146)) + n147))) (R (.bool false : Value) w63) (J66 (()) w63)))))))))))
theorem eq3 (x0 : Int) (x1 : Option Addr) (x1l : Nat) (x1c : Nat) (x2 : Int) (x3 : Int) (R : Value → World → Prop) (w : World) : vc Pg Gg (annOf [(24, [], [2, 3, 9, 10, 11]), (48, [(80, .i .i64)], [9, 78, 79])]) 0 (bodyOf Tryz.f3) (retK Pg Tryz.f3.results.toList R) (argE 0 [.int .u32 x0, .slice x1 x1l x1c, .int .u16 x2, .int .u8 x3]) w = wp3 x0 x1 x1l x1c x2 x3 R w := by kernel_rfl
theorem call3 {x0 : Int} {x1 : Option Addr} {x1l : Nat} {x1c : Nat} {x2 : Int} {x3 : Int} {R : Value → World → Prop} {w : World} (h : wp3 x0 x1 x1l x1c x2 x3 R w) : CallT Pg 3 #[.int .u32 x0, .slice x1 x1l x1c, .int .u16 x2, .int .u8 x3] w R :=
  calls_of_vc follows bodies Tryz.func3 (by kernel_rfl) (by kernel_rfl) (by kernel_rfl) ((eq3 x0 x1 x1l x1c x2 x3 R w).mpr h)

section
variable {w : World}
/-- What is told ahead of a picture stands in a file. -/
def Cfg (k W H : Nat) (L : Bool) (pal : List Px) (xs : List UInt8) : Prop :=
  ((kindN k).1 ≠ 3 ∧ pal = [] ∧ ∃ rest, xs = sigL ++ (chunkL nIHDR (headL W H (kindN k).2 (kindN k).1 L) ++ rest)) ∨
  ((kindN k).1 = 3 ∧ 0 < pal.length ∧ pal.length ≤ 256 ∧ pal.length ≤ 2 ^ (kindN k).2 ∧ ∃ rest, xs = sigL ++ (chunkL nIHDR (headL W H (kindN k).2 (kindN k).1 L) ++ (chunkL nPLTE (shadesL pal) ++ rest)) ∧
    ((anyClear pal = true ∧ ∃ rest', rest = chunkL ntRNS (alphasL pal) ++ rest') ∨ (anyClear pal = false ∧ ∃ dd rest', dd.length < 4294967296 ∧ rest = chunkL nIDAT dd ++ rest')))
theorem c40 {rb k W H : Nat} {L : Bool} {p : Option Addr} {pal : List Px} {xs : List UInt8} (hr : RdAt w rb p xs) (hx : Cfg k W H L pal xs) (hT : Tab w) (hrb : 3 < rb ∧ rb < hn w) (hp : ∀ a, p = some a → 3 < a.block ∧ a.block < rb)
    (hW : 1 ≤ W ∧ W ≤ 64) (hH : 1 ≤ H ∧ H ≤ 64) (hk : k < 15) :
    CallT Pg 40 #[.iface 85 (.pointer (some ⟨rb, 0, none⟩))] w fun v w' => Fr [rb] w w' ∧ ∃ q l c cs, v = .tuple #[.agg #[.int .i64 (cbN (kindN k).1 (kindN k).2), .slice q l c, .int .i64 W, .int .i64 H], .nilIface] ∧ Has w' q (List.map colV cs) ∧ l = cs.length ∧ cs.map Prod.snd = pal := by
  rcases hx with ⟨hC, rfl, rest, rfl⟩ | ⟨hC, h1, h2, h3, rest, rfl, h4⟩
  · refine CallT.mono (c40a hr hT hrb hp hW hH hk hC) ?_
    rintro _ w' ⟨rfl, hf⟩
    exact ⟨hf, none, 0, 0, [], rfl, rfl, rfl, rfl⟩
  · refine CallT.mono (c40b hr hT hrb hp hW hH hk hC h1 h2 h3 h4) ?_
    rintro _ w' ⟨hf, g, cs, rfl, ha, hl, hs⟩
    exact ⟨hf, _, _, _, cs, rfl, ha, hl.symm, hs⟩
theorem zc37 : zc Pg 37 = #[.int .i64 0, .int .i64 0, .int .i64 0, .slice none 0 0] := by kernel_rfl
theorem c25 {p : Option Addr} {l c : Nat} {xs : List UInt8} (hx : Has w p (bv xs)) (hl : l = xs.length) (hlb : l < 1099511627776) (hT : Tab w) {k W H : Nat} {L : Bool} {pal : List Px} (hc : Cfg k W H L pal xs) (hp9 : pal.length ≤ 1000)
    (hW : 1 ≤ W ∧ W ≤ 64) (hH : 1 ≤ H ∧ H ≤ 64) (hk : k < 15) :
    CallT Pg 25 #[.slice p l c] w fun v w' => Fr [] w w' ∧ ∃ q c', v = .tuple #[.agg #[.int .i64 (100 * (kindN k).1 + (kindN k).2 : Nat), .int .i64 W, .int .i64 H, .slice q pal.length c'], .int .i64 0] ∧ Own w' (hn w) 41 4 q pal.length c' (shsV pal) := by
  have h3 : 3 < hn w := by obtain ⟨_, _, h, _⟩ := hT; exact hp_lt h
  apply call25
  unfold wp25
  refine AllocC_at fun w2 h2 f2 n2 => ?_
  rw [zc37] at h2
  refine CallT.mono (c42 (hx.fr0 f2) hl hlb) ?_
  rintro _ w4 ⟨f4, q, c', rfl, hq, hqc, hqb⟩
  refine ⟨_, _, _, rfl, ?_⟩
  refine CallT.mono (c41 hq hl hqc hlb) ?_
  rintro _ w9 ⟨rfl, hr9, f9, n9⟩
  refine ⟨_, rfl, ?_⟩
  have F9 := (f2.trans f4).trans f9
  have hs4 := f4.size
  refine CallT.mono (c40 hr9 hc (hT.fr F9 (by simp)) ⟨by omega, n9⟩ (fun a ha => by have := hqb a ha; omega) hW hH hk) ?_
  rintro _ w12 ⟨f12, q', l', c'', cs, rfl, hcs, hl', hps⟩
  refine ⟨_, _, _, _, _, _, _, rfl, ?_⟩
  have h2 := f12.row1 (f9.row0 (f4.row0 h2)) (by omega)
  have F12 : Fr [] w w12 := F9.trans' f12 (fun x hx hlt => by simp at hx; omega)
  have hpl : cs.length = pal.length := by rw [← hps]; simp
  refine AllocC_at fun w21 h21 f21 n21 => ?_
  rw [zc80] at h21
  have h2 := f21.row0 h2
  have F21 := F12.trans f21
  have hg : hn w < hn w12 := by have := f12.size; omega
  have hqb' : ∀ a, q' = some a → a.block < hn w12 := fun a ha => by
    subst ha
    obtain ⟨_, _, _, h, _⟩ := hcs
    exact hp_lt h
  have hcs := hcs.fr0 f21
  generalize hn w12 = r at *
  refine StoreC_at h21 (by simp) fun w22 h22 f22 n22 => ?_
  refine StoreC_at h22 (by simp) fun w23 h23 f23 n23 => ?_
  refine StoreC_at h23 (by simp) fun w24 h24 f24 n24 => ?_
  refine StoreC_at h24 (by simp) fun w25 h25 f25 n25 => ?_
  have hR : hp w25 r = Row 80 #[.int .i64 (cbN (kindN k).1 (kindN k).2 : Nat), .slice q' l' c'', .int .i64 W, .int .i64 H] := by simpa using h25
  have f2125 : Fr [r] w21 w25 := f22.trans (f23.trans (f24.trans f25))
  have F25 : Fr [] w w25 := F21.trans' f2125 (fun x hx hlt => by simp at hx; omega)
  have h2 := f2125.row1 h2 (by omega)
  have hrlt : r < hn w25 := hp_lt hR
  refine EqNil_nil (IfC_f ?_)
  refine DrewC_at fun w40 f40 n40 => ?_
  have hR := f40.row0 hR
  refine LdI_at hR rfl (LdI_at hR rfl (LdI_at hR rfl (LdSl_at hR rfl ?_)))
  refine CallT.mono (c44 hk) ?_
  rintro _ w48 ⟨rfl, rfl⟩
  refine ⟨_, rfl, LdSl_at hR rfl ⟨rfl, LdI_at hR rfl ⟨rfl, LdI_at hR rfl ⟨rfl, ?_⟩⟩⟩⟩
  have hcs := (hcs.fr f2125 (fun a ha => by have := hqb' a ha; simp; omega)).fr0 f40
  have h2 := f40.row0 h2
  have F40 := F25.trans f40
  refine CallT.mono (c45 hcs hl' (by omega)) ?_
  rintro _ w56 ⟨f56, q2, c2, rfl, ho56⟩
  have hR := f56.row0 hR
  have h2 := f56.row0 h2
  have F56 := F40.trans f56
  have hs40 := F40.size
  refine ⟨_, _, _, rfl, LdI_at hR rfl ⟨rfl, LdI_at hR rfl ⟨rfl, ?_⟩⟩⟩
  refine StoreC_at h2 (by simp) fun w62 h62 f62 n62 => ?_
  refine StoreC_at h62 (by simp) fun w63 h63 f63 n63 => ?_
  refine StoreC_at h63 (by simp) fun w64 h64 f64 n64 => ?_
  refine StoreC_at h64 (by simp) fun w65 h65 f65 n65 => ?_
  have hE : hp w65 (hn w) = Row 37 #[.int .i64 (100 * (kindN k).1 + (kindN k).2 : Nat), .int .i64 W, .int .i64 H, .slice q2 l' c2] := by simpa using h65
  have fE : Fr [hn w] w56 w65 := f62.trans (f63.trans (f64.trans f65))
  refine LdI_at hE rfl (LdI_at hE rfl (LdI_at hE rfl (LdSl_at hE rfl ?_)))
  have hlp : l' = pal.length := by omega
  subst hlp
  rw [hps] at ho56
  refine ⟨F56.new1 fE (Nat.le_refl _), q2, c2, rfl, ?_⟩
  exact (ho56.fr fE fun a ha => by have := ho56.at ha; simp; omega).base_le hs40
theorem Own.len4 {base e l c : Nat} {q : Option Addr} {pal : List Px} {f : Px → List Value} (hf : ∀ d, (f d).length = 4) (h : Own w base e 4 q l c (pal.flatMap f)) : l = pal.length := by
  have h1 := h.1
  have h2 : (pal.flatMap f).length = 4 * pal.length := by
    clear h h1
    induction pal with
    | nil => rfl
    | cons d r ih => simp only [List.flatMap_cons, List.length_append, hf, List.length_cons] at *; omega
  omega
theorem shsV_at {l : List Px} : ∀ {k : Nat} {d : Px}, l[k]? = some d → (shsV l)[k * 4]? = some (.int .u8 d.1.toNat) ∧ (shsV l)[k * 4 + 1]? = some (.int .u8 d.2.1.toNat) ∧ (shsV l)[k * 4 + 2]? = some (.int .u8 d.2.2.1.toNat) ∧ (shsV l)[k * 4 + 3]? = some (.int .u8 d.2.2.2.toNat) := by
  induction l with
  | nil => intro k d h; simp at h
  | cons x r ih =>
    intro k d h
    cases k with
    | zero => simp at h; subst h; simp [shsV, shV]
    | succ k =>
      have := ih (k := k) (d := d) (by simpa using h)
      have e : shsV (x :: r) = shV x ++ shsV r := by simp [shsV]
      have hlen : (shV x).length = 4 := rfl
      rw [e]
      refine ⟨?_, ?_, ?_, ?_⟩
      · rw [List.getElem?_append_right (by omega), show (k + 1) * 4 - (shV x).length = k * 4 by omega]; exact this.1
      · rw [List.getElem?_append_right (by omega), show (k + 1) * 4 + 1 - (shV x).length = k * 4 + 1 by omega]; exact this.2.1
      · rw [List.getElem?_append_right (by omega), show (k + 1) * 4 + 2 - (shV x).length = k * 4 + 2 by omega]; exact this.2.2.1
      · rw [List.getElem?_append_right (by omega), show (k + 1) * 4 + 3 - (shV x).length = k * 4 + 3 by omega]; exact this.2.2.2
/-- The file's bytes: the chunks ahead of the packed bytes, these, the end. -/
theorem fore_ok {W H k : Nat} {L : Bool} {pal : List Px} {cl : List Nat} {zs : List UInt8} {ds : List (List UInt8)} (hk : k < 15) (hok : DrawnOk (kindN k).2 (kindN k).1 pal cl) (hz : 0 < zs.length) (hzl : zs.length ≤ 2097152) (hds : ds.flatten = zs) (hne : ∀ d ∈ ds, d ≠ []) :
    Cfg k W H L pal (fileL (foreL W H (kindN k).2 (kindN k).1 L pal cl ++ datL ds ++ [(nIEND, [])])) ∧ okCh (foreL W H (kindN k).2 (kindN k).1 L pal cl ++ datL ds ++ [(nIEND, [])]) ∧ (fileL (foreL W H (kindN k).2 (kindN k).1 L pal cl ++ datL ds ++ [(nIEND, [])])).length < 1099511627776 ∧
      2 ≤ (foreL W H (kindN k).2 (kindN k).1 L pal cl ++ datL ds ++ [(nIEND, [])]).length := by
  have hpl : pal.length ≤ 9 := by
    by_cases h : (kindN k).1 = 3
    · exact (hok.pal3 h).2.1
    · rw [hok.paln h]; simp
  have hcll : cl.length ≤ 4 := by
    have := chN_le (kindN k).1
    rcases hok.cll with h | h
    · rw [h]; simp
    · omega
  have hclL : (clearL cl).length = 2 * cl.length := by
    unfold clearL
    clear hok hcll
    induction cl with
    | nil => rfl
    | cons v r ih => simp only [List.flatMap_cons, List.length_append, List.length_cons, List.length_nil] at *; omega
  have hal : (alphasL pal).length = pal.length := by simp [alphasL]
  have hsl := shadesL_length pal
  have hd1 : ∀ d ∈ ds, d.length ≤ zs.length := by
    intro d hd
    rw [← hds]
    exact (List.sublist_flatten_of_mem hd).length_le
  have hokC : okCh (foreL W H (kindN k).2 (kindN k).1 L pal cl ++ datL ds ++ [(nIEND, [])]) := by
    intro c hc
    simp only [foreL, datL, List.mem_append, List.mem_cons, List.mem_map, List.not_mem_nil, or_false] at hc
    rcases hc with ((rfl | hc | hc | hc) | ⟨d, hd, rfl⟩) | rfl
    · exact ⟨rfl, by show 13 < _; decide⟩
    · split at hc
      · simp at hc; subst hc; exact ⟨rfl, by dsimp only; omega⟩
      · simp at hc
    · split at hc
      · simp at hc; subst hc; exact ⟨rfl, by dsimp only; omega⟩
      · simp at hc
    · split at hc
      · simp at hc; subst hc; exact ⟨rfl, by dsimp only; omega⟩
      · simp at hc
    · exact ⟨rfl, by have := hd1 d hd; dsimp only; omega⟩
    · exact ⟨rfl, by decide⟩
  have hdat : (chs (datL ds)).length ≤ 13 * zs.length := by
    rw [← hds]
    clear hd1 hds hokC
    induction ds with
    | nil => simp [datL, chs]
    | cons d r ih =>
      have := ih (fun x hx => hne x (List.mem_cons_of_mem _ hx))
      have hd : 1 ≤ d.length := by
        cases d with
        | nil => exact absurd rfl (hne [] (by simp))
        | cons a b => simp
      have e : datL (d :: r) = (nIDAT, d) :: datL r := rfl
      rw [e, chs_cons, List.length_append, chunkL_length rfl, List.flatten_cons, List.length_append]
      dsimp only
      omega
  refine ⟨?_, hokC, ?_, ?_⟩
  · have efile : ∀ r, fileL ((nIHDR, headL W H (kindN k).2 (kindN k).1 L) :: r) = sigL ++ (chunkL nIHDR (headL W H (kindN k).2 (kindN k).1 L) ++ chs r) := fun r => by rw [fileL, chs_cons]
    by_cases hC : (kindN k).1 = 3
    · obtain ⟨p1, p2, p3⟩ := hok.pal3 hC
      have hcl0 := hok.cl0 (by omega) (by omega)
      subst hcl0
      obtain ⟨d0, dr, rfl⟩ : ∃ d0 dr, ds = d0 :: dr := by
        cases ds with
        | nil => simp at hds; subst hds; simp at hz
        | cons a b => exact ⟨a, b, rfl⟩
      have hd0 := hd1 d0 (by simp)
      refine .inr ⟨hC, p1, by omega, p3, ?_⟩
      rw [foreL, if_pos (show 0 < pal.length from p1), if_neg (show ¬ 0 < ([] : List Nat).length by simp)]
      cases hac : anyClear pal with
      | true =>
        refine ⟨chunkL ntRNS (alphasL pal) ++ chs (datL (d0 :: dr) ++ [(nIEND, [])]), ?_, .inl ⟨rfl, _, rfl⟩⟩
        rw [if_pos rfl]
        simp only [List.cons_append, List.nil_append, List.append_nil, List.append_assoc]
        rw [efile, chs_cons, chs_cons]
      | false =>
        refine ⟨chs (datL (d0 :: dr) ++ [(nIEND, [])]), ?_, .inr ⟨rfl, d0, chs (datL dr ++ [(nIEND, [])]), by omega, ?_⟩⟩
        · rw [if_neg (by simp)]
          simp only [List.cons_append, List.nil_append, List.append_nil, List.append_assoc]
          rw [efile, chs_cons]
        · rw [show datL (d0 :: dr) ++ [(nIEND, [])] = (nIDAT, d0) :: (datL dr ++ [(nIEND, [])]) from rfl, chs_cons]
    · refine .inl ⟨hC, hok.paln hC, ?_⟩
      rw [foreL, List.cons_append, List.cons_append, efile]
      exact ⟨_, rfl⟩
  · rw [fileL, List.length_append, chs_append, chs_append, List.length_append, List.length_append]
    have h1 : (chs (foreL W H (kindN k).2 (kindN k).1 L pal cl)).length ≤ 1000 := by
      rw [foreL, chs_cons, chs_append, chs_append]
      simp only [List.length_append]
      have e0 : (chunkL nIHDR (headL W H (kindN k).2 (kindN k).1 L)).length = 12 + 13 := chunkL_length rfl
      have e1 : (chs (if 0 < pal.length then [(nPLTE, shadesL pal)] else [])).length ≤ 12 + 27 := by
        split
        · rw [chs_cons, chs_nil, List.append_nil, chunkL_length rfl]; dsimp only; omega
        · simp [chs]
      have e2 : (chs (if anyClear pal = true then [(ntRNS, alphasL pal)] else [])).length ≤ 12 + 9 := by
        split
        · rw [chs_cons, chs_nil, List.append_nil, chunkL_length rfl]; dsimp only; omega
        · simp [chs]
      have e3 : (chs (if 0 < cl.length then [(ntRNS, clearL cl)] else [])).length ≤ 12 + 8 := by
        split
        · rw [chs_cons, chs_nil, List.append_nil, chunkL_length rfl]; dsimp only; omega
        · simp [chs]
      omega
    have h2 : (chs [(nIEND, [])]).length = 12 := rfl
    rw [sigL_length]
    omega
  · simp [foreL]; omega
theorem cfg_set {k W H i : Nat} {L : Bool} {pal : List Px} {xs : List UInt8} {y : UInt8} (h : Cfg k W H L pal xs) (hC : (kindN k).1 ≠ 3) (hi : 33 ≤ i) : Cfg k W H L [] (xs.set i y) := by
  rcases h with ⟨_, _, rest, rfl⟩ | ⟨h3, _⟩
  · refine .inl ⟨hC, rfl, rest.set (i - 33) y, ?_⟩
    have e : (chunkL nIHDR (headL W H (kindN k).2 (kindN k).1 L)).length = 25 := chunkL_length (nm := nIHDR) rfl
    rw [← List.append_assoc, ← List.append_assoc, List.set_append_right _ _ (by rw [List.length_append, e, sigL_length]; exact hi)]
    rw [List.length_append, e, sigL_length]
  · exact absurd h3 hC
theorem eqFields_same {P : Program} {d : Nat} {xs : Array Value} (fs : List Field) (h : ∀ f ∈ fs, ∃ a : Int, (∀ w, (part f.type xs f.offset).run P w = .ok (.int .i64 a) w) ∧ P.underlying f.type = some (.int .i64)) : (Op.eqFields (d + 1) xs xs fs).run P w = .ok true w := by
  induction fs with
  | nil => simp [Op.eqFields]
  | cons f fs ih =>
    obtain ⟨a, h1, h2⟩ := h f (by simp)
    have ih := ih (fun g hg => h g (by simp [hg]))
    simp only [Op.eqFields]
    split
    · simp only [Sem.run_bind, h1, Result.andThen_ok, run_equalIn_int w d f.type .i64 .i64 a a h2]
      simp [ih]
    · exact ih
theorem fl43 : Pg.underlying 43 = some (.struct (Pg.fieldsOf 43)) := by kernel_rfl
theorem al43 : (Pg.fieldsOf 43).toList.all (fun f => Nat.beq f.type 3 && Nat.blt f.offset 4) = true := by kernel_rfl
theorem VEqN43 {x y : Operand} {a b c d : Int} {K : Bool → Prop} (h : K true) : VEqN Pg 43 x y (.agg #[.int .i64 a, .int .i64 b, .int .i64 c, .int .i64 d]) (.agg #[.int .i64 a, .int .i64 b, .int .i64 c, .int .i64 d]) w K := by
  refine ⟨true, ?_, h⟩
  rw [Sem.run_bind, run_eqGuard_agg w .neq 43 x y _ _ (by kernel_rfl), Result.andThen_ok]
  show (Op.equalIn 10000 43 _ _).run Pg w = _
  rw [run_equalIn_struct w 9999 43 _ _ fl43 (by kernel_rfl)]
  refine eqFields_same (d := 9998) _ ?_
  intro f hf
  have hall := List.all_eq_true.1 al43 f hf
  simp only [Bool.and_eq_true] at hall
  have h3 : f.type = 3 := Nat.eq_of_beq_eq_true hall.1
  have h4 : f.offset < 4 := Nat.le_of_ble_eq_true hall.2
  rw [h3]
  have h3u : Pg.underlying 3 = some (.int .i64) := by kernel_rfl
  have hp : ∀ a : Int, (#[.int .i64 a, .int .i64 b, .int .i64 c, .int .i64 d] : Array Value)[f.offset]? = some (.int .i64 a) → True := fun _ _ => trivial
  obtain e | e | e | e : f.offset = 0 ∨ f.offset = 1 ∨ f.offset = 2 ∨ f.offset = 3 := by omega
  · exact ⟨a, fun w => run_part_plain w (by kernel_rfl) (by rw [e]; rfl), h3u⟩
  · exact ⟨b, fun w => run_part_plain w (by kernel_rfl) (by rw [e]; rfl), h3u⟩
  · exact ⟨c, fun w => run_part_plain w (by kernel_rfl) (by rw [e]; rfl), h3u⟩
  · exact ⟨d, fun w => run_part_plain w (by kernel_rfl) (by rw [e]; rfl), h3u⟩
theorem zc41 : zc Pg 41 = #[.int .u8 0, .int .u8 0, .int .u8 0, .int .u8 0] := by kernel_rfl
theorem c3 {n : Nat} (hn32 : n < 4294967296) {p : Option Addr} {l c : Nat} {ss : List Nat} (hx : HasW w p (ss.map fun (s : Nat) => .int .u16 (s : Int))) (hl : l = ss.length) {at_ by_ : Nat} (hat : at_ < 65536) (hby : by_ < 256) (hT : Tab w) :
    CallT Pg 3 #[.int .u32 n, .slice p l c, .int .u16 at_, .int .u8 by_] w fun v w' => v = .bool true ∧ Fr [] w w' := by
  apply call3
  unfold wp3
  refine IfC_dec (fun _ => ⟨rfl, Fr.refl _ _⟩) (fun _ => ?_)
  refine CallT.mono c22 ?_
  rintro _ w ⟨rfl, rfl⟩
  refine ⟨_, rfl, ?_⟩
  refine IfC_bool (fun _ => ⟨rfl, Fr.refl _ _⟩) (fun hb => ?_)
  have hb : l ≤ 1000 := by simpa using hb
  refine CallT.mono (c23 hn32 hx hl hb) ?_
  rintro _ w5 ⟨W, H, L, s, pl, cs, ns, pal, cl, hW, hH, rfl, f5, hos, hnn, hop, hoc, hok⟩
  refine ⟨_, _, _, _, _, _, _, _, _, _, _, _, _, _, rfl, ?_⟩
  have hk : n % 15 < 15 := by omega
  obtain ⟨hD, hC6⟩ := kindN_ok hk
  generalize hkn : n % 15 = k at *
  refine AllocC_at fun w21 h21 f21 n21 => ?_
  rw [zc31] at h21
  generalize hr20 : hn w5 = r20 at *
  refine StoreC_at h21 (by simp) fun w22 h22 f22 n22 => ?_
  refine StoreC_at h22 (by simp) fun w23 h23 f23 n23 => ?_
  refine StoreC_at h23 (by simp) fun w24 h24 f24 n24 => ?_
  refine StoreC_at h24 (by simp) fun w25 h25 f25 n25 => ?_
  refine StoreC_at h25 (by simp) fun w26 h26 f26 n26 => ?_
  refine StoreC_at h26 (by simp) fun w27 h27 f27 n27 => ?_
  refine StoreC_at h27 (by simp) fun w28 h28 f28 n28 => ?_
  refine StoreC_at h28 (by simp) fun w29 h29 f29 n29 => ?_
  have hS : hp w29 r20 = Row 31 (drawnC W H (kindN k).2 (kindN k).1 L s pl cs) := by simpa [drawnC] using h29
  have F29 : Fr [] w5 w29 := (((((((f21.new1 f22 (by omega)).new1 f23 (by omega)).new1 f24 (by omega)).new1 f25 (by omega)).new1 f26 (by omega)).new1 f27 (by omega)).new1 f28 (by omega)).new1 f29 (by omega)
  clear h21 h22 h23 h24 h25 h26 h27 h28 h29 f21 f22 f23 f24 f25 f26 f27 f28 f29 n21 n22 n23 n24 n25 n26 n27 n28 n29
  refine LdI_at hS rfl (LdI_at hS rfl (LdI_at hS rfl (LdI_at hS rfl (LdB_at hS rfl (LdSl_at hS rfl (LdSl_at hS rfl (LdSl_at hS rfl ?_)))))))
  refine CallT.mono (c24 hn32 hW hH hD (hos.fr0 F29) hnn (hop.fr0 F29) (hoc.fr0 F29) hok) ?_
  rintro _ w45 ⟨fs, xs, zs, ds, hfs, hr, hz, hds, hne, hzl, f45, q, qc, rfl, ho45⟩
  refine ⟨_, _, _, rfl, ?_⟩
  have hz0 : 0 < zs.length := by
    obtain ⟨bl, out, _, _, e⟩ := hz
    rw [e]; simp
  obtain ⟨hcfg, hokC, hlen, h2⟩ := fore_ok (W := W) (H := H) (L := L) hk hok hz0 hzl hds hne
  obtain ⟨c2, r2, hch⟩ : ∃ c2 r2, foreL W H (kindN k).2 (kindN k).1 L pal cl ++ datL ds ++ [(nIEND, [])] = (nIHDR, headL W H (kindN k).2 (kindN k).1 L) :: c2 :: r2 := by
    generalize hrr : (foreL W H (kindN k).2 (kindN k).1 L pal cl ++ datL ds ++ [(nIEND, [])]).tail = rr
    have e : foreL W H (kindN k).2 (kindN k).1 L pal cl ++ datL ds ++ [(nIEND, [])] = (nIHDR, headL W H (kindN k).2 (kindN k).1 L) :: rr := by rw [← hrr]; rfl
    rw [e] at h2 ⊢
    cases rr with
    | nil => simp at h2
    | cons a b => exact ⟨a, b, rfl⟩
  generalize foreL W H (kindN k).2 (kindN k).1 L pal cl ++ datL ds ++ [(nIEND, [])] = chl at *
  have hpl9 : pal.length ≤ 9 := by
    by_cases h : (kindN k).1 = 3
    · exact (hok.pal3 h).2.1
    · rw [hok.paln h]; simp
  have F45 : Fr [] w w45 := (f5.trans F29).trans f45
  refine CallT.mono (c25 ho45.has rfl hlen (hT.fr F45 (by simp)) hcfg (by omega) ⟨hW.1, by omega⟩ ⟨hH.1, by omega⟩ hk) ?_
  rintro _ w50 ⟨f50, q', c', rfl, ho50⟩
  refine ⟨_, _, _, _, _, _, _, rfl, ?_⟩
  have hs45 := f45.size
  have hs50 := f50.size
  have hqb : ∀ x ∈ blkOf q, hn w29 ≤ x ∧ x < hn w45 := ho45.blk
  refine AllocC_at fun w59 h59 f59 n59 => ?_
  rw [zc37] at h59
  generalize hr58 : hn w50 = r58 at *
  refine StoreC_at h59 (by simp) fun w60 h60 f60 n60 => ?_
  refine StoreC_at h60 (by simp) fun w61 h61 f61 n61 => ?_
  refine StoreC_at h61 (by simp) fun w62 h62 f62 n62 => ?_
  refine StoreC_at h62 (by simp) fun w63 h63 f63 n63 => ?_
  have hE : hp w63 r58 = Row 37 #[.int .i64 (100 * (kindN k).1 + (kindN k).2 : Nat), .int .i64 W, .int .i64 H, .slice q' pal.length c'] := by simpa using h63
  have F63 : Fr [] w50 w63 := (((f59.new1 f60 (by omega)).new1 f61 (by omega)).new1 f62 (by omega)).new1 f63 (by omega)
  have hS63 := F63.row0 (f50.row0 (f45.row0 hS))
  have G63 : Fr [] w w63 := (F45.trans f50).trans F63
  clear h59 h60 h61 h62 h63 f59 f60 f61 f62 f63 n59 n60 n61 n62 n63
  refine JoinC_of (fun _ w' => w' = w63) ?_ ?_
  · rintro ⟨⟩ w63 rfl
    refine LdI_at hS63 rfl ?_
    refine IfC_eqI (fun hc => ?_) (fun hc => ?_)
    · refine LdSl_at hE rfl (LdSl_at hS63 rfl ?_)
      have hpll : pl.len = pal.length := Own.len4 (f := dotV) (fun _ => rfl) hop
      refine IfC_neI (fun h => absurd (by omega) h) (fun _ => ?_)
      refine LdSl_at hE rfl ?_
      refine LoopC_of (fun z w' => Fr [] w63 w' ∧ ∃ k : Nat, z.1 = k ∧ k ≤ pal.length) (fun z _ => pal.length - z.1.toNat) ⟨Fr.refl _ _, 0, rfl, by omega⟩ ?_
      rintro ⟨_, ⟨⟩⟩ w78 ⟨f78, j, rfl, hjn⟩
      dsimp only
      refine IfC_dec (fun hlt => ?_) (fun hge => ⟨rfl, G63.trans f78⟩)
      refine ⟨⟨by omega, hlt⟩, ?_⟩
      have hlt' : j < pal.length := by omega
      obtain ⟨d, hd⟩ : ∃ d, pal[j]? = some d := ⟨_, List.getElem?_eq_getElem hlt'⟩
      obtain ⟨a1, a2, a3, a4⟩ := shsV_at hd
      obtain ⟨b1, b2, b3, b4⟩ := dotV_at hd
      have ho78 := (ho50.fr0 F63).fr0 f78
      rcases ho78.2 with ⟨_, h, _⟩ | ⟨g, arr, rfl, hg0, hg, _, _, hgx⟩
      · omega
      rw [PtrC_some, elemAt_many, Int.toNat_natCast, Nat.zero_add]
      dsimp only
      refine LdI_at hg (hgx _ _ a1) (LdI_at hg (hgx _ _ a2) (LdI_at hg (hgx _ _ a3) (LdI_at hg (hgx _ _ a4) ?_)))
      refine AllocC_at fun w87 h87 f87 n87 => ?_
      rw [zc41] at h87
      generalize hr86 : hn w78 = r86 at *
      refine StoreC_at h87 (by simp) fun w88 h88 f88 n88 => ?_
      refine StoreC_at h88 (by simp) fun w89 h89 f89 n89 => ?_
      refine StoreC_at h89 (by simp) fun w90 h90 f90 n90 => ?_
      refine StoreC_at h90 (by simp) fun w91 h91 f91 n91 => ?_
      refine DrewC_at fun w92 f92 n92 => ?_
      have hV : hp w92 r86 = Row 41 #[.int .u8 d.1.toNat, .int .u8 d.2.1.toNat, .int .u8 d.2.2.1.toNat, .int .u8 d.2.2.2.toNat] := by simpa using f92.row0 h91
      have F92 : Fr [] w78 w92 := ((((f87.new1 f88 (by omega)).new1 f89 (by omega)).new1 f90 (by omega)).new1 f91 (by omega)).trans f92
      have hS92 := F92.row0 (f78.row0 hS63)
      refine LdI_at hV rfl (LdI_at hV rfl (LdI_at hV rfl (LdI_at hV rfl ?_)))
      refine LdSl_at hS92 rfl ⟨⟨by omega, by omega⟩, ?_⟩
      have hop92 := ((((hop.fr0 F29).fr0 f45).fr0 f50).fr0 F63).fr0 (f78.trans F92)
      rcases hop92.2 with ⟨_, h, _⟩ | ⟨g2, arr2, hpa, _, hg2, _, _, hgx2⟩
      · omega
      rw [hpa, PtrC_some, elemAt_many, Nat.zero_add]
      dsimp only
      refine LdI_at hg2 (hgx2 _ _ b1) (LdI_at hg2 (hgx2 _ _ b2) (LdI_at hg2 (hgx2 _ _ b3) (LdI_at hg2 (hgx2 _ _ b4) ?_)))
      have e257 : ∀ u : UInt8, IntKind.wrap .i64 ((257 : Int) * (IntKind.wrap .i64 (u.toNat : Int))) = ((257 * u.toNat : Nat) : Int) := by
        intro u
        have := UInt8.toNat_lt u
        rw [wrap_i64_id (n := (u.toNat : Int)) (by omega) (by omega), wrap_i64_id (by omega) (by omega)]
        omega
      rw [e257 d.1, e257 d.2.1, e257 d.2.2.1, e257 d.2.2.2]
      refine VEqN43 (IfC_f ?_)
      rw [wrap_i64_id (by omega) (by omega)]
      exact ⟨⟨f78.trans F92, j + 1, by omega, by omega⟩, by omega⟩
    · have hC3 : (kindN k).1 ≠ 3 := fun e => hc (by rw [e]; rfl)
      have ho63 := (ho45.fr0 f50).fr0 F63
      refine CallT.mono (c26 ho63.has rfl hlen hokC) ?_
      rintro _ w107 ⟨f107, pp, pc, rfl, hop107⟩
      refine ⟨_, _, _, rfl, ⟨by omega, by omega⟩, ?_⟩
      have h33 : (iv (placesC 8 chl))[1]? = some (.int .i64 ((33 : Nat) : Int)) := by rw [hch]; rfl
      have hl33 : 33 < (fileL chl).length := by
        rw [hch, fileL, chs_cons, chs_cons]
        have e1 : (chunkL nIHDR (headL W H (kindN k).2 (kindN k).1 L)).length = 25 := chunkL_length (nm := nIHDR) rfl
        have e2 : (chunkL c2.1 c2.2).length = 12 + c2.2.length := chunkL_length (hokC c2 (by rw [hch]; simp)).1
        simp only [List.length_append, e1, e2, sigL_length]
        omega
      have ho107 := ho63.fr0 f107
      rcases hop107.2 with ⟨_, h, _⟩ | ⟨g, arr, rfl, hg0, hg, _, _, hgx⟩
      · omega
      rw [PtrC_some]
      refine LdI_at hg (hgx 1 _ h33) ?_
      generalize hfb : fileL chl = fb at *
      have eW : IntKind.wrap .i64 ((fb.length : Int) - ((33 : Nat) : Int)) = ((fb.length - 33 : Nat) : Int) := by
        rw [wrap_i64_id (by omega) (by omega)]; omega
      have hm : at_ % (fb.length - 33) < fb.length - 33 := Nat.mod_lt _ (by omega)
      have eI : IntKind.wrap .i64 (((33 : Nat) : Int) + Int.tmod (IntKind.wrap .i64 (at_ : Int)) ((fb.length - 33 : Nat) : Int)) = ((33 + at_ % (fb.length - 33) : Nat) : Int) := by
        rw [wrap_i64_id (n := (at_ : Int)) (by omega) (by omega), tmod_nat, wrap_i64_id (by omega) (by omega)]
        omega
      rw [eW, eI]
      have hi0 : 33 ≤ 33 + at_ % (fb.length - 33) ∧ 33 + at_ % (fb.length - 33) < fb.length := by omega
      generalize 33 + at_ % (fb.length - 33) = i at *
      refine DivC_of (by omega) (IdxB (xs := fb) ho107.has rfl (by omega) (by omega) ⟨⟨by omega, by omega⟩, ?_⟩)
      have hgb := gb_lt fb (i : Int).toNat
      obtain ⟨y, ey⟩ : ∃ y : UInt8, Value.int .u8 (bXor .u8 (gb fb (i : Int).toNat : Int) (by_ : Int)) = u8v y := by
        have hz : gb fb (i : Int).toNat ^^^ by_ < 256 := Nat.xor_lt_two_pow (n := 8) hgb hby
        refine ⟨UInt8.ofNat (gb fb (i : Int).toNat ^^^ by_), ?_⟩
        rw [xor_u8 (by omega) (by omega) (by omega) (by omega)]
        simp only [Int.toNat_natCast] at hz ⊢
        simp only [u8v, UInt8.toNat_ofNat']
        rw [Nat.mod_eq_of_lt (show _ < 2 ^ 8 from hz)]
      rw [ey, Int.toNat_natCast]
      refine StOwn (w0 := w29) (S := []) (((f45.trans f50).trans F63).trans f107) ho107 (by omega) ?_
      intro w116 F116 f116 ho116
      rw [bv_set] at ho116
      have hcfg' := cfg_set (y := y) (i := i) hcfg hC3 (by omega)
      have G116 : Fr [] w w116 := (f5.trans F29).trans F116
      refine CallT.mono (c25 ho116.has (by simp) (by omega) (hT.fr G116 (by simp)) hcfg' (by simp) ⟨hW.1, by omega⟩ ⟨hH.1, by omega⟩ hk) ?_
      rintro _ w118 ⟨f118, q3, c3', rfl, ho118⟩
      refine ⟨_, _, _, _, _, _, _, rfl, ?_⟩
      have hE118 := f118.row0 (f116.row (f107.row0 hE) (fun hx => by have := hqb _ hx; omega))
      have hElt : r58 < hn w118 := hp_lt hE118
      refine AllocC_at fun w127 h127 f127 n127 => ?_
      rw [zc37] at h127
      have hE127 := f127.row0 hE118
      have hs118 : hn w ≤ hn w118 := (G116.trans f118).size
      generalize hr126 : hn w118 = r126 at *
      refine StoreC_at h127 (by simp) fun w128 h128 f128 n128 => ?_
      refine StoreC_at h128 (by simp) fun w129 h129 f129 n129 => ?_
      refine StoreC_at h129 (by simp) fun w130 h130 f130 n130 => ?_
      refine StoreC_at h130 (by simp) fun w131 h131 f131 n131 => ?_
      have hE2 : hp w131 r126 = Row 37 #[.int .i64 (100 * (kindN k).1 + (kindN k).2 : Nat), .int .i64 W, .int .i64 H, .slice q3 ([] : List Px).length c3'] := by simpa using h131
      have f131' : Fr [r126] w127 w131 := f128.trans (f129.trans (f130.trans f131))
      have hE131 := f131'.row1 hE127 (by omega)
      refine IfC_eqI (fun _ => ?_) (fun h => absurd rfl h)
      refine LdI_at hE2 rfl (LdI_at hE131 rfl (IfC_eqI (fun _ => ?_) (fun h => absurd rfl h)))
      refine LdI_at hE2 rfl (LdI_at hE131 rfl (IfC_eqI (fun _ => ?_) (fun h => absurd rfl h)))
      refine LdI_at hE2 rfl (LdI_at hE131 rfl (IfC_eqI (fun _ => ?_) (fun h => absurd rfl h)))
      refine LdSl_at hE131 rfl ⟨by rw [hok.paln hC3]; rfl, ?_⟩
      exact ((G116.trans f118).trans f127).trans' f131' (fun x hx hlt => by simp at hx; omega)
  · intro J hJ
    refine IfC_neI (fun h => absurd rfl h) (fun _ => ?_)
    refine LdI_at hE rfl (LdI_at hS63 rfl (IfC_neI (fun h => absurd rfl h) (fun _ => ?_)))
    refine LdI_at hE rfl (LdI_at hS63 rfl (IfC_neI (fun h => absurd rfl h) (fun _ => ?_)))
    refine LdI_at hE rfl (LdI_at hS63 rfl (LdI_at hS63 rfl (IfC_neI (fun h => absurd ?_ h) (fun _ => hJ _ _ rfl))))
    have := kindN_ok hk
    rw [wrap_i64_id (n := (100 : Int) * ((kindN k).1 : Int)) (by omega) (by omega), wrap_i64_id (by omega) (by omega)]
    omega
end
end Go.Proofs
