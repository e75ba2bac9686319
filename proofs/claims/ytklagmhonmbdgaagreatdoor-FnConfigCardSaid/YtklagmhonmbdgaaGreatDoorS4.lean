/- A step of the proofs (S4): contracts of the functions printed here, for all their arguments that meet what each names. -/
import Derived.Test.YtklagmhonmbdgaaGreatDoorBase
import Derived.Test.YtklagmhonmbdgaaGreatDoorSteps
import Derived.Test.YtklagmhonmbdgaaGreatDoorS3
set_option maxRecDepth 1000000
set_option linter.unusedVariables false
set_option linter.unusedSimpArgs false
set_option maxHeartbeats 4000000
namespace Go.Proofs
open Go Go.V
/-- (*loop.example/pub-g03440/spec.writer).one -/
def wp65 (x0 : Addr) (x1 : Int) (R : Value → World → Prop) (w : World) : Prop := JoinC (fun (z1 : (Unit)) (w2 : World) => DrewC w2 fun (w4 : World) => LdSl w4 x0 fun (p5 : Option Addr) (l6 : Nat) (c7 : Nat) => LdI w4 ⟨x0.block, x0.off + 1, none⟩ .i64 fun (n8 : Int) => DivC (8 : Int) (And (0 ≤ IntKind.wrap .i64 (Int.tdiv n8 (8 : Int)) ∧ IntKind.wrap .i64 (Int.tdiv n8 (8 : Int)) < (l6 : Int)) (PtrC p5 fun (a9 : Addr) => LdI w4 (elemAt a9 ((IntKind.wrap .i64 (Int.tdiv n8 (8 : Int))).toNat) 1) .u8 fun (n10 : Int) => LdI w4 ⟨x0.block, x0.off + 1, none⟩ .i64 fun (n11 : Int) => DivC (8 : Int) (ShC (Int.tmod n11 (8 : Int)) (And (0 ≤ IntKind.wrap .i64 (Int.tdiv n8 (8 : Int)) ∧ IntKind.wrap .i64 (Int.tdiv n8 (8 : Int)) < (l6 : Int)) (PtrC p5 fun (a12 : Addr) => StoreC w4 (elemAt a12 ((IntKind.wrap .i64 (Int.tdiv n8 (8 : Int))).toNat) 1) (.int .u8 (bOr .u8 n10 (IntKind.wrap .u8 (shlI .i64 x1 (Int.tmod n11 (8 : Int)))))) fun (w13 : World) => LdI w13 ⟨x0.block, x0.off + 1, none⟩ .i64 fun (n14 : Int) => StoreC w13 ⟨x0.block, x0.off + 1, none⟩ (.int .i64 (IntKind.wrap .i64 (n14 + (1 : Int)))) fun (w15 : World) => R (.tuple #[] : Value) w15)))))) (fun (J3 : (Unit) → World → Prop) => LdI w ⟨x0.block, x0.off + 1, none⟩ .i64 fun (n16 : Int) => DivC (8 : Int) (IfC ((Int.tmod n16 (8 : Int)) == (0 : Int)) (LdSl w x0 fun (p17 : Option Addr) (l18 : Nat) (c19 : Nat) => AllocC w (.cells #[.int .u8 (0 : Int)] 5) fun (r20 : Nat) (w21 : World) => AppR Pg w21 #[33, 33] 33 (.slice p17 l18 c19) (.slice (some ⟨r20, 0, none⟩) 1 1) fun (p22 : Option Addr) (l23 : Nat) (c24 : Nat) (w25 : World) => StoreC w25 x0 (.slice p22 l23 c24) fun (w26 : World) => J3 (()) w26) (J3 (()) w)))
theorem eq65 (x0 : Addr) (x1 : Int) (R : Value → World → Prop) (w : World) : vc Pg Gg (annOf [(0, [], [0, 1])]) 0 (bodyOf Tryz.f65) (retK Pg Tryz.f65.results.toList R) (argE 0 [.pointer (some x0), .int .i64 x1]) w = wp65 x0 x1 R w := by kernel_rfl
theorem call65 {x0 : Addr} {x1 : Int} {R : Value → World → Prop} {w : World} (h : wp65 x0 x1 R w) : CallT Pg 65 #[.pointer (some x0), .int .i64 x1] w R :=
  calls_of_vc follows bodies Tryz.func65 (by kernel_rfl) (by kernel_rfl) (by kernel_rfl) ((eq65 x0 x1 R w).mpr h)

/-- (*loop.example/pub-g03440/spec.writer).many -/
def wp66 (x0 : Addr) (x1 : Int) (x2 : Int) (R : Value → World → Prop) (w : World) : Prop := LoopC (fun (J3 : (Int × Unit) → World → Prop) => J3 ((0 : Int), ()) w) (fun (z1 : (Int × Unit)) (w2 : World) (N4 : (Int × Unit) → World → Prop) => IfC (decide (z1.1 < x2)) (ShC z1.1 (CallT Pg 65 #[.pointer (some x0), .int .i64 (bAnd .i64 (shrI .i64 x1 z1.1) (1 : Int))] w2 fun (v5 : Value) (w6 : World) => And (v5 = .tuple #[]) (N4 (IntKind.wrap .i64 (z1.1 + (1 : Int)), ()) w6))) (R (.tuple #[] : Value) w2))
theorem eq66 (x0 : Addr) (x1 : Int) (x2 : Int) (R : Value → World → Prop) (w : World) : vc Pg Gg (annOf [(3, [(8, .i .i64)], [0, 1, 7])]) 0 (bodyOf Tryz.f66) (retK Pg Tryz.f66.results.toList R) (argE 0 [.pointer (some x0), .int .i64 x1, .int .i64 x2]) w = wp66 x0 x1 x2 R w := by kernel_rfl
theorem call66 {x0 : Addr} {x1 : Int} {x2 : Int} {R : Value → World → Prop} {w : World} (h : wp66 x0 x1 x2 R w) : CallT Pg 66 #[.pointer (some x0), .int .i64 x1, .int .i64 x2] w R :=
  calls_of_vc follows bodies Tryz.func66 (by kernel_rfl) (by kernel_rfl) (by kernel_rfl) ((eq66 x0 x1 x2 R w).mpr h)

/-- (*loop.example/pub-g03440/spec.writer).word -/
def wp98 (x0 : Addr) (x1 : Int) (x2 : Int) (R : Value → World → Prop) (w : World) : Prop := LoopC (fun (J3 : (Int × Unit) → World → Prop) => J3 (IntKind.wrap .i64 (x2 - (1 : Int)), ()) w) (fun (z1 : (Int × Unit)) (w2 : World) (N4 : (Int × Unit) → World → Prop) => IfC (decide (z1.1 ≥ (0 : Int))) (ShC z1.1 (CallT Pg 65 #[.pointer (some x0), .int .i64 (bAnd .i64 (shrI .i64 x1 z1.1) (1 : Int))] w2 fun (v5 : Value) (w6 : World) => And (v5 = .tuple #[]) (N4 (IntKind.wrap .i64 (z1.1 - (1 : Int)), ()) w6))) (R (.tuple #[] : Value) w2))
theorem eq98 (x0 : Addr) (x1 : Int) (x2 : Int) (R : Value → World → Prop) (w : World) : vc Pg Gg (annOf [(3, [(6, .i .i64)], [0, 1])]) 0 (bodyOf Tryz.f98) (retK Pg Tryz.f98.results.toList R) (argE 0 [.pointer (some x0), .int .i64 x1, .int .i64 x2]) w = wp98 x0 x1 x2 R w := by kernel_rfl
theorem call98 {x0 : Addr} {x1 : Int} {x2 : Int} {R : Value → World → Prop} {w : World} (h : wp98 x0 x1 x2 R w) : CallT Pg 98 #[.pointer (some x0), .int .i64 x1, .int .i64 x2] w R :=
  calls_of_vc follows bodies Tryz.func98 (by kernel_rfl) (by kernel_rfl) (by kernel_rfl) ((eq98 x0 x1 x2 R w).mpr h)

/-- (*loop.example/pub-g03440/spec.writer).symbol -/
def wp88 (x0 : Addr) (x1 : Int) (R : Value → World → Prop) (w : World) : Prop := IfC (decide (x1 < (144 : Int))) (CallT Pg 98 #[.pointer (some x0), .int .i64 (IntKind.wrap .i64 ((48 : Int) + x1)), .int .i64 (8 : Int)] w fun (v1 : Value) (w2 : World) => And (v1 = .tuple #[]) (R (.tuple #[] : Value) w2)) (IfC (decide (x1 < (256 : Int))) (CallT Pg 98 #[.pointer (some x0), .int .i64 (IntKind.wrap .i64 ((256 : Int) + x1)), .int .i64 (9 : Int)] w fun (v3 : Value) (w4 : World) => And (v3 = .tuple #[]) (R (.tuple #[] : Value) w4)) (IfC (decide (x1 < (280 : Int))) (CallT Pg 98 #[.pointer (some x0), .int .i64 (IntKind.wrap .i64 (x1 - (256 : Int))), .int .i64 (7 : Int)] w fun (v5 : Value) (w6 : World) => And (v5 = .tuple #[]) (R (.tuple #[] : Value) w6)) (CallT Pg 98 #[.pointer (some x0), .int .i64 (IntKind.wrap .i64 (x1 - (88 : Int))), .int .i64 (8 : Int)] w fun (v7 : Value) (w8 : World) => And (v7 = .tuple #[]) (R (.tuple #[] : Value) w8))))
theorem eq88 (x0 : Addr) (x1 : Int) (R : Value → World → Prop) (w : World) : vc Pg Gg (annOf []) 0 (bodyOf Tryz.f88) (retK Pg Tryz.f88.results.toList R) (argE 0 [.pointer (some x0), .int .i64 x1]) w = wp88 x0 x1 R w := by kernel_rfl
theorem call88 {x0 : Addr} {x1 : Int} {R : Value → World → Prop} {w : World} (h : wp88 x0 x1 R w) : CallT Pg 88 #[.pointer (some x0), .int .i64 x1] w R :=
  calls_of_vc follows bodies Tryz.func88 (by kernel_rfl) (by kernel_rfl) (by kernel_rfl) ((eq88 x0 x1 R w).mpr h)

/-- loop.example/pub-g03440/spec.lengthOf -/
def wp99 (x0 : Int) (R : Value → World → Prop) (w : World) : Prop := IfC ((IntKind.wrap .i64 (x0 - (257 : Int))) == (28 : Int)) (R (.tuple #[.int .i64 (258 : Int), .int .i64 (0 : Int)] : Value) w) (IfC (decide ((IntKind.wrap .i64 (x0 - (257 : Int))) < (8 : Int))) (R (.tuple #[.int .i64 (IntKind.wrap .i64 ((3 : Int) + (IntKind.wrap .i64 (x0 - (257 : Int))))), .int .i64 (0 : Int)] : Value) w) (DivC (4 : Int) (DivC (4 : Int) (ShC (IntKind.wrap .i64 ((IntKind.wrap .i64 (Int.tdiv (IntKind.wrap .i64 (x0 - (257 : Int))) (4 : Int))) - (1 : Int))) (DivC (4 : Int) (R (.tuple #[.int .i64 (IntKind.wrap .i64 ((3 : Int) + (shlI .i64 (IntKind.wrap .i64 ((4 : Int) + (Int.tmod (IntKind.wrap .i64 (x0 - (257 : Int))) (4 : Int)))) (IntKind.wrap .i64 ((IntKind.wrap .i64 (Int.tdiv (IntKind.wrap .i64 (x0 - (257 : Int))) (4 : Int))) - (1 : Int)))))), .int .i64 (IntKind.wrap .i64 ((IntKind.wrap .i64 (Int.tdiv (IntKind.wrap .i64 (x0 - (257 : Int))) (4 : Int))) - (1 : Int)))] : Value) w))))))
theorem eq99 (x0 : Int) (R : Value → World → Prop) (w : World) : vc Pg Gg (annOf []) 0 (bodyOf Tryz.f99) (retK Pg Tryz.f99.results.toList R) (argE 0 [.int .i64 x0]) w = wp99 x0 R w := by kernel_rfl
theorem call99 {x0 : Int} {R : Value → World → Prop} {w : World} (h : wp99 x0 R w) : CallT Pg 99 #[.int .i64 x0] w R :=
  calls_of_vc follows bodies Tryz.func99 (by kernel_rfl) (by kernel_rfl) (by kernel_rfl) ((eq99 x0 R w).mpr h)

/-- loop.example/pub-g03440/spec.distanceOf -/
def wp100 (x0 : Int) (R : Value → World → Prop) (w : World) : Prop := IfC (decide (x0 < (4 : Int))) (R (.tuple #[.int .i64 (IntKind.wrap .i64 ((1 : Int) + x0)), .int .i64 (0 : Int)] : Value) w) (DivC (2 : Int) (DivC (2 : Int) (ShC (IntKind.wrap .i64 ((IntKind.wrap .i64 (Int.tdiv x0 (2 : Int))) - (1 : Int))) (DivC (2 : Int) (R (.tuple #[.int .i64 (IntKind.wrap .i64 ((1 : Int) + (shlI .i64 (IntKind.wrap .i64 ((2 : Int) + (Int.tmod x0 (2 : Int)))) (IntKind.wrap .i64 ((IntKind.wrap .i64 (Int.tdiv x0 (2 : Int))) - (1 : Int)))))), .int .i64 (IntKind.wrap .i64 ((IntKind.wrap .i64 (Int.tdiv x0 (2 : Int))) - (1 : Int)))] : Value) w)))))
theorem eq100 (x0 : Int) (R : Value → World → Prop) (w : World) : vc Pg Gg (annOf []) 0 (bodyOf Tryz.f100) (retK Pg Tryz.f100.results.toList R) (argE 0 [.int .i64 x0]) w = wp100 x0 R w := by kernel_rfl
theorem call100 {x0 : Int} {R : Value → World → Prop} {w : World} (h : wp100 x0 R w) : CallT Pg 100 #[.int .i64 x0] w R :=
  calls_of_vc follows bodies Tryz.func100 (by kernel_rfl) (by kernel_rfl) (by kernel_rfl) ((eq100 x0 R w).mpr h)

section
variable {w : World}
/-- Bytes that tell bits, the lowest of each byte first, behind them noughts. -/
def PackOf (out : List UInt8) (bits : List Bool) : Prop := out.length = (bits.length + 7) / 8 ∧ ∀ i, (gb out (i / 8)).testBit (i % 8) = bits.getD i false
abbrev Rows3 := List (Nat × TypeId × Array Value)
def Keeps (Z : Rows3) (w : World) (S : List Nat) : Prop := ∀ z ∈ Z, hp w z.1 = Row z.2.1 z.2.2 ∧ z.1 ∉ S
theorem Keeps.fr {Z : Rows3} {w w' : World} {S S' T : List Nat} (h : Keeps Z w S) (hf : Fr T w w') (hT : ∀ x ∈ T, x ∈ S ∨ hn w ≤ x) (hS : ∀ x ∈ S', x ∈ S ∨ hn w ≤ x) : Keeps Z w' S' := fun z hz => by
  obtain ⟨h1, h2⟩ := h z hz
  have hlt := hp_lt h1
  refine ⟨hf.row h1 fun hx => ?_, fun hx => ?_⟩
  · rcases hT _ hx with h | h
    · exact h2 h
    · omega
  · rcases hS _ hx with h | h
    · exact h2 h
    · omega
/-- The writer of bits: in block g. -/
def WR (w0 : World) (Z : Rows3) (w : World) (g : Nat) (bits : List Bool) : Prop :=
  Fr [] w0 w ∧ hn w0 ≤ g ∧ ∃ p l c out, hp w g = Row 139 #[.slice p l c, .int .i64 (bits.length : Int)] ∧ Own w (hn w0) 5 1 p l c (bv out) ∧ g ∉ blkOf p ∧ PackOf out bits ∧ Keeps Z w (g :: blkOf p)
theorem gb_append_zero (out : List UInt8) (i : Nat) : gb (out ++ [0]) i = gb out i := by
  unfold gb
  simp only [List.getD_eq_getElem?_getD]
  by_cases h : i < out.length
  · rw [List.getElem?_append_left h]
  · rw [List.getElem?_append_right (by omega), List.getElem?_eq_none (by omega : out.length ≤ i)]
    cases hh : i - out.length with
    | zero => simp
    | succ n => simp
theorem gb_set (out : List UInt8) (j : Nat) (y : UInt8) (hj : j < out.length) (i : Nat) : gb (out.set j y) i = if i = j then y.toNat else gb out i := by
  unfold gb
  simp only [List.getD_eq_getElem?_getD, List.getElem?_set]
  by_cases h : i = j
  · subst h; simp [hj]
  · rw [if_neg (Ne.symm h), if_neg h]
theorem pack_step {out : List UInt8} {bits : List Bool} {b : Bool} {y : UInt8} (h1 : out.length = bits.length / 8 + 1) (h2 : ∀ i, (gb out (i / 8)).testBit (i % 8) = bits.getD i false)
    (hy : y.toNat = gb out (bits.length / 8) ||| ((if b then 1 else 0) * 2 ^ (bits.length % 8))) : PackOf (out.set (bits.length / 8) y) (bits ++ [b]) := by
  refine ⟨by simp [h1]; omega, fun i => ?_⟩
  rw [gb_set _ _ _ (by omega)]
  have hg : (bits ++ [b]).getD i false = if i = bits.length then b else bits.getD i false := by
    simp only [List.getD_eq_getElem?_getD]
    by_cases hi : i < bits.length
    · rw [List.getElem?_append_left hi, if_neg (by omega)]
    · rw [List.getElem?_append_right (by omega)]
      by_cases he : i = bits.length
      · subst he; simp
      · rw [if_neg he, List.getElem?_eq_none (by simp; omega), List.getElem?_eq_none (by omega : bits.length ≤ i)]
  rw [hg]
  by_cases hd : i / 8 = bits.length / 8
  · rw [if_pos hd, hy, Nat.testBit_or]
    have h3 := h2 i
    rw [hd] at h3
    rw [h3]
    by_cases he : i = bits.length
    · subst he
      rw [if_pos rfl]
      have : bits.getD bits.length false = false := by simp [List.getD_eq_getElem?_getD]
      rw [this, Bool.false_or]
      cases b
      · simp
      · simp [Nat.testBit_two_pow]
    · rw [if_neg he]
      have hne : bits.length % 8 ≠ i % 8 := by omega
      cases b
      · simp
      · simp [Nat.testBit_two_pow, hne]
  · rw [if_neg hd, h2 i, if_neg (by omega)]

theorem c65 {w0 : World} {Z : Rows3} {g : Nat} {bits : List Bool} (hw : WR w0 Z w g bits) (hb : bits.length < 1099511627776) (b : Bool) :
    CallT Pg 65 #[.pointer (some ⟨g, 0, none⟩), .int .i64 (if b then 1 else 0)] w fun v w' => v = .tuple #[] ∧ WR w0 Z w' g (bits ++ [b]) := by
  apply call65
  unfold wp65
  obtain ⟨hf, hg, p, l, c, out, hrow, ho, hgp, ⟨hlen, hbits⟩, hZ⟩ := hw
  have e2 : Int.tdiv (bits.length : Int) 8 = ((bits.length / 8 : Nat) : Int) := tdiv_nat _ 8
  have e3 : Int.tmod (bits.length : Int) 8 = ((bits.length % 8 : Nat) : Int) := tmod_nat _ 8
  refine JoinC_of (fun _ w' => Fr [] w0 w' ∧ ∃ p l c out1, hp w' g = Row 139 #[.slice p l c, .int .i64 (bits.length : Int)] ∧ Own w' (hn w0) 5 1 p l c (bv out1) ∧ g ∉ blkOf p ∧ out1.length = bits.length / 8 + 1 ∧
    (∀ i, (gb out1 (i / 8)).testBit (i % 8) = bits.getD i false) ∧ Keeps Z w' (g :: blkOf p)) ?_ ?_
  · rintro _ w1 ⟨hf1, p, l, c, out, hrow, ho, hgp, hlen, hbits, hZ⟩
    have hl : l = out.length := by have := ho.1; simpa using this.symm
    subst hl
    refine DrewC_at fun w2 hf2 _ => ?_
    have hrow2 := hf2.row0 hrow
    have ho2 := ho.fr0 hf2
    refine LdSl_at hrow2 rfl (LdI_at hrow2 rfl (DivC_of (by decide) ?_))
    simp (disch := omega) only [e2, e3, wrap_i64_id, Int.toNat_natCast]
    refine IdxB ho2.has rfl (by omega) (by omega) ?_
    refine LdI_at hrow2 rfl (DivC_of (by decide) ?_)
    rw [e3]
    refine ShC_of (by omega) ⟨⟨by omega, by omega⟩, ?_⟩
    rw [Int.toNat_natCast]
    have hgl := gb_lt out (bits.length / 8)
    have hpow : (if b then 1 else 0) * 2 ^ (bits.length % 8) < 256 := by
      have : bits.length % 8 = 0 ∨ bits.length % 8 = 1 ∨ bits.length % 8 = 2 ∨ bits.length % 8 = 3 ∨ bits.length % 8 = 4 ∨ bits.length % 8 = 5 ∨ bits.length % 8 = 6 ∨ bits.length % 8 = 7 := by omega
      rcases this with h | h | h | h | h | h | h | h <;> rw [h] <;> cases b <;> decide
    have hor : gb out (bits.length / 8) ||| ((if b then 1 else 0) * 2 ^ (bits.length % 8)) < 256 := Nat.or_lt_two_pow (n := 8) hgl hpow
    have hval : Value.int .u8 (bOr .u8 (gb out (bits.length / 8) : Int) (IntKind.wrap .u8 (shlI .i64 (if b then 1 else 0) ((bits.length % 8 : Nat) : Int)))) = u8v (UInt8.ofNat (gb out (bits.length / 8) ||| ((if b then 1 else 0) * 2 ^ (bits.length % 8)))) := by
      rw [u8v_ofNat, shl_i64 (by omega) (by omega), Int.toNat_natCast]
      have e : ((if b then 1 else 0 : Int) * 2 ^ (bits.length % 8)) = (((if b then 1 else 0) * 2 ^ (bits.length % 8) : Nat) : Int) := by cases b <;> simp
      rw [e, wrap_i64_id (by omega) (by omega), wrap_u8_id (by omega) (by omega), or_u8 (by omega) (by omega) (by omega) (by omega), Int.toNat_natCast, Int.toNat_natCast, Nat.mod_eq_of_lt hor]
    rw [hval]
    refine StOwn (hf1.trans hf2) ho2 (by omega) ?_
    intro w3 hf3 hf3' ho3
    have hrow3 := hf3'.row hrow2 hgp
    refine LdI_at hrow3 rfl (StoreC_at hrow3 (by simp) fun w4 hrow4 hf4 hn4 => ?_)
    rw [wrap_i64_id (by omega) (by omega)] at hrow4
    have hn2 := hf2.size
    have hn3 := hf3'.size
    have hgp' : ∀ a, p = some a → a.block ∉ [g] := fun a ha hx => by simp at hx; exact hgp (by rw [ha, ← hx]; exact mem_blkOf)
    have hps := pack_step (b := b) (y := UInt8.ofNat (gb out (bits.length / 8) ||| ((if b then 1 else 0) * 2 ^ (bits.length % 8)))) hlen hbits (by rw [UInt8.toNat_ofNat', Nat.mod_eq_of_lt hor])
    refine ⟨by trivial, hf3.new1 hf4 hg, hg, p, out.length, c, _, ?_, ?_, hgp, hps, ?_⟩
    · rw [hrow4]; simp
    · rw [← bv_set]; exact ho3.fr hf4 hgp'
    · refine Keeps.fr (Keeps.fr (Keeps.fr hZ hf2 (by simp) (fun x hx => .inl hx)) hf3' (fun x hx => .inl (by simp [hx])) (fun x hx => .inl hx)) hf4 (fun x hx => .inl (by simp at hx; simp [hx])) (fun x hx => .inl hx)
  · intro J hJ
    refine LdI_at hrow rfl (DivC_of (by decide) ?_)
    rw [e3]
    have hl : l = out.length := by have := ho.1; simpa using this.symm
    subst hl
    refine IfC_bool (fun h => ?_) (fun h => ?_)
    · simp only [beq_iff_eq] at h
      refine LdSl_at hrow rfl ?_
      refine AppLit2 ok33 hf ho (cs := #[u8v 0]) (m := 1) rfl (by simp [u8v, Value.oneCell']) (by omega) ?_
      intro p' c' w1 hf1 hf1' ho1 hsrc
      have hrow1 := hf1'.row hrow hgp
      refine StoreC_at hrow1 (by simp) fun w2 hrow2 hf2 hn2 => ?_
      have hglt := hp_lt hrow
      have hgp' : g ∉ blkOf p' := fun hx => by
        rcases hsrc _ hx with h | h
        · exact hgp h
        · omega
      refine hJ _ _ ⟨hf1.new1 hf2 hg, p', _, c', out ++ [0], by rw [hrow2]; simp; rfl, ?_, hgp', by simp; omega, fun i => by rw [gb_append_zero]; exact hbits i, ?_⟩
      · have := ho1.fr hf2 (fun a ha hx => by simp at hx; exact hgp' (by rw [ha, ← hx]; exact mem_blkOf))
        simpa using this
      · refine Keeps.fr (Keeps.fr hZ hf1' (S' := g :: blkOf p') (fun x hx => .inl (by simp [hx])) (fun x hx => ?_)) hf2 (fun x hx => .inl (by simp at hx; simp [hx])) (fun x hx => .inl hx)
        rcases List.mem_cons.1 hx with rfl | hx
        · exact .inl (by simp)
        · exact (hsrc _ hx).imp (fun h => by simp [h]) id
    · simp only [beq_eq_false_iff_ne, ne_eq] at h
      exact hJ _ _ ⟨hf, p, _, c, out, hrow, ho, hgp, by omega, hbits, hZ⟩

def bitsL (v n : Nat) : List Bool := (List.range n).map v.testBit
def wordP (v n j : Nat) : List Bool := (List.range j).map fun i => v.testBit (n - 1 - i)
def wordL (v n : Nat) : List Bool := wordP v n n
@[simp] theorem bitsL_length (v n : Nat) : (bitsL v n).length = n := by simp [bitsL]
@[simp] theorem wordP_length (v n j : Nat) : (wordP v n j).length = j := by simp [wordP]
@[simp] theorem wordL_length (v n : Nat) : (wordL v n).length = n := by simp [wordL]
theorem bit_int {v k : Nat} (hv : v < 4611686018427387904) (hk : k ≤ 62) : bAnd .i64 (shrI .i64 (v : Int) (k : Int)) 1 = (if v.testBit k then 1 else 0 : Int) := by
  have hd : v / 2 ^ k ≤ v := Nat.div_le_self _ _
  rw [shr_i64 (by omega) (by omega) (by omega), Int.toNat_natCast, Int.toNat_natCast, Nat.testBit_eq_decide_div_mod_eq]
  generalize v / 2 ^ k = q at *
  rw [and_i64 (by omega) (by omega) (by omega) (by omega), Int.toNat_natCast]
  have : (1 : Int).toNat = 1 := rfl
  rw [this, Nat.and_one_is_mod]
  by_cases h : q % 2 = 1
  · simp [h]
  · have : q % 2 = 0 := by omega
    simp [this]
theorem c66 {w0 : World} {Z : Rows3} {g : Nat} {bits : List Bool} {v n : Nat} (hw : WR w0 Z w g bits) (hb : bits.length < 549755813888) (hv : v < 4611686018427387904) (hn : n ≤ 62) :
    CallT Pg 66 #[.pointer (some ⟨g, 0, none⟩), .int .i64 v, .int .i64 n] w fun u w' => u = .tuple #[] ∧ WR w0 Z w' g (bits ++ bitsL v n) := by
  apply call66
  unfold wp66
  refine LoopC_of (fun z w' => ∃ k : Nat, z.1 = k ∧ k ≤ n ∧ WR w0 Z w' g (bits ++ bitsL v k)) (fun z _ => n - z.1.toNat) ⟨0, rfl, by omega, by simpa [bitsL] using hw⟩ ?_
  rintro ⟨k', ⟨⟩⟩ w1 ⟨k, rfl, hk, hw1⟩
  dsimp only
  refine IfC_dec (fun h => ?_) (fun h => ?_)
  · refine ShC_of (by omega) ?_
    rw [bit_int hv (by omega)]
    refine CallT.mono (c65 hw1 (by simp; omega) _) ?_
    rintro _ w2 ⟨rfl, hw2⟩
    refine ⟨rfl, ?_⟩
    rw [wrap_i64_id (by omega) (by omega)]
    refine ⟨⟨k + 1, by simp, by omega, ?_⟩, by omega⟩
    have e : bitsL v (k + 1) = bitsL v k ++ [v.testBit k] := by simp [bitsL, List.range_succ]
    rw [e, ← List.append_assoc]; exact hw2
  · have : k = n := by omega
    subst this
    exact ⟨rfl, hw1⟩
theorem c98 {w0 : World} {Z : Rows3} {g : Nat} {bits : List Bool} {v n : Nat} (hw : WR w0 Z w g bits) (hb : bits.length < 549755813888) (hv : v < 4611686018427387904) (hn : n ≤ 62) :
    CallT Pg 98 #[.pointer (some ⟨g, 0, none⟩), .int .i64 v, .int .i64 n] w fun u w' => u = .tuple #[] ∧ WR w0 Z w' g (bits ++ wordL v n) := by
  apply call98
  unfold wp98
  rw [wrap_i64_id (by omega) (by omega)]
  refine LoopC_of (fun z w' => ∃ j : Nat, z.1 = (n : Int) - 1 - j ∧ j ≤ n ∧ WR w0 Z w' g (bits ++ wordP v n j)) (fun z _ => (z.1 + 1).toNat) ⟨0, by simp, by omega, by simpa [wordP] using hw⟩ ?_
  rintro ⟨k', ⟨⟩⟩ w1 ⟨j, rfl, hj, hw1⟩
  dsimp only
  refine IfC_dec (fun h => ?_) (fun h => ?_)
  · refine ShC_of (by omega) ?_
    have e1 : (n : Int) - 1 - j = ((n - 1 - j : Nat) : Int) := by omega
    rw [e1, bit_int hv (by omega)]
    refine CallT.mono (c65 hw1 (by simp; omega) _) ?_
    rintro _ w2 ⟨rfl, hw2⟩
    refine ⟨rfl, ?_⟩
    rw [wrap_i64_id (by omega) (by omega)]
    refine ⟨⟨j + 1, by omega, by omega, ?_⟩, by omega⟩
    have e : wordP v n (j + 1) = wordP v n j ++ [v.testBit (n - 1 - j)] := by simp [wordP, List.range_succ]
    rw [e, ← List.append_assoc]; exact hw2
  · have : j = n := by omega
    subst this
    exact ⟨rfl, hw1⟩
def symL (s : Nat) : List Bool := if s < 144 then wordL (48 + s) 8 else if s < 256 then wordL (256 + s) 9 else if s < 280 then wordL (s - 256) 7 else wordL (s - 88) 8
theorem symL_length (s : Nat) : 7 ≤ (symL s).length ∧ (symL s).length ≤ 9 := by unfold symL; split <;> (try split) <;> (try split) <;> simp
theorem c88 {w0 : World} {Z : Rows3} {g : Nat} {bits : List Bool} {s : Nat} (hw : WR w0 Z w g bits) (hb : bits.length < 549755813888) (hs : s < 288) :
    CallT Pg 88 #[.pointer (some ⟨g, 0, none⟩), .int .i64 s] w fun u w' => u = .tuple #[] ∧ WR w0 Z w' g (bits ++ symL s) := by
  apply call88
  unfold wp88
  refine IfC_dec (fun h => ?_) (fun h => IfC_dec (fun h' => ?_) (fun h' => IfC_dec (fun h'' => ?_) (fun h'' => ?_)))
  · rw [wrap_i64_id (by omega) (by omega), show (48 : Int) + (s : Int) = ((48 + s : Nat) : Int) by omega]
    refine CallT.mono (c98 hw hb (by omega) (n := 8) (by omega)) ?_
    rintro _ w2 ⟨rfl, hw2⟩
    exact ⟨rfl, rfl, by unfold symL; rw [if_pos (by omega)]; exact hw2⟩
  · rw [wrap_i64_id (by omega) (by omega), show (256 : Int) + (s : Int) = ((256 + s : Nat) : Int) by omega]
    refine CallT.mono (c98 hw hb (by omega) (n := 9) (by omega)) ?_
    rintro _ w2 ⟨rfl, hw2⟩
    exact ⟨rfl, rfl, by unfold symL; rw [if_neg (by omega), if_pos (by omega)]; exact hw2⟩
  · rw [wrap_i64_id (by omega) (by omega), show (s : Int) - 256 = ((s - 256 : Nat) : Int) by omega]
    refine CallT.mono (c98 hw hb (by omega) (n := 7) (by omega)) ?_
    rintro _ w2 ⟨rfl, hw2⟩
    exact ⟨rfl, rfl, by unfold symL; rw [if_neg (by omega), if_neg (by omega), if_pos (by omega)]; exact hw2⟩
  · rw [wrap_i64_id (by omega) (by omega), show (s : Int) - 88 = ((s - 88 : Nat) : Int) by omega]
    refine CallT.mono (c98 hw hb (by omega) (n := 8) (by omega)) ?_
    rintro _ w2 ⟨rfl, hw2⟩
    exact ⟨rfl, rfl, by unfold symL; rw [if_neg (by omega), if_neg (by omega), if_neg (by omega)]; exact hw2⟩
def lenOf (s : Nat) : Nat × Nat := if s = 285 then (258, 0) else if s < 265 then (s - 254, 0) else (3 + (4 + (s - 257) % 4) * 2 ^ ((s - 257) / 4 - 1), (s - 257) / 4 - 1)
def distOf (k : Nat) : Nat × Nat := if k < 4 then (1 + k, 0) else (1 + (2 + k % 2) * 2 ^ (k / 2 - 1), k / 2 - 1)
theorem c99 {s : Nat} (h1 : 257 ≤ s) (h2 : s ≤ 285) : CallT Pg 99 #[.int .i64 s] w fun v w' => v = .tuple #[.int .i64 (lenOf s).1, .int .i64 (lenOf s).2] ∧ w' = w := by
  apply call99
  unfold wp99
  have e0 : IntKind.wrap .i64 ((s : Int) - 257) = ((s - 257 : Nat) : Int) := by rw [wrap_i64_id (by omega) (by omega)]; omega
  rw [e0]
  have e2 : Int.tdiv ((s - 257 : Nat) : Int) 4 = (((s - 257) / 4 : Nat) : Int) := tdiv_nat _ 4
  have e3 : Int.tmod ((s - 257 : Nat) : Int) 4 = (((s - 257) % 4 : Nat) : Int) := tmod_nat _ 4
  unfold lenOf
  refine IfC_bool (fun h => ?_) (fun h => IfC_dec (fun h' => ?_) (fun h' => ?_))
  · simp only [beq_iff_eq] at h
    rw [if_pos (by omega)]; exact ⟨rfl, rfl⟩
  · simp only [beq_eq_false_iff_ne, ne_eq] at h
    rw [if_neg (by omega), if_pos (by omega), wrap_i64_id (by omega) (by omega)]
    refine ⟨?_, rfl⟩
    rw [show (3 : Int) + ((s - 257 : Nat) : Int) = ((s - 254 : Nat) : Int) by omega]; rfl
  · simp only [beq_eq_false_iff_ne, ne_eq] at h
    rw [if_neg (by omega), if_neg (by omega)]
    refine DivC_of (by decide) (DivC_of (by decide) ?_)
    have hp : 2 ^ ((s - 257) / 4 - 1) ≤ 2 ^ 6 := Nat.pow_le_pow_right (by decide) (by omega)
    have hm : (4 + (s - 257) % 4) * 2 ^ ((s - 257) / 4 - 1) ≤ 7 * 2 ^ 6 := Nat.mul_le_mul (by omega) hp
    have e4 : (((s - 257) / 4 : Nat) : Int) - 1 = (((s - 257) / 4 - 1 : Nat) : Int) := by omega
    have e5 : (4 : Int) + (((s - 257) % 4 : Nat) : Int) = ((4 + (s - 257) % 4 : Nat) : Int) := by omega
    have e6 : (((4 + (s - 257) % 4 : Nat) : Int) * 2 ^ ((s - 257) / 4 - 1)) = (((4 + (s - 257) % 4) * 2 ^ ((s - 257) / 4 - 1) : Nat) : Int) := by simp
    simp (disch := omega) only [e2, e3, e4, e5, wrap_i64_id, shl_i64, Int.toNat_natCast, e6]
    refine ShC_of (by omega) (DivC_of (by decide) ⟨?_, by trivial⟩)
    congr 3
theorem c100 {k : Nat} (h2 : k ≤ 29) : CallT Pg 100 #[.int .i64 k] w fun v w' => v = .tuple #[.int .i64 (distOf k).1, .int .i64 (distOf k).2] ∧ w' = w := by
  apply call100
  unfold wp100
  have e2 : Int.tdiv (k : Int) 2 = ((k / 2 : Nat) : Int) := tdiv_nat _ 2
  have e3 : Int.tmod (k : Int) 2 = ((k % 2 : Nat) : Int) := tmod_nat _ 2
  unfold distOf
  refine IfC_dec (fun h' => ?_) (fun h' => ?_)
  · rw [if_pos (by omega), wrap_i64_id (by omega) (by omega)]
    refine ⟨?_, rfl⟩
    rw [show (1 : Int) + (k : Int) = ((1 + k : Nat) : Int) by omega]; rfl
  · rw [if_neg (by omega)]
    refine DivC_of (by decide) (DivC_of (by decide) ?_)
    have hp : 2 ^ (k / 2 - 1) ≤ 2 ^ 14 := Nat.pow_le_pow_right (by decide) (by omega)
    have hm : (2 + k % 2) * 2 ^ (k / 2 - 1) ≤ 3 * 2 ^ 14 := Nat.mul_le_mul (by omega) hp
    have e4 : ((k / 2 : Nat) : Int) - 1 = ((k / 2 - 1 : Nat) : Int) := by omega
    have e5 : (2 : Int) + ((k % 2 : Nat) : Int) = ((2 + k % 2 : Nat) : Int) := by omega
    have e6 : (((2 + k % 2 : Nat) : Int) * 2 ^ (k / 2 - 1)) = (((2 + k % 2) * 2 ^ (k / 2 - 1) : Nat) : Int) := by simp
    simp (disch := omega) only [e2, e3, e4, e5, wrap_i64_id, shl_i64, Int.toNat_natCast, e6]
    refine ShC_of (by omega) (DivC_of (by decide) ⟨?_, by trivial⟩)
    congr 3
end
end Go.Proofs
