/- A step of the proofs (S5): contracts of the functions printed here, for all their arguments that meet what each names. -/
import Derived.Test.YtklagmhonmbdgaaGreatDoorBase
import Derived.Test.YtklagmhonmbdgaaGreatDoorSteps
import Derived.Test.YtklagmhonmbdgaaGreatDoorS4
set_option maxRecDepth 1000000
set_option linter.unusedVariables false
set_option linter.unusedSimpArgs false
set_option maxHeartbeats 4000000
namespace Go.Proofs
open Go Go.V
/-- loop.example/pub-g03440/spec.repeats -/
def wp87 (x0 : Option Addr) (x0l : Nat) (x0c : Nat) (x1 : Int) (x2 : Int) (R : Value → World → Prop) (w : World) : Prop := LoopC (fun (J3 : (Int × Unit) → World → Prop) => J3 ((0 : Int), ()) w) (fun (z1 : (Int × Unit)) (w2 : World) (N4 : (Int × Unit) → World → Prop) => DrewC w2 fun (w5 : World) => IfC (decide (x2 ≤ x1)) (IfC (decide (z1.1 < (258 : Int))) (IfC (decide ((IntKind.wrap .i64 (x1 + z1.1)) < (x0l : Int))) (And (0 ≤ IntKind.wrap .i64 (x1 + z1.1) ∧ IntKind.wrap .i64 (x1 + z1.1) < (x0l : Int)) (PtrC x0 fun (a6 : Addr) => LdI w5 (elemAt a6 ((IntKind.wrap .i64 (x1 + z1.1)).toNat) 1) .u8 fun (n7 : Int) => And (0 ≤ IntKind.wrap .i64 ((IntKind.wrap .i64 (x1 + z1.1)) - x2) ∧ IntKind.wrap .i64 ((IntKind.wrap .i64 (x1 + z1.1)) - x2) < (x0l : Int)) (PtrC x0 fun (a8 : Addr) => LdI w5 (elemAt a8 ((IntKind.wrap .i64 ((IntKind.wrap .i64 (x1 + z1.1)) - x2)).toNat) 1) .u8 fun (n9 : Int) => IfC (n7 == n9) (N4 (IntKind.wrap .i64 (z1.1 + (1 : Int)), ()) w5) (R (.int .i64 z1.1 : Value) w5)))) (R (.int .i64 z1.1 : Value) w5)) (R (.int .i64 z1.1 : Value) w5)) (R (.int .i64 z1.1 : Value) w5))
theorem eq87 (x0 : Option Addr) (x0l : Nat) (x0c : Nat) (x1 : Int) (x2 : Int) (R : Value → World → Prop) (w : World) : vc Pg Gg (annOf [(6, [(7, .i .i64)], [0, 1, 2, 6])]) 0 (bodyOf Tryz.f87) (retK Pg Tryz.f87.results.toList R) (argE 0 [.slice x0 x0l x0c, .int .i64 x1, .int .i64 x2]) w = wp87 x0 x0l x0c x1 x2 R w := by kernel_rfl
theorem call87 {x0 : Option Addr} {x0l : Nat} {x0c : Nat} {x1 : Int} {x2 : Int} {R : Value → World → Prop} {w : World} (h : wp87 x0 x0l x0c x1 x2 R w) : CallT Pg 87 #[.slice x0 x0l x0c, .int .i64 x1, .int .i64 x2] w R :=
  calls_of_vc follows bodies Tryz.func87 (by kernel_rfl) (by kernel_rfl) (by kernel_rfl) ((eq87 x0 x0l x0c x1 x2 R w).mpr h)

/-- (*loop.example/pub-g03440/spec.writer).again -/
def wp89 (x0 : Addr) (x1 : Int) (x2 : Int) (R : Value → World → Prop) (w : World) : Prop := LoopC (fun (J3 : (Int × Int × Unit) → World → Prop) => J3 ((257 : Int), (258 : Int), ()) w) (fun (z1 : (Int × Int × Unit)) (w2 : World) (N4 : (Int × Int × Unit) → World → Prop) => IfC (decide (z1.2.1 ≤ (285 : Int))) (CallT Pg 99 #[.int .i64 z1.2.1] w2 fun (v5 : Value) (w6 : World) => Exists fun (n7 : Int) => Exists fun (n8 : Int) => And (v5 = .tuple #[.int .i64 n7, .int .i64 n8]) (IfC (decide (n7 ≤ x1)) (N4 (z1.2.1, IntKind.wrap .i64 (z1.2.1 + (1 : Int)), ()) w6) (N4 (z1.1, IntKind.wrap .i64 (z1.2.1 + (1 : Int)), ()) w6))) (CallT Pg 99 #[.int .i64 z1.1] w2 fun (v9 : Value) (w10 : World) => Exists fun (n11 : Int) => Exists fun (n12 : Int) => And (v9 = .tuple #[.int .i64 n11, .int .i64 n12]) (CallT Pg 88 #[.pointer (some x0), .int .i64 z1.1] w10 fun (v13 : Value) (w14 : World) => And (v13 = .tuple #[]) (CallT Pg 66 #[.pointer (some x0), .int .i64 (IntKind.wrap .i64 (x1 - n11)), .int .i64 n12] w14 fun (v15 : Value) (w16 : World) => And (v15 = .tuple #[]) (LoopC (fun (J19 : (Int × Int × Unit) → World → Prop) => J19 ((0 : Int), (1 : Int), ()) w16) (fun (z17 : (Int × Int × Unit)) (w18 : World) (N20 : (Int × Int × Unit) → World → Prop) => IfC (decide (z17.2.1 < (30 : Int))) (CallT Pg 100 #[.int .i64 z17.2.1] w18 fun (v21 : Value) (w22 : World) => Exists fun (n23 : Int) => Exists fun (n24 : Int) => And (v21 = .tuple #[.int .i64 n23, .int .i64 n24]) (IfC (decide (n23 ≤ x2)) (N20 (z17.2.1, IntKind.wrap .i64 (z17.2.1 + (1 : Int)), ()) w22) (N20 (z17.1, IntKind.wrap .i64 (z17.2.1 + (1 : Int)), ()) w22))) (CallT Pg 100 #[.int .i64 z17.1] w18 fun (v25 : Value) (w26 : World) => Exists fun (n27 : Int) => Exists fun (n28 : Int) => And (v25 = .tuple #[.int .i64 n27, .int .i64 n28]) (CallT Pg 98 #[.pointer (some x0), .int .i64 z17.1, .int .i64 (5 : Int)] w26 fun (v29 : Value) (w30 : World) => And (v29 = .tuple #[]) (CallT Pg 66 #[.pointer (some x0), .int .i64 (IntKind.wrap .i64 (x2 - n27)), .int .i64 n28] w30 fun (v31 : Value) (w32 : World) => And (v31 = .tuple #[]) (R (.tuple #[] : Value) w32))))))))))
theorem eq89 (x0 : Addr) (x1 : Int) (x2 : Int) (R : Value → World → Prop) (w : World) : vc Pg Gg (annOf [(6, [(6, .i .i64), (7, .i .i64)], [0, 1, 2]), (35, [(6, .i .i64), (12, .i .i64)], [0, 2])]) 0 (bodyOf Tryz.f89) (retK Pg Tryz.f89.results.toList R) (argE 0 [.pointer (some x0), .int .i64 x1, .int .i64 x2]) w = wp89 x0 x1 x2 R w := by kernel_rfl
theorem call89 {x0 : Addr} {x1 : Int} {x2 : Int} {R : Value → World → Prop} {w : World} (h : wp89 x0 x1 x2 R w) : CallT Pg 89 #[.pointer (some x0), .int .i64 x1, .int .i64 x2] w R :=
  calls_of_vc follows bodies Tryz.func89 (by kernel_rfl) (by kernel_rfl) (by kernel_rfl) ((eq89 x0 x1 x2 R w).mpr h)

/-- (*loop.example/pub-g03440/spec.writer).block -/
def wp67 (x0 : Addr) (x1 : Option Addr) (x1l : Nat) (x1c : Nat) (x2 : Int) (x3 : Int) (x4 : Option Addr) (x4l : Nat) (x4c : Nat) (R : Value → World → Prop) (w : World) : Prop := LoopC (fun (J3 : (Int × Unit) → World → Prop) => J3 (x2, ()) w) (fun (z1 : (Int × Unit)) (w2 : World) (N4 : (Int × Unit) → World → Prop) => IfC (decide (z1.1 < x3)) (LoopC (fun (J7 : (Int × Int × Int × Unit) → World → Prop) => J7 ((0 : Int), (0 : Int), (0 : Int), ()) w2) (fun (z5 : (Int × Int × Int × Unit)) (w6 : World) (N8 : (Int × Int × Int × Unit) → World → Prop) => IfC (decide (z5.2.2.1 < (x4l : Int))) (And (0 ≤ z5.2.2.1 ∧ z5.2.2.1 < (x4l : Int)) (PtrC x4 fun (a9 : Addr) => LdI w6 (elemAt a9 z5.2.2.1.toNat 1) .i64 fun (n10 : Int) => CallT Pg 87 #[.slice x1 x1l x1c, .int .i64 z1.1, .int .i64 n10] w6 fun (v11 : Value) (w12 : World) => Exists fun (n13 : Int) => And (v11 = .int .i64 n13) (IfC (decide ((minI n13 (IntKind.wrap .i64 (x3 - z1.1))) > z5.1)) (N8 (minI n13 (IntKind.wrap .i64 (x3 - z1.1)), n10, IntKind.wrap .i64 (z5.2.2.1 + (1 : Int)), ()) w12) (N8 (z5.1, z5.2.1, IntKind.wrap .i64 (z5.2.2.1 + (1 : Int)), ()) w12)))) (IfC (decide (z5.1 < (3 : Int))) (And (0 ≤ z1.1 ∧ z1.1 < (x1l : Int)) (PtrC x1 fun (a14 : Addr) => LdI w6 (elemAt a14 z1.1.toNat 1) .u8 fun (n15 : Int) => CallT Pg 88 #[.pointer (some x0), .int .i64 (IntKind.wrap .i64 n15)] w6 fun (v16 : Value) (w17 : World) => And (v16 = .tuple #[]) (N4 (IntKind.wrap .i64 (z1.1 + (1 : Int)), ()) w17))) (CallT Pg 89 #[.pointer (some x0), .int .i64 z5.1, .int .i64 z5.2.1] w6 fun (v18 : Value) (w19 : World) => And (v18 = .tuple #[]) (N4 (IntKind.wrap .i64 (z1.1 + z5.1), ()) w19))))) (CallT Pg 88 #[.pointer (some x0), .int .i64 (256 : Int)] w2 fun (v20 : Value) (w21 : World) => And (v20 = .tuple #[]) (R (.tuple #[] : Value) w21)))
theorem eq67 (x0 : Addr) (x1 : Option Addr) (x1l : Nat) (x1c : Nat) (x2 : Int) (x3 : Int) (x4 : Option Addr) (x4l : Nat) (x4c : Nat) (R : Value → World → Prop) (w : World) : vc Pg Gg (annOf [(4, [(10, .i .i64)], [0, 1, 3, 4]), (18, [(11, .i .i64), (12, .i .i64), (22, .i .i64)], [0, 1, 3, 4, 10, 20, 21])]) 0 (bodyOf Tryz.f67) (retK Pg Tryz.f67.results.toList R) (argE 0 [.pointer (some x0), .slice x1 x1l x1c, .int .i64 x2, .int .i64 x3, .slice x4 x4l x4c]) w = wp67 x0 x1 x1l x1c x2 x3 x4 x4l x4c R w := by kernel_rfl
theorem call67 {x0 : Addr} {x1 : Option Addr} {x1l : Nat} {x1c : Nat} {x2 : Int} {x3 : Int} {x4 : Option Addr} {x4l : Nat} {x4c : Nat} {R : Value → World → Prop} {w : World} (h : wp67 x0 x1 x1l x1c x2 x3 x4 x4l x4c R w) : CallT Pg 67 #[.pointer (some x0), .slice x1 x1l x1c, .int .i64 x2, .int .i64 x3, .slice x4 x4l x4c] w R :=
  calls_of_vc follows bodies Tryz.func67 (by kernel_rfl) (by kernel_rfl) (by kernel_rfl) ((eq67 x0 x1 x1l x1c x2 x3 x4 x4l x4c R w).mpr h)

/-- loop.example/pub-g03440/spec.Adler -/
def wp68 (x0 : Option Addr) (x0l : Nat) (x0c : Nat) (R : Value → World → Prop) (w : World) : Prop := LoopC (fun (J3 : (Int × Int × Int × Unit) → World → Prop) => J3 ((1 : Int), (0 : Int), (0 : Int), ()) w) (fun (z1 : (Int × Int × Int × Unit)) (w2 : World) (N4 : (Int × Int × Int × Unit) → World → Prop) => IfC (decide (z1.2.2.1 < (x0l : Int))) (And (0 ≤ z1.2.2.1 ∧ z1.2.2.1 < (x0l : Int)) (PtrC x0 fun (a5 : Addr) => LdI w2 (elemAt a5 z1.2.2.1.toNat 1) .u8 fun (n6 : Int) => DivC (65521 : Int) (DivC (65521 : Int) (N4 (Int.tmod (IntKind.wrap .u32 (z1.1 + (IntKind.wrap .u32 n6))) (65521 : Int), Int.tmod (IntKind.wrap .u32 (z1.2.1 + (Int.tmod (IntKind.wrap .u32 (z1.1 + (IntKind.wrap .u32 n6))) (65521 : Int)))) (65521 : Int), IntKind.wrap .i64 (z1.2.2.1 + (1 : Int)), ()) w2)))) (ShC (16 : Int) (R (.int .u32 (bOr .u32 (shlI .u32 z1.2.1 (16 : Int)) z1.1) : Value) w2)))
theorem eq68 (x0 : Option Addr) (x0l : Nat) (x0c : Nat) (R : Value → World → Prop) (w : World) : vc Pg Gg (annOf [(8, [(3, .i .u32), (4, .i .u32), (9, .i .i64)], [2, 7, 8])]) 0 (bodyOf Tryz.f68) (retK Pg Tryz.f68.results.toList R) (argE 0 [.slice x0 x0l x0c]) w = wp68 x0 x0l x0c R w := by kernel_rfl
theorem call68 {x0 : Option Addr} {x0l : Nat} {x0c : Nat} {R : Value → World → Prop} {w : World} (h : wp68 x0 x0l x0c R w) : CallT Pg 68 #[.slice x0 x0l x0c] w R :=
  calls_of_vc follows bodies Tryz.func68 (by kernel_rfl) (by kernel_rfl) (by kernel_rfl) ((eq68 x0 x0l x0c R w).mpr h)

section
variable {w : World}
theorem WR.fr {w0 w w' : World} {Z : Rows3} {g : Nat} {bits : List Bool} (h : WR w0 Z w g bits) (hf : Fr [] w w') : WR w0 Z w' g bits := by
  obtain ⟨h1, h2, p, l, c, out, h3, h4, h5, h6, h7⟩ := h
  exact ⟨h1.trans hf, h2, p, l, c, out, hf.row0 h3, h4.fr0 hf, h5, h6, h7.fr hf (by simp) (fun x hx => .inl hx)⟩
theorem c87 {p : Option Addr} {l c at_ far : Nat} {xs : List UInt8} (hx : Has w p (bv xs)) (hl : l = xs.length) (ha : at_ ≤ l) (hb : l < 1099511627776) (hfar : 1 ≤ far) (hfb : far < 65536) :
    CallT Pg 87 #[.slice p l c, .int .i64 at_, .int .i64 far] w fun v w' => ∃ n : Nat, v = .int .i64 n ∧ Fr [] w w' ∧ n ≤ 258 ∧ at_ + n ≤ l ∧ (n = 0 ∨ far ≤ at_) ∧ ∀ j, j < n → gb xs (at_ + j) = gb xs (at_ + j - far) := by
  apply call87
  unfold wp87
  refine LoopC_of (fun z w' => Fr [] w w' ∧ ∃ n : Nat, z.1 = n ∧ n ≤ 258 ∧ at_ + n ≤ l ∧ (n = 0 ∨ far ≤ at_) ∧ ∀ j, j < n → gb xs (at_ + j) = gb xs (at_ + j - far)) (fun z _ => 258 - z.1.toNat)
    ⟨Fr.refl _ _, 0, rfl, by omega, by omega, .inl rfl, fun j hj => by omega⟩ ?_
  rintro ⟨n', ⟨⟩⟩ w1 ⟨hf, n, rfl, h1, h2, h3, h4⟩
  dsimp only
  refine DrewC_at fun w2 hf2 _ => ?_
  have hf' := hf.trans hf2
  have done : ∃ m : Nat, Value.int .i64 (n : Int) = .int .i64 m ∧ Fr [] w w2 ∧ m ≤ 258 ∧ at_ + m ≤ l ∧ (m = 0 ∨ far ≤ at_) ∧ ∀ j, j < m → gb xs (at_ + j) = gb xs (at_ + j - far) := ⟨n, rfl, hf', h1, h2, h3, h4⟩
  refine IfC_dec (fun ha1 => IfC_dec (fun ha2 => IfC_dec (fun ha3 => ?_) (fun _ => done)) (fun _ => done)) (fun _ => done)
  rw [wrap_i64_id (by omega) (by omega)] at ha3
  rw [wrap_i64_id (n := (at_ : Int) + n) (by omega) (by omega), wrap_i64_id (by omega) (by omega)]
  refine IdxB (hx.fr0 hf') hl (by omega) (by omega) ?_
  refine IdxB (hx.fr0 hf') hl (by omega) (by omega) ?_
  have e1 : ((at_ : Int) + n).toNat = at_ + n := by omega
  have e2 : ((at_ : Int) + n - far).toNat = at_ + n - far := by omega
  rw [e1, e2]
  refine IfC_bool (fun h => ?_) (fun _ => done)
  simp only [beq_iff_eq] at h
  rw [wrap_i64_id (by omega) (by omega)]
  refine ⟨⟨hf', n + 1, by simp, by omega, by omega, .inr (by omega), fun j hj => ?_⟩, by omega⟩
  by_cases hjn : j = n
  · subst hjn; omega
  · exact h4 j (by omega)
def adlerF (s : Nat × Nat) (xs : List UInt8) : Nat × Nat := xs.foldl (fun s v => ((s.1 + v.toNat) % 65521, (s.2 + (s.1 + v.toNat) % 65521) % 65521)) s
def adlerL (xs : List UInt8) : Nat := (adlerF (1, 0) xs).2 * 65536 + (adlerF (1, 0) xs).1
theorem adlerF_lt {xs : List UInt8} {s : Nat × Nat} (h1 : s.1 < 65521) (h2 : s.2 < 65521) : (adlerF s xs).1 < 65521 ∧ (adlerF s xs).2 < 65521 := by
  induction xs generalizing s with
  | nil => exact ⟨h1, h2⟩
  | cons v r ih => exact ih (Nat.mod_lt _ (by decide)) (Nat.mod_lt _ (by decide))
theorem adlerL_lt (xs : List UInt8) : adlerL xs < 4294967296 := by
  have := adlerF_lt (xs := xs) (s := (1, 0)) (by decide) (by decide)
  unfold adlerL; omega
theorem adlerF_snoc {s : Nat × Nat} {xs : List UInt8} {i : Nat} (h : i < xs.length) :
    adlerF s (xs.take (i + 1)) = (((adlerF s (xs.take i)).1 + gb xs i) % 65521, ((adlerF s (xs.take i)).2 + ((adlerF s (xs.take i)).1 + gb xs i) % 65521) % 65521) := by
  rw [List.take_succ_eq_append_getElem h]
  simp only [adlerF, List.foldl_append, List.foldl_cons, List.foldl_nil]
  simp [gb, List.getD, h]
theorem c68 {p : Option Addr} {l c : Nat} {xs : List UInt8} (hx : Has w p (bv xs)) (hl : l = xs.length) (hb : l < 4611686018427387904) :
    CallT Pg 68 #[.slice p l c] w fun v w' => v = .int .u32 (adlerL xs) ∧ w' = w := by
  apply call68
  unfold wp68
  refine LoopC_of (fun z w' => w' = w ∧ ∃ i : Nat, i ≤ l ∧ z.2.2.1 = i ∧ z.1 = (adlerF (1, 0) (xs.take i)).1 ∧ z.2.1 = (adlerF (1, 0) (xs.take i)).2) (fun z _ => l - z.2.2.1.toNat) ⟨rfl, 0, by omega, rfl, by simp [adlerF], by simp [adlerF]⟩ ?_
  rintro ⟨x, y, k, ⟨⟩⟩ w' ⟨rfl, i, hi, rfl, rfl, rfl⟩
  have hlt := adlerF_lt (xs := xs.take i) (s := (1, 0)) (by decide) (by decide)
  dsimp only
  refine IfC_dec (fun h => ?_) (fun h => ?_)
  · have hi' : i < xs.length := by omega
    refine IdxB hx hl (by omega) h (DivC_of (by decide) (DivC_of (by decide) ?_))
    have hg := gb_lt xs i
    have hs := adlerF_snoc (s := (1, 0)) hi'
    generalize (adlerF (1, 0) (xs.take i)).1 = a at *
    generalize (adlerF (1, 0) (xs.take i)).2 = b at *
    rw [Int.toNat_natCast, wrap_u32_id (n := (gb xs i : Int)) (by omega) (by omega), show (a : Int) + (gb xs i : Int) = ((a + gb xs i : Nat) : Int) by omega, wrap_u32_id (n := ((a + gb xs i : Nat) : Int)) (by omega) (by omega)]
    have e1 : Int.tmod ((a + gb xs i : Nat) : Int) 65521 = (((a + gb xs i) % 65521 : Nat) : Int) := tmod_nat _ 65521
    rw [e1, show (b : Int) + (((a + gb xs i) % 65521 : Nat) : Int) = ((b + (a + gb xs i) % 65521 : Nat) : Int) by omega, wrap_u32_id (by omega) (by omega)]
    have e2 : Int.tmod ((b + (a + gb xs i) % 65521 : Nat) : Int) 65521 = (((b + (a + gb xs i) % 65521) % 65521 : Nat) : Int) := tmod_nat _ 65521
    rw [e2, wrap_i64_id (by omega) (by omega)]
    refine ⟨⟨rfl, i + 1, by omega, by simp, by rw [hs], by rw [hs]⟩, by omega⟩
  · have : i = xs.length := by omega
    subst this
    rw [List.take_length] at *
    refine ShC_of (by decide) ⟨?_, rfl⟩
    rw [shl_u32 (by decide) (by decide)]
    have e : ((adlerF (1, 0) xs).2 : Int) * 2 ^ (16 : Int).toNat = (((adlerF (1, 0) xs).2 * 65536 : Nat) : Int) := by simp
    rw [e, wrap_u32_id (by omega) (by omega), or16_u32 (by omega) (by omega) (by omega) (by omega) (by omega)]
    simp [adlerL]

/-! ### Symbols -/
inductive Tok where
  | lit (x : UInt8)
  | mat (s e ds de : Nat)
def tokBits : Tok → List Bool
  | .lit x => symL x.toNat
  | .mat s e ds de => symL s ++ bitsL e (lenOf s).2 ++ wordL ds 5 ++ bitsL de (distOf ds).2
/-- n bytes more, each as it stands so far ahead. -/
def copyN (h : List UInt8) (d : Nat) : Nat → List UInt8
  | 0 => h
  | n + 1 => copyN (h ++ [h.getD (h.length - d) 0]) d n
def tokOut (h : List UInt8) : Tok → List UInt8
  | .lit x => h ++ [x]
  | .mat s e ds de => copyN h ((distOf ds).1 + de) ((lenOf s).1 + e)
def tokOk (h : List UInt8) : Tok → Prop
  | .lit _ => True
  | .mat s e ds de => 257 ≤ s ∧ s ≤ 285 ∧ e < 2 ^ (lenOf s).2 ∧ ds ≤ 29 ∧ de < 2 ^ (distOf ds).2 ∧ (distOf ds).1 + de ≤ h.length ∧ (distOf ds).1 + de ≤ 32768 ∧ (lenOf s).1 + e ≤ 258
def toksOk : List UInt8 → List Tok → Prop
  | _, [] => True
  | h, t :: r => tokOk h t ∧ toksOk (tokOut h t) r
def toksOut (h : List UInt8) (ts : List Tok) : List UInt8 := ts.foldl tokOut h
theorem toksOk_snoc {t : Tok} : ∀ {ts : List Tok} {h : List UInt8}, toksOk h ts → tokOk (toksOut h ts) t → toksOk h (ts ++ [t])
  | [], _, _, h2 => ⟨h2, trivial⟩
  | _ :: _, _, ⟨h1, h1'⟩, h2 => ⟨h1, toksOk_snoc h1' h2⟩
theorem toksOut_snoc (h : List UInt8) (ts : List Tok) (t : Tok) : toksOut h (ts ++ [t]) = tokOut (toksOut h ts) t := by simp [toksOut]
theorem copyN_take {xs : List UInt8} {d : Nat} : ∀ {n a : Nat}, 1 ≤ d → d ≤ a → a + n ≤ xs.length → (∀ j, j < n → gb xs (a + j) = gb xs (a + j - d)) → copyN (xs.take a) d n = xs.take (a + n)
  | 0, _, _, _, _, _ => rfl
  | n + 1, a, hd, hda, hl, he => by
    have h0 := he 0 (by omega)
    have hlen : (xs.take a).length = a := by simp; omega
    have e1 : (xs.take a).getD ((xs.take a).length - d) 0 = xs[a]'(by omega) := by
      rw [hlen]
      have hg1 : gb xs (a - d) = (xs[a - d]'(by omega)).toNat := gb_eq (List.getElem?_eq_getElem (by omega))
      have hg2 : gb xs a = (xs[a]'(by omega)).toNat := gb_eq (List.getElem?_eq_getElem (by omega))
      simp only [Nat.add_zero] at h0
      rw [hg1, hg2] at h0
      have := UInt8.toNat_inj.1 h0
      rw [this]
      simp [List.getD, List.getElem?_take, show a - d < a by omega, show a - d < xs.length by omega]
    rw [copyN, e1]
    have e2 : xs.take a ++ [xs[a]'(by omega)] = xs.take (a + 1) := (List.take_succ_eq_append_getElem (by omega)).symm
    rw [e2, copyN_take (n := n) (a := a + 1) hd (by omega) (by omega) (fun j hj => by have := he (j + 1) (by omega); rw [show a + 1 + j = a + (j + 1) by omega]; exact this)]
    congr 1; omega
theorem lenOf_tab : ∀ s : Nat, 257 ≤ s → s < 285 → (lenOf (s + 1)).1 ≤ (lenOf s).1 + 2 ^ (lenOf s).2 := by
  intro s h1 h2
  have key : ∀ s : Fin 285, 257 ≤ s.val → (lenOf (s.val + 1)).1 ≤ (lenOf s.val).1 + 2 ^ (lenOf s.val).2 := by decide
  exact key ⟨s, h2⟩ h1
theorem distOf_tab : ∀ k : Nat, k < 29 → (distOf (k + 1)).1 ≤ (distOf k).1 + 2 ^ (distOf k).2 := by
  intro k h
  have key : ∀ k : Fin 29, (distOf (k.val + 1)).1 ≤ (distOf k.val).1 + 2 ^ (distOf k.val).2 := by decide
  exact key ⟨k, h⟩
theorem lenOf_small : ∀ s : Nat, 257 ≤ s → s ≤ 285 → (lenOf s).1 ≤ 258 ∧ (lenOf s).2 ≤ 5 := by
  intro s h1 h2
  have key : ∀ s : Fin 286, 257 ≤ s.val → (lenOf s.val).1 ≤ 258 ∧ (lenOf s.val).2 ≤ 5 := by decide
  exact key ⟨s, by omega⟩ h1
theorem distOf_small : ∀ k : Nat, k ≤ 29 → (distOf k).1 ≤ 32768 ∧ (distOf k).2 ≤ 13 := by
  intro k h
  have key : ∀ k : Fin 30, (distOf k.val).1 ≤ 32768 ∧ (distOf k.val).2 ≤ 13 := by decide
  exact key ⟨k, by omega⟩
theorem c89 {w0 : World} {Z : Rows3} {g : Nat} {bits : List Bool} {len dist : Nat} (hw : WR w0 Z w g bits) (hb : bits.length < 274877906944) (h3 : 3 ≤ len) (hl : len ≤ 258) (hd1 : 1 ≤ dist) (hd : dist ≤ 24576) :
    CallT Pg 89 #[.pointer (some ⟨g, 0, none⟩), .int .i64 len, .int .i64 dist] w fun u w' => u = .tuple #[] ∧ ∃ s e ds de, 257 ≤ s ∧ s ≤ 285 ∧ (lenOf s).1 + e = len ∧ e < 2 ^ (lenOf s).2 ∧ ds ≤ 29 ∧ (distOf ds).1 + de = dist ∧ de < 2 ^ (distOf ds).2 ∧ WR w0 Z w' g (bits ++ tokBits (.mat s e ds de)) := by
  apply call89
  unfold wp89
  refine LoopC_of (fun z w' => w' = w ∧ ∃ s k : Nat, z.1 = s ∧ z.2.1 = k ∧ k ≤ 286 ∧ 257 ≤ s ∧ s < k ∧ (lenOf s).1 ≤ len ∧ ∀ j, s < j → j < k → len < (lenOf j).1) (fun z _ => 286 - z.2.1.toNat)
    ⟨rfl, 257, 258, rfl, rfl, by omega, by omega, by omega, by simpa [lenOf] using h3, fun j h1 h2 => by omega⟩ ?_
  rintro ⟨s', k', ⟨⟩⟩ w ⟨rfl, s, k, rfl, rfl, hk, hs, hsk, hbase, hnext⟩
  dsimp only
  refine IfC_dec (fun h => ?_) (fun h => ?_)
  · refine CallT.mono (c99 (by omega) (by omega)) ?_
    rintro _ _ ⟨rfl, rfl⟩
    refine ⟨_, _, rfl, ?_⟩
    rw [wrap_i64_id (by omega) (by omega)]
    refine IfC_dec (fun h' => ?_) (fun h' => ?_)
    · exact ⟨⟨rfl, k, k + 1, rfl, by simp, by omega, by omega, by omega, by omega, fun j h1 h2 => by omega⟩, by omega⟩
    · refine ⟨⟨rfl, s, k + 1, rfl, by simp, by omega, by omega, by omega, by omega, fun j h1 h2 => ?_⟩, by omega⟩
      by_cases hj : j = k
      · subst hj; omega
      · exact hnext j h1 (by omega)
  · have hk' : k = 286 := by omega
    subst hk'
    have hsm := lenOf_small s hs (by omega)
    have he : len - (lenOf s).1 < 2 ^ (lenOf s).2 := by
      by_cases h5 : s = 285
      · subst h5; have : (lenOf 285) = (258, 0) := rfl
        rw [this]; simp; omega
      · have := hnext (s + 1) (by omega) (by omega)
        have := lenOf_tab s hs (by omega)
        omega
    refine CallT.mono (c99 hs (by omega)) ?_
    rintro _ _ ⟨rfl, rfl⟩
    refine ⟨_, _, rfl, ?_⟩
    refine CallT.mono (c88 hw (by omega) (by omega)) ?_
    rintro _ w1 ⟨rfl, hw1⟩
    refine ⟨rfl, ?_⟩
    have hsl := symL_length s
    rw [wrap_i64_id (by omega) (by omega), show (len : Int) - ((lenOf s).1 : Int) = ((len - (lenOf s).1 : Nat) : Int) by omega]
    refine CallT.mono (c66 hw1 (by simp only [List.length_append]; omega) (by omega) (by omega)) ?_
    rintro _ w2 ⟨rfl, hw2⟩
    refine ⟨rfl, ?_⟩
    refine LoopC_of (fun z w' => w' = w2 ∧ ∃ s k : Nat, z.1 = s ∧ z.2.1 = k ∧ k ≤ 30 ∧ s < k ∧ (distOf s).1 ≤ dist ∧ ∀ j, s < j → j < k → dist < (distOf j).1) (fun z _ => 30 - z.2.1.toNat)
      ⟨rfl, 0, 1, rfl, rfl, by omega, by omega, by simpa [distOf] using hd1, fun j h1 h2 => by omega⟩ ?_
    rintro ⟨s', k', ⟨⟩⟩ w2 ⟨rfl, ds, k, rfl, rfl, hk, hsk', hbase', hnext'⟩
    dsimp only
    refine IfC_dec (fun h => ?_) (fun h => ?_)
    · refine CallT.mono (c100 (by omega)) ?_
      rintro _ _ ⟨rfl, rfl⟩
      refine ⟨_, _, rfl, ?_⟩
      rw [wrap_i64_id (by omega) (by omega)]
      refine IfC_dec (fun h' => ?_) (fun h' => ?_)
      · exact ⟨⟨rfl, k, k + 1, rfl, by simp, by omega, by omega, by omega, fun j h1 h2 => by omega⟩, by omega⟩
      · refine ⟨⟨rfl, ds, k + 1, rfl, by simp, by omega, by omega, by omega, fun j h1 h2 => ?_⟩, by omega⟩
        by_cases hj : j = k
        · subst hj; omega
        · exact hnext' j h1 (by omega)
    · have hk' : k = 30 := by omega
      subst hk'
      have hdm := distOf_small ds (by omega)
      have hde : dist - (distOf ds).1 < 2 ^ (distOf ds).2 := by
        by_cases h5 : ds = 29
        · subst h5; have : (distOf 29) = (24577, 13) := rfl
          rw [this] at hbase'; simp at hbase'; omega
        · have := hnext' (ds + 1) (by omega) (by omega)
          have := distOf_tab ds (by omega)
          omega
      refine CallT.mono (c100 (by omega)) ?_
      rintro _ _ ⟨rfl, rfl⟩
      refine ⟨_, _, rfl, ?_⟩
      refine CallT.mono (c98 hw2 (by simp only [List.length_append, bitsL_length]; omega) (by omega) (n := 5) (by omega)) ?_
      rintro _ w3 ⟨rfl, hw3⟩
      refine ⟨rfl, ?_⟩
      rw [wrap_i64_id (by omega) (by omega), show (dist : Int) - ((distOf ds).1 : Int) = ((dist - (distOf ds).1 : Nat) : Int) by omega]
      refine CallT.mono (c66 hw3 (by simp only [List.length_append, bitsL_length, wordL_length]; omega) (by omega) (by omega)) ?_
      rintro _ w4 ⟨rfl, hw4⟩
      refine ⟨rfl, rfl, s, len - (lenOf s).1, ds, dist - (distOf ds).1, hs, by omega, by omega, he, by omega, by omega, hde, ?_⟩
      simpa [tokBits, List.append_assoc] using hw4

theorem minI_nat (a b : Nat) : minI (a : Int) (b : Int) = ((min a b : Nat) : Int) := by unfold minI; split <;> omega
theorem maxI_nat (a b : Nat) : maxI (a : Int) (b : Int) = ((max a b : Nat) : Int) := by unfold maxI; split <;> omega
def farA : Array Value := #[.int .i64 1, .int .i64 2, .int .i64 3, .int .i64 4, .int .i64 6, .int .i64 8, .int .i64 12, .int .i64 17, .int .i64 33, .int .i64 65]
theorem farA_at {i : Nat} (h : i < 10) : ∃ f : Nat, farA[i]? = some (.int .i64 f) ∧ 1 ≤ f ∧ f ≤ 65 := by
  have : i = 0 ∨ i = 1 ∨ i = 2 ∨ i = 3 ∨ i = 4 ∨ i = 5 ∨ i = 6 ∨ i = 7 ∨ i = 8 ∨ i = 9 := by omega
  rcases this with rfl | rfl | rfl | rfl | rfl | rfl | rfl | rfl | rfl | rfl
  · exact ⟨1, rfl, by omega, by omega⟩
  · exact ⟨2, rfl, by omega, by omega⟩
  · exact ⟨3, rfl, by omega, by omega⟩
  · exact ⟨4, rfl, by omega, by omega⟩
  · exact ⟨6, rfl, by omega, by omega⟩
  · exact ⟨8, rfl, by omega, by omega⟩
  · exact ⟨12, rfl, by omega, by omega⟩
  · exact ⟨17, rfl, by omega, by omega⟩
  · exact ⟨33, rfl, by omega, by omega⟩
  · exact ⟨65, rfl, by omega, by omega⟩
theorem c67 {w0 : World} {Z : Rows3} {g fb : Nat} {bits : List Bool} {p : Option Addr} {l c fr to : Nat} {xs : List UInt8} (hw : WR w0 Z w g bits) (hfb : (fb, 3, farA) ∈ Z) (hx : Has w0 p (bv xs)) (hl : l = xs.length) (h1 : fr ≤ to) (h2 : to ≤ l)
    (hb : bits.length + 32 * l < 137438953472) :
    CallT Pg 67 #[.pointer (some ⟨g, 0, none⟩), .slice p l c, .int .i64 fr, .int .i64 to, .slice (some ⟨fb, 0, none⟩) 10 10] w fun u w' => u = .tuple #[] ∧
      ∃ ts, toksOk (xs.take fr) ts ∧ toksOut (xs.take fr) ts = xs.take to ∧ (ts.flatMap tokBits).length ≤ 32 * (to - fr) ∧ WR w0 Z w' g (bits ++ ts.flatMap tokBits ++ symL 256) := by
  apply call67
  unfold wp67
  refine LoopC_of (fun z w' => ∃ (at_ : Nat) (ts : List Tok), z.1 = at_ ∧ fr ≤ at_ ∧ at_ ≤ to ∧ toksOk (xs.take fr) ts ∧ toksOut (xs.take fr) ts = xs.take at_ ∧ (ts.flatMap tokBits).length ≤ 32 * (at_ - fr) ∧ WR w0 Z w' g (bits ++ ts.flatMap tokBits)) (fun z _ => to - z.1.toNat)
    ⟨fr, [], rfl, by omega, by omega, trivial, rfl, by simp, by simpa using hw⟩ ?_
  rintro ⟨at', ⟨⟩⟩ w1 ⟨at_, ts, rfl, ha1, ha2, hok, hout, hlen, hw1⟩
  dsimp only
  refine IfC_dec (fun h => ?_) (fun h => ?_)
  · refine LoopC_of (fun z w' => ∃ n d i : Nat, z.1 = n ∧ z.2.1 = d ∧ z.2.2.1 = i ∧ i ≤ 10 ∧ at_ + n ≤ to ∧ n ≤ 258 ∧ (n = 0 ∨ (1 ≤ d ∧ d ≤ 65 ∧ d ≤ at_ ∧ ∀ j, j < n → gb xs (at_ + j) = gb xs (at_ + j - d))) ∧ WR w0 Z w' g (bits ++ ts.flatMap tokBits)) (fun z _ => 10 - z.2.2.1.toNat)
      ⟨0, 0, 0, rfl, rfl, rfl, by omega, by omega, by omega, .inl rfl, hw1⟩ ?_
    rintro ⟨n', d', i', ⟨⟩⟩ w2 ⟨n, d, i, rfl, rfl, rfl, hi, hn, hn2, hnd, hw2⟩
    dsimp only
    have hxw := hx.fr0 hw2.1
    refine IfC_dec (fun h' => ?_) (fun h' => ?_)
    · obtain ⟨f, hf, hf1, hf2⟩ := farA_at (i := i) (by omega)
      have hZ : hp w2 fb = Row 3 farA := by
        obtain ⟨_, _, p', l', c', out, _, _, _, _, hk⟩ := hw2
        exact (hk _ hfb).1
      refine IdxI (Has.of_row hZ) (by omega) h' (by rw [Int.toNat_natCast]; simpa using hf) ?_
      refine CallT.mono (c87 hxw hl (by omega) (by omega) hf1 (by omega)) ?_
      rintro _ w3 ⟨m, rfl, hf3, hm1, hm2, hm3, hm4⟩
      refine ⟨_, rfl, ?_⟩
      rw [wrap_i64_id (n := (to : Int) - at_) (by omega) (by omega), show (to : Int) - (at_ : Int) = ((to - at_ : Nat) : Int) by omega, minI_nat, wrap_i64_id (by omega) (by omega)]
      refine IfC_dec (fun hgt => ?_) (fun hgt => ?_)
      · exact ⟨⟨min m (to - at_), f, i + 1, rfl, rfl, by simp, by omega, by omega, by omega, .inr ⟨hf1, hf2, by omega, fun j hj => hm4 j (by omega)⟩, hw2.fr hf3⟩, by omega⟩
      · exact ⟨⟨n, d, i + 1, rfl, rfl, by simp, by omega, by omega, by omega, hnd, hw2.fr hf3⟩, by omega⟩
    · refine IfC_dec (fun h3 => ?_) (fun h3 => ?_)
      · refine IdxB hxw hl (by omega) (by omega) ?_
        have hg := gb_lt xs at_
        rw [Int.toNat_natCast, wrap_i64_id (by omega) (by omega)]
        refine CallT.mono (c88 hw2 (by simp only [List.length_append]; omega) (by omega)) ?_
        rintro _ w3 ⟨rfl, hw3⟩
        refine ⟨rfl, ?_⟩
        rw [wrap_i64_id (by omega) (by omega)]
        have hsl := symL_length (gb xs at_)
        have hge : gb xs at_ = (xs[at_]'(by omega)).toNat := gb_eq (List.getElem?_eq_getElem (by omega))
        refine ⟨⟨at_ + 1, ts ++ [.lit (xs[at_]'(by omega))], by simp, by omega, by omega, toksOk_snoc (t := .lit (xs[at_]'(by omega))) hok trivial, ?_, ?_, ?_⟩, by omega⟩
        · rw [toksOut_snoc, hout]; exact (List.take_succ_eq_append_getElem (by omega)).symm
        · simp only [List.flatMap_append, List.length_append, List.flatMap_cons, List.flatMap_nil, List.append_nil, tokBits, ← hge]; omega
        · simpa [tokBits, ← hge, List.append_assoc] using hw3
      · rcases hnd with h0 | ⟨hd1, hd2, hd3, hd4⟩
        · omega
        · refine CallT.mono (c89 hw2 (by simp only [List.length_append]; omega) (by omega) hn2 hd1 (by omega)) ?_
          rintro _ w3 ⟨rfl, s, e, ds, de, k1, k2, k3, k4, k5, k6, k7, hw3⟩
          refine ⟨rfl, ?_⟩
          rw [wrap_i64_id (by omega) (by omega)]
          have hsl := symL_length s
          have hsm := lenOf_small s k1 k2
          have hdm := distOf_small ds k5
          have hlt : (xs.take at_).length = at_ := by simp; omega
          refine ⟨⟨at_ + n, ts ++ [.mat s e ds de], by simp, by omega, by omega, toksOk_snoc hok ?_, ?_, ?_, ?_⟩, by omega⟩
          · rw [hout]; exact ⟨k1, k2, k4, k5, k7, by omega, by omega, by omega⟩
          · rw [toksOut_snoc, hout]
            show copyN (xs.take at_) ((distOf ds).1 + de) ((lenOf s).1 + e) = _
            rw [k3, k6]
            exact copyN_take hd1 hd3 (by omega) hd4
          · simp only [List.flatMap_append, List.length_append, List.flatMap_cons, List.flatMap_nil, List.append_nil, tokBits, bitsL_length, wordL_length]; omega
          · simpa [List.append_assoc] using hw3
  · have : at_ = to := by omega
    subst this
    refine CallT.mono (c88 (s := 256) hw1 (by simp only [List.length_append]; omega) (by omega)) ?_
    rintro _ w3 ⟨rfl, hw3⟩
    exact ⟨rfl, rfl, ts, hok, hout, hlen, hw3⟩
end
end Go.Proofs
