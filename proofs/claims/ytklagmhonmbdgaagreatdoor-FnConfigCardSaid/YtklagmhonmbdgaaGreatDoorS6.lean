/- A step of the proofs (S6): contracts of the functions printed here, for all their arguments that meet what each names. -/
import Derived.Test.YtklagmhonmbdgaaGreatDoorBase
import Derived.Test.YtklagmhonmbdgaaGreatDoorSteps
import Derived.Test.YtklagmhonmbdgaaGreatDoorS5
set_option maxRecDepth 1000000
set_option linter.unusedVariables false
set_option linter.unusedSimpArgs false
set_option maxHeartbeats 4000000
namespace Go.Proofs
open Go Go.V
/-- loop.example/pub-g03440/spec.Packed -/
def wp56 (x0 : Option Addr) (x0l : Nat) (x0c : Nat) (x1 : Int) (x2 : Int) (R : Value → World → Prop) (w : World) : Prop := AllocC w (.cells #[.slice none 0 0, .int .i64 (0 : Int)] 139) fun (r1 : Nat) (w2 : World) => LoopC (fun (J5 : (Int × Unit) → World → Prop) => J5 ((0 : Int), ()) w2) (fun (z3 : (Int × Unit)) (w4 : World) (N6 : (Int × Unit) → World → Prop) => JoinC (fun (z7 : (Unit)) (w8 : World) => JoinC (fun (z10 : (Int × Unit)) (w11 : World) => CallT Pg 65 #[.pointer (some ⟨r1, 0, none⟩), .int .i64 z10.1] w11 fun (v13 : Value) (w14 : World) => And (v13 = .tuple #[]) (DivC (minI (maxI x1 (1 : Int)) (60000 : Int)) (DivC (8 : Int) (ShC (Int.tmod (IntKind.wrap .i64 (Int.tdiv z3.1 (minI (maxI x1 (1 : Int)) (60000 : Int)))) (8 : Int)) (IfC ((bAnd .i64 (shrI .i64 x2 (Int.tmod (IntKind.wrap .i64 (Int.tdiv z3.1 (minI (maxI x1 (1 : Int)) (60000 : Int)))) (8 : Int))) (1 : Int)) == (1 : Int)) (CallT Pg 66 #[.pointer (some ⟨r1, 0, none⟩), .int .i64 (1 : Int), .int .i64 (2 : Int)] w14 fun (v15 : Value) (w16 : World) => And (v15 = .tuple #[]) (AllocC w16 (.cells #[.int .i64 (1 : Int), .int .i64 (2 : Int), .int .i64 (3 : Int), .int .i64 (4 : Int), .int .i64 (6 : Int), .int .i64 (8 : Int), .int .i64 (12 : Int), .int .i64 (17 : Int), .int .i64 (33 : Int), .int .i64 (65 : Int)] 3) fun (r17 : Nat) (w18 : World) => CallT Pg 67 #[.pointer (some ⟨r1, 0, none⟩), .slice x0 x0l x0c, .int .i64 z3.1, .int .i64 (minI (IntKind.wrap .i64 (z3.1 + (minI (maxI x1 (1 : Int)) (60000 : Int)))) (x0l : Int)), .slice (some ⟨r17, 0, none⟩) 10 10] w18 fun (v19 : Value) (w20 : World) => And (v19 = .tuple #[]) (N6 (IntKind.wrap .i64 (z3.1 + (minI (maxI x1 (1 : Int)) (60000 : Int))), ()) w20))) (CallT Pg 66 #[.pointer (some ⟨r1, 0, none⟩), .int .i64 (0 : Int), .int .i64 (2 : Int)] w14 fun (v21 : Value) (w22 : World) => And (v21 = .tuple #[]) (LdI w22 ⟨r1, 0 + 1, none⟩ .i64 fun (n23 : Int) => DivC (8 : Int) (DivC (8 : Int) (CallT Pg 66 #[.pointer (some ⟨r1, 0, none⟩), .int .i64 (0 : Int), .int .i64 (Int.tmod (IntKind.wrap .i64 ((8 : Int) - (Int.tmod n23 (8 : Int)))) (8 : Int))] w22 fun (v24 : Value) (w25 : World) => And (v24 = .tuple #[]) (CallT Pg 66 #[.pointer (some ⟨r1, 0, none⟩), .int .i64 (IntKind.wrap .i64 ((minI (IntKind.wrap .i64 (z3.1 + (minI (maxI x1 (1 : Int)) (60000 : Int)))) (x0l : Int)) - z3.1)), .int .i64 (16 : Int)] w25 fun (v26 : Value) (w27 : World) => And (v26 = .tuple #[]) (CallT Pg 66 #[.pointer (some ⟨r1, 0, none⟩), .int .i64 (IntKind.wrap .i64 ((65535 : Int) - (IntKind.wrap .i64 ((minI (IntKind.wrap .i64 (z3.1 + (minI (maxI x1 (1 : Int)) (60000 : Int)))) (x0l : Int)) - z3.1)))), .int .i64 (16 : Int)] w27 fun (v28 : Value) (w29 : World) => And (v28 = .tuple #[]) (And (0 ≤ minI (IntKind.wrap .i64 (z3.1 + (minI (maxI x1 (1 : Int)) (60000 : Int)))) (x0l : Int) ∧ minI (IntKind.wrap .i64 (z3.1 + (minI (maxI x1 (1 : Int)) (60000 : Int)))) (x0l : Int) ≤ (x0c : Int)) (And (0 ≤ z3.1 ∧ z3.1 ≤ minI (IntKind.wrap .i64 (z3.1 + (minI (maxI x1 (1 : Int)) (60000 : Int)))) (x0l : Int)) (LoopC (fun (J32 : (Int × Unit) → World → Prop) => J32 ((0 : Int), ()) w29) (fun (z30 : (Int × Unit)) (w31 : World) (N33 : (Int × Unit) → World → Prop) => IfC (decide (z30.1 < ((((minI (IntKind.wrap .i64 (z3.1 + (minI (maxI x1 (1 : Int)) (60000 : Int)))) (x0l : Int)).toNat) - z3.1.toNat : Nat) : Int))) (And (0 ≤ z30.1 ∧ z30.1 < ((((minI (IntKind.wrap .i64 (z3.1 + (minI (maxI x1 (1 : Int)) (60000 : Int)))) (x0l : Int)).toNat) - z3.1.toNat : Nat) : Int)) (PtrC (slAdd x0 x0c z3.1.toNat 1) fun (a34 : Addr) => LdI w31 (elemAt a34 z30.1.toNat 1) .u8 fun (n35 : Int) => CallT Pg 66 #[.pointer (some ⟨r1, 0, none⟩), .int .i64 (IntKind.wrap .i64 n35), .int .i64 (8 : Int)] w31 fun (v36 : Value) (w37 : World) => And (v36 = .tuple #[]) (N33 (IntKind.wrap .i64 (z30.1 + (1 : Int)), ()) w37))) (N6 (IntKind.wrap .i64 (z3.1 + (minI (maxI x1 (1 : Int)) (60000 : Int))), ()) w31)))))))))))))))) (fun (J12 : (Int × Unit) → World → Prop) => IfC ((minI (IntKind.wrap .i64 (z3.1 + (minI (maxI x1 (1 : Int)) (60000 : Int)))) (x0l : Int)) == (x0l : Int)) (J12 ((1 : Int), ()) w8) (J12 ((0 : Int), ()) w8))) (fun (J9 : (Unit) → World → Prop) => IfC (z3.1 == (0 : Int)) (J9 (()) w4) (IfC (decide (z3.1 < (x0l : Int))) (J9 (()) w4) (AllocC w4 (.cells #[.int .u8 (120 : Int), .int .u8 (1 : Int)] 5) fun (r38 : Nat) (w39 : World) => LdSl w39 ⟨r1, 0, none⟩ fun (p40 : Option Addr) (l41 : Nat) (c42 : Nat) => AppR Pg w39 #[33, 33] 33 (.slice (some ⟨r38, 0, none⟩) 2 2) (.slice p40 l41 c42) fun (p43 : Option Addr) (l44 : Nat) (c45 : Nat) (w46 : World) => CallT Pg 68 #[.slice x0 x0l x0c] w46 fun (v47 : Value) (w48 : World) => Exists fun (n49 : Int) => And (v47 = .int .u32 n49) (CallT Pg 34 #[.int .u32 n49] w48 fun (v50 : Value) (w51 : World) => Exists fun (p52 : Option Addr) => Exists fun (l53 : Nat) => Exists fun (c54 : Nat) => And (v50 = .slice p52 l53 c54) (AppR Pg w51 #[33, 33] 33 (.slice p43 l44 c45) (.slice p52 l53 c54) fun (p55 : Option Addr) (l56 : Nat) (c57 : Nat) (w58 : World) => R (.slice p55 l56 c57 : Value) w58))))))
theorem eq56 (x0 : Option Addr) (x0l : Nat) (x0c : Nat) (x1 : Int) (x2 : Int) (R : Value → World → Prop) (w : World) : vc Pg Gg (annOf [(10, [(8, .i .i64)], [0, 1, 2, 6, 7]), (11, [], [0, 1, 2, 7, 8]), (23, [(10, .i .i64)], [0, 1, 2, 7, 8, 9]), (52, [(85, .i .i64)], [0, 1, 2, 6, 7, 8, 83, 84])]) 0 (bodyOf Tryz.f56) (retK Pg Tryz.f56.results.toList R) (argE 0 [.slice x0 x0l x0c, .int .i64 x1, .int .i64 x2]) w = wp56 x0 x0l x0c x1 x2 R w := by kernel_rfl
theorem call56 {x0 : Option Addr} {x0l : Nat} {x0c : Nat} {x1 : Int} {x2 : Int} {R : Value → World → Prop} {w : World} (h : wp56 x0 x0l x0c x1 x2 R w) : CallT Pg 56 #[.slice x0 x0l x0c, .int .i64 x1, .int .i64 x2] w R :=
  calls_of_vc follows bodies Tryz.func56 (by kernel_rfl) (by kernel_rfl) (by kernel_rfl) ((eq56 x0 x0l x0c x1 x2 R w).mpr h)

section
variable {w : World}
/-! ### Blocks -/
inductive Blk where
  | stored (last : Bool) (d : List UInt8)
  | fixed (last : Bool) (ts : List Tok)
def Blk.last : Blk → Bool
  | .stored l _ => l
  | .fixed l _ => l
def byteBits (d : List UInt8) : List Bool := d.flatMap fun x => bitsL x.toNat 8
def blkBits (pos : Nat) : Blk → List Bool
  | .stored l d => [l] ++ bitsL 0 2 ++ bitsL 0 ((8 - (pos + 3) % 8) % 8) ++ bitsL d.length 16 ++ bitsL (65535 - d.length) 16 ++ byteBits d
  | .fixed l ts => [l] ++ bitsL 1 2 ++ ts.flatMap tokBits ++ symL 256
def blkOut (h : List UInt8) : Blk → List UInt8
  | .stored _ d => h ++ d
  | .fixed _ ts => toksOut h ts
def blkOk (h : List UInt8) : Blk → Prop
  | .stored _ d => d.length ≤ 65535
  | .fixed _ ts => toksOk h ts
def blksBits : Nat → List Blk → List Bool
  | _, [] => []
  | pos, b :: r => blkBits pos b ++ blksBits (pos + (blkBits pos b).length) r
def blksOk : List UInt8 → List Blk → Prop
  | _, [] => True
  | h, b :: r => blkOk h b ∧ blksOk (blkOut h b) r
def blksOut (h : List UInt8) (bl : List Blk) : List UInt8 := bl.foldl blkOut h
theorem blksBits_snoc (b : Blk) : ∀ (bl : List Blk) (pos : Nat), blksBits pos (bl ++ [b]) = blksBits pos bl ++ blkBits (pos + (blksBits pos bl).length) b
  | [], pos => by simp [blksBits]
  | c :: r, pos => by simp [blksBits, blksBits_snoc b r, Nat.add_assoc]
theorem blksOk_snoc {b : Blk} : ∀ {bl : List Blk} {h : List UInt8}, blksOk h bl → blkOk (blksOut h bl) b → blksOk h (bl ++ [b])
  | [], _, _, h2 => ⟨h2, trivial⟩
  | _ :: _, _, ⟨h1, h1'⟩, h2 => ⟨h1, blksOk_snoc h1' h2⟩
theorem blksOut_snoc (h : List UInt8) (bl : List Blk) (b : Blk) : blksOut h (bl ++ [b]) = blkOut (blksOut h bl) b := by simp [blksOut]
@[simp] theorem byteBits_length (d : List UInt8) : (byteBits d).length = 8 * d.length := by
  induction d with
  | nil => rfl
  | cons x r ih => simp only [byteBits, List.flatMap_cons, List.length_append, bitsL_length, List.length_cons] at *; omega
/-- A stream: blocks of which the last alone is marked. -/
def StreamOf (xs : List UInt8) (bl : List Blk) : Prop := blksOk [] bl ∧ blksOut [] bl = xs ∧ ∃ bi b, bl = bi ++ [b] ∧ b.last = true ∧ ∀ x ∈ bi, x.last = false
/-- What stands in a zlib stream. -/
def ZlibOf (xs zs : List UInt8) : Prop := ∃ bl out, StreamOf xs bl ∧ PackOf out (blksBits 0 bl) ∧ zs = [120, 1] ++ out ++ fourL (adlerL xs)
theorem Sub_ld {p : Option Addr} {c at_ : Nat} {xs : List UInt8} (hx : Has w p (bv xs)) (hc : xs.length ≤ c) {k : Nat} (h : at_ + k < xs.length) {K : Int → Prop} (hK : K (gb xs (at_ + k))) : PtrC (slAdd p c at_ 1) fun a => LdI w (elemAt a k 1) .u8 K := by
  obtain ⟨b, o, rfl, _⟩ := hx.some (bv_gb h)
  rw [slAdd_one _ _ _ _ (by omega), PtrC_some, elemAt_one]
  have := PtrLdI hx (bv_gb h) hK
  rw [PtrC_some, elemAt_one] at this
  rw [Nat.add_assoc]; exact this
theorem WR.add {w0 w w' : World} {Z : Rows3} {g : Nat} {bits : List Bool} {T : TypeId} {arr : Array Value} (h : WR w0 Z w g bits) (hf : Fr [] w w') (hr : hp w' (hn w) = Row T arr) : WR w0 ((hn w, T, arr) :: Z) w' g bits := by
  obtain ⟨h1, h2, p, l, c, out, h3, h4, h5, h6, h7⟩ := h
  refine ⟨h1.trans hf, h2, p, l, c, out, hf.row0 h3, h4.fr0 hf, h5, h6, fun z hz => ?_⟩
  rcases List.mem_cons.1 hz with rfl | hz
  · refine ⟨hr, fun hx => ?_⟩
    rcases List.mem_cons.1 hx with hx | hx
    · have := hp_lt h3; simp only at hx; omega
    · have := h4.blk _ hx; omega
  · exact (h7.fr hf (by simp) (fun x hx => .inl hx)) z hz
theorem WR.drop {w0 w : World} {Z : Rows3} {g : Nat} {bits : List Bool} (h : WR w0 Z w g bits) : WR w0 [] w g bits := by
  obtain ⟨h1, h2, p, l, c, out, h3, h4, h5, h6, h7⟩ := h
  exact ⟨h1, h2, p, l, c, out, h3, h4, h5, h6, fun z hz => by cases hz⟩
theorem WR.row {w0 w : World} {Z : Rows3} {g : Nat} {bits : List Bool} (h : WR w0 Z w g bits) : ∃ p l c, hp w g = Row 139 #[.slice p l c, .int .i64 (bits.length : Int)] := by
  obtain ⟨h1, h2, p, l, c, out, h3, h4, h5, h6, h7⟩ := h
  exact ⟨p, l, c, h3⟩
theorem c56 {p : Option Addr} {l c size ways : Nat} {xs : List UInt8} (hx : Has w p (bv xs)) (hl : l = xs.length) (hlc : l ≤ c) (hb : l ≤ 16777216) (hs : size ≤ 65535) :
    CallT Pg 56 #[.slice p l c, .int .i64 size, .int .i64 ways] w fun v w' => ∃ zs, ZlibOf xs zs ∧ zs.length ≤ 8 * l + 64 ∧ RetB w zs v w' := by
  apply call56
  unfold wp56
  refine AllocC_at fun w1 hg hf1 hn1 => ?_
  have hW : WR w [] w1 (hn w) [] := ⟨hf1, Nat.le_refl _, none, 0, 0, [], hg, by simpa using Own.nil w1 (hn w) 5 1, by simp [blkOf], ⟨rfl, fun i => by simp [gb]⟩, fun z hz => by cases hz⟩
  obtain ⟨sz, hsz, hsz1, hsz2⟩ : ∃ sz : Nat, minI (maxI (size : Int) 1) 60000 = (sz : Int) ∧ 1 ≤ sz ∧ sz ≤ 60000 := by
    refine ⟨min (max size 1) 60000, ?_, by omega, by omega⟩
    have e1 : maxI (size : Int) 1 = ((max size 1 : Nat) : Int) := maxI_nat size 1
    rw [e1]; exact minI_nat _ 60000
  simp only [hsz]
  refine LoopC_of (fun z w' => ∃ (at_ : Nat) (bl : List Blk), z.1 = at_ ∧ at_ ≤ l + 65535 ∧ blksOk [] bl ∧ (blksBits 0 bl).length ≤ 64 * min at_ l + (if at_ = 0 then 0 else 64) ∧ WR w [] w' (hn w) (blksBits 0 bl) ∧
      ((at_ ≤ l ∧ (at_ < l ∨ at_ = 0) ∧ (∀ x ∈ bl, x.last = false) ∧ blksOut [] bl = xs.take at_) ∨ (l ≤ at_ ∧ 0 < at_ ∧ StreamOf xs bl))) (fun z _ => l + 1 - z.1.toNat)
    ⟨0, [], rfl, by omega, trivial, by simp [blksBits], hW, .inl ⟨by omega, .inr rfl, by simp, rfl⟩⟩ ?_
  rintro ⟨at', ⟨⟩⟩ w4 ⟨at_, bl, rfl, hat, hok, hlen, hw4, hst⟩
  dsimp only
  have hlen' : (blksBits 0 bl).length ≤ 64 * l + 64 := by split at hlen <;> omega
  refine JoinC_of (fun _ w' => w' = w4 ∧ (at_ < l ∨ at_ = 0)) ?_ ?_
  · rintro _ w4 ⟨rfl, hcont⟩
    have hst' : at_ ≤ l ∧ (∀ x ∈ bl, x.last = false) ∧ blksOut [] bl = xs.take at_ := by
      rcases hst with ⟨a1, _, a3, a4⟩ | ⟨a1, a2, _⟩
      · exact ⟨a1, a3, a4⟩
      · omega
    obtain ⟨hal, hlast, hout⟩ := hst'
    obtain ⟨to, hto, hto2⟩ : ∃ to : Nat, minI (IntKind.wrap .i64 ((at_ : Int) + (sz : Int))) (l : Int) = (to : Int) ∧ to = min (at_ + sz) l := by
      refine ⟨min (at_ + sz) l, ?_, rfl⟩
      rw [wrap_i64_id (by omega) (by omega), show (at_ : Int) + (sz : Int) = ((at_ + sz : Nat) : Int) by omega, minI_nat]
    simp only [hto]
    have fin : ∀ (b : Blk) (w' : World), blkOk (xs.take at_) b → blkOut (xs.take at_) b = xs.take to → b.last = decide (to = l) → ((blkBits (blksBits 0 bl).length b).length ≤ 8 * (to - at_) + 42 ∨ (blkBits (blksBits 0 bl).length b).length ≤ 32 * (to - at_) + 12) →
        WR w [] w' (hn w) (blksBits 0 bl ++ blkBits (blksBits 0 bl).length b) →
        (∃ (at2 : Nat) (bl : List Blk), IntKind.wrap .i64 ((at_ : Int) + (sz : Int)) = at2 ∧ at2 ≤ l + 65535 ∧ blksOk [] bl ∧ (blksBits 0 bl).length ≤ 64 * min at2 l + (if at2 = 0 then 0 else 64) ∧ WR w [] w' (hn w) (blksBits 0 bl) ∧
          ((at2 ≤ l ∧ (at2 < l ∨ at2 = 0) ∧ (∀ x ∈ bl, x.last = false) ∧ blksOut [] bl = xs.take at2) ∨ (l ≤ at2 ∧ 0 < at2 ∧ StreamOf xs bl))) ∧ l + 1 - (IntKind.wrap .i64 ((at_ : Int) + (sz : Int))).toNat < l + 1 - (at_ : Int).toNat := by
      intro b w' h1 h2 h3 h4 h5
      have hbo := blksBits_snoc b bl 0
      rw [Nat.zero_add] at hbo
      rw [wrap_i64_id (by omega) (by omega)]
      refine ⟨⟨at_ + sz, bl ++ [b], by simp, by omega, blksOk_snoc hok (by rw [hout]; exact h1), ?_, by rw [hbo]; exact h5, ?_⟩, by omega⟩
      · rw [hbo, List.length_append, if_neg (by omega)]
        split at hlen <;> omega
      · by_cases hfin : to = l
        · right
          refine ⟨by omega, by omega, blksOk_snoc hok (by rw [hout]; exact h1), ?_, bl, b, rfl, by rw [h3]; simp [hfin], hlast⟩
          rw [blksOut_snoc, hout, h2, hfin, hl, List.take_length]
        · left
          refine ⟨by omega, by omega, ?_, ?_⟩
          · intro x hx
            rcases List.mem_append.1 hx with hx | hx
            · exact hlast x hx
            · simp at hx; subst hx; rw [h3]; simp [hfin]
          · rw [blksOut_snoc, hout, h2]; congr 1; omega
    refine JoinC_of (fun z w' => w' = w4 ∧ z.1 = (if decide (to = l) = true then 1 else 0 : Int)) ?_ ?_
    · rintro ⟨lv, ⟨⟩⟩ w4 ⟨rfl, rfl⟩
      dsimp only
      refine CallT.mono (c65 hw4 (by omega) _) ?_
      rintro _ w5 ⟨rfl, hw5⟩
      refine ⟨rfl, ?_⟩
      refine DivC_of (by omega) (DivC_of (by decide) ?_)
      have hmod : ∀ n : Int, 0 ≤ n → 0 ≤ Int.tmod n 8 := fun n hn => Int.tmod_nonneg _ hn
      have e1 : Int.tdiv (at_ : Int) (sz : Int) = ((at_ / sz : Nat) : Int) := tdiv_nat _ _
      have hq : at_ / sz ≤ at_ := Nat.div_le_self _ _
      rw [e1]
      generalize at_ / sz = qq at *
      rw [wrap_i64_id (n := (qq : Int)) (by omega) (by omega)]
      refine ShC_of (hmod _ (by omega)) ?_
      have hlo : to - at_ ≤ 65535 := by omega
      refine IfC_bool (fun _ => ?_) (fun _ => ?_)
      · refine CallT.mono (c66 (v := 1) (n := 2) hw5 (by simp; omega) (by omega) (by omega)) ?_
        rintro _ w6 ⟨rfl, hw6⟩
        refine ⟨rfl, ?_⟩
        refine AllocC_at fun w7 hb7 hf7 hn7 => ?_
        have hw7 := hw6.add hf7 hb7
        refine CallT.mono (c67 (fr := at_) (to := to) hw7 (by simp [farA]) hx hl (by omega) (by omega) (by simp; omega)) ?_
        rintro _ w8 ⟨rfl, ts, ht1, ht2, ht3, hw8⟩
        refine ⟨rfl, fin (.fixed (decide (to = l)) ts) w8 ht1 ht2 rfl (.inr ?_) ?_⟩
        · have hsl := symL_length 256
          simp only [blkBits, List.length_append, bitsL_length, List.length_cons, List.length_nil]; omega
        · simpa [blkBits, List.append_assoc] using hw8.drop
      · refine CallT.mono (c66 (v := 0) (n := 2) hw5 (by simp; omega) (by omega) (by omega)) ?_
        rintro _ w6 ⟨rfl, hw6⟩
        refine ⟨rfl, ?_⟩
        obtain ⟨q, ql, qc, hrow6⟩ := hw6.row
        refine LdI_at hrow6 rfl (DivC_of (by decide) (DivC_of (by decide) ?_))
        have hpos : (blksBits 0 bl ++ [decide (to = l)] ++ bitsL 0 2).length = (blksBits 0 bl).length + 3 := by simp
        rw [hpos]
        have e2 : Int.tmod (((blksBits 0 bl).length + 3 : Nat) : Int) 8 = ((((blksBits 0 bl).length + 3) % 8 : Nat) : Int) := tmod_nat _ 8
        have e3 : (8 : Int) - ((((blksBits 0 bl).length + 3) % 8 : Nat) : Int) = ((8 - ((blksBits 0 bl).length + 3) % 8 : Nat) : Int) := by omega
        have e4 : Int.tmod ((8 - ((blksBits 0 bl).length + 3) % 8 : Nat) : Int) 8 = (((8 - ((blksBits 0 bl).length + 3) % 8) % 8 : Nat) : Int) := tmod_nat _ 8
        rw [e2, e3, wrap_i64_id (by omega) (by omega), e4]
        refine CallT.mono (c66 (v := 0) hw6 (by rw [hpos]; omega) (by omega) (by omega)) ?_
        rintro _ w7 ⟨rfl, hw7⟩
        refine ⟨rfl, ?_⟩
        rw [wrap_i64_id (n := (to : Int) - at_) (by omega) (by omega), show (to : Int) - (at_ : Int) = ((to - at_ : Nat) : Int) by omega, wrap_i64_id (by omega) (by omega), show (65535 : Int) - ((to - at_ : Nat) : Int) = ((65535 - (to - at_) : Nat) : Int) by omega]
        refine CallT.mono (c66 (n := 16) hw7 (by simp; omega) (by omega) (by omega)) ?_
        rintro _ w8 ⟨rfl, hw8⟩
        refine ⟨rfl, ?_⟩
        refine CallT.mono (c66 (n := 16) hw8 (by simp; omega) (by omega) (by omega)) ?_
        rintro _ w9 ⟨rfl, hw9⟩
        refine ⟨rfl, ⟨by omega, by omega⟩, ⟨by omega, by omega⟩, ?_⟩
        rw [Int.toNat_natCast, Int.toNat_natCast]
        generalize hB : blksBits 0 bl ++ [decide (to = l)] ++ bitsL 0 2 ++ bitsL 0 ((8 - ((blksBits 0 bl).length + 3) % 8) % 8) ++ bitsL (to - at_) 16 ++ bitsL (65535 - (to - at_)) 16 = B at *
        have hBl : B.length ≤ (blksBits 0 bl).length + 42 := by rw [← hB]; simp; omega
        refine LoopC_of (fun z w' => ∃ k : Nat, z.1 = k ∧ k ≤ to - at_ ∧ WR w [] w' (hn w) (B ++ byteBits ((xs.drop at_).take k))) (fun z _ => to - at_ - z.1.toNat) ⟨0, rfl, by omega, by simpa [byteBits] using hw9⟩ ?_
        rintro ⟨k', ⟨⟩⟩ w10 ⟨k, rfl, hk, hw10⟩
        dsimp only
        refine IfC_dec (fun h => ?_) (fun h => ?_)
        · refine ⟨⟨by omega, h⟩, ?_⟩
          rw [Int.toNat_natCast]
          refine Sub_ld (hx.fr0 hw10.1) (by omega) (by omega) ?_
          have hgl := gb_lt xs (at_ + k)
          rw [wrap_i64_id (by omega) (by omega)]
          refine CallT.mono (c66 (n := 8) hw10 (by simp; omega) (by omega) (by omega)) ?_
          rintro _ w11 ⟨rfl, hw11⟩
          refine ⟨rfl, ?_⟩
          rw [wrap_i64_id (by omega) (by omega)]
          refine ⟨⟨k + 1, by simp, by omega, ?_⟩, by omega⟩
          have e5 : (xs.drop at_).take (k + 1) = (xs.drop at_).take k ++ [xs[at_ + k]'(by omega)] := by
            rw [List.take_succ_eq_append_getElem (by simp; omega)]; simp
          have e6 : gb xs (at_ + k) = (xs[at_ + k]'(by omega)).toNat := gb_eq (List.getElem?_eq_getElem (by omega))
          rw [e5]
          have e7 : byteBits ((xs.drop at_).take k ++ [xs[at_ + k]'(by omega)]) = byteBits ((xs.drop at_).take k) ++ bitsL (gb xs (at_ + k)) 8 := by simp [byteBits, e6]
          rw [e7, ← List.append_assoc]; exact hw11
        · have hke : k = to - at_ := by omega
          subst hke
          have hdl : ((xs.drop at_).take (to - at_)).length = to - at_ := by simp; omega
          refine fin (.stored (decide (to = l)) ((xs.drop at_).take (to - at_))) w10 (by show _ ≤ _; omega) ?_ rfl (.inl ?_) ?_
          · show xs.take at_ ++ (xs.drop at_).take (to - at_) = xs.take to
            rw [← List.take_add]; congr 1; omega
          · simp only [blkBits, List.length_append, bitsL_length, List.length_cons, List.length_nil, byteBits_length, hdl]; omega
          · have : blksBits 0 bl ++ blkBits (blksBits 0 bl).length (.stored (decide (to = l)) ((xs.drop at_).take (to - at_))) = B ++ byteBits ((xs.drop at_).take (to - at_)) := by
              rw [← hB]; simp only [blkBits, hdl, List.append_assoc]
            rw [this]; exact hw10
    · intro J hJ
      refine IfC_bool (fun h => ?_) (fun h => ?_)
      · simp only [beq_iff_eq] at h
        exact hJ _ _ ⟨rfl, by rw [if_pos (by simp; omega)]⟩
      · simp only [beq_eq_false_iff_ne, ne_eq] at h
        exact hJ _ _ ⟨rfl, by rw [if_neg (by simp; omega)]⟩
  · intro J hJ
    refine IfC_bool (fun h => ?_) (fun h => ?_)
    · simp only [beq_iff_eq] at h
      exact hJ _ _ ⟨rfl, by omega⟩
    · simp only [beq_eq_false_iff_ne, ne_eq] at h
      refine IfC_dec (fun h' => ?_) (fun h' => ?_)
      · exact hJ _ _ ⟨rfl, by omega⟩
      · have hS : StreamOf xs bl := by
          rcases hst with ⟨_, a2, _⟩ | ⟨_, _, a3⟩
          · omega
          · exact a3
        obtain ⟨hf4, hg4, q, ql, qc, out, hrow, hoq, hgq, hpk, _⟩ := hw4
        refine AllocC_at fun w5 hb5 hf5 hn5 => ?_
        have hf45 := hf4.trans hf5
        refine LdSl_at (hf5.row0 hrow) rfl ?_
        have hql : ql = out.length := by have := hoq.1; simpa using this.symm
        subst hql
        have h4n := hf4.size
        have ho5 := Own.of_row (base := hn w) (size := 1) (l := 2) hb5 h4n (by simp)
        have hol := hpk.1
        refine AppR_own (S := []) (w0 := w) ok33 hf45 ho5 (hoq.fr0 hf5).has (by simp) (bv_one _) (by omega) (by intro h; subst h; exact hoq.none_iff.2.1) ?_
        intro p6 c6 w6 hf6 _ ho6
        refine CallT.mono (c68 (hx.fr0 hf6) hl (by omega)) ?_
        rintro _ _ ⟨rfl, rfl⟩
        refine ⟨_, rfl, CallT.mono (c34 (adlerL_lt _)) ?_⟩
        rintro _ w7 ⟨hf7, p7, c7, rfl, ho7⟩
        refine ⟨_, _, _, rfl, ?_⟩
        refine AppR_own (S := []) (w0 := w) ok33 (hf6.trans hf7) (ho6.fr0 hf7) ho7.has (by simp) (bv_one _) (by simp only [fourL_length]; omega) (by intro h; subst h; exact ho7.none_iff.2.1) ?_
        intro p8 c8 w8 hf8 _ ho8
        have e : ([120, 1] ++ out ++ fourL (adlerL xs) : List UInt8).length = 2 + out.length + (fourL (adlerL xs)).length := by simp; omega
        refine ⟨_, ⟨bl, out, hS, hpk, rfl⟩, by rw [e, fourL_length]; omega, hf8, p8, c8, by rw [e], ?_⟩
        rw [e]
        have e2 : bv ([120, 1] ++ out ++ fourL (adlerL xs)) = #[Value.int .u8 120, .int .u8 1].toList ++ bv out ++ bv (fourL (adlerL xs)) := by simp [u8v]
        rw [e2]; exact ho8
end
end Go.Proofs
