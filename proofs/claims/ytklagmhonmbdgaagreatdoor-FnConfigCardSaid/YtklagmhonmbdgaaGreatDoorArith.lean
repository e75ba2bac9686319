/- Numbers of a kind as natural numbers. -/
import Derived.Test.YtklagmhonmbdgaaGreatDoorVC
namespace Go.V
open Go
theorem wrap_nat (k : IntKind) {m : Nat} (hm : m ≤ k.bits - (if k.signed then 1 else 0)) {x : Nat} (hx : x < 2 ^ m) : k.wrap (x : Int) = x := by
  have h1 : (2 : Nat) ^ m ≤ 2 ^ (k.bits - (if k.signed then 1 else 0)) := Nat.pow_le_pow_right (by decide) hm
  have key : ∀ (M : Nat) (b : Bool), 2 ^ (k.bits - (if k.signed then 1 else 0)) = M → k.wrap (x : Int) = x ∨ M ≤ x := by
    intro M b hM
    rcases Nat.lt_or_ge x M with h | h
    · left
      subst hM
      cases k <;> simp [IntKind.wrap, IntKind.bits, IntKind.signed] at h ⊢ <;> omega
    · exact .inr h
  rcases key _ true rfl with h | h
  · exact h
  · omega
theorem ofInt_nat (n x : Nat) : BitVec.ofInt n (x : Int) = BitVec.ofNat n x := by
  apply BitVec.eq_of_toNat_eq
  simp
theorem bAnd_nat (k : IntKind) {m : Nat} (hm : m ≤ k.bits - (if k.signed then 1 else 0)) {a b : Nat} (ha : a < 2 ^ m) (hb : b < 2 ^ m) : bAnd k a b = (a &&& b : Nat) := by
  have hk : m ≤ k.bits := by omega
  have ha' : a < 2 ^ k.bits := Nat.lt_of_lt_of_le ha (Nat.pow_le_pow_right (by decide) hk)
  have hb' : b < 2 ^ k.bits := Nat.lt_of_lt_of_le hb (Nat.pow_le_pow_right (by decide) hk)
  unfold bAnd
  rw [ofInt_nat, ofInt_nat, BitVec.toNat_and, BitVec.toNat_ofNat, BitVec.toNat_ofNat, Nat.mod_eq_of_lt ha', Nat.mod_eq_of_lt hb']
  exact wrap_nat k hm (Nat.and_lt_two_pow _ hb)
theorem bOr_nat (k : IntKind) {m : Nat} (hm : m ≤ k.bits - (if k.signed then 1 else 0)) {a b : Nat} (ha : a < 2 ^ m) (hb : b < 2 ^ m) : bOr k a b = (a ||| b : Nat) := by
  have hk : m ≤ k.bits := by omega
  have ha' : a < 2 ^ k.bits := Nat.lt_of_lt_of_le ha (Nat.pow_le_pow_right (by decide) hk)
  have hb' : b < 2 ^ k.bits := Nat.lt_of_lt_of_le hb (Nat.pow_le_pow_right (by decide) hk)
  unfold bOr
  rw [ofInt_nat, ofInt_nat, BitVec.toNat_or, BitVec.toNat_ofNat, BitVec.toNat_ofNat, Nat.mod_eq_of_lt ha', Nat.mod_eq_of_lt hb']
  exact wrap_nat k hm (Nat.or_lt_two_pow ha hb)
theorem bXor_nat (k : IntKind) {m : Nat} (hm : m ≤ k.bits - (if k.signed then 1 else 0)) {a b : Nat} (ha : a < 2 ^ m) (hb : b < 2 ^ m) : bXor k a b = (a ^^^ b : Nat) := by
  have hk : m ≤ k.bits := by omega
  have ha' : a < 2 ^ k.bits := Nat.lt_of_lt_of_le ha (Nat.pow_le_pow_right (by decide) hk)
  have hb' : b < 2 ^ k.bits := Nat.lt_of_lt_of_le hb (Nat.pow_le_pow_right (by decide) hk)
  unfold bXor
  rw [ofInt_nat, ofInt_nat, BitVec.toNat_xor, BitVec.toNat_ofNat, BitVec.toNat_ofNat, Nat.mod_eq_of_lt ha', Nat.mod_eq_of_lt hb']
  exact wrap_nat k hm (Nat.xor_lt_two_pow ha hb)
theorem shrI_nat (k : IntKind) (a c : Nat) (hc : c ≤ k.bits) : shrI k a c = (a / 2 ^ c : Nat) := by
  unfold shrI
  rw [Int.toNat_natCast, Nat.min_eq_left hc, Int.fdiv_eq_ediv_of_nonneg _ (Int.le_of_lt (Int.pow_pos (by decide)))]
  simp
theorem shlI_def (k : IntKind) (a : Int) (c : Nat) (hc : c ≤ k.bits) : shlI k a c = k.wrap (a * 2 ^ c) := by
  unfold shlI
  rw [Int.toNat_natCast, Nat.min_eq_left hc]
theorem to_nat {a : Int} (h : 0 ≤ a) : a = (a.toNat : Int) := (Int.toNat_of_nonneg h).symm
theorem and_u8 {a b : Int} (ha : 0 ≤ a) (ha' : a < 256) (hb : 0 ≤ b) (hb' : b < 256) : bAnd .u8 a b = (a.toNat &&& b.toNat : Nat) := by
  obtain ⟨x, rfl⟩ := Int.eq_ofNat_of_zero_le ha; obtain ⟨y, rfl⟩ := Int.eq_ofNat_of_zero_le hb; rw [bAnd_nat .u8 (m := 8) (by decide) (by omega) (by omega)]; simp
theorem or_u8 {a b : Int} (ha : 0 ≤ a) (ha' : a < 256) (hb : 0 ≤ b) (hb' : b < 256) : bOr .u8 a b = (a.toNat ||| b.toNat : Nat) := by
  obtain ⟨x, rfl⟩ := Int.eq_ofNat_of_zero_le ha; obtain ⟨y, rfl⟩ := Int.eq_ofNat_of_zero_le hb; rw [bOr_nat .u8 (m := 8) (by decide) (by omega) (by omega)]; simp
theorem xor_u8 {a b : Int} (ha : 0 ≤ a) (ha' : a < 256) (hb : 0 ≤ b) (hb' : b < 256) : bXor .u8 a b = (a.toNat ^^^ b.toNat : Nat) := by
  obtain ⟨x, rfl⟩ := Int.eq_ofNat_of_zero_le ha; obtain ⟨y, rfl⟩ := Int.eq_ofNat_of_zero_le hb; rw [bXor_nat .u8 (m := 8) (by decide) (by omega) (by omega)]; simp
theorem shr_u8 {a c : Int} (ha : 0 ≤ a) (hc : 0 ≤ c) (hc' : c ≤ 8) : shrI .u8 a c = (a.toNat / 2 ^ c.toNat : Nat) := by
  obtain ⟨x, rfl⟩ := Int.eq_ofNat_of_zero_le ha; obtain ⟨y, rfl⟩ := Int.eq_ofNat_of_zero_le hc; rw [shrI_nat .u8 _ _ (by simp only [IntKind.bits]; omega)]; simp
theorem shl_u8 {a c : Int} (hc : 0 ≤ c) (hc' : c ≤ 8) : shlI .u8 a c = IntKind.wrap .u8 (a * 2 ^ c.toNat) := by
  obtain ⟨y, rfl⟩ := Int.eq_ofNat_of_zero_le hc; rw [shlI_def .u8 _ _ (by simp only [IntKind.bits]; omega)]; simp
theorem and_u16 {a b : Int} (ha : 0 ≤ a) (ha' : a < 65536) (hb : 0 ≤ b) (hb' : b < 65536) : bAnd .u16 a b = (a.toNat &&& b.toNat : Nat) := by
  obtain ⟨x, rfl⟩ := Int.eq_ofNat_of_zero_le ha; obtain ⟨y, rfl⟩ := Int.eq_ofNat_of_zero_le hb; rw [bAnd_nat .u16 (m := 16) (by decide) (by omega) (by omega)]; simp
theorem or_u16 {a b : Int} (ha : 0 ≤ a) (ha' : a < 65536) (hb : 0 ≤ b) (hb' : b < 65536) : bOr .u16 a b = (a.toNat ||| b.toNat : Nat) := by
  obtain ⟨x, rfl⟩ := Int.eq_ofNat_of_zero_le ha; obtain ⟨y, rfl⟩ := Int.eq_ofNat_of_zero_le hb; rw [bOr_nat .u16 (m := 16) (by decide) (by omega) (by omega)]; simp
theorem xor_u16 {a b : Int} (ha : 0 ≤ a) (ha' : a < 65536) (hb : 0 ≤ b) (hb' : b < 65536) : bXor .u16 a b = (a.toNat ^^^ b.toNat : Nat) := by
  obtain ⟨x, rfl⟩ := Int.eq_ofNat_of_zero_le ha; obtain ⟨y, rfl⟩ := Int.eq_ofNat_of_zero_le hb; rw [bXor_nat .u16 (m := 16) (by decide) (by omega) (by omega)]; simp
theorem shr_u16 {a c : Int} (ha : 0 ≤ a) (hc : 0 ≤ c) (hc' : c ≤ 16) : shrI .u16 a c = (a.toNat / 2 ^ c.toNat : Nat) := by
  obtain ⟨x, rfl⟩ := Int.eq_ofNat_of_zero_le ha; obtain ⟨y, rfl⟩ := Int.eq_ofNat_of_zero_le hc; rw [shrI_nat .u16 _ _ (by simp only [IntKind.bits]; omega)]; simp
theorem shl_u16 {a c : Int} (hc : 0 ≤ c) (hc' : c ≤ 16) : shlI .u16 a c = IntKind.wrap .u16 (a * 2 ^ c.toNat) := by
  obtain ⟨y, rfl⟩ := Int.eq_ofNat_of_zero_le hc; rw [shlI_def .u16 _ _ (by simp only [IntKind.bits]; omega)]; simp
theorem and_u32 {a b : Int} (ha : 0 ≤ a) (ha' : a < 4294967296) (hb : 0 ≤ b) (hb' : b < 4294967296) : bAnd .u32 a b = (a.toNat &&& b.toNat : Nat) := by
  obtain ⟨x, rfl⟩ := Int.eq_ofNat_of_zero_le ha; obtain ⟨y, rfl⟩ := Int.eq_ofNat_of_zero_le hb; rw [bAnd_nat .u32 (m := 32) (by decide) (by omega) (by omega)]; simp
theorem or_u32 {a b : Int} (ha : 0 ≤ a) (ha' : a < 4294967296) (hb : 0 ≤ b) (hb' : b < 4294967296) : bOr .u32 a b = (a.toNat ||| b.toNat : Nat) := by
  obtain ⟨x, rfl⟩ := Int.eq_ofNat_of_zero_le ha; obtain ⟨y, rfl⟩ := Int.eq_ofNat_of_zero_le hb; rw [bOr_nat .u32 (m := 32) (by decide) (by omega) (by omega)]; simp
theorem xor_u32 {a b : Int} (ha : 0 ≤ a) (ha' : a < 4294967296) (hb : 0 ≤ b) (hb' : b < 4294967296) : bXor .u32 a b = (a.toNat ^^^ b.toNat : Nat) := by
  obtain ⟨x, rfl⟩ := Int.eq_ofNat_of_zero_le ha; obtain ⟨y, rfl⟩ := Int.eq_ofNat_of_zero_le hb; rw [bXor_nat .u32 (m := 32) (by decide) (by omega) (by omega)]; simp
theorem shr_u32 {a c : Int} (ha : 0 ≤ a) (hc : 0 ≤ c) (hc' : c ≤ 32) : shrI .u32 a c = (a.toNat / 2 ^ c.toNat : Nat) := by
  obtain ⟨x, rfl⟩ := Int.eq_ofNat_of_zero_le ha; obtain ⟨y, rfl⟩ := Int.eq_ofNat_of_zero_le hc; rw [shrI_nat .u32 _ _ (by simp only [IntKind.bits]; omega)]; simp
theorem shl_u32 {a c : Int} (hc : 0 ≤ c) (hc' : c ≤ 32) : shlI .u32 a c = IntKind.wrap .u32 (a * 2 ^ c.toNat) := by
  obtain ⟨y, rfl⟩ := Int.eq_ofNat_of_zero_le hc; rw [shlI_def .u32 _ _ (by simp only [IntKind.bits]; omega)]; simp
theorem and_u64 {a b : Int} (ha : 0 ≤ a) (ha' : a < 18446744073709551616) (hb : 0 ≤ b) (hb' : b < 18446744073709551616) : bAnd .u64 a b = (a.toNat &&& b.toNat : Nat) := by
  obtain ⟨x, rfl⟩ := Int.eq_ofNat_of_zero_le ha; obtain ⟨y, rfl⟩ := Int.eq_ofNat_of_zero_le hb; rw [bAnd_nat .u64 (m := 64) (by decide) (by omega) (by omega)]; simp
theorem or_u64 {a b : Int} (ha : 0 ≤ a) (ha' : a < 18446744073709551616) (hb : 0 ≤ b) (hb' : b < 18446744073709551616) : bOr .u64 a b = (a.toNat ||| b.toNat : Nat) := by
  obtain ⟨x, rfl⟩ := Int.eq_ofNat_of_zero_le ha; obtain ⟨y, rfl⟩ := Int.eq_ofNat_of_zero_le hb; rw [bOr_nat .u64 (m := 64) (by decide) (by omega) (by omega)]; simp
theorem xor_u64 {a b : Int} (ha : 0 ≤ a) (ha' : a < 18446744073709551616) (hb : 0 ≤ b) (hb' : b < 18446744073709551616) : bXor .u64 a b = (a.toNat ^^^ b.toNat : Nat) := by
  obtain ⟨x, rfl⟩ := Int.eq_ofNat_of_zero_le ha; obtain ⟨y, rfl⟩ := Int.eq_ofNat_of_zero_le hb; rw [bXor_nat .u64 (m := 64) (by decide) (by omega) (by omega)]; simp
theorem shr_u64 {a c : Int} (ha : 0 ≤ a) (hc : 0 ≤ c) (hc' : c ≤ 64) : shrI .u64 a c = (a.toNat / 2 ^ c.toNat : Nat) := by
  obtain ⟨x, rfl⟩ := Int.eq_ofNat_of_zero_le ha; obtain ⟨y, rfl⟩ := Int.eq_ofNat_of_zero_le hc; rw [shrI_nat .u64 _ _ (by simp only [IntKind.bits]; omega)]; simp
theorem shl_u64 {a c : Int} (hc : 0 ≤ c) (hc' : c ≤ 64) : shlI .u64 a c = IntKind.wrap .u64 (a * 2 ^ c.toNat) := by
  obtain ⟨y, rfl⟩ := Int.eq_ofNat_of_zero_le hc; rw [shlI_def .u64 _ _ (by simp only [IntKind.bits]; omega)]; simp
theorem and_i16 {a b : Int} (ha : 0 ≤ a) (ha' : a < 32768) (hb : 0 ≤ b) (hb' : b < 32768) : bAnd .i16 a b = (a.toNat &&& b.toNat : Nat) := by
  obtain ⟨x, rfl⟩ := Int.eq_ofNat_of_zero_le ha; obtain ⟨y, rfl⟩ := Int.eq_ofNat_of_zero_le hb; rw [bAnd_nat .i16 (m := 15) (by decide) (by omega) (by omega)]; simp
theorem or_i16 {a b : Int} (ha : 0 ≤ a) (ha' : a < 32768) (hb : 0 ≤ b) (hb' : b < 32768) : bOr .i16 a b = (a.toNat ||| b.toNat : Nat) := by
  obtain ⟨x, rfl⟩ := Int.eq_ofNat_of_zero_le ha; obtain ⟨y, rfl⟩ := Int.eq_ofNat_of_zero_le hb; rw [bOr_nat .i16 (m := 15) (by decide) (by omega) (by omega)]; simp
theorem xor_i16 {a b : Int} (ha : 0 ≤ a) (ha' : a < 32768) (hb : 0 ≤ b) (hb' : b < 32768) : bXor .i16 a b = (a.toNat ^^^ b.toNat : Nat) := by
  obtain ⟨x, rfl⟩ := Int.eq_ofNat_of_zero_le ha; obtain ⟨y, rfl⟩ := Int.eq_ofNat_of_zero_le hb; rw [bXor_nat .i16 (m := 15) (by decide) (by omega) (by omega)]; simp
theorem shr_i16 {a c : Int} (ha : 0 ≤ a) (hc : 0 ≤ c) (hc' : c ≤ 16) : shrI .i16 a c = (a.toNat / 2 ^ c.toNat : Nat) := by
  obtain ⟨x, rfl⟩ := Int.eq_ofNat_of_zero_le ha; obtain ⟨y, rfl⟩ := Int.eq_ofNat_of_zero_le hc; rw [shrI_nat .i16 _ _ (by simp only [IntKind.bits]; omega)]; simp
theorem shl_i16 {a c : Int} (hc : 0 ≤ c) (hc' : c ≤ 16) : shlI .i16 a c = IntKind.wrap .i16 (a * 2 ^ c.toNat) := by
  obtain ⟨y, rfl⟩ := Int.eq_ofNat_of_zero_le hc; rw [shlI_def .i16 _ _ (by simp only [IntKind.bits]; omega)]; simp
theorem and_i32 {a b : Int} (ha : 0 ≤ a) (ha' : a < 2147483648) (hb : 0 ≤ b) (hb' : b < 2147483648) : bAnd .i32 a b = (a.toNat &&& b.toNat : Nat) := by
  obtain ⟨x, rfl⟩ := Int.eq_ofNat_of_zero_le ha; obtain ⟨y, rfl⟩ := Int.eq_ofNat_of_zero_le hb; rw [bAnd_nat .i32 (m := 31) (by decide) (by omega) (by omega)]; simp
theorem or_i32 {a b : Int} (ha : 0 ≤ a) (ha' : a < 2147483648) (hb : 0 ≤ b) (hb' : b < 2147483648) : bOr .i32 a b = (a.toNat ||| b.toNat : Nat) := by
  obtain ⟨x, rfl⟩ := Int.eq_ofNat_of_zero_le ha; obtain ⟨y, rfl⟩ := Int.eq_ofNat_of_zero_le hb; rw [bOr_nat .i32 (m := 31) (by decide) (by omega) (by omega)]; simp
theorem xor_i32 {a b : Int} (ha : 0 ≤ a) (ha' : a < 2147483648) (hb : 0 ≤ b) (hb' : b < 2147483648) : bXor .i32 a b = (a.toNat ^^^ b.toNat : Nat) := by
  obtain ⟨x, rfl⟩ := Int.eq_ofNat_of_zero_le ha; obtain ⟨y, rfl⟩ := Int.eq_ofNat_of_zero_le hb; rw [bXor_nat .i32 (m := 31) (by decide) (by omega) (by omega)]; simp
theorem shr_i32 {a c : Int} (ha : 0 ≤ a) (hc : 0 ≤ c) (hc' : c ≤ 32) : shrI .i32 a c = (a.toNat / 2 ^ c.toNat : Nat) := by
  obtain ⟨x, rfl⟩ := Int.eq_ofNat_of_zero_le ha; obtain ⟨y, rfl⟩ := Int.eq_ofNat_of_zero_le hc; rw [shrI_nat .i32 _ _ (by simp only [IntKind.bits]; omega)]; simp
theorem shl_i32 {a c : Int} (hc : 0 ≤ c) (hc' : c ≤ 32) : shlI .i32 a c = IntKind.wrap .i32 (a * 2 ^ c.toNat) := by
  obtain ⟨y, rfl⟩ := Int.eq_ofNat_of_zero_le hc; rw [shlI_def .i32 _ _ (by simp only [IntKind.bits]; omega)]; simp
theorem and_i64 {a b : Int} (ha : 0 ≤ a) (ha' : a < 9223372036854775808) (hb : 0 ≤ b) (hb' : b < 9223372036854775808) : bAnd .i64 a b = (a.toNat &&& b.toNat : Nat) := by
  obtain ⟨x, rfl⟩ := Int.eq_ofNat_of_zero_le ha; obtain ⟨y, rfl⟩ := Int.eq_ofNat_of_zero_le hb; rw [bAnd_nat .i64 (m := 63) (by decide) (by omega) (by omega)]; simp
theorem or_i64 {a b : Int} (ha : 0 ≤ a) (ha' : a < 9223372036854775808) (hb : 0 ≤ b) (hb' : b < 9223372036854775808) : bOr .i64 a b = (a.toNat ||| b.toNat : Nat) := by
  obtain ⟨x, rfl⟩ := Int.eq_ofNat_of_zero_le ha; obtain ⟨y, rfl⟩ := Int.eq_ofNat_of_zero_le hb; rw [bOr_nat .i64 (m := 63) (by decide) (by omega) (by omega)]; simp
theorem xor_i64 {a b : Int} (ha : 0 ≤ a) (ha' : a < 9223372036854775808) (hb : 0 ≤ b) (hb' : b < 9223372036854775808) : bXor .i64 a b = (a.toNat ^^^ b.toNat : Nat) := by
  obtain ⟨x, rfl⟩ := Int.eq_ofNat_of_zero_le ha; obtain ⟨y, rfl⟩ := Int.eq_ofNat_of_zero_le hb; rw [bXor_nat .i64 (m := 63) (by decide) (by omega) (by omega)]; simp
theorem shr_i64 {a c : Int} (ha : 0 ≤ a) (hc : 0 ≤ c) (hc' : c ≤ 64) : shrI .i64 a c = (a.toNat / 2 ^ c.toNat : Nat) := by
  obtain ⟨x, rfl⟩ := Int.eq_ofNat_of_zero_le ha; obtain ⟨y, rfl⟩ := Int.eq_ofNat_of_zero_le hc; rw [shrI_nat .i64 _ _ (by simp only [IntKind.bits]; omega)]; simp
theorem shl_i64 {a c : Int} (hc : 0 ≤ c) (hc' : c ≤ 64) : shlI .i64 a c = IntKind.wrap .i64 (a * 2 ^ c.toNat) := by
  obtain ⟨y, rfl⟩ := Int.eq_ofNat_of_zero_le hc; rw [shlI_def .i64 _ _ (by simp only [IntKind.bits]; omega)]; simp
theorem or_add_nat {a b j : Nat} (h : a % 2 ^ j = 0) (hb : b < 2 ^ j) : a ||| b = a + b := by
  have := Nat.two_pow_add_eq_or_of_lt hb (a / 2 ^ j)
  rw [Nat.mul_div_cancel' (Nat.dvd_of_mod_eq_zero h)] at this
  exact this.symm
theorem orAdd_u8 {a b : Int} (j : Nat) (ha : 0 ≤ a) (hj : a % 2 ^ j = 0) (hb : 0 ≤ b) (hbj : b < 2 ^ j) (hs : a + b < 256) : bOr .u8 a b = a + b := by
  obtain ⟨x, rfl⟩ := Int.eq_ofNat_of_zero_le ha; obtain ⟨y, rfl⟩ := Int.eq_ofNat_of_zero_le hb
  rw [bOr_nat .u8 (m := 8) (by decide) (by omega) (by omega), or_add_nat (j := j)]
  · simp
  · have h2 : ((2 : Int) ^ j) = ((2 ^ j : Nat) : Int) := by simp
    rw [h2] at hj; omega
  · have h2 : ((2 : Int) ^ j) = ((2 ^ j : Nat) : Int) := by simp
    rw [h2] at hbj; omega
theorem orAdd_u16 {a b : Int} (j : Nat) (ha : 0 ≤ a) (hj : a % 2 ^ j = 0) (hb : 0 ≤ b) (hbj : b < 2 ^ j) (hs : a + b < 65536) : bOr .u16 a b = a + b := by
  obtain ⟨x, rfl⟩ := Int.eq_ofNat_of_zero_le ha; obtain ⟨y, rfl⟩ := Int.eq_ofNat_of_zero_le hb
  rw [bOr_nat .u16 (m := 16) (by decide) (by omega) (by omega), or_add_nat (j := j)]
  · simp
  · have h2 : ((2 : Int) ^ j) = ((2 ^ j : Nat) : Int) := by simp
    rw [h2] at hj; omega
  · have h2 : ((2 : Int) ^ j) = ((2 ^ j : Nat) : Int) := by simp
    rw [h2] at hbj; omega
theorem orAdd_u32 {a b : Int} (j : Nat) (ha : 0 ≤ a) (hj : a % 2 ^ j = 0) (hb : 0 ≤ b) (hbj : b < 2 ^ j) (hs : a + b < 4294967296) : bOr .u32 a b = a + b := by
  obtain ⟨x, rfl⟩ := Int.eq_ofNat_of_zero_le ha; obtain ⟨y, rfl⟩ := Int.eq_ofNat_of_zero_le hb
  rw [bOr_nat .u32 (m := 32) (by decide) (by omega) (by omega), or_add_nat (j := j)]
  · simp
  · have h2 : ((2 : Int) ^ j) = ((2 ^ j : Nat) : Int) := by simp
    rw [h2] at hj; omega
  · have h2 : ((2 : Int) ^ j) = ((2 ^ j : Nat) : Int) := by simp
    rw [h2] at hbj; omega
theorem orAdd_u64 {a b : Int} (j : Nat) (ha : 0 ≤ a) (hj : a % 2 ^ j = 0) (hb : 0 ≤ b) (hbj : b < 2 ^ j) (hs : a + b < 18446744073709551616) : bOr .u64 a b = a + b := by
  obtain ⟨x, rfl⟩ := Int.eq_ofNat_of_zero_le ha; obtain ⟨y, rfl⟩ := Int.eq_ofNat_of_zero_le hb
  rw [bOr_nat .u64 (m := 64) (by decide) (by omega) (by omega), or_add_nat (j := j)]
  · simp
  · have h2 : ((2 : Int) ^ j) = ((2 ^ j : Nat) : Int) := by simp
    rw [h2] at hj; omega
  · have h2 : ((2 : Int) ^ j) = ((2 ^ j : Nat) : Int) := by simp
    rw [h2] at hbj; omega
theorem orAdd_i16 {a b : Int} (j : Nat) (ha : 0 ≤ a) (hj : a % 2 ^ j = 0) (hb : 0 ≤ b) (hbj : b < 2 ^ j) (hs : a + b < 32768) : bOr .i16 a b = a + b := by
  obtain ⟨x, rfl⟩ := Int.eq_ofNat_of_zero_le ha; obtain ⟨y, rfl⟩ := Int.eq_ofNat_of_zero_le hb
  rw [bOr_nat .i16 (m := 15) (by decide) (by omega) (by omega), or_add_nat (j := j)]
  · simp
  · have h2 : ((2 : Int) ^ j) = ((2 ^ j : Nat) : Int) := by simp
    rw [h2] at hj; omega
  · have h2 : ((2 : Int) ^ j) = ((2 ^ j : Nat) : Int) := by simp
    rw [h2] at hbj; omega
theorem orAdd_i32 {a b : Int} (j : Nat) (ha : 0 ≤ a) (hj : a % 2 ^ j = 0) (hb : 0 ≤ b) (hbj : b < 2 ^ j) (hs : a + b < 2147483648) : bOr .i32 a b = a + b := by
  obtain ⟨x, rfl⟩ := Int.eq_ofNat_of_zero_le ha; obtain ⟨y, rfl⟩ := Int.eq_ofNat_of_zero_le hb
  rw [bOr_nat .i32 (m := 31) (by decide) (by omega) (by omega), or_add_nat (j := j)]
  · simp
  · have h2 : ((2 : Int) ^ j) = ((2 ^ j : Nat) : Int) := by simp
    rw [h2] at hj; omega
  · have h2 : ((2 : Int) ^ j) = ((2 ^ j : Nat) : Int) := by simp
    rw [h2] at hbj; omega
theorem orAdd_i64 {a b : Int} (j : Nat) (ha : 0 ≤ a) (hj : a % 2 ^ j = 0) (hb : 0 ≤ b) (hbj : b < 2 ^ j) (hs : a + b < 9223372036854775808) : bOr .i64 a b = a + b := by
  obtain ⟨x, rfl⟩ := Int.eq_ofNat_of_zero_le ha; obtain ⟨y, rfl⟩ := Int.eq_ofNat_of_zero_le hb
  rw [bOr_nat .i64 (m := 63) (by decide) (by omega) (by omega), or_add_nat (j := j)]
  · simp
  · have h2 : ((2 : Int) ^ j) = ((2 ^ j : Nat) : Int) := by simp
    rw [h2] at hj; omega
  · have h2 : ((2 : Int) ^ j) = ((2 ^ j : Nat) : Int) := by simp
    rw [h2] at hbj; omega
theorem or8_u32 {a b : Int} (ha : 0 ≤ a) (hj : a % 256 = 0) (hb : 0 ≤ b) (hbj : b < 256) (hs : a + b < 4294967296) : bOr .u32 a b = a + b :=
  orAdd_u32 8 ha (by simpa using hj) hb (by simpa using hbj) hs
theorem or16_u32 {a b : Int} (ha : 0 ≤ a) (hj : a % 65536 = 0) (hb : 0 ≤ b) (hbj : b < 65536) (hs : a + b < 4294967296) : bOr .u32 a b = a + b :=
  orAdd_u32 16 ha (by simpa using hj) hb (by simpa using hbj) hs
theorem or24_u32 {a b : Int} (ha : 0 ≤ a) (hj : a % 16777216 = 0) (hb : 0 ≤ b) (hbj : b < 16777216) (hs : a + b < 4294967296) : bOr .u32 a b = a + b :=
  orAdd_u32 24 ha (by simpa using hj) hb (by simpa using hbj) hs
theorem or8_i64 {a b : Int} (ha : 0 ≤ a) (hj : a % 256 = 0) (hb : 0 ≤ b) (hbj : b < 256) (hs : a + b < 9223372036854775808) : bOr .i64 a b = a + b :=
  orAdd_i64 8 ha (by simpa using hj) hb (by simpa using hbj) hs
theorem or16_i64 {a b : Int} (ha : 0 ≤ a) (hj : a % 65536 = 0) (hb : 0 ≤ b) (hbj : b < 65536) (hs : a + b < 9223372036854775808) : bOr .i64 a b = a + b :=
  orAdd_i64 16 ha (by simpa using hj) hb (by simpa using hbj) hs
theorem or24_i64 {a b : Int} (ha : 0 ≤ a) (hj : a % 16777216 = 0) (hb : 0 ≤ b) (hbj : b < 16777216) (hs : a + b < 9223372036854775808) : bOr .i64 a b = a + b :=
  orAdd_i64 24 ha (by simpa using hj) hb (by simpa using hbj) hs
theorem or8_u16 {a b : Int} (ha : 0 ≤ a) (hj : a % 256 = 0) (hb : 0 ≤ b) (hbj : b < 256) (hs : a + b < 65536) : bOr .u16 a b = a + b :=
  orAdd_u16 8 ha (by simpa using hj) hb (by simpa using hbj) hs
theorem or8_u64 {a b : Int} (ha : 0 ≤ a) (hj : a % 256 = 0) (hb : 0 ≤ b) (hbj : b < 256) (hs : a + b < 18446744073709551616) : bOr .u64 a b = a + b :=
  orAdd_u64 8 ha (by simpa using hj) hb (by simpa using hbj) hs
theorem or16_u64 {a b : Int} (ha : 0 ≤ a) (hj : a % 65536 = 0) (hb : 0 ≤ b) (hbj : b < 65536) (hs : a + b < 18446744073709551616) : bOr .u64 a b = a + b :=
  orAdd_u64 16 ha (by simpa using hj) hb (by simpa using hbj) hs
theorem or24_u64 {a b : Int} (ha : 0 ≤ a) (hj : a % 16777216 = 0) (hb : 0 ≤ b) (hbj : b < 16777216) (hs : a + b < 18446744073709551616) : bOr .u64 a b = a + b :=
  orAdd_u64 24 ha (by simpa using hj) hb (by simpa using hbj) hs
theorem or32_u64 {a b : Int} (ha : 0 ≤ a) (hj : a % 4294967296 = 0) (hb : 0 ≤ b) (hbj : b < 4294967296) (hs : a + b < 18446744073709551616) : bOr .u64 a b = a + b :=
  orAdd_u64 32 ha (by simpa using hj) hb (by simpa using hbj) hs
theorem or40_u64 {a b : Int} (ha : 0 ≤ a) (hj : a % 1099511627776 = 0) (hb : 0 ≤ b) (hbj : b < 1099511627776) (hs : a + b < 18446744073709551616) : bOr .u64 a b = a + b :=
  orAdd_u64 40 ha (by simpa using hj) hb (by simpa using hbj) hs
theorem or48_u64 {a b : Int} (ha : 0 ≤ a) (hj : a % 281474976710656 = 0) (hb : 0 ≤ b) (hbj : b < 281474976710656) (hs : a + b < 18446744073709551616) : bOr .u64 a b = a + b :=
  orAdd_u64 48 ha (by simpa using hj) hb (by simpa using hbj) hs
theorem or56_u64 {a b : Int} (ha : 0 ≤ a) (hj : a % 72057594037927936 = 0) (hb : 0 ≤ b) (hbj : b < 72057594037927936) (hs : a + b < 18446744073709551616) : bOr .u64 a b = a + b :=
  orAdd_u64 56 ha (by simpa using hj) hb (by simpa using hbj) hs
theorem wrap_u8 (n : Int) : IntKind.wrap .u8 n = n % 256 := by simp [IntKind.wrap, IntKind.bits, IntKind.signed]
theorem wrap_u8_id {n : Int} (h : 0 ≤ n) (h' : n < 256) : IntKind.wrap .u8 n = n := by rw [wrap_u8]; omega
theorem wrap_u16 (n : Int) : IntKind.wrap .u16 n = n % 65536 := by simp [IntKind.wrap, IntKind.bits, IntKind.signed]
theorem wrap_u16_id {n : Int} (h : 0 ≤ n) (h' : n < 65536) : IntKind.wrap .u16 n = n := by rw [wrap_u16]; omega
theorem wrap_u32 (n : Int) : IntKind.wrap .u32 n = n % 4294967296 := by simp [IntKind.wrap, IntKind.bits, IntKind.signed]
theorem wrap_u32_id {n : Int} (h : 0 ≤ n) (h' : n < 4294967296) : IntKind.wrap .u32 n = n := by rw [wrap_u32]; omega
theorem wrap_u64 (n : Int) : IntKind.wrap .u64 n = n % 18446744073709551616 := by simp [IntKind.wrap, IntKind.bits, IntKind.signed]
theorem wrap_u64_id {n : Int} (h : 0 ≤ n) (h' : n < 18446744073709551616) : IntKind.wrap .u64 n = n := by rw [wrap_u64]; omega
theorem wrap_i8_id {n : Int} (h : -128 ≤ n) (h' : n < 128) : IntKind.wrap .i8 n = n := by
  simp [IntKind.wrap, IntKind.bits, IntKind.signed]; omega
theorem wrap_i16_id {n : Int} (h : -32768 ≤ n) (h' : n < 32768) : IntKind.wrap .i16 n = n := by
  simp [IntKind.wrap, IntKind.bits, IntKind.signed]; omega
theorem wrap_i32_id {n : Int} (h : -2147483648 ≤ n) (h' : n < 2147483648) : IntKind.wrap .i32 n = n := by
  simp [IntKind.wrap, IntKind.bits, IntKind.signed]; omega
theorem wrap_i64_id {n : Int} (h : -9223372036854775808 ≤ n) (h' : n < 9223372036854775808) : IntKind.wrap .i64 n = n := by
  simp [IntKind.wrap, IntKind.bits, IntKind.signed]; omega
end Go.V
