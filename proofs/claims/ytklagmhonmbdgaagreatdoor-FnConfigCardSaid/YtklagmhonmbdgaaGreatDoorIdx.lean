/- Reading rows by an index. -/
import Derived.Test.YtklagmhonmbdgaaGreatDoorSlices
import Derived.Test.YtklagmhonmbdgaaGreatDoorArith
namespace Go.V
open Go
def gb (xs : List UInt8) (i : Nat) : Nat := (xs.getD i 0).toNat
theorem gb_lt (xs : List UInt8) (i : Nat) : gb xs i < 256 := UInt8.toNat_lt _
theorem gb_eq {xs : List UInt8} {i : Nat} {x : UInt8} (h : xs[i]? = some x) : gb xs i = x.toNat := by simp [gb, List.getD, h]
theorem bv_gb {xs : List UInt8} {i : Nat} (h : i < xs.length) : (bv xs)[i]? = some (.int .u8 (gb xs i)) := by
  rw [bv_get, List.getElem?_eq_getElem h]
  simp [u8v, gb, List.getD, h]
section
variable {w : World} {p : Option Addr} {vs : List Value}
theorem Has.some (h : Has w p vs) {i : Nat} {v : Value} (hv : vs[i]? = some v) : ∃ b o, p = some ⟨b, o, none⟩ ∧ atR (hp w b) (o + i) = some v := by
  cases p with
  | none => have : vs = [] := h; subst this; simp at hv
  | some a =>
    obtain ⟨h0, T, arr, h1, h2⟩ := h
    obtain ⟨b, o, s⟩ := a
    simp only at h0 h1 h2
    subst h0
    exact ⟨b, o, rfl, by rw [h1, atR_Row]; exact h2 i v hv⟩
theorem PtrLdI {k : IntKind} (h : Has w p vs) {i : Nat} {n : Int} (hv : vs[i]? = some (.int k n)) {K : Int → Prop} (hK : K n) : PtrC p fun a => LdI w (elemAt a i 1) k K := by
  obtain ⟨b, o, rfl, h2⟩ := h.some hv
  rw [PtrC_some, elemAt_one, LdI_eq, h2, RdI_some]; exact hK
theorem IdxI {k : IntKind} (h : Has w p vs) {i : Int} {l : Nat} (h0 : 0 ≤ i) (h1 : i < l) {n : Int} (hv : vs[i.toNat]? = some (.int k n)) {K : Int → Prop} (hK : K n) :
    And (0 ≤ i ∧ i < (l : Int)) (PtrC p fun a => LdI w (elemAt a i.toNat 1) k K) := ⟨⟨h0, h1⟩, PtrLdI h hv hK⟩
theorem IdxB {xs : List UInt8} (h : Has w p (bv xs)) {i : Int} {l : Nat} (hl : l = xs.length) (h0 : 0 ≤ i) (h1 : i < l) {K : Int → Prop} (hK : K (gb xs i.toNat)) :
    And (0 ≤ i ∧ i < (l : Int)) (PtrC p fun a => LdI w (elemAt a i.toNat 1) .u8 K) := IdxI h h0 h1 (bv_gb (by omega)) hK
end
/-- An element of one's own row is written. -/
theorem StOwn {S : List Nat} {w0 w : World} {e : Nat} {p : Option Addr} {l c : Nat} {xs : List Value} {i : Nat} {v : Value} (hf : Fr S w0 w) (ho : Own w (hn w0) e 1 p l c xs) (hi : i < l) {K : World → Prop}
    (hK : ∀ w', Fr S w0 w' → Fr (blkOf p) w w' → Own w' (hn w0) e 1 p l c (xs.set i v) → K w') : PtrC p fun a => StoreC w (elemAt a i 1) v K := by
  rcases ho with ⟨hl, ⟨rfl, rfl, rfl⟩ | ⟨g, arr, rfl, hb, hg, hlc, hsz, hx⟩⟩
  · omega
  · rw [PtrC_some, elemAt_one, Nat.zero_add, StoreC_eq w g i v K hg (by rw [hsz]; omega)]
    refine hK _ (hf.upd_new hb) (Fr.upd (by simp [blkOf])) ⟨by simpa using hl, .inr ⟨g, arr.setIfInBounds i v, rfl, hb, by rw [hp_upd_same, hg, setR_Row], hlc, by simpa using hsz, fun j u hj => ?_⟩⟩
    rw [List.getElem?_set] at hj
    rw [Array.getElem?_setIfInBounds]
    split at hj
    · rename_i e1
      subst e1
      have h1 : i < xs.length := by omega
      have h2 : i < arr.size := by rw [hsz]; omega
      simp [h1] at hj
      simp [h2, hj]
    · rename_i e1
      rw [if_neg e1]; exact hx j u hj
theorem bv_set (xs : List UInt8) (i : Nat) (y : UInt8) : (bv xs).set i (u8v y) = bv (xs.set i y) := by simp [bv, List.map_set]
theorem u8_wrap (n : Int) : ∃ y : UInt8, Value.int .u8 (IntKind.wrap .u8 n) = u8v y :=
  ⟨UInt8.ofNat (IntKind.wrap .u8 n).toNat, by simp only [u8v, UInt8.toNat_ofNat']; rw [wrap_u8]; congr 1; omega⟩
theorem Has.slice {w : World} {b o : Nat} {vs : List Value} (h : Has w (Option.some ⟨b, o, Option.none⟩) vs) (i n : Nat) : Has w (Option.some ⟨b, o + i, Option.none⟩) ((vs.drop i).take n) := by
  obtain ⟨_, T, arr, h1, h2⟩ := h
  refine ⟨rfl, T, arr, h1, fun j v hj => ?_⟩
  have := h2 (i + j) v (by
    rw [List.getElem?_take] at hj
    split at hj
    · rw [List.getElem?_drop] at hj; exact hj
    · cases hj)
  simpa [Nat.add_assoc] using this
theorem mem_blkOf {a : Addr} : a.block ∈ blkOf (some a) := by simp [blkOf]
theorem zrow_one {P : Program} {el : TypeId} {z : Value} (h1 : P.cellsOf el = 1) (h2 : zc P el = #[z]) (n : Nat) : zrow P el n = Array.replicate n z := by
  unfold zrow
  rw [h1, h2]
  apply Array.ext
  · simp
  · intro i h1 h2; simp [Nat.mod_one]
theorem bv_zeros (n : Nat) : (Array.replicate n (Value.int .u8 0)) = (bv (List.replicate n 0)).toArray := by
  apply Array.ext'
  simp [bv, u8v]
theorem ShC_eq {n : Int} (h : 0 ≤ n) (X : Prop) : ShC n X = X := by unfold ShC; rw [if_neg (by omega)]
theorem DivC_eq {n : Int} (h : n ≠ 0) (X : Prop) : DivC n X = X := by unfold DivC; rw [if_neg h]
theorem LoopC_of {T : Type} {start : (T → World → Prop) → Prop} {round : T → World → (T → World → Prop) → Prop} (J : T → World → Prop) (m : T → World → Nat) (h1 : start J) (h2 : ∀ z w, J z w → round z w fun z' w' => J z' w' ∧ m z' w' < m z w) : LoopC start round :=
  ⟨J, m, h1, h2⟩
theorem JoinC_of {T : Type} {J : T → World → Prop} {B : (T → World → Prop) → Prop} (I : T → World → Prop) (h1 : ∀ z w, I z w → J z w) (h2 : ∀ J' : T → World → Prop, (∀ z w, I z w → J' z w) → B J') : JoinC J B := h2 J h1
end Go.V
