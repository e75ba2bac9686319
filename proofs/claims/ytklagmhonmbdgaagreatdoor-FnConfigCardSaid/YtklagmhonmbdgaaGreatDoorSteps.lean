/- One word of a printed text at a time. -/
import Derived.Test.YtklagmhonmbdgaaGreatDoorIdx
namespace Go.V
open Go
section
variable {w : World} {b i : Nat} {T : TypeId} {arr : Array Value}
theorem LdI_at {k : IntKind} {n : Int} {K : Int → Prop} (h : hp w b = Row T arr) (hv : arr[i]? = some (.int k n)) (hK : K n) : LdI w ⟨b, i, none⟩ k K := by
  rw [LdI_eq, h, atR_Row, hv, RdI_some]; exact hK
theorem LdB_at {n : Bool} {K : Bool → Prop} (h : hp w b = Row T arr) (hv : arr[i]? = some (.bool n)) (hK : K n) : LdB w ⟨b, i, none⟩ K := by
  rw [LdB_eq, h, atR_Row, hv, RdB_some]; exact hK
theorem LdS_at {n : ByteArray} {K : ByteArray → Prop} (h : hp w b = Row T arr) (hv : arr[i]? = some (.string n)) (hK : K n) : LdS w ⟨b, i, none⟩ K := by
  rw [LdS_eq, h, atR_Row, hv, RdS_some]; exact hK
theorem LdSl_at {p : Option Addr} {l c : Nat} {K : Option Addr → Nat → Nat → Prop} (h : hp w b = Row T arr) (hv : arr[i]? = some (.slice p l c)) (hK : K p l c) : LdSl w ⟨b, i, none⟩ K := by
  rw [LdSl_eq, h, atR_Row, hv, RdSl_some]; exact hK
theorem LdP_at {n : Option Addr} {K : Option Addr → Prop} (h : hp w b = Row T arr) (hv : arr[i]? = some (.pointer n)) (hK : K n) : LdP w ⟨b, i, none⟩ K := by
  rw [LdP_eq, h, atR_Row, hv, RdP_some]; exact hK
theorem LdV_at {n : Value} {K : Value → Prop} (h : hp w b = Row T arr) (hv : arr[i]? = some n) (hK : K n) : LdV w ⟨b, i, none⟩ K := by
  rw [LdV_eq, h, atR_Row, hv, RdV_some]; exact hK
theorem StoreC_at {v : Value} {K : World → Prop} (h : hp w b = Row T arr) (hi : i < arr.size) (hK : ∀ w', hp w' b = Row T (arr.setIfInBounds i v) → Fr [b] w w' → hn w' = hn w → K w') : StoreC w ⟨b, i, none⟩ v K := by
  rw [StoreC_eq w b i v K h hi]
  exact hK _ (by rw [hp_upd_same, h, setR_Row]) (Fr.upd (by simp)) (by simp)
theorem AllocC_at {cs : Array Value} {K : Nat → World → Prop} (hK : ∀ w', hp w' (hn w) = Row T cs → Fr [] w w' → hn w' = hn w + 1 → K (hn w) w') : AllocC w (.cells cs T) K := by
  rw [AllocC_eq]
  exact hK _ (hp_alloc_new _ _ _) (Fr.alloc _ _ _) (by simp)
theorem DrewC_at {K : World → Prop} (hK : ∀ w', Fr [] w w' → hn w' = hn w → K w') : DrewC w K := by
  rw [DrewC_eq]; exact hK _ (Fr.drew _ _) (by simp)
end
namespace Fr
variable {S : List Nat} {w w' w0 : World} {b c : Nat} {T : TypeId} {arr : Array Value}
theorem row0 (hf : Fr [] w w') (h : hp w b = Row T arr) : hp w' b = Row T arr := by rw [hf.hp0 (hp_lt h)]; exact h
theorem row (hf : Fr S w w') (h : hp w b = Row T arr) (hb : b ∉ S) : hp w' b = Row T arr := by rw [hf.keep b (hp_lt h) hb]; exact h
theorem row1 (hf : Fr [c] w w') (h : hp w b = Row T arr) (hb : b ≠ c) : hp w' b = Row T arr := hf.row h (by simp [hb])
/-- What is written is new since. -/
theorem new1 (h : Fr S w0 w) (h' : Fr [c] w w') (hc : hn w0 ≤ c) : Fr S w0 w' := h.trans' h' fun x hx hlt => by simp at hx; omega
end Fr
theorem Has.of_row {w : World} {b : Nat} {T : TypeId} {arr : Array Value} (h : hp w b = Row T arr) : Has w (Option.some ⟨b, 0, Option.none⟩) arr.toList := ⟨rfl, T, arr, h, fun j v hj => by simpa using hj⟩
theorem Own.of_row {w : World} {b base : Nat} {T : TypeId} {arr : Array Value} {size l : Nat} (h : hp w b = Row T arr) (hb : base ≤ b) (hs : arr.size = l * size) : Own w base T size (some ⟨b, 0, none⟩) l l arr.toList :=
  ⟨by simpa using hs, .inr ⟨b, arr, rfl, hb, h, Nat.le_refl _, hs, fun j v hj => by simpa using hj⟩⟩
end Go.V
