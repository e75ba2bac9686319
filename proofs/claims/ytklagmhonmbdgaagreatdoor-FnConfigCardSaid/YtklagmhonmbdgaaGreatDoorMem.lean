/- Memory, block by block: what each printed word asks of it. -/
import Derived.Test.YtklagmhonmbdgaaGreatDoorVCAtoms
import Derived.Laws.OwnMore
import Derived.Laws.Concat
import Derived.Laws.BytesArg
namespace Go.V
open Go

/-- A mark beyond the last cell does no harm. -/
def clean : Obj → Obj
  | .cells c T f => .cells c T (if c.size ≤ f.1 then (0, 0) else f)
  | o => o
def hp (w : World) (b : Nat) : Option Obj := (w.heap[b]?).map clean
def hn (w : World) : Nat := w.heap.size
def Row (T : TypeId) (arr : Array Value) : Option Obj := some (.cells arr T (0, 0))
def atR : Option Obj → Nat → Option Value
  | some (.cells c _ _), i => c[i]?
  | _, _ => none
def setR : Option Obj → Nat → Value → Option Obj
  | some (.cells c T f), i, v => some (.cells (c.setIfInBounds i v) T f)
  | o, _, _ => o
def upd (w : World) (b i : Nat) (v : Value) : World := w.setCell ⟨b, i, none⟩ v

section
variable (w : World) (b i : Nat) (v : Value)
theorem cell_hp : w.cell? ⟨b, i, none⟩ = atR (hp w b) i := by
  unfold World.cell? atR hp clean
  cases w.heap[b]? with
  | none => rfl
  | some o => cases o <;> rfl
@[simp] theorem atR_Row (T : TypeId) (arr : Array Value) : atR (Row T arr) i = arr[i]? := rfl
@[simp] theorem setR_Row (T : TypeId) (arr : Array Value) : setR (Row T arr) i v = Row T (arr.setIfInBounds i v) := rfl
@[simp] theorem hp_drew : hp w.drew b = hp w b := rfl
@[simp] theorem hn_drew : hn w.drew = hn w := rfl
@[simp] theorem hn_upd : hn (upd w b i v) = hn w := by simp [hn, upd]
@[simp] theorem hn_alloc (o : Obj) : hn (w.alloc o) = hn w + 1 := by simp [hn]
@[simp] theorem hp_upd_same : hp (upd w b i v) b = setR (hp w b) i v := by
  unfold hp upd World.setCell setR
  simp only [Array.getElem?_modify, if_true]
  cases w.heap[b]? with
  | none => rfl
  | some o => cases o <;> simp [clean]
theorem raw_upd_ne {c : Nat} (h : b ≠ c) : (upd w b i v).heap[c]? = w.heap[c]? := by
  unfold upd World.setCell
  rw [Array.getElem?_modify, if_neg h]
theorem hp_upd_ne {c : Nat} (h : b ≠ c) : hp (upd w b i v) c = hp w c := by
  unfold hp; rw [raw_upd_ne w b i v h]
@[simp] theorem hp_alloc_new (c : Array Value) (T : TypeId) : hp (w.alloc (.cells c T)) (hn w) = Row T c := by
  unfold hp hn World.alloc Row clean
  simp
theorem raw_alloc_old (o : Obj) {c : Nat} (h : c < hn w) : (w.alloc o).heap[c]? = w.heap[c]? := by
  have h' : c ≠ w.heap.size := Nat.ne_of_lt h
  unfold World.alloc
  simp [Array.getElem?_push, h']
theorem hp_alloc_old (o : Obj) {c : Nat} (h : c < hn w) : hp (w.alloc o) c = hp w c := by
  unfold hp; rw [raw_alloc_old w o h]
theorem hp_lt {T : TypeId} {arr : Array Value} {w : World} {b : Nat} (h : hp w b = Row T arr) : b < hn w := by
  unfold hp Row at h
  cases hb : w.heap[b]? with
  | none => simp [hb] at h
  | some o => exact (Array.getElem?_eq_some_iff.1 hb).1
theorem frozen_hp {T : TypeId} {arr : Array Value} (h : hp w b = Row T arr) (hi : i < arr.size) : w.frozen? ⟨b, i, none⟩ = false := by
  unfold hp Row at h
  unfold World.frozen?
  cases hb : w.heap[b]? with
  | none => simp [hb] at h
  | some o =>
    cases o <;> simp [hb, clean] at h ⊢
    obtain ⟨rfl, rfl, h3⟩ := h
    intro h4
    have h7 := h3 (by omega)
    rw [h7]; exact Nat.zero_le _
end

/-! ### Reading and writing -/
def RdI (k : IntKind) (K : Int → Prop) : Option Value → Prop
  | some (.int k' n) => k' = k ∧ K n
  | _ => False
def RdB (K : Bool → Prop) : Option Value → Prop | some (.bool x) => K x | _ => False
def RdS (K : ByteArray → Prop) : Option Value → Prop | some (.string x) => K x | _ => False
def RdSl (K : Option Addr → Nat → Nat → Prop) : Option Value → Prop | some (.slice p l c) => K p l c | _ => False
def RdP (K : Option Addr → Prop) : Option Value → Prop | some (.pointer p) => K p | _ => False
def RdV (K : Value → Prop) : Option Value → Prop | some v => K v | _ => False
@[simp] theorem RdI_some (k : IntKind) (K : Int → Prop) (n : Int) : RdI k K (some (.int k n)) = K n := by simp [RdI]
@[simp] theorem RdB_some (K : Bool → Prop) (n : Bool) : RdB K (some (.bool n)) = K n := rfl
@[simp] theorem RdS_some (K : ByteArray → Prop) (n : ByteArray) : RdS K (some (.string n)) = K n := rfl
@[simp] theorem RdSl_some (K : Option Addr → Nat → Nat → Prop) (p : Option Addr) (l c : Nat) : RdSl K (some (.slice p l c)) = K p l c := rfl
@[simp] theorem RdP_some (K : Option Addr → Prop) (p : Option Addr) : RdP K (some (.pointer p)) = K p := rfl
@[simp] theorem RdV_some (K : Value → Prop) (v : Value) : RdV K (some v) = K v := rfl

section
variable (w : World) (b i : Nat)
theorem LdI_eq (k : IntKind) (K : Int → Prop) : LdI w ⟨b, i, none⟩ k K = RdI k K (atR (hp w b) i) := by
  rw [← cell_hp]
  unfold LdI RdI
  apply propext
  constructor
  · rintro ⟨n, h, hK⟩; rw [h]; exact ⟨rfl, hK⟩
  · intro h; split at h
    · rename_i e; obtain ⟨rfl, hK⟩ := h; exact ⟨_, e, hK⟩
    · exact h.elim
theorem LdB_eq (K : Bool → Prop) : LdB w ⟨b, i, none⟩ K = RdB K (atR (hp w b) i) := by
  rw [← cell_hp]; unfold LdB RdB; apply propext; constructor
  · rintro ⟨n, h, hK⟩; rw [h]; exact hK
  · intro h; split at h
    · rename_i e; exact ⟨_, e, h⟩
    · exact h.elim
theorem LdS_eq (K : ByteArray → Prop) : LdS w ⟨b, i, none⟩ K = RdS K (atR (hp w b) i) := by
  rw [← cell_hp]; unfold LdS RdS; apply propext; constructor
  · rintro ⟨n, h, hK⟩; rw [h]; exact hK
  · intro h; split at h
    · rename_i e; exact ⟨_, e, h⟩
    · exact h.elim
theorem LdSl_eq (K : Option Addr → Nat → Nat → Prop) : LdSl w ⟨b, i, none⟩ K = RdSl K (atR (hp w b) i) := by
  rw [← cell_hp]; unfold LdSl RdSl; apply propext; constructor
  · rintro ⟨p, l, c, h, hK⟩; rw [h]; exact hK
  · intro h; split at h
    · rename_i e; exact ⟨_, _, _, e, h⟩
    · exact h.elim
theorem LdP_eq (K : Option Addr → Prop) : LdP w ⟨b, i, none⟩ K = RdP K (atR (hp w b) i) := by
  rw [← cell_hp]; unfold LdP RdP; apply propext; constructor
  · rintro ⟨n, h, hK⟩; rw [h]; exact hK
  · intro h; split at h
    · rename_i e; exact ⟨_, e, h⟩
    · exact h.elim
theorem LdV_eq (K : Value → Prop) : LdV w ⟨b, i, none⟩ K = RdV K (atR (hp w b) i) := by
  rw [← cell_hp]; unfold LdV RdV; apply propext; constructor
  · rintro ⟨n, h, hK⟩; rw [h]; exact hK
  · intro h; split at h
    · rename_i e; exact ⟨_, e, h⟩
    · exact h.elim
end
theorem StoreC_eq (w : World) (b i : Nat) (v : Value) (K : World → Prop) {T : TypeId} {arr : Array Value} (h : hp w b = Row T arr) (hi : i < arr.size) :
    StoreC w ⟨b, i, none⟩ v K = K (upd w b i v) := by
  apply propext
  constructor
  · intro h'; exact h'.2.2
  · intro hK
    refine ⟨?_, frozen_hp w b i h hi, hK⟩
    rw [cell_hp, h]; simp [hi]
def StO : Option Obj → Nat → Prop → Prop
  | some (.cells c _ (0, 0)), i, X => i < c.size ∧ X
  | _, _, _ => False
@[simp] theorem StO_Row (T : TypeId) (arr : Array Value) (i : Nat) (X : Prop) : StO (Row T arr) i X = (i < arr.size ∧ X) := rfl
theorem StoreC_of {w : World} {b i : Nat} {v : Value} {K : World → Prop} (h : StO (hp w b) i (K (upd w b i v))) : StoreC w ⟨b, i, none⟩ v K := by
  unfold StO at h
  split at h
  · rename_i c T e
    rw [StoreC_eq _ _ _ _ _ e h.1]
    exact h.2
  · exact h.elim
theorem AllocC_eq (w : World) (o : Obj) (K : Nat → World → Prop) : AllocC w o K = K (hn w) (w.alloc o) := rfl
theorem DrewC_eq (w : World) (K : World → Prop) : DrewC w K = K w.drew := rfl
@[simp] theorem PtrC_some (a : Addr) (K : Addr → Prop) : PtrC (some a) K = K a := rfl
@[simp] theorem IfC_true (X Y : Prop) : IfC true X Y = X := rfl
@[simp] theorem IfC_false (X Y : Prop) : IfC false X Y = Y := rfl
theorem IfC_dec {p : Prop} [Decidable p] {X Y : Prop} (h1 : p → X) (h2 : ¬ p → Y) : IfC (decide p) X Y := by
  by_cases h : p
  · simp only [h, decide_true]; exact h1 h
  · simp only [h, decide_false]; exact h2 h
theorem IfC_bool {b : Bool} {X Y : Prop} (h1 : b = true → X) (h2 : b = false → Y) : IfC b X Y := by
  cases b with
  | true => exact h1 rfl
  | false => exact h2 rfl
@[simp] theorem ShC_nat (n : Nat) (X : Prop) : ShC (OfNat.ofNat n : Int) X = X := by
  unfold ShC
  rw [if_neg]
  exact Int.not_lt.2 (Int.natCast_nonneg n)
theorem ShC_cast (n : Nat) (X : Prop) : ShC (n : Int) X = X := by
  unfold ShC
  rw [if_neg (by omega)]
theorem ShC_of {n : Int} {X : Prop} (h : 0 ≤ n) (hX : X) : ShC n X := by
  unfold ShC; rw [if_neg (by omega)]; exact hX
theorem DivC_of {n : Int} {X : Prop} (h : n ≠ 0) (hX : X) : DivC n X := by
  unfold DivC; rw [if_neg h]; exact hX
@[simp] theorem OneC_true (X : Prop) : OneC true X = X := rfl
theorem add_none (b o n : Nat) : (⟨b, o, none⟩ : Addr).add n = ⟨b, o + n, none⟩ := by
  unfold Addr.add; split <;> simp_all
@[simp] theorem elemAt_one (b o i : Nat) : elemAt ⟨b, o, none⟩ i 1 = ⟨b, o + i, none⟩ := add_none b o i
theorem elemAt_many (b o i s : Nat) : elemAt ⟨b, o, none⟩ i s = ⟨b, o + i * s, none⟩ := by
  unfold elemAt
  split
  · rw [add_none]; simp
  · rw [add_none]
@[simp] theorem slAdd_one (b o cap l : Nat) (h : l < cap) : slAdd (some ⟨b, o, none⟩) cap l 1 = some ⟨b, o + l, none⟩ := by
  unfold slAdd
  rw [if_neg (by omega)]
  simp [add_none]

/-! ### Frames -/
structure Fr (S : List Nat) (w w' : World) : Prop where
  os : w'.os = w.os
  tape : w'.tape = w.tape
  output : w'.output = w.output
  size : hn w ≤ hn w'
  raw : ∀ b, b < hn w → b ∉ S → w'.heap[b]? = w.heap[b]?
namespace Fr
variable {S S' : List Nat} {w w' w'' : World} {a b c : Nat}
theorem keep (h : Fr S w w') : ∀ b, b < hn w → b ∉ S → hp w' b = hp w b := fun b hb hn => by unfold hp; rw [h.raw b hb hn]
theorem refl (S : List Nat) (w : World) : Fr S w w := ⟨rfl, rfl, rfl, Nat.le_refl _, fun _ _ _ => rfl⟩
theorem mono (h : Fr S w w') (hs : ∀ x ∈ S, x ∈ S') : Fr S' w w' := ⟨h.os, h.tape, h.output, h.size, fun b hb hn => h.raw b hb fun h' => hn (hs b h')⟩
theorem trans (h : Fr S w w') (h' : Fr S w' w'') : Fr S w w'' :=
  ⟨h'.os.trans h.os, h'.tape.trans h.tape, h'.output.trans h.output, Nat.le_trans h.size h'.size, fun b hb hn => (h'.raw b (Nat.lt_of_lt_of_le hb h.size) hn).trans (h.raw b hb hn)⟩
/-- What is written beyond is new since. -/
theorem trans' (h : Fr S w w') (h' : Fr S' w' w'') (hs : ∀ x ∈ S', x < hn w → x ∈ S) : Fr S w w'' :=
  ⟨h'.os.trans h.os, h'.tape.trans h.tape, h'.output.trans h.output, Nat.le_trans h.size h'.size, fun b hb hn => (h'.raw b (Nat.lt_of_lt_of_le hb h.size) fun hx => hn (hs b hx hb)).trans (h.raw b hb hn)⟩
theorem drew (S : List Nat) (w : World) : Fr S w w.drew := ⟨rfl, rfl, rfl, Nat.le_refl _, fun _ _ _ => rfl⟩
theorem alloc (S : List Nat) (w : World) (o : Obj) : Fr S w (w.alloc o) := ⟨rfl, rfl, rfl, by simp, fun _ hb _ => raw_alloc_old w o hb⟩
theorem upd {i : Nat} {v : Value} (hb : b ∈ S) : Fr S w (upd w b i v) :=
  ⟨rfl, rfl, rfl, by simp, fun c _ hn => raw_upd_ne w b i v fun e => hn (e ▸ hb)⟩
theorem upd_new {i : Nat} {v : Value} (h : Fr S w w') (hb : hn w ≤ b) : Fr S w (V.upd w' b i v) :=
  ⟨h.os, h.tape, h.output, by simpa using h.size, fun c hc hn => (raw_upd_ne w' b i v (by omega)).trans (h.raw c hc hn)⟩
theorem updR {i : Nat} {v : Value} (h : Fr S w w') (hb : b ∈ S) : Fr S w (V.upd w' b i v) := h.trans (upd hb)
theorem drewR (h : Fr S w w') : Fr S w w'.drew := h.trans (drew _ _)
theorem allocR (h : Fr S w w') (o : Obj) : Fr S w (w'.alloc o) := h.trans (alloc _ _ _)
theorem hp0 (h : Fr [] w w') (hb : b < hn w) : hp w' b = hp w b := h.keep b hb (by simp)
theorem hp1 (h : Fr [a] w w') (hb : b < hn w) (h1 : b ≠ a) : hp w' b = hp w b := h.keep b hb (by simp [h1])
theorem hp2 (h : Fr [a, c] w w') (hb : b < hn w) (h1 : b ≠ a) (h2 : b ≠ c) : hp w' b = hp w b := h.keep b hb (by simp [h1, h2])
end Fr

/-! ### Rows of values -/
/-- What can be read at a place. -/
def Has (w : World) (p : Option Addr) (vs : List Value) : Prop :=
  match p with
  | none => vs = []
  | some a => a.spot = none ∧ ∃ T arr, hp w a.block = Row T arr ∧ ∀ j v, vs[j]? = some v → arr[a.off + j]? = some v
def u8v (x : UInt8) : Value := .int .u8 x.toNat
def bv (xs : List UInt8) : List Value := xs.map u8v
@[simp] theorem bv_length (xs : List UInt8) : (bv xs).length = xs.length := by simp [bv]
@[simp] theorem bv_append (xs ys : List UInt8) : bv (xs ++ ys) = bv xs ++ bv ys := by simp [bv]
@[simp] theorem bv_nil : bv [] = [] := rfl
@[simp] theorem bv_cons (x : UInt8) (xs : List UInt8) : bv (x :: xs) = u8v x :: bv xs := rfl
theorem bv_get (xs : List UInt8) (i : Nat) : (bv xs)[i]? = (xs[i]?).map u8v := by simp [bv]
theorem bv_inj {xs ys : List UInt8} (h : bv xs = bv ys) : xs = ys := by
  induction xs generalizing ys with
  | nil => cases ys with | nil => rfl | cons y ys => simp at h
  | cons x xs ih =>
    cases ys with
    | nil => simp at h
    | cons y ys =>
      simp only [bv_cons, List.cons.injEq, u8v, Value.int.injEq, true_and] at h
      have : x.toNat = y.toNat := by omega
      rw [ih h.2, UInt8.toNat_inj.1 this]

theorem Has.fr {S : List Nat} {w w' : World} {p : Option Addr} {vs : List Value} (h : Has w p vs) (hf : Fr S w w') (hS : ∀ a, p = some a → a.block ∉ S) : Has w' p vs := by
  cases p with
  | none => exact h
  | some a =>
    obtain ⟨h0, T, arr, h1, h2⟩ := h
    exact ⟨h0, T, arr, by rw [hf.keep _ (hp_lt h1) (hS a rfl)]; exact h1, h2⟩
theorem Has.fr0 {w w' : World} {p : Option Addr} {vs : List Value} (h : Has w p vs) (hf : Fr [] w w') : Has w' p vs := h.fr hf (by simp)

/-- A row of one's own: in a block behind `base`, from its begin. -/
def Own (w : World) (base : Nat) (e : TypeId) (size : Nat) (p : Option Addr) (l c : Nat) (xs : List Value) : Prop :=
  xs.length = l * size ∧ ((p = none ∧ l = 0 ∧ c = 0) ∨
    ∃ (g : Nat) (arr : Array Value), p = some ⟨g, 0, none⟩ ∧ base ≤ g ∧ hp w g = Row e arr ∧ l ≤ c ∧ arr.size = c * size ∧ ∀ (j : Nat) (v : Value), xs[j]? = some v → arr[j]? = some v)
def blkOf : Option Addr → List Nat
  | some a => [a.block]
  | none => []

section
variable {w w' : World} {base : Nat} {e : TypeId} {size : Nat} {p : Option Addr} {l c : Nat} {xs : List Value}
theorem Own.has (h : Own w base e size p l c xs) : Has w p xs := by
  rcases h with ⟨hl, ⟨rfl, rfl, rfl⟩ | ⟨g, arr, rfl, _, hg, _, _, hx⟩⟩
  · simp at hl; exact hl
  · exact ⟨rfl, e, arr, hg, by simpa using hx⟩
theorem Own.fr {S : List Nat} (h : Own w base e size p l c xs) (hf : Fr S w w') (hS : ∀ a, p = some a → a.block ∉ S) : Own w' base e size p l c xs := by
  rcases h with ⟨hl, hn | ⟨g, arr, rfl, hb, hg, h1, h2, hx⟩⟩
  · exact ⟨hl, .inl hn⟩
  · exact ⟨hl, .inr ⟨g, arr, rfl, hb, by rw [hf.keep _ (hp_lt hg) (hS _ rfl)]; exact hg, h1, h2, hx⟩⟩
theorem Own.fr0 (h : Own w base e size p l c xs) (hf : Fr [] w w') : Own w' base e size p l c xs := h.fr hf (by simp)
theorem Own.base_le {base' : Nat} (h : Own w base e size p l c xs) (hb : base' ≤ base) : Own w base' e size p l c xs := by
  rcases h with ⟨hl, hn | ⟨g, arr, rfl, hb', rest⟩⟩
  · exact ⟨hl, .inl hn⟩
  · exact ⟨hl, .inr ⟨g, arr, rfl, Nat.le_trans hb hb', rest⟩⟩
theorem Own.blk (h : Own w base e size p l c xs) : ∀ x ∈ blkOf p, base ≤ x ∧ x < hn w := by
  rcases h with ⟨hl, ⟨rfl, _⟩ | ⟨g, arr, rfl, hb, hg, _⟩⟩
  · simp [blkOf]
  · simp [blkOf]; exact ⟨hb, hp_lt hg⟩
theorem Own.at (h : Own w base e size p l c xs) {a : Addr} (ha : p = some a) : a.spot = none ∧ a.off = 0 ∧ base ≤ a.block ∧ a.block < hn w := by
  rcases h with ⟨hl, ⟨rfl, _⟩ | ⟨g, arr, rfl, hb, hg, _⟩⟩
  · cases ha
  · cases ha; exact ⟨rfl, rfl, hb, hp_lt hg⟩
theorem Own.nil (w : World) (base : Nat) (e : TypeId) (size : Nat) : Own w base e size none 0 0 [] := ⟨by simp, .inl ⟨rfl, rfl, rfl⟩⟩
theorem Own.none_iff (h : Own w base e size none l c xs) : l = 0 ∧ c = 0 ∧ xs = [] := by
  rcases h with ⟨hl, ⟨_, rfl, rfl⟩ | ⟨g, arr, h, _⟩⟩
  · simp at hl; exact ⟨rfl, rfl, hl⟩
  · cases h
end

/-- A new block is a row of one's own. -/
theorem Own.new {w : World} {base : Nat} {e : TypeId} {size : Nat} {cs : Array Value} {l : Nat} (hb : base ≤ hn w) (hs : cs.size = l * size) :
    Own (w.alloc (.cells cs e)) base e size (some ⟨hn w, 0, none⟩) l l cs.toList :=
  ⟨by simpa using hs, .inr ⟨hn w, cs, rfl, hb, by simp, Nat.le_refl _, hs, fun j v h => by simpa using h⟩⟩

/-! ### Many stores -/
def updL (w : World) (g o : Nat) : List Value → World
  | [] => w
  | v :: r => updL (upd w g o v) g (o + 1) r
theorem hn_updL (w : World) (g o : Nat) (vs : List Value) : hn (updL w g o vs) = hn w := by
  induction vs generalizing w o with
  | nil => rfl
  | cons v r ih => simp [updL, ih]
theorem Fr.updL {S : List Nat} {w : World} {g o : Nat} {vs : List Value} (hb : g ∈ S) : Fr S w (updL w g o vs) := by
  induction vs generalizing w o with
  | nil => exact Fr.refl _ _
  | cons v r ih => exact (Fr.upd hb).trans ih
theorem hp_updL {g : Nat} {T : TypeId} : ∀ {vs : List Value} {w : World} {o : Nat} {arr : Array Value}, hp w g = Row T arr → o + vs.length ≤ arr.size →
    ∃ arr', hp (updL w g o vs) g = Row T arr' ∧ arr'.size = arr.size ∧ ∀ j, arr'[j]? = if o ≤ j ∧ j < o + vs.length then vs[j - o]? else arr[j]?
  | [], w, o, arr, h, _ => ⟨arr, h, rfl, fun j => by simp; intro h1 h2; omega⟩
  | v :: r, w, o, arr, h, hl => by
    simp only [List.length_cons] at hl
    obtain ⟨arr', h1, h2, h3⟩ := hp_updL (vs := r) (w := upd w g o v) (o := o + 1) (arr := arr.setIfInBounds o v) (by rw [hp_upd_same, h, setR_Row]) (by simp; omega)
    refine ⟨arr', h1, by simpa using h2, fun j => ?_⟩
    rw [h3 j]
    simp only [List.length_cons]
    by_cases hj : j = o
    · subst hj
      have : j < arr.size := by omega
      rw [if_neg (by omega), if_pos (by omega)]
      simp [this]
    · by_cases hj2 : o + 1 ≤ j ∧ j < o + 1 + r.length
      · rw [if_pos hj2, if_pos (by omega)]
        have : j - o = (j - (o + 1)) + 1 := by omega
        rw [this]; rfl
      · rw [if_neg hj2, if_neg (by omega), Array.getElem?_setIfInBounds_ne (by omega)]
theorem run_storeL {P : Program} {g : Nat} {T : TypeId} : ∀ {vs : List Value} {w : World} {i o : Nat} {arr : Array Value}, hp w g = Row T arr → o + i + vs.length ≤ arr.size → (∀ v ∈ vs, v.oneCell' = true) →
    (storeCells ⟨g, o, none⟩ vs i).run P w = .ok () (updL w g (o + i) vs)
  | [], w, i, o, arr, _, _, _ => by simp [storeCells, updL]
  | v :: r, w, i, o, arr, h, hl, h1 => by
    simp only [List.length_cons] at hl
    have hi : o + i < arr.size := by omega
    have hc : w.cell? ⟨g, o + i, none⟩ = some arr[o + i] := by rw [cell_hp, h]; simp [hi]
    have hst : (store ((⟨g, o, none⟩ : Addr).add i) v).run P w = .ok () (upd w g (o + i) v) := by
      rw [add_none, run_store P w _ v _ (h1 v (by simp)), hc]
      simp [frozen_hp w g (o + i) h hi, upd]
    have ih := run_storeL (P := P) (vs := r) (w := upd w g (o + i) v) (i := i + 1) (o := o) (arr := arr.setIfInBounds (o + i) v) (by rw [hp_upd_same, h, setR_Row]) (by simp; omega) (fun x hx => h1 x (by simp [hx]))
    simp only [storeCells, Sem.run_bind, hst, Result.andThen_ok, ih, updL]
    rfl
end Go.V
