/- Growing, copying and converting rows. -/
import Derived.Test.YtklagmhonmbdgaaGreatDoorMem
import Derived.Laws.IdiomStrings
namespace Go.V
open Go

def elOK (P : Program) (t e size bytes : Nat) : Bool :=
  match P.underlying t, P.info? e with
  | some (.slice e'), some i => Nat.beq e' e && Nat.beq i.size size && Nat.beq i.bytes bytes && Nat.blt 0 size && Nat.ble bytes 64 && (match i.zero with | some z => Nat.beq z.cells.size size | none => false)
  | _, _ => false
section
variable {P : Program} {t ty e size bytes : Nat}
theorem elOK_spec (h : elOK P t e size bytes = true) : P.underlying t = some (.slice e) ∧ ∃ i z, P.info? e = some i ∧ i.size = size ∧ i.bytes = bytes ∧ i.zero = some z ∧ z.cells.size = size ∧ 0 < size ∧ bytes ≤ 64 := by
  unfold elOK at h
  split at h
  · rename_i e' i h1 h2
    simp only [Bool.and_eq_true, Nat.ble_eq] at h
    obtain ⟨⟨⟨⟨⟨e1, e2⟩, e3⟩, h3⟩, h4⟩, h5⟩ := h
    have e1 := Nat.eq_of_beq_eq_true e1
    have e2 := Nat.eq_of_beq_eq_true e2
    have e3 := Nat.eq_of_beq_eq_true e3
    subst e1 e2 e3
    split at h5
    · rename_i z hz
      exact ⟨h1, i, z, h2, rfl, rfl, hz, Nat.eq_of_beq_eq_true h5, Nat.lt_of_succ_le (Nat.le_of_ble_eq_true h3), h4⟩
    · cases h5
  · cases h

theorem Has.cells {w : World} {a : Addr} {vs : List Value} (h : Has w (some a) vs) : ∀ (j : Nat) (v : Value), vs[j]? = some v → w.cell? (a.add j) = some v := by
  obtain ⟨h0, T, arr, h1, h2⟩ := h
  intro j v hv
  obtain ⟨b, o, s⟩ := a
  simp only at h0 h1 h2
  subst h0
  rw [add_none, cell_hp, h1, atR_Row]
  exact h2 j v hv

theorem AppR_own2 (hok : elOK P t e size bytes = true) {S : List Nat} {w0 w : World} (hf : Fr S w0 w) {p : Option Addr} {l c : Nat} {xs : List Value} (hown : Own w (hn w0) e size p l c xs)
    {q : Option Addr} {m d : Nat} {news : List Value} (hx : Has w q news) (hm : news.length = m * size) (h1 : ∀ u ∈ news, u.oneCell' = true) (hbig : l + m ≤ 1099511627776) (hd : q = none → d = 0)
    {K : Option Addr → Nat → Nat → World → Prop} (hK : ∀ p' c' w', Fr S w0 w' → Fr (blkOf p) w w' → Own w' (hn w0) e size p' (l + m) c' (xs ++ news) → (∀ x ∈ blkOf p', x ∈ blkOf p ∨ hn w ≤ x) → K p' (l + m) c' w') :
    AppR P w #[t, t] ty (.slice p l c) (.slice q m d) K := by
  obtain ⟨ht, i, z, hi, rfl, rfl, hz, hzs, hpos, hb64⟩ := elOK_spec hok
  have hnew : ∀ (need old : Nat) (ys : List Value), ys.length = need * i.size → hn w0 ≤ hn w → need ≤ grownCap w need old e →
      Own (w.drew.alloc (.cells (ys.toArray ++ Builtin.zeroCells z.cells (grownCap w need old e - need)) e)) (hn w0) e i.size (some ⟨w.heap.size, 0, none⟩) need (grownCap w need old e) ys := by
    intro need old ys hys hle hcap
    refine ⟨hys, .inr ⟨hn w, _, rfl, hle, by rw [← hn_drew w, hp_alloc_new], hcap, ?_, fun j v hj => ?_⟩⟩
    · rw [Array.size_append, size_zeroCells, hzs]
      simp only [List.size_toArray, hys]
      rw [← Nat.add_mul]; congr 1; omega
    · rw [Array.getElem?_append_left (by simp; exact (List.getElem?_eq_some_iff.1 hj).1)]
      simpa using hj
  have hsz := hf.size
  have same : ∀ {w' : World}, w' = w → m = 0 → K p (l + m) c w' := by
    intro w' e1 e2
    subst e1 e2
    have : news = [] := List.length_eq_zero_iff.1 (by rw [hm]; simp)
    subst this
    exact hK p c w' hf (Fr.refl _ _) (by simpa using hown) (fun x hx => .inl hx)
  cases q with
  | none =>
    have hnil : news = [] := hx
    subst hnil
    have hm0 : m = 0 := by
      simp only [List.length_nil] at hm
      rcases Nat.mul_eq_zero.1 hm.symm with h | h
      · exact h
      · omega
    have hd0 := hd rfl
    subst hd0
    refine ⟨p, l + m, c, w, ?_, same rfl hm0⟩
    subst hm0
    rcases hown with ⟨_, ⟨rfl, rfl, rfl⟩ | ⟨g, arr, rfl, _, _, hlc, _⟩⟩
    · simp [Builtin.append_, run_underlying ht, sizeOf, typeInfo, hi, Builtin.lenOf, Builtin.firstCells]
    · simp [Builtin.append_, run_underlying ht, sizeOf, typeInfo, hi, Builtin.lenOf, Builtin.firstCells, hlc, storeCells]
  | some a =>
    have hcs := hx.cells
    rcases hown with ⟨hl, ⟨rfl, rfl, rfl⟩ | ⟨g, arr, rfl, hbg, hg, hlc, hsize, hxs⟩⟩
    · have hxs0 : xs = [] := List.length_eq_zero_iff.1 (by rw [hl]; simp)
      subst hxs0
      rcases Nat.eq_zero_or_pos m with rfl | hpos'
      · have : news = [] := List.length_eq_zero_iff.1 (by rw [hm]; simp)
        subst this
        refine ⟨none, 0 + 0, 0, w, ?_, same rfl rfl⟩
        simp [Builtin.append_, run_underlying ht, sizeOf, typeInfo, hi, Builtin.lenOf, Builtin.firstCells, loadCells, loadCellsFrom]
      · have hr := run_append_nil (P := P) w t ty e i z ht hi hz a m d news hm hcs hpos' (by omega) (by
          calc m * i.bytes ≤ 1099511627776 * 64 := Nat.mul_le_mul (by omega) hb64
            _ ≤ 281474976710656 := by decide)
        have hg' := hnew m 0 news hm hsz (grownCap_ge _ _ _ _)
        refine ⟨_, _, _, _, hr, ?_⟩
        have := hK (some ⟨w.heap.size, 0, none⟩) (grownCap w m 0 e) _ ((hf.drewR).allocR _) ((Fr.drew _ _).allocR _) (by simpa using hg') (fun x hx => .inr (by simp [blkOf] at hx; subst hx; exact Nat.le_refl _))
        simpa using this
    · by_cases hroom : l + m ≤ c
      · have hfit : l * i.size + news.length ≤ arr.size := by rw [hm, hsize, ← Nat.add_mul]; exact Nat.mul_le_mul_right _ hroom
        have hst := run_storeL (P := P) (vs := news) (w := w) (i := 0) (o := l * i.size) hg (by simpa using hfit) h1
        have hfc := run_firstCells_some (P := P) w i.size m a m d news hm hcs
        refine ⟨some ⟨g, 0, none⟩, l + m, c, updL w g (l * i.size) news, ?_, ?_⟩
        · simp only [Nat.add_zero] at hst
          simp [Builtin.append_, run_underlying ht, sizeOf, typeInfo, hi, Builtin.lenOf, hroom, hfc, Addr.add_lit, hst]
        · obtain ⟨arr', h2, h3, h4⟩ := hp_updL (vs := news) (o := l * i.size) hg hfit
          refine hK _ _ _ (hf.trans' (S' := [g]) (Fr.updL (by simp)) (fun x hx hlt => by simp at hx; omega)) (Fr.updL (by simp [blkOf])) ⟨by rw [List.length_append, hl, hm, Nat.add_mul], .inr ⟨g, arr', rfl, hbg, h2, hroom, by rw [h3, hsize], fun j v hj => ?_⟩⟩ (fun x hx => .inl hx)
          rw [h4 j]
          by_cases hjl : j < xs.length
          · rw [List.getElem?_append_left hjl] at hj
            rw [if_neg (by omega)]
            exact hxs j v hj
          · rw [List.getElem?_append_right (by omega)] at hj
            have := (List.getElem?_eq_some_iff.1 hj).1
            rw [if_pos (by omega), ← hj, hl]
      · have holds : ∀ (j : Nat) (v : Value), xs[j]? = some v → w.cell? ((⟨g, 0, none⟩ : Addr).add j) = some v := by
          intro j v hj
          rw [add_none, cell_hp, hg, atR_Row]
          simpa using hxs j v hj
        have hr := run_append_grow (P := P) w t ty e i z ht hi hz ⟨g, 0, none⟩ l c xs hl holds a m d news hm hcs (by omega) (by omega) (growslice_fits (by omega) (by
          calc (l + m) * i.bytes ≤ 1099511627776 * 64 := Nat.mul_le_mul hbig hb64
            _ ≤ 140737488355328 := by decide))
        have hg' := hnew (l + m) c (xs ++ news) (by rw [List.length_append, hl, hm, Nat.add_mul]) hsz (grownCap_ge _ _ _ _)
        refine ⟨_, _, _, _, hr, ?_⟩
        have := hK (some ⟨w.heap.size, 0, none⟩) (grownCap w (l + m) c e) _ ((hf.drewR).allocR _) ((Fr.drew _ _).allocR _) (by simpa using hg') (fun x hx => .inr (by simp [blkOf] at hx; subst hx; exact Nat.le_refl _))
        simpa using this

theorem AppR_own (hok : elOK P t e size bytes = true) {S : List Nat} {w0 w : World} (hf : Fr S w0 w) {p : Option Addr} {l c : Nat} {xs : List Value} (hown : Own w (hn w0) e size p l c xs)
    {q : Option Addr} {m d : Nat} {news : List Value} (hx : Has w q news) (hm : news.length = m * size) (h1 : ∀ u ∈ news, u.oneCell' = true) (hbig : l + m ≤ 1099511627776) (hd : q = none → d = 0)
    {K : Option Addr → Nat → Nat → World → Prop} (hK : ∀ p' c' w', Fr S w0 w' → Fr (blkOf p) w w' → Own w' (hn w0) e size p' (l + m) c' (xs ++ news) → K p' (l + m) c' w') :
    AppR P w #[t, t] ty (.slice p l c) (.slice q m d) K :=
  AppR_own2 hok hf hown hx hm h1 hbig hd fun p' c' w' a b c _ => hK p' c' w' a b c

/-- Values that were just written down are appended. -/
theorem AppLit2 (hok : elOK P t e size bytes = true) {S : List Nat} {w0 w : World} (hf : Fr S w0 w) {p : Option Addr} {l c : Nat} {xs : List Value} (hown : Own w (hn w0) e size p l c xs)
    {cs : Array Value} {m : Nat} (hm : cs.size = m * size) (h1 : ∀ u ∈ cs.toList, u.oneCell' = true) (hbig : l + m ≤ 1099511627776)
    {K : Option Addr → Nat → Nat → World → Prop} (hK : ∀ p' c' w', Fr S w0 w' → Fr (blkOf p) w w' → Own w' (hn w0) e size p' (l + m) c' (xs ++ cs.toList) → (∀ x ∈ blkOf p', x ∈ blkOf p ∨ hn w ≤ x) → K p' (l + m) c' w') :
    AllocC w (.cells cs e) fun r w1 => AppR P w1 #[t, t] ty (.slice p l c) (.slice (some ⟨r, 0, none⟩) m m) K := by
  rw [AllocC_eq]
  have hfa : Fr [] w (w.alloc (.cells cs e)) := Fr.alloc _ _ _
  refine AppR_own2 hok (hf.allocR _) (hown.fr0 hfa) (q := some ⟨hn w, 0, none⟩) ⟨rfl, e, cs, by simp, fun j v h => by simpa using h⟩ (by simpa using hm) h1 hbig (by simp) ?_
  intro p' c' w' h2 h3 h4 h5
  exact hK p' c' w' h2 ((Fr.alloc _ _ _).trans h3) h4 fun x hx => (h5 x hx).imp id fun h => by simp at h; omega

/-- Values that were just written down are appended. -/
theorem AppLit (hok : elOK P t e size bytes = true) {S : List Nat} {w0 w : World} (hf : Fr S w0 w) {p : Option Addr} {l c : Nat} {xs : List Value} (hown : Own w (hn w0) e size p l c xs)
    {cs : Array Value} {m : Nat} (hm : cs.size = m * size) (h1 : ∀ u ∈ cs.toList, u.oneCell' = true) (hbig : l + m ≤ 1099511627776)
    {K : Option Addr → Nat → Nat → World → Prop} (hK : ∀ p' c' w', Fr S w0 w' → Fr (blkOf p) w w' → Own w' (hn w0) e size p' (l + m) c' (xs ++ cs.toList) → K p' (l + m) c' w') :
    AllocC w (.cells cs e) fun r w1 => AppR P w1 #[t, t] ty (.slice p l c) (.slice (some ⟨r, 0, none⟩) m m) K := by
  rw [AllocC_eq]
  have hfa : Fr [] w (w.alloc (.cells cs e)) := Fr.alloc _ _ _
  refine AppR_own hok (hf.allocR _) (hown.fr0 hfa) (q := some ⟨hn w, 0, none⟩) ⟨rfl, e, cs, by simp, fun j v h => by simpa using h⟩ (by simpa using hm) h1 hbig (by simp) ?_
  intro p' c' w' h2 h3 h4
  exact hK p' c' w' h2 ((Fr.alloc _ _ _).trans h3) h4

/-- Bytes of a string. -/
theorem ConvS_own {src : Nat} (hs : P.underlying src = some .string) (ht : P.underlying t = some (.slice e)) (he : P.underlying e = some (.int .u8)) {S : List Nat} {w0 w : World} (hf : Fr S w0 w) {s : ByteArray}
    {K : Option Addr → Nat → Nat → World → Prop} (hK : ∀ p' c' w', Fr S w0 w' → Fr [] w w' → (∃ a, p' = some a ∧ hn w ≤ a.block) → Own w' (hn w0) e 1 p' s.size c' (bv s.data.toList) → K p' s.size c' w') :
    ConvS P w src t (.string s) K := by
  refine ⟨_, _, _, _, run_bytes_of_string w src t e s hs ht he, ?_⟩
  refine hK _ _ _ (hf.drewR.allocR _) ((Fr.drew _ _).allocR _) ⟨_, rfl, Nat.le_refl _⟩ ⟨by simp, .inr ⟨hn w, bytesRow s (grownCap w s.size 0 e), rfl, hf.size, ?_, grownCap_ge _ _ _ _, ?_, fun j v hj => ?_⟩⟩
  · unfold hp
    have : (w.drew.alloc (.cells (bytesRow s (grownCap w s.size 0 e)) e ((bytesRow s (grownCap w s.size 0 e)).size, (bytesRow s (grownCap w s.size 0 e)).size + 1))).heap[hn w]? = some (.cells (bytesRow s (grownCap w s.size 0 e)) e ((bytesRow s (grownCap w s.size 0 e)).size, (bytesRow s (grownCap w s.size 0 e)).size + 1)) := by
      show (w.heap.push _)[w.heap.size]? = _
      simp
    rw [this]
    simp [clean, Row]
  · have h1 := grownCap_ge w s.size 0 e
    have h2 : s.data.size = s.size := rfl
    simp only [bytesRow, Array.size_append, Array.size_map, Array.size_replicate, h2]
    omega
  · have hj' : j < s.data.size := by have := (List.getElem?_eq_some_iff.1 hj).1; simpa using this
    unfold bytesRow
    rw [Array.getElem?_append_left (by simpa using hj')]
    rw [bv_get] at hj
    simp only [Array.getElem?_map]
    simpa [u8v] using hj

theorem ConvS_of {src : Nat} (hs : P.underlying src = some .string) (ht : P.underlying t = some (.slice e)) (he : P.underlying e = some (.int .u8)) {S : List Nat} {w0 w : World} (hf : Fr S w0 w) {nm : List UInt8}
    {K : Option Addr → Nat → Nat → World → Prop} (hK : ∀ p' c' w', Fr S w0 w' → Fr [] w w' → (∃ a, p' = some a ∧ hn w ≤ a.block) → Own w' (hn w0) e 1 p' nm.length c' (bv nm) → K p' nm.length c' w') :
    ConvS P w src t (.string ⟨nm.toArray⟩) K := by
  have e1 : (⟨nm.toArray⟩ : ByteArray).size = nm.length := by simp [ByteArray.size]
  refine ConvS_own hs ht he hf ?_
  rw [e1]
  exact hK

/-- A string of bytes. -/
theorem B2S_of {w : World} {p : Option Addr} {c : Nat} {xs : List UInt8} (hx : Has w p (bv xs)) {l : Nat} (hl : l = xs.length) {K : ByteArray → Prop} (hK : K ⟨xs.toArray⟩) : B2S P w p l c K := by
  subst hl
  cases p with
  | none =>
    have : xs = [] := bv_inj (xs := xs) (ys := []) hx
    subst this
    exact ⟨ByteArray.empty, by simp [Conv.bytesToString], hK⟩
  | some a =>
    refine ⟨_, ?_, hK⟩
    have hl := run_loadCells_list (P := P) w a (bv xs) (hx.cells)
    have e1 : (bv xs) = (xs.map fun x => (x.toNat : Int)).map (Value.int .u8) := by simp [bv, u8v, Function.comp_def]
    rw [bv_length, e1] at hl
    rw [run_bytesToString w a xs.length c _ hl, foldl_push_byteCells]
    simp [ByteArray.empty, ByteArray.emptyWithCapacity]
    rfl
end
end Go.V
