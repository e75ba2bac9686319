/- A statement whose order is open, walked once in the order of the text: an operation that only reads may change places with another one that only reads; whatever writes is ordered against all the others by the statement's own edges. -/
import Derived.Orders
namespace Go.V
open Go

/-- Operations that may change memory, draw, or enter a function. -/
def writes : Op → Bool
  | .move _ | .assign _ | .pick .. | .load .. | .nilCheck _ | .binOp .. | .unOp .. | .makeInterface .. | .makeFunc .. | .slice .. | .fieldAddr .. | .field .. | .indexAddr .. | .index ..
  | .extract .. | .typeAssert .. | .build .. | .convert .. => false
  | .call c => match c.callee with | .builtin .len | .builtin .cap | .builtin .min | .builtin .max => false | _ => true
  | _ => true

section
variable {wr : Op → Bool} {P : Program} {ops : Array Oper} {Q : Exit → Act → World → Prop}

/-- The operations of a list of numbers, one behind the other: what only reads hands back its value and the very world. -/
def actOps (wr : Op → Bool) (P : Program) (ops : Array Oper) (Q : Exit → Act → World → Prop) (K : Act → World → Prop) : List Nat → Act → World → Prop
  | [], a, w => K a w
  | i :: r, a, w =>
    match ops[i]? with
    | none => actOps wr P ops Q K r a w
    | some o =>
      if Region.wanted o (yielded ops a.tmps) then
        if wr o.op then o.wp P a w (actOps wr P ops Q K r) Q
        else ∃ v, (execOp a.eval o).run P w = .ok (.value v) w ∧ actOps wr P ops Q K r (a.put o.dst v) w
      else actOps wr P ops Q K r (a.put o.dst undef) w

theorem actOps_wpOps {K : Act → World → Prop} (hK : ∀ a w, K a w → Q .normal a w) : ∀ (l : List Nat) (a : Act) (w : World), actOps wr P ops Q K l a w → wpOps P ops Q l a w := by
  intro l
  induction l with
  | nil => intro a w h; exact hK _ _ h
  | cons i r ih =>
    intro a w h
    simp only [actOps] at h
    simp only [wpOps]
    cases ho : ops[i]? with
    | none => simp only [ho] at h ⊢; exact ih _ _ h
    | some o =>
      simp only [ho] at h ⊢
      split
      · rename_i hw
        simp only [hw, if_true] at h
        refine .inl ?_
        split at h
        · exact Oper.wp_mono (fun a w => ih a w) h
        · obtain ⟨v, hr, hn⟩ := h
          simp only [Oper.wp, hr, Oper.upon_value]
          exact ih _ _ hn
      · rename_i hw
        simp only [hw] at h
        exact ih _ _ h

/-- The numbers on which operation i waits (by edges that bind). -/
def waits (o : Oper) : List Nat := (o.after.toList.filter (Region.binds .any)).map (·.on)

/-- For each operation all on which it waits, through others too. -/
def ancGo : List Oper → List (List Nat) → List (List Nat)
  | [], t => t
  | o :: r, t => ancGo r (t ++ [((waits o).flatMap fun p => p :: t.getD p []).eraseDups])

def ancs (ops : Array Oper) : List (List Nat) := ancGo ops.toList []

def plainOp (wr : Op → Bool) (o : Oper) : Bool := !wr o.op

/-- No select among them; edges lead back; two operations of which neither waits for the other both read, and are apart. -/
def okDraw (wr : Op → Bool) (ops : Array Oper) : Bool :=
  let t := ancs ops
  (List.range ops.size).all fun j =>
    match ops[j]? with
    | none => false
    | some oj =>
      (waits oj).all (· < j) && (match oj.op with | .select .. => false | _ => true) &&
      (List.range j).all fun k => (t.getD j []).contains k || (match ops[k]? with | none => false | some ok => plainOp wr oj && plainOp wr ok && ok.apart ops oj)

theorem apart_symm_put {x y : Oper} {a : Act} {v u : Value} (h : x.apart ops y = true) : (a.put x.dst v).put y.dst u = (a.put y.dst u).put x.dst v :=
  Act.put_comm a v u (Oper.apart_spec h).2.1

/-- One that reads, behind others that read and are apart from it, may come first. -/
theorem front {K : Act → World → Prop} {j : Nat} {oj : Oper} (hj : ops[j]? = some oj) (hrj : wr oj.op = false) (hsj : ∀ cs b, oj.op ≠ .select cs b) (r : List Nat) :
    ∀ (l : List Nat) (a : Act) (w : World), (∀ k ∈ l, ∃ ok, ops[k]? = some ok ∧ wr ok.op = false ∧ (∀ cs b, ok.op ≠ .select cs b) ∧ ok.apart ops oj = true) →
      actOps wr P ops Q K (l ++ j :: r) a w → actOps wr P ops Q K (j :: (l ++ r)) a w := by
  intro l
  induction l with
  | nil => intro a w _ h; exact h
  | cons k l ih =>
    intro a w hl h
    obtain ⟨ok, hk, hrk, hsk, hap⟩ := hl k (by simp)
    have ih' := fun a w h => ih a w (fun k' hk' => hl k' (by simp [hk'])) h
    obtain ⟨h1, h2, h3⟩ := Oper.apart_spec hap
    simp only [List.cons_append, actOps, hk, hrk, Bool.false_eq_true, if_false] at h
    simp only [List.cons_append, actOps, hj, hk, hrj, hrk, Bool.false_eq_true, if_false]
    -- what k yields
    have key : ∀ u, actOps wr P ops Q K (l ++ j :: r) (a.put ok.dst u) w →
        (if Region.wanted oj (yielded ops a.tmps) = true then ∃ v, (execOp a.eval oj).run P w = .ok (.value v) w ∧ actOps wr P ops Q K (l ++ r) ((a.put oj.dst v).put ok.dst u) w
          else actOps wr P ops Q K (l ++ r) ((a.put oj.dst undef).put ok.dst u) w) := by
      intro u hu
      have := ih' _ _ hu
      simp only [actOps, hj, hrj, Bool.false_eq_true, if_false] at this
      rw [wanted_put oj a ok.dst u h1, execOp_put (ops := ops) oj hsj a ok.dst u h1] at this
      split
      · rename_i hw
        simp only [hw, if_true] at this
        obtain ⟨v, hv, hn⟩ := this
        refine ⟨v, hv, ?_⟩
        rw [← apart_symm_put hap]; exact hn
      · rename_i hw
        simp only [hw] at this
        rw [← apart_symm_put hap]; exact this
    have back : ∀ v, Region.wanted ok (yielded ops (a.put oj.dst v).tmps) = Region.wanted ok (yielded ops a.tmps) := fun v => wanted_put ok a oj.dst v h3
    have backr : ∀ v, execOp (a.put oj.dst v).eval ok = execOp a.eval ok := fun v => execOp_put (ops := ops) ok hsk a oj.dst v h3
    split at h
    · rename_i hwk
      obtain ⟨u, hu, hn⟩ := h
      have := key u hn
      split
      · rename_i hwj
        simp only [hwj, if_true] at this
        obtain ⟨v, hv, hn⟩ := this
        exact ⟨v, hv, by rw [back, backr]; simp only [hwk, if_true]; exact ⟨u, hu, hn⟩⟩
      · rename_i hwj
        simp only [hwj] at this
        rw [back, backr]; simp only [hwk, if_true]; exact ⟨u, hu, this⟩
    · rename_i hwk
      have := key undef h
      split
      · rename_i hwj
        simp only [hwj, if_true] at this
        obtain ⟨v, hv, hn⟩ := this
        exact ⟨v, hv, by rw [back]; simp only [hwk]; exact hn⟩
      · rename_i hwj
        simp only [hwj] at this
        rw [back]; simp only [hwk]; exact this

/-- What is listed is closed: whatever a listed one waits for is listed. -/
structure Inv (ops : Array Oper) (listed : Array Bool) : Prop where
  size : listed.size = ops.size
  closed : ∀ j oj, ops[j]? = some oj → listed.getD j false = true → ∀ p ∈ waits oj, listed.getD p false = true

theorem ancGo_closed {S : Nat → Prop} (hS : ∀ j oj, ops[j]? = some oj → S j → ∀ p ∈ waits oj, S p) :
    ∀ (l : List Oper) (t : List (List Nat)), (∀ i o, l[i]? = some o → ops[t.length + i]? = some o) →
      (∀ j oj, ops[j]? = some oj → (∀ p ∈ waits oj, S p) → ∀ k ∈ t.getD j [], S k) →
      ∀ j oj, ops[j]? = some oj → (∀ p ∈ waits oj, S p) → ∀ k ∈ (ancGo l t).getD j [], S k := by
  intro l
  induction l with
  | nil => intro t _ h; exact h
  | cons o l ih =>
    intro t hl ht
    simp only [ancGo]
    refine ih _ (fun i o' hi => ?_) ?_
    · have := hl (i + 1) o' (by simpa using hi)
      simpa [Nat.add_assoc, Nat.add_comm 1 i] using this
    · intro j oj hj hw k hk
      have h0 := hl 0 o (by simp)
      rcases Nat.lt_trichotomy j t.length with hlt | heq | hgt
      · have : (t ++ [((waits o).flatMap fun p => p :: t.getD p []).eraseDups]).getD j [] = t.getD j [] := by
          simp [List.getD_eq_getElem?_getD, List.getElem?_append_left hlt]
        rw [this] at hk
        exact ht j oj hj hw k hk
      · subst heq
        have hoo : oj = o := Option.some.inj (hj.symm.trans (by simpa using h0))
        subst hoo
        have : (t ++ [((waits oj).flatMap fun p => p :: t.getD p []).eraseDups]).getD t.length [] = ((waits oj).flatMap fun p => p :: t.getD p []).eraseDups := by
          simp [List.getD_eq_getElem?_getD]
        rw [this] at hk
        have hk := List.mem_flatMap.1 (List.mem_eraseDups.1 hk)
        obtain ⟨p, hp, hkp⟩ := hk
        have hSp := hw p hp
        rcases List.mem_cons.1 hkp with rfl | hkp
        · exact hSp
        · cases hop : ops[p]? with
          | none =>
            -- then p is beyond; its row is empty
            exfalso
            have hge : ops.size ≤ p := by simpa using hop
            have htl : t.length ≤ ops.size := by
              have := (Array.getElem?_eq_some_iff.1 (by simpa using h0 : ops[t.length]? = some oj)).1
              omega
            have : t.getD p [] = [] := by
              simp [List.getD_eq_getElem?_getD, List.getElem?_eq_none (show t.length ≤ p by omega)]
            rw [this] at hkp
            cases hkp
          | some op => exact ht p op hop (hS p op hop hSp) k hkp
      · have : (t ++ [((waits o).flatMap fun p => p :: t.getD p []).eraseDups]).getD j [] = [] := by
          rw [List.getD_eq_getElem?_getD, List.getElem?_eq_none (by simp; omega)]; rfl
        rw [this] at hk
        cases hk

theorem ancs_closed {S : Nat → Prop} (hS : ∀ j oj, ops[j]? = some oj → S j → ∀ p ∈ waits oj, S p) {j : Nat} {oj : Oper} (hj : ops[j]? = some oj) (hw : ∀ p ∈ waits oj, S p) :
    ∀ k ∈ (ancs ops).getD j [], S k :=
  ancGo_closed hS ops.toList [] (fun i o h => by simpa using h) (fun j _ _ _ k hk => by simp at hk) j oj hj hw

/-- What isn't listed yet, in the order of the text. -/
def left (ops : Array Oper) (listed : Array Bool) : List Nat := (List.range ops.size).filter fun i => !listed.getD i false

theorem mem_ready' {listed : Array Bool} {i : Nat} (h : i ∈ Region.ready .any ops listed) :
    i < ops.size ∧ listed.getD i true = false ∧ ∃ o, ops[i]? = some o ∧ ∀ p ∈ waits o, listed.getD p false = true := by
  simp only [Region.ready, List.mem_filter, List.mem_range, Bool.and_eq_true, Bool.not_eq_true'] at h
  obtain ⟨hi, hu, hr⟩ := h
  refine ⟨hi, hu, ?_⟩
  have ho : ops[i]? = some ops[i] := Array.getElem?_eq_getElem hi
  refine ⟨ops[i], ho, fun p hp => ?_⟩
  simp only [ho, Option.map_some, Option.getD_some, Array.all_eq_true'] at hr
  simp only [waits, List.mem_map, List.mem_filter] at hp
  obtain ⟨e, ⟨he, hb⟩, rfl⟩ := hp
  have := hr e (by simpa using he)
  simpa [hb] using this

theorem ready_of {listed : Array Bool} {i : Nat} {o : Oper} (hi : i < ops.size) (hu : listed.getD i true = false) (ho : ops[i]? = some o) (hw : ∀ p ∈ waits o, listed.getD p false = true) :
    i ∈ Region.ready .any ops listed := by
  simp only [Region.ready, List.mem_filter, List.mem_range, Bool.and_eq_true, Bool.not_eq_true']
  refine ⟨hi, hu, ?_⟩
  simp only [ho, Option.map_some, Option.getD_some, Array.all_eq_true']
  intro e he
  cases hb : Region.binds .any e with
  | false => rfl
  | true =>
    have := hw e.on (List.mem_map.2 ⟨e, List.mem_filter.2 ⟨by simpa using he, hb⟩, rfl⟩)
    simpa using this

theorem getD_un {listed : Array Bool} {i : Nat} (hi : i < listed.size) : listed.getD i true = listed.getD i false := by simp [hi]

theorem left_split {listed : Array Bool} {j : Nat} (hs : listed.size = ops.size) (hj : j < ops.size) (hu : listed.getD j false = false) :
    ∃ l r, left ops listed = l ++ j :: r ∧ left ops (listed.setIfInBounds j true) = l ++ r ∧ (∀ k ∈ l, k < j ∧ listed.getD k false = false) := by
  have hr : List.range ops.size = List.range j ++ j :: (List.range' (j + 1) (ops.size - (j + 1))) := by
    rw [List.range_eq_range', List.range_eq_range']
    have h1 : ops.size = j + (1 + (ops.size - (j + 1))) := by omega
    conv => lhs; rw [h1]
    rw [← List.range'_append_1, show 0 + j = j by omega, ← List.range'_append_1]
    simp
  have hset : ∀ k, k ≠ j → (listed.setIfInBounds j true).getD k false = listed.getD k false := by
    intro k hk
    simp only [Array.getD_eq_getD_getElem?, Array.getElem?_setIfInBounds_ne (Ne.symm hk)]
  have hsj : (listed.setIfInBounds j true).getD j false = true := by
    have : j < listed.size := by omega
    simp [this]
  refine ⟨(List.range j).filter (fun i => !listed.getD i false), (List.range' (j + 1) (ops.size - (j + 1))).filter (fun i => !listed.getD i false), ?_, ?_, ?_⟩
  · rw [left, hr, List.filter_append, List.filter_cons]
    rw [hu]; simp
  · rw [left, hr, List.filter_append, List.filter_cons]
    rw [hsj]
    simp only [Bool.not_true, Bool.false_eq_true, if_false]
    congr 1
    · refine List.filter_congr fun k hk => ?_
      rw [hset k (by have := List.mem_range.1 hk; omega)]
    · refine List.filter_congr fun k hk => ?_
      rw [hset k (by have := List.mem_range'.1 hk; omega)]
  · intro k hk
    have := List.mem_filter.1 hk
    exact ⟨List.mem_range.1 this.1, by simpa using this.2⟩

theorem okDraw_at (h : okDraw wr ops = true) {j : Nat} {oj : Oper} (hj : ops[j]? = some oj) :
    (∀ p ∈ waits oj, p < j) ∧ (∀ cs b, oj.op ≠ .select cs b) ∧
    ∀ k, k < j → k ∈ (ancs ops).getD j [] ∨ ∃ ok, ops[k]? = some ok ∧ wr oj.op = false ∧ wr ok.op = false ∧ ok.apart ops oj = true := by
  have hlt := (Array.getElem?_eq_some_iff.1 hj).1
  have h' := List.all_eq_true.1 h j (List.mem_range.2 hlt)
  simp only [hj, Bool.and_eq_true, List.all_eq_true, decide_eq_true_eq, Bool.or_eq_true] at h'
  obtain ⟨⟨h1, h2⟩, h3⟩ := h'
  refine ⟨h1, fun cs b e => by simp [e] at h2, fun k hk => ?_⟩
  rcases h3 k (List.mem_range.2 hk) with h4 | h4
  · exact .inl (by simpa using h4)
  · right
    cases hok : ops[k]? with
    | none => simp [hok] at h4
    | some ok =>
      simp only [hok, Bool.and_eq_true, plainOp, Bool.not_eq_true'] at h4
      exact ⟨ok, rfl, h4.1.1, h4.1.2, h4.2⟩

theorem wpAny_of_actOps {K : Act → World → Prop} (hK : ∀ a w, K a w → Q .normal a w) (hd : okDraw wr ops = true) :
    ∀ (fuel : Nat) (listed : Array Bool) (a : Act) (w : World), Inv ops listed → (left ops listed).length = fuel → actOps wr P ops Q K (left ops listed) a w → wpAny P .any ops Q fuel listed a w := by
  intro fuel
  induction fuel with
  | zero =>
    intro listed a w inv hf h
    have hn : left ops listed = [] := List.length_eq_zero_iff.1 hf
    rw [hn] at h
    refine ⟨?_, hK _ _ h⟩
    refine List.eq_nil_iff_forall_not_mem.2 fun i hi => ?_
    obtain ⟨hlt, hu, _⟩ := mem_ready' hi
    rw [getD_un (by rw [inv.size]; exact hlt)] at hu
    have : i ∈ left ops listed := List.mem_filter.2 ⟨List.mem_range.2 hlt, by simp [hu]⟩
    rw [hn] at this
    cases this
  | succ fuel ih =>
    intro listed a w inv hf h
    constructor
    · intro hr
      exfalso
      cases hl : left ops listed with
      | nil => rw [hl] at hf; simp at hf
      | cons j r =>
        have hj : j ∈ left ops listed := by rw [hl]; simp
        have hj' := List.mem_filter.1 hj
        have hlt := List.mem_range.1 hj'.1
        have hu : listed.getD j false = false := by simpa using hj'.2
        have ho : ops[j]? = some ops[j] := Array.getElem?_eq_getElem hlt
        have hw : ∀ p ∈ waits ops[j], listed.getD p false = true := by
          intro p hp
          have hpj := (okDraw_at hd ho).1 p hp
          cases hpl : listed.getD p false with
          | true => rfl
          | false =>
            exfalso
            obtain ⟨l, r', e1, _, hl'⟩ := left_split inv.size hlt hu
            have hpm : p ∈ left ops listed := List.mem_filter.2 ⟨List.mem_range.2 (by omega), by simp [hpl]⟩
            -- j is the first of what is left, and p comes ahead of it
            rw [hl] at e1
            cases l with
            | nil =>
              have hpm2 : p ∈ j :: r := by rw [← hl]; exact hpm
              have hsorted : (left ops listed).Pairwise (· < ·) := List.Pairwise.filter _ List.pairwise_lt_range
              rw [hl] at hsorted
              rcases List.mem_cons.1 hpm2 with rfl | hpr
              · omega
              · have := (List.pairwise_cons.1 hsorted).1 p hpr
                omega
            | cons x l =>
              simp only [List.cons_append, List.cons.injEq] at e1
              have := hl' x (by simp)
              omega
        have := ready_of hlt (by rw [getD_un (by rw [inv.size]; exact hlt)]; exact hu) ho hw
        rw [hr] at this
        cases this
    · intro j hj
      obtain ⟨hlt, hu, oj, hoj, hw⟩ := mem_ready' hj
      rw [getD_un (by rw [inv.size]; exact hlt)] at hu
      obtain ⟨l, r, e1, e2, hl⟩ := left_split inv.size hlt hu
      obtain ⟨_, hsj, hpair⟩ := okDraw_at hd hoj
      -- those ahead of j in the text, not listed, all read, as j does
      have hfront : actOps wr P ops Q K (j :: (l ++ r)) a w := by
        rw [e1] at h
        cases l with
        | nil => exact h
        | cons x l' =>
          have hall : ∀ k ∈ x :: l', ∃ ok, ops[k]? = some ok ∧ wr oj.op = false ∧ wr ok.op = false ∧ ok.apart ops oj = true := by
            intro k hk
            obtain ⟨hkj, hkl⟩ := hl k hk
            rcases hpair k hkj with hanc | h4
            · exfalso
              have := ancs_closed (ops := ops) (S := fun p => listed.getD p false = true) (fun i oi hi hs => inv.closed i oi hi hs) hoj hw k hanc
              rw [hkl] at this
              cases this
            · exact h4
          obtain ⟨_, _, hrj, _, _⟩ := hall x (by simp)
          refine front hoj hrj hsj r (x :: l') a w (fun k hk => ?_) h
          obtain ⟨ok, h1, _, h3, h4⟩ := hall k hk
          exact ⟨ok, h1, h3, (okDraw_at hd h1).2.1, h4⟩
      have inv' : Inv ops (listed.setIfInBounds j true) := by
        refine ⟨by simp [inv.size], fun i oi hi hli p hp => ?_⟩
        have hset : ∀ k, listed.getD k false = true → (listed.setIfInBounds j true).getD k false = true := by
          intro k hk
          by_cases hkj : k = j
          · subst hkj; have : k < listed.size := by rw [inv.size]; exact hlt
            simp [this]
          · simp only [Array.getD_eq_getD_getElem?, Array.getElem?_setIfInBounds_ne (Ne.symm hkj)] at hk ⊢; exact hk
        by_cases hij : i = j
        · subst hij
          have : oi = oj := Option.some.inj (hi.symm.trans hoj)
          subst this
          exact hset p (hw p hp)
        · have hli' : listed.getD i false = true := by
            simp only [Array.getD_eq_getD_getElem?, Array.getElem?_setIfInBounds_ne (Ne.symm hij)] at hli ⊢; exact hli
          exact hset p (inv.closed i oi hi hli' p hp)
      have hlen : (left ops (listed.setIfInBounds j true)).length = fuel := by
        rw [e2]; rw [e1] at hf; simp at hf ⊢; omega
      have hnext : ∀ a w, actOps wr P ops Q K (l ++ r) a w → wpAny P .any ops Q fuel (listed.setIfInBounds j true) a w := by
        intro a w h; exact ih _ _ _ inv' hlen (by rw [e2]; exact h)
      simp only [wpOp, hoj]
      simp only [actOps, hoj] at hfront
      split
      · rename_i hwant
        simp only [hwant, if_true] at hfront
        refine .inl ?_
        split at hfront
        · exact Oper.wp_mono hnext hfront
        · obtain ⟨v, hr, hn⟩ := hfront
          simp only [Oper.wp, hr, Oper.upon_value]
          exact hnext _ _ hn
      · rename_i hwant
        simp only [hwant] at hfront
        exact hnext _ _ hfront

theorem left_all : left ops (Array.replicate ops.size false) = List.range ops.size := by
  unfold left
  refine List.filter_eq_self.2 fun i hi => ?_
  have := List.mem_range.1 hi
  simp [this]

/-- A region that draws its order, by its operations in the order of the text. -/
theorem wp_draw {id : Nat} {a : Act} {w : World} {K : Act → World → Prop} (hm : P.follows .mixedOrders = true) (hd : okDraw wr ops = true) (hK : ∀ a w, K a w → Q .normal a w)
    (h : actOps wr P ops Q K (List.range ops.size) a { w with drawn := w.drawn + 1 }) : (Code.region id ops true).wp P Q a w := by
  refine wp_region_any hm (wpAny_of_actOps hK hd _ _ _ _ ⟨by simp, fun j oj _ h => ?_⟩ (by rw [left_all]; simp) (by rw [left_all]; exact h))
  exfalso
  by_cases hj : j < ops.size
  · simp [hj] at h
  · simp [hj] at h

/-- A region that doesn't draw. -/
theorem wp_still {id : Nat} {a : Act} {w : World} {K : Act → World → Prop} (hK : ∀ a w, K a w → Q .normal a w)
    (h : actOps wr P ops Q K (List.range ops.size) a w) : (Code.region id ops false).wp P Q a w :=
  wp_region (actOps_wpOps hK _ _ _ h)

end
end Go.V
