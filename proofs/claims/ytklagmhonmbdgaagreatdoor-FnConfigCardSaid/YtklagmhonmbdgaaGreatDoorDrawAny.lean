/- A statement whose order is open, some of whose writing operations are not ordered against the rest: what reads is done first (and must read the same behind whatever it isn't ordered against); each order of what writes is walked. -/
import Derived.Test.YtklagmhonmbdgaaGreatDoorDraw
namespace Go.V
open Go

section
variable {wr : Op → Bool} {P : Program} {ops : Array Oper} {K : Act → World → Prop}

abbrev noEx : Exit → Act → World → Prop := fun _ _ _ => False

def aOp (wr : Op → Bool) (P : Program) (ops : Array Oper) (j : Nat) (N : Act → World → Prop) (a : Act) (w : World) : Prop :=
  match ops[j]? with
  | none => False
  | some o => if wr o.op then o.wp P a w N noEx else ∃ v, (execOp a.eval o).run P w = .ok (.value v) w ∧ N (a.put o.dst v) w

abbrev PendS := List (Nat × Sem Next × Value)
/-- What was read reads so still, behind operation j. -/
def Oblig (P : Program) (ops : Array Oper) (ps : PendS) (j : Nat) (w : World) : Prop :=
  ∀ x ∈ ps, x.1 ∉ (ancs ops).getD j [] → x.2.1.run P w = .ok (.value x.2.2) w
def isW (wr : Op → Bool) (ops : Array Oper) (j : Nat) : Prop := ∀ o, ops[j]? = some o → wr o.op = true

def wpO (wr : Op → Bool) (P : Program) (ops : Array Oper) (K : Act → World → Prop) (ps : PendS) : Nat → Array Bool → Act → World → Prop
  | 0, listed, a, w => Region.ready .any ops listed = [] ∧ K a w
  | f + 1, listed, a, w => (Region.ready .any ops listed = [] → K a w) ∧
    ∀ j ∈ Region.ready .any ops listed, aOp wr P ops j (fun a' w' => (isW wr ops j → Oblig P ops ps j w') ∧ wpO wr P ops K ps f (listed.setIfInBounds j true) a' w') a w

theorem wp_noEx {o : Oper} {a : Act} {w : World} {N : Act → World → Prop} {Q : Exit → Act → World → Prop} (h : o.wp P a w N noEx) : o.wp P a w N Q := by
  unfold Oper.wp at *
  generalize (execOp a.eval o).run P w = r at *
  cases r with
  | ok n w' =>
    cases n <;> simp only [Oper.upon] at h ⊢ <;> first
      | exact h
      | exact Calls.mono h (fun e w'' he => by
          cases e with
          | returned v => exact he
          | panicked c => exact he.elim
          | outgrown => obtain ⟨_, _, hf⟩ := he; exact hf.elim)
  | halt x w' => cases x <;> simp only [Oper.upon] at h ⊢ <;> exact h.elim

theorem aOp_mono {j : Nat} {N N' : Act → World → Prop} {a : Act} {w : World} (h : ∀ a w, N a w → N' a w) (hh : aOp wr P ops j N a w) : aOp wr P ops j N' a w := by
  unfold aOp at *
  split
  · rename_i e; simp [e] at hh
  · rename_i o e
    simp only [e] at hh
    split at hh
    · rename_i hw; simp only [hw, if_true]; exact Oper.wp_mono h hh
    · rename_i hw; simp only [hw]; obtain ⟨v, h1, h2⟩ := hh; exact ⟨v, h1, h _ _ h2⟩

theorem wpO_weaken {ps ps' : PendS} (hs : ∀ x ∈ ps, x ∈ ps') : ∀ {f : Nat} {listed : Array Bool} {a : Act} {w : World}, wpO wr P ops K ps' f listed a w → wpO wr P ops K ps f listed a w
  | 0, _, _, _, h => h
  | _ + 1, _, _, _, h => ⟨h.1, fun j hj => aOp_mono (fun _ _ ⟨h1, h2⟩ => ⟨fun hw x hx => h1 hw x (hs x hx), wpO_weaken hs h2⟩) (h.2 j hj)⟩

/-- What must hold of a statement for this walk. -/
def okAny (wr : Op → Bool) (ops : Array Oper) : Bool :=
  let t := ancs ops
  (List.range ops.size).all fun j =>
    match ops[j]? with
    | none => false
    | some oj =>
      (waits oj).all (· < j) && (match oj.op with | .select .. => false | _ => true) && oj.guard.isNone &&
      (List.range j).all fun k => (t.getD j []).contains k || (match ops[k]? with | none => false | some ok => (wr oj.op && wr ok.op) || (ok.apart ops oj && oj.apart ops ok))

theorem okAny_at (h : okAny wr ops = true) {j : Nat} {oj : Oper} (hj : ops[j]? = some oj) :
    (∀ p ∈ waits oj, p < j) ∧ (∀ cs b, oj.op ≠ .select cs b) ∧ oj.guard = none ∧
    ∀ k ok, k < j → ops[k]? = some ok → k ∈ (ancs ops).getD j [] ∨ (wr oj.op = true ∧ wr ok.op = true) ∨ (ok.apart ops oj = true ∧ oj.apart ops ok = true) := by
  have hlt := (Array.getElem?_eq_some_iff.1 hj).1
  have h' := List.all_eq_true.1 h j (List.mem_range.2 hlt)
  simp only [hj, Bool.and_eq_true, List.all_eq_true, decide_eq_true_eq, Bool.or_eq_true] at h'
  obtain ⟨⟨⟨h1, h2⟩, h3⟩, h4⟩ := h'
  refine ⟨h1, fun cs b e => by simp [e] at h2, by simpa using h3, fun k ok hk hok => ?_⟩
  rcases h4 k (List.mem_range.2 hk) with h5 | h5
  · exact .inl (by simpa using h5)
  · simp only [hok, Bool.or_eq_true, Bool.and_eq_true] at h5
    exact .inr h5

/-- Two that may come up now, one of which only reads, are apart. -/
theorem apart_ready (h : okAny wr ops = true) {listed : Array Bool} (inv : Inv ops listed) {i j : Nat} {oi oj : Oper} (hi : i ∈ Region.ready .any ops listed) (hj : j ∈ Region.ready .any ops listed) (hij : j ≠ i)
    (hoi : ops[i]? = some oi) (hoj : ops[j]? = some oj) (hri : wr oi.op = false) : oi.apart ops oj = true ∧ i ∉ (ancs ops).getD j [] := by
  obtain ⟨hilt, hiu, oi', hoi', hwi⟩ := mem_ready' hi
  obtain ⟨hjlt, hju, oj', hoj', hwj⟩ := mem_ready' hj
  have e1 : oi' = oi := Option.some.inj (hoi'.symm.trans hoi)
  have e2 : oj' = oj := Option.some.inj (hoj'.symm.trans hoj)
  subst e1; subst e2
  rw [getD_un (by rw [inv.size]; exact hilt)] at hiu
  rw [getD_un (by rw [inv.size]; exact hjlt)] at hju
  have hna : ∀ {x y : Nat} {oy : Oper}, ops[y]? = some oy → (∀ p ∈ waits oy, listed.getD p false = true) → listed.getD x false = false → x ∉ (ancs ops).getD y [] := by
    intro x y oy hy hw hx hmem
    have := ancs_closed (ops := ops) (S := fun p => listed.getD p false = true) (fun k ok hk hs => inv.closed k ok hk hs) hy hw x hmem
    rw [hx] at this; cases this
  refine ⟨?_, hna hoj hwj hiu⟩
  rcases Nat.lt_or_ge i j with hlt | hge
  · rcases (okAny_at h hoj).2.2.2 i oi' hlt hoi with h1 | ⟨_, h2⟩ | ⟨h1, _⟩
    · exact absurd h1 (hna hoj hwj hiu)
    · rw [hri] at h2; cases h2
    · exact h1
  · have hlt : j < i := by omega
    rcases (okAny_at h hoi).2.2.2 j oj' hlt hoj with h1 | ⟨h2, _⟩ | ⟨_, h1⟩
    · exact absurd h1 (hna hoi hwi hju)
    · rw [hri] at h2; cases h2
    · exact h1

theorem ready_after {listed : Array Bool} (_inv : Inv ops listed) {i j : Nat} (hi : i ∈ Region.ready .any ops listed) (hij : i ≠ j) : i ∈ Region.ready .any ops (listed.setIfInBounds j true) := by
  obtain ⟨hlt, hu, o, ho, hw⟩ := mem_ready' hi
  refine ready_of hlt ?_ ho fun p hp => ?_
  · simp only [Array.getD_eq_getD_getElem?, Array.getElem?_setIfInBounds_ne (Ne.symm hij)] at hu ⊢; exact hu
  · by_cases hpj : p = j
    · subst hpj
      have hpl := hw p hp
      have : p < listed.size := by
        rcases Nat.lt_or_ge p listed.size with h | h
        · exact h
        · simp [Array.getElem?_eq_none h] at hpl
      simp [this]
    · have := hw p hp
      simp only [Array.getD_eq_getD_getElem?, Array.getElem?_setIfInBounds_ne (Ne.symm hpj)] at this ⊢; exact this

theorem inv_set {listed : Array Bool} (inv : Inv ops listed) {j : Nat} (hj : j ∈ Region.ready .any ops listed) : Inv ops (listed.setIfInBounds j true) := by
  obtain ⟨hlt, hu, oj, hoj, hw⟩ := mem_ready' hj
  refine ⟨by simp [inv.size], fun i oi hi hli p hp => ?_⟩
  have hset : ∀ k, listed.getD k false = true → (listed.setIfInBounds j true).getD k false = true := by
    intro k hk
    by_cases hkj : k = j
    · subst hkj; have : k < listed.size := by rw [inv.size]; exact hlt
      simp [this]
    · simp only [Array.getD_eq_getD_getElem?, Array.getElem?_setIfInBounds_ne (Ne.symm hkj)] at hk ⊢; exact hk
  by_cases hij : i = j
  · subst hij
    have : oi = oj := Option.some.inj (hi.symm.trans hoj)
    subst this
    exact hset p (hw p hp)
  · have hli' : listed.getD i false = true := by
      simp only [Array.getD_eq_getD_getElem?, Array.getElem?_setIfInBounds_ne (Ne.symm hij)] at hli ⊢; exact hli
    exact hset p (inv.closed i oi hi hli' p hp)

theorem eval_defers (a : Act) (ds : List Deferred) : ({ a with defers := ds } : Act).eval = a.eval := by funext x; cases x <;> rfl

/-- An operation, behind one that reads and is apart from it. -/
theorem aOp_put {j : Nat} {oi oj : Oper} (hoj : ops[j]? = some oj) (hap : oi.apart ops oj = true) (hsi : ∀ cs b, oi.op ≠ .select cs b) (hsj : ∀ cs b, oj.op ≠ .select cs b) {N : Act → World → Prop} {a : Act} {v : Value} {w : World}
    (h : aOp wr P ops j N (a.put oi.dst v) w) : aOp wr P ops j (fun a' w' => N (a'.put oi.dst v) w' ∧ execOp a'.eval oi = execOp a.eval oi ∧ (wr oj.op = false → w' = w)) a w := by
  obtain ⟨h1, h2, h3⟩ := Oper.apart_spec hap
  have keep : ∀ (b : Act) (u : Value), b.eval = a.eval → execOp (b.put oj.dst u).eval oi = execOp a.eval oi := by
    intro b u hb
    rw [execOp_put (ops := ops) oi hsi b oj.dst u h3, hb]
  unfold aOp at *
  simp only [hoj] at h ⊢
  split
  · rename_i hw
    simp only [hw, if_true] at h
    unfold Oper.wp at *
    rw [execOp_put (ops := ops) oj hsj a oi.dst v h1] at h
    generalize (execOp a.eval oj).run P w = r at *
    cases r with
    | ok n w' =>
      cases n <;> simp only [Oper.upon] at h ⊢
      case value u => exact ⟨by rw [Act.put_comm a v u h2] at h; exact h, keep a u rfl, fun e => by rw [hw] at e; cases e⟩
      case skip => exact ⟨by rw [Act.put_comm a v undef h2] at h; exact h, keep a undef rfl, fun e => by rw [hw] at e; cases e⟩
      case defer d =>
        refine ⟨?_, keep _ undef (eval_defers _ _), fun e => by rw [hw] at e; cases e⟩
        rw [Act.put_defers, Act.put_comm _ v undef h2] at h
        exact h
      case enter f args =>
        refine Calls.mono h fun e w'' he => ?_
        cases e with
        | returned u =>
          have he : N ((a.put oi.dst v).put oj.dst u) w'' := he
          exact ⟨by rw [Act.put_comm a v u h2] at he; exact he, keep a u rfl, fun e => by rw [hw] at e; cases e⟩
        | panicked c => exact he
        | outgrown => exact he
      case row row args =>
        refine Rows.mono h fun u w'' he => ?_
        exact ⟨by rw [Act.put_comm a v u h2] at he; exact he, keep a u rfl, fun e => by rw [hw] at e; cases e⟩
    | halt x w' => cases x <;> simp only [Oper.upon] at h ⊢ <;> first | exact h | exact h.elim
  · rename_i hw
    simp only [hw] at h
    obtain ⟨u, hu, hn⟩ := h
    rw [execOp_put (ops := ops) oj hsj a oi.dst v h1] at hu
    exact ⟨u, hu, by rw [Act.put_comm a v u h2] at hn; exact hn, keep a u rfl, by first | trivial | exact fun _ => rfl | exact fun _ => trivial⟩

/-- **One that reads may be taken first**, if it reads the same behind whatever it isn't ordered against. -/
theorem reader_first (hd : okAny wr ops = true) {ps ps' : PendS} (hs : ∀ x ∈ ps, x ∈ ps') {i : Nat} {oi : Oper} (hoi : ops[i]? = some oi) (hri : wr oi.op = false) {v : Value} :
    ∀ (f : Nat) (listed : Array Bool) (a : Act) (w : World), Inv ops listed → i ∈ Region.ready .any ops listed → (execOp a.eval oi).run P w = .ok (.value v) w →
      ((∀ w', (execOp a.eval oi).run P w' = .ok (.value v) w') ∨ (i, execOp a.eval oi, v) ∈ ps') →
      wpO wr P ops K ps' f (listed.setIfInBounds i true) (a.put oi.dst v) w → wpO wr P ops K ps (f + 1) listed a w := by
  have hsi := (okAny_at hd hoi).2.1
  intro f
  induction f with
  | zero =>
    intro listed a w inv hi hrun hper H
    refine ⟨fun h => (by rw [h] at hi; cases hi), fun j hj => ?_⟩
    by_cases hji : j = i
    · subst hji
      unfold aOp
      simp only [hoi, hri, Bool.false_eq_true, if_false]
      exact ⟨v, hrun, fun hw => (by have := hw oi hoi; rw [hri] at this; cases this), wpO_weaken hs H⟩
    · have := ready_after inv hj hji
      rw [H.1] at this
      cases this
  | succ f ih =>
    intro listed a w inv hi hrun hper H
    refine ⟨fun h => (by rw [h] at hi; cases hi), fun j hj => ?_⟩
    by_cases hji : j = i
    · subst hji
      unfold aOp
      simp only [hoi, hri, Bool.false_eq_true, if_false]
      exact ⟨v, hrun, fun hw => (by have := hw oi hoi; rw [hri] at this; cases this), wpO_weaken hs H⟩
    · obtain ⟨hjlt, _, oj, hoj, hwj⟩ := mem_ready' hj
      obtain ⟨hap, hna⟩ := apart_ready hd inv hi hj hji hoi hoj hri
      have H' := H.2 j (ready_after inv hj hji)
      have H' := aOp_put hoj hap hsi (okAny_at hd hoj).2.1 H'
      refine aOp_mono ?_ H'
      rintro a' w' ⟨⟨hob, hwp⟩, hex, hsame⟩
      refine ⟨fun hw x hx => hob hw x (hs x hx), ?_⟩
      have hrun' : (execOp a'.eval oi).run P w' = .ok (.value v) w' := by
        rw [hex]
        cases hwr : wr oj.op with
        | false => rw [hsame hwr]; exact hrun
        | true =>
          rcases hper with hall | hmem
          · exact hall w'
          · exact hob (fun o ho => by have : o = oj := Option.some.inj (ho.symm.trans hoj); rw [this]; exact hwr) _ hmem hna
      refine ih (listed.setIfInBounds j true) a' w' (inv_set inv hj) (ready_after inv hi (Ne.symm hji)) hrun' (by rw [hex]; exact hper) ?_
      rw [Array.setIfInBounds_comm _ _ (by exact fun e => hji e)]
      exact hwp

theorem wpAny_of_wpO {Q : Exit → Act → World → Prop} (hg : okAny wr ops = true) (hK : ∀ a w, K a w → Q .normal a w) : ∀ {f : Nat} {listed : Array Bool} {a : Act} {w : World}, wpO wr P ops K [] f listed a w → wpAny P .any ops Q f listed a w
  | 0, _, _, _, h => ⟨h.1, hK _ _ h.2⟩
  | f + 1, listed, a, w, h => ⟨fun h0 => hK _ _ (h.1 h0), fun j hj => by
    have h' := h.2 j hj
    obtain ⟨_, _, oj, hoj, _⟩ := mem_ready' hj
    have hgd := (okAny_at hg hoj).2.2.1
    unfold aOp at h'
    unfold wpOp
    simp only [hoj] at h' ⊢
    rw [if_pos (by simp [Region.wanted, hgd])]
    refine .inl ?_
    split at h'
    · exact Oper.wp_mono (fun a w h => wpAny_of_wpO hg hK h.2) (wp_noEx h')
    · obtain ⟨v, h1, h2⟩ := h'
      simp only [Oper.wp, h1, Oper.upon_value]
      exact wpAny_of_wpO hg hK h2.2⟩

theorem wp_any {id : Nat} {Q : Exit → Act → World → Prop} {a : Act} {w : World} (hm : P.follows .mixedOrders = true) (hd : okAny wr ops = true) (hK : ∀ a w, K a w → Q .normal a w)
    (h : wpO wr P ops K [] ops.size (Array.replicate ops.size false) a { w with drawn := w.drawn + 1 }) : (Code.region id ops true).wp P Q a w :=
  wp_region_any hm (wpAny_of_wpO hd hK h)

theorem inv_start : Inv ops (Array.replicate ops.size false) := by
  refine ⟨by simp, fun j oj _ h => ?_⟩
  exfalso
  by_cases hj : j < ops.size
  · simp [hj] at h
  · simp [hj] at h
end
end Go.V
