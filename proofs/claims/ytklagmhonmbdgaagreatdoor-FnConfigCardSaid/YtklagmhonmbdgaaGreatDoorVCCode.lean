/- Bodies: regions, branches, blocks, loops. -/
import Derived.Test.YtklagmhonmbdgaaGreatDoorVCBody
import Derived.Test.YtklagmhonmbdgaaGreatDoorVCFree
import Derived.Test.YtklagmhonmbdgaaGreatDoorDrawAny
import Derived.Control
namespace Go.V
open Go

def wrP (P : Program) : Op → Bool
  | .convert _ d _ => match P.underlying d with | some (.slice _) => true | _ => false
  | op => writes op

def memN : List Nat → Nat → Bool
  | [], _ => false
  | x :: r, n => match Nat.beq x n with | true => true | false => memN r n

section
variable (P : Program) (G : Nat → Bool)

def oneOp (o : Oper) (e : Env) (w : World) (K : Value → World → Prop) : Prop :=
  match wrP P o.op with
  | true => writeOp P G w e o.op o.type K
  | false => pureOp P w e o.op fun v => K v w

def guardSlot (ops : Array Oper) (j : Nat) : Option Nat := match ops[j]? with | some o => o.dst | none => none

def vcOps (ops : Array Oper) : List Oper → Env → World → (Env → World → Prop) → Prop
  | [], e, w, K => K e w
  | o :: r, e, w, K =>
    match o.guard with
    | none => oneOp P G o e w fun v w' => vcOps ops r (e.put o.dst v) w' K
    | some (j, want) => match guardSlot ops j with
      | none => False
      | some d => match e.get d with
        | some (.bool t) => match want with
          | true => IfC t (oneOp P G o ((d, .bool true) :: e) w fun v w' => vcOps ops r (Env.put ((d, .bool true) :: e) o.dst v) w' K) (vcOps ops r (Env.put ((d, .bool false) :: e) o.dst undef) w K)
          | false => IfC t (vcOps ops r (Env.put ((d, .bool true) :: e) o.dst undef) w K) (oneOp P G o ((d, .bool false) :: e) w fun v w' => vcOps ops r (Env.put ((d, .bool false) :: e) o.dst v) w' K)
        | some (.tuple _) => vcOps ops r (e.put o.dst undef) w K
        | _ => False
/-! #### Where what writes is open -/
def firstFree (ops : Array Oper) (e : Env) : List Nat → Option Nat
  | [] => none
  | j :: r => match ops[j]? with
    | none => none
    | some o => match wrP P o.op with
      | true => firstFree ops e r
      | false => match freeOp P e o.op with | true => some j | false => firstFree ops e r
def firstRead (ops : Array Oper) : List Nat → Option Nat
  | [] => none
  | j :: r => match ops[j]? with
    | none => firstRead ops r
    | some o => match wrP P o.op with | true => firstRead ops r | false => some j
abbrev Pend := List (Nat × Env × Value)
def obligs (ops : Array Oper) (w : World) (j : Nat) : Pend → Prop → Prop
  | [], X => X
  | (i, e, v) :: r, X => match memN ((ancs ops).getD j []) i with
    | true => obligs ops w j r X
    | false => match ops[i]? with | none => False | some o => pureOp P w e o.op fun u => And (u = v) (obligs ops w j r X)
def eachW : List Nat → (Nat → Prop) → Prop
  | [], _ => True
  | [j], X => X j
  | j :: r, X => And (X j) (eachW r X)
def vcAny (ops : Array Oper) : Nat → Array Bool → Pend → Env → World → (Env → World → Prop) → Prop
  | 0, listed, _, e, w, K => match Region.ready .any ops listed with | [] => K e w | _ :: _ => False
  | f + 1, listed, ps, e, w, K => match Region.ready .any ops listed with
    | [] => K e w
    | j0 :: js => match firstFree P ops e (j0 :: js) with
      | some i => match ops[i]? with
        | none => False
        | some o => pureOp P w e o.op fun v => vcAny ops f (listed.setIfInBounds i true) ps (e.put o.dst v) w K
      | none => match firstRead P ops (j0 :: js) with
        | some i => match ops[i]? with
          | none => False
          | some o => pureOp P w e o.op fun v => vcAny ops f (listed.setIfInBounds i true) ((i, e, v) :: ps) (e.put o.dst v) w K
        | none => eachW (j0 :: js) fun j => match ops[j]? with
          | none => False
          | some o => writeOp P G w e o.op o.type fun v w' => obligs P ops w' j ps (vcAny ops f (listed.setIfInBounds j true) ps (e.put o.dst v) w' K)
end

def Code.sz : Code → Nat
  | .seq x y => 1 + Code.sz x + Code.sz y
  | .cond _ x y => 1 + Code.sz x + Code.sz y
  | .block _ x => 1 + Code.sz x
  | .loop x => 1 + Code.sz x
  | .scope x => 1 + Code.sz x
  | _ => 1
def opsDsts : List Oper → List Nat
  | [] => []
  | o :: r => match o.dst with | some d => d :: opsDsts r | none => opsDsts r
def Code.dsts : Code → List Nat
  | .seq x y => Code.dsts x ++ Code.dsts y
  | .cond _ x y => Code.dsts x ++ Code.dsts y
  | .block _ x => Code.dsts x
  | .loop x => Code.dsts x
  | .region _ ops _ => opsDsts ops.toList
  | _ => []

/-- Slots with their kinds. -/
abbrev Lv := List (Nat × Kd)
@[reducible] def ST : Lv → Type
  | [] => Unit
  | (_, k) :: r => k.T × ST r
def zipE : (ls : Lv) → ST ls → Env
  | [], _ => []
  | (s, k) :: r, z => (s, k.val z.1) :: zipE r z.2
def withV : (ls : Lv) → Env → (ST ls → Prop) → Prop
  | [], _, K => K ()
  | (s, k) :: r, e, K => match e.get s with
    | some v => k.un v fun x => withV r e fun z => K (x, z)
    | none => False
/-- Of an environment the slots that are wanted, and are not written. -/
def pickE (ds : List Nat) (e : Env) : List Nat → Env
  | [] => []
  | s :: r => match memN ds s with
    | true => pickE ds e r
    | false => match e.get s with | some v => (s, v) :: pickE ds e r | none => pickE ds e r
/-- A loop: what holds at each round's head, and a measure. -/
def LoopC {T : Type} (start : (T → World → Prop) → Prop) (round : T → World → (T → World → Prop) → Prop) : Prop :=
  ∃ (J : T → World → Prop) (m : T → World → Nat), start J ∧ ∀ z w, J z w → round z w fun z' w' => J z' w' ∧ m z' w' < m z w

section
variable (P : Program) (G : Nat → Bool) (ann : Nat → Option (Lv × List Nat))

def vc : Nat → Code → (Exit → Env → World → Prop) → Env → World → Prop
  | _, .skip, K, e, w => K .normal e w
  | _, .label _, K, e, w => K .normal e w
  | _, .exit id, K, e, w => K (.exit id) e w
  | _, .goto l, K, e, w => K (.goto l) e w
  | _, .ret, K, e, w => K .ret e w
  | _, .region _ ops false, K, e, w => vcOps P G ops ops.toList e w fun e w => K .normal e w
  | _, .region _ ops true, K, e, w => match okDraw (wrP P) ops with
    | true => DrewC w fun w => vcOps P G ops ops.toList e w fun e w => K .normal e w
    | false => match okAny (wrP P) ops with
      | true => DrewC w fun w => vcAny P G ops ops.size (Array.replicate ops.size false) [] e w fun e w => K .normal e w
      | false => False
  | b, .seq x y, K, e, w => match ann b with
    | none => vc (b + 1) x (fun ex e w => match ex with | .normal => vc (b + 1 + Code.sz x) y K e w | ex => K ex e w) e w
    | some (ls, ks) => JoinC (fun (z : ST ls) w => vc (b + 1 + Code.sz x) y K (zipE ls z ++ pickE (Code.dsts x) e ks) w)
        (fun J => vc (b + 1) x (fun ex e w => match ex with | .normal => withV ls e fun z => J z w | ex => K ex e w) e w)
  | b, .cond c x y, K, e, w => wv e c fun v => match v with
    | .bool t => IfC t (vc (b + 1) x K e w) (vc (b + 1 + Code.sz x) y K e w)
    | _ => False
  | b, .block id x, K, e, w => vc (b + 1) x (fun ex e w => match ex with
    | .exit id' => match Nat.beq id' id with | true => K .normal e w | false => K (.exit id') e w
    | ex => K ex e w) e w
  | b, .loop x, K, e, w => match ann b with
    | none => False
    | some (ls, ks) => LoopC (fun J => withV ls e fun z => J z w)
          (fun z w N => vc (b + 1) x (fun ex e w => match ex with | .normal => withV ls e fun z => N z w | ex => K ex e w) (zipE ls z ++ pickE (Code.dsts x) e ks) w)
  | _, _, _, _, _ => False
end

def okD (n : Nat) (ds : List Nat) : Bool := match ds with | [] => true | d :: r => match Nat.blt d n with | true => okD n r | false => false

/-! ### That it suffices -/
section
variable {P : Program} {G : Nat → Bool} {ann : Nat → Option (Lv × List Nat)} {n : Nat} {dfs : List Deferred}

/-- Outside some slots a frame is as another. -/
def Ext (ds : List Nat) (a a' : Act) : Prop := ∀ s, s ∉ ds → a'.tmps.getD s undef = a.tmps.getD s undef
theorem Ext.refl (ds : List Nat) (a : Act) : Ext ds a a := fun _ _ => rfl
theorem Ext.trans {ds : List Nat} {a a1 a2 : Act} (h : Ext ds a a1) (h' : Ext ds a1 a2) : Ext ds a a2 := fun s hs => (h' s hs).trans (h s hs)
theorem Ext.mono {ds ds' : List Nat} {a a1 : Act} (h : Ext ds a a1) (hs : ∀ s, s ∈ ds → s ∈ ds') : Ext ds' a a1 := fun s h' => h s fun h1 => h' (hs s h1)
theorem Ext.put {ds : List Nat} {a a1 : Act} {d : Option Tmp} {v : Value} (h : Ext ds a a1) (hd : ∀ x, d = some x → x ∈ ds) : Ext ds a (a1.put d v) := by
  intro s hs
  cases d with
  | none => exact h s hs
  | some d =>
    have : d ≠ s := fun e => hs (e ▸ hd d rfl)
    have hp : (a1.put (some d) v).tmps.getD s undef = a1.tmps.getD s undef := by simp [Act.put, this]
    rw [hp]; exact h s hs

theorem get_put {e : Env} {d : Option Nat} {v : Value} {s : Nat} (h : ∀ x, d = some x → x ≠ s) : (e.put d v).get s = e.get s := by
  cases d with
  | none => rfl
  | some d =>
    simp only [Env.put, Env.get]
    split
    · rename_i e; exact absurd (Nat.eq_of_beq_eq_true e) (h d rfl)
    · rfl
theorem get_same {e : Env} {d : Nat} {v : Value} (hv : e.get d = some v) (s : Nat) : Env.get ((d, v) :: e) s = e.get s := by
  simp only [Env.get]
  split
  · rename_i h; have h := Nat.eq_of_beq_eq_true h; subst h; exact hv.symm
  · rfl
theorem Rep.same {e e' : Env} {a : Act} (h : Rep n dfs e a) (he : ∀ s, e'.get s = e.get s) : Rep n dfs e' a := ⟨h.size, fun s v hs => h.get s v (by rw [← he]; exact hs), h.defers⟩

theorem IfC_spec {t : Bool} {X Y : Prop} (h : IfC t X Y) : (t = true ∧ X) ∨ (t = false ∧ Y) := by cases t; exact .inr ⟨rfl, h⟩; exact .inl ⟨rfl, h⟩

theorem okD_mem {ds : List Nat} (h : okD n ds = true) : ∀ d ∈ ds, d < n := by
  induction ds with
  | nil => simp
  | cons d r ih =>
    simp only [okD] at h
    split at h
    · rename_i hb
      intro x hx
      rcases List.mem_cons.1 hx with rfl | hx
      · exact Nat.le_of_ble_eq_true hb
      · exact ih h x hx
    · cases h

theorem yields_of {ops : Array Oper} {e : Env} {a : Act} (hr : Rep n dfs e a) {j d : Nat} (hj : guardSlot ops j = some d) {v : Value} (hv : e.get d = some v) :
    yielded ops a.tmps j = match v with | .bool b => some b | _ => none := by
  obtain ⟨h1, h2⟩ := hr.get d v hv
  have : a.tmps[d]? = some v := by
    have hd : d < a.tmps.size := by rw [hr.size]; exact h1
    simp [hd] at h2
    simp [hd, h2]
  unfold yielded
  have hj' : (ops[j]?).bind (·.dst) = some d := by
    unfold guardSlot at hj
    cases ho : ops[j]? with
    | none => simp [ho] at hj
    | some o => simpa [ho] using hj
  simp only [hj', Option.bind_some, this]
  cases v <;> rfl

theorem vcOps_spec (hG : Bodies P G) {ops : Array Oper} {Q : Exit → Act → World → Prop} {K : Env → World → Prop} {K' : Act → World → Prop} {ds : List Nat} {a0 : Act}
    (hK : ∀ e a w, Rep n dfs e a → Ext ds a0 a → K e w → K' a w) :
    ∀ (l : List Oper) (k : Nat) (e : Env) (a : Act) (w : World), (∀ j, l[j]? = ops[k + j]?) → (∀ d ∈ opsDsts l, d < n ∧ d ∈ ds) → Rep n dfs e a → Ext ds a0 a → vcOps P G ops l e w K →
      actOps (wrP P) P ops Q K' (List.range' k l.length) a w := by
  intro l
  induction l with
  | nil => intro k e a w _ _ hr hx h; exact hK e a w hr hx h
  | cons o l ih =>
    intro k e a w hl hds hr hx h
    have ho : ops[k]? = some o := by simpa using (hl 0).symm
    have hl' : ∀ j, l[j]? = ops[k + 1 + j]? := fun j => by have := hl (j + 1); simpa [Nat.add_assoc, Nat.add_comm 1 j] using this
    have hdo : ∀ d, o.dst = some d → d < n ∧ d ∈ ds := fun d hd => hds d (by simp [opsDsts, hd])
    have hdl : ∀ d ∈ opsDsts l, d < n ∧ d ∈ ds := fun d hd => hds d (by unfold opsDsts; split <;> simp [hd])
    have hput : ∀ {e : Env} {v : Value}, Rep n dfs e a → Ext ds a0 a → Rep n dfs (e.put o.dst v) (a.put o.dst v) ∧ Ext ds a0 (a.put o.dst v) := by
      intro e v hr hx
      exact ⟨hr.put (fun x hx => (hdo x hx).1) v, hx.put fun x hx => (hdo x hx).2⟩
    -- it is run
    have run : ∀ {e : Env}, Rep n dfs e a → Ext ds a0 a → Region.wanted o (yielded ops a.tmps) = true → (oneOp P G o e w fun v w' => vcOps P G ops l (e.put o.dst v) w' K) →
        actOps (wrP P) P ops Q K' (k :: List.range' (k + 1) l.length) a w := by
      intro e hr hx hw h
      simp only [actOps, ho, hw, if_true]
      unfold oneOp at h
      split at h
      · rename_i hwr
        simp only [hwr, if_true]
        exact writeOp_spec hG hr (fun v w' hv => ih (k + 1) _ _ _ hl' hdl (hput hr hx).1 (hput hr hx).2 hv) h
      · rename_i hwr
        simp only [hwr, Bool.false_eq_true, if_false]
        obtain ⟨v, h1, h2⟩ := pureOp_spec hr h
        exact ⟨v, h1, ih (k + 1) _ _ _ hl' hdl (hput hr hx).1 (hput hr hx).2 h2⟩
    have skip : ∀ {e : Env}, Rep n dfs e a → Ext ds a0 a → Region.wanted o (yielded ops a.tmps) = false → vcOps P G ops l (e.put o.dst undef) w K →
        actOps (wrP P) P ops Q K' (k :: List.range' (k + 1) l.length) a w := by
      intro e hr hx hw h
      simp only [actOps, ho, hw, Bool.false_eq_true, if_false]
      exact ih (k + 1) _ _ _ hl' hdl (hput hr hx).1 (hput hr hx).2 h
    simp only [List.length_cons, List.range'_succ]
    simp only [vcOps] at h
    split at h
    · rename_i hg
      exact run hr hx (by simp [Region.wanted, hg]) h
    · rename_i j want hg
      split at h
      · exact h.elim
      · rename_i d hd
        split at h
        · rename_i t ht
          have hy := yields_of hr hd ht
          have hr' : ∀ {b : Bool}, t = b → Rep n dfs ((d, .bool b) :: e) a ∧ Ext ds a0 a := by
            intro b hb
            subst hb
            exact ⟨hr.same (get_same ht), hx⟩
          split at h
          · rcases IfC_spec h with ⟨rfl, h⟩ | ⟨rfl, h⟩
            · exact run (hr' rfl).1 (hr' rfl).2 (by simp [Region.wanted, hg, hy]) h
            · exact skip (hr' rfl).1 (hr' rfl).2 (by simp [Region.wanted, hg, hy]) h
          · rcases IfC_spec h with ⟨rfl, h⟩ | ⟨rfl, h⟩
            · exact skip (hr' rfl).1 (hr' rfl).2 (by simp [Region.wanted, hg, hy]) h
            · exact run (hr' rfl).1 (hr' rfl).2 (by simp [Region.wanted, hg, hy]) h
        · rename_i vs ht
          have hy := yields_of hr hd ht
          exact skip hr hx (by simp [Region.wanted, hg, hy]) h
        · exact h.elim

theorem memN_iff {ds : List Nat} {s : Nat} : memN ds s = true ↔ s ∈ ds := by
  induction ds with
  | nil => simp [memN]
  | cons x r ih =>
    simp only [memN]
    split
    · rename_i e; have e := Nat.eq_of_beq_eq_true e; subst e; simp
    · rename_i e
      have e : x ≠ s := fun e' => by subst e'; simp at e
      simp [ih, Ne.symm e]

theorem opsDsts_mem {o : Oper} {d : Nat} : ∀ {l : List Oper}, o ∈ l → o.dst = some d → d ∈ opsDsts l
  | x :: r, h, hd => by
    rcases List.mem_cons.1 h with rfl | h
    · simp [opsDsts, hd]
    · unfold opsDsts; split
      · exact List.mem_cons_of_mem _ (opsDsts_mem h hd)
      · exact opsDsts_mem h hd

theorem firstFree_spec {ops : Array Oper} {e : Env} : ∀ {l : List Nat} {i : Nat}, firstFree P ops e l = some i → i ∈ l ∧ ∀ o, ops[i]? = some o → wrP P o.op = false ∧ freeOp P e o.op = true
  | [], i, h => by cases h
  | j :: r, i, h => by
    simp only [firstFree] at h
    split at h
    · cases h
    · rename_i o ho
      split at h
      · obtain ⟨h1, h2⟩ := firstFree_spec h; exact ⟨List.mem_cons_of_mem _ h1, h2⟩
      · rename_i hw
        split at h
        · rename_i hf
          have h := Option.some.inj h
          subst h
          exact ⟨by simp, fun o' ho' => by have := Option.some.inj (ho.symm.trans ho'); subst this; exact ⟨hw, hf⟩⟩
        · obtain ⟨h1, h2⟩ := firstFree_spec h; exact ⟨List.mem_cons_of_mem _ h1, h2⟩

theorem firstRead_some {ops : Array Oper} : ∀ {l : List Nat} {i : Nat}, firstRead P ops l = some i → i ∈ l ∧ ∀ o, ops[i]? = some o → wrP P o.op = false
  | [], i, h => by cases h
  | j :: r, i, h => by
    simp only [firstRead] at h
    split at h
    · obtain ⟨h1, h2⟩ := firstRead_some h; exact ⟨List.mem_cons_of_mem _ h1, h2⟩
    · rename_i o ho
      split at h
      · obtain ⟨h1, h2⟩ := firstRead_some h; exact ⟨List.mem_cons_of_mem _ h1, h2⟩
      · rename_i hw
        have h := Option.some.inj h
        subst h
        exact ⟨by simp, fun o' ho' => by have := Option.some.inj (ho.symm.trans ho'); subst this; exact hw⟩

theorem firstRead_none {ops : Array Oper} : ∀ {l : List Nat}, firstRead P ops l = none → ∀ j ∈ l, ∀ o, ops[j]? = some o → wrP P o.op = true
  | [], _, j, hj => by cases hj
  | i :: r, h, j, hj => by
    simp only [firstRead] at h
    intro o ho
    split at h
    · rename_i hn
      rcases List.mem_cons.1 hj with rfl | hj
      · rw [hn] at ho; cases ho
      · exact firstRead_none h j hj o ho
    · rename_i o' ho'
      split at h
      · rename_i hw
        rcases List.mem_cons.1 hj with rfl | hj
        · have := Option.some.inj (ho'.symm.trans ho); subst this; exact hw
        · exact firstRead_none h j hj o ho
      · cases h

theorem eachW_spec {X : Nat → Prop} : ∀ {l : List Nat}, eachW l X → ∀ j ∈ l, X j
  | [], _, j, hj => by cases hj
  | [i], h, j, hj => by simp at hj; subst hj; exact h
  | i :: k :: r, h, j, hj => by
    rcases List.mem_cons.1 hj with rfl | hj
    · exact h.1
    · exact eachW_spec h.2 j hj

abbrev Kept := List (Nat × Env × Value × Act × Oper)
def keptP (L : Kept) : Pend := L.map fun x => (x.1, x.2.1, x.2.2.1)
def keptS (L : Kept) : PendS := L.map fun x => (x.1, execOp x.2.2.2.1.eval x.2.2.2.2, x.2.2.1)

theorem obligs_spec {ops : Array Oper} {w : World} {j : Nat} {X : Prop} : ∀ {L : Kept}, (∀ x ∈ L, ops[x.1]? = some x.2.2.2.2 ∧ Rep n dfs x.2.1 x.2.2.2.1) → obligs P ops w j (keptP L) X →
    X ∧ ∀ x ∈ L, x.1 ∉ (ancs ops).getD j [] → (execOp x.2.2.2.1.eval x.2.2.2.2).run P w = .ok (.value x.2.2.1) w
  | [], _, h => ⟨h, fun x hx => by cases hx⟩
  | (i, e, v, a, o) :: r, hR, h => by
    obtain ⟨ho, ha⟩ := hR (i, e, v, a, o) (by simp)
    simp only at ho ha
    have hR' : ∀ x ∈ r, ops[x.1]? = some x.2.2.2.2 ∧ Rep n dfs x.2.1 x.2.2.2.1 := fun x hx => hR x (List.mem_cons_of_mem _ hx)
    simp only [keptP, List.map_cons, obligs, ho] at h
    split at h
    · rename_i hm
      obtain ⟨h1, h2⟩ := obligs_spec hR' h
      refine ⟨h1, fun x hx hn => ?_⟩
      rcases List.mem_cons.1 hx with rfl | hx
      · exact absurd (memN_iff.1 hm) hn
      · exact h2 x hx hn
    · obtain ⟨u, hu, rfl, h3⟩ := pureOp_spec (P := P) (o := o) ha h
      obtain ⟨h1, h2⟩ := obligs_spec hR' h3
      refine ⟨h1, fun x hx hn => ?_⟩
      rcases List.mem_cons.1 hx with rfl | hx
      · exact hu
      · exact h2 x hx hn

theorem vcAny_spec (hG : Bodies P G) {ops : Array Oper} {K : Env → World → Prop} {K' : Act → World → Prop} {ds : List Nat} {a0 : Act} (hok : okAny (wrP P) ops = true)
    (hds : ∀ (j : Nat) (o : Oper) (d : Nat), ops[j]? = some o → o.dst = some d → d < n ∧ d ∈ ds) (hK : ∀ e a w, Rep n dfs e a → Ext ds a0 a → K e w → K' a w) :
    ∀ (f : Nat) (listed : Array Bool) (L : Kept) (e : Env) (a : Act) (w : World), Inv ops listed → (∀ x ∈ L, ops[x.1]? = some x.2.2.2.2 ∧ Rep n dfs x.2.1 x.2.2.2.1) → Rep n dfs e a → Ext ds a0 a →
      vcAny P G ops f listed (keptP L) e w K → wpO (wrP P) P ops K' (keptS L) f listed a w := by
  intro f
  induction f with
  | zero =>
    intro listed L e a w _ _ hr hx h
    simp only [vcAny] at h
    split at h
    · rename_i h0; exact ⟨h0, hK e a w hr hx h⟩
    · exact h.elim
  | succ f ih =>
    intro listed L e a w inv hL hr hx h
    have hput : ∀ {j : Nat} {o : Oper} {e : Env} {a : Act} (v : Value), ops[j]? = some o → Rep n dfs e a → Ext ds a0 a → Rep n dfs (e.put o.dst v) (a.put o.dst v) ∧ Ext ds a0 (a.put o.dst v) := by
      intro j o e a v ho hr hx
      exact ⟨hr.put (fun d hd => (hds j o d ho hd).1) v, hx.put fun d hd => (hds j o d ho hd).2⟩
    simp only [vcAny] at h
    split at h
    · rename_i h0
      exact ⟨fun _ => hK e a w hr hx h, fun j hj => by rw [h0] at hj; cases hj⟩
    · rename_i j0 js h0
      split at h
      · rename_i i hi
        obtain ⟨hmem, hfree⟩ := firstFree_spec hi
        rw [← h0] at hmem
        split at h
        · exact h.elim
        · rename_i o ho
          obtain ⟨hw, hf⟩ := hfree o ho
          obtain ⟨v, hv, hk⟩ := pureOp_free hr hf h
          obtain ⟨hr', hx'⟩ := hput v ho hr hx
          exact reader_first (ps' := keptS L) hok (fun x hx => hx) ho hw f listed a w inv hmem (hv w) (.inl hv) (ih _ L _ _ _ (inv_set inv hmem) hL hr' hx' hk)
      · split at h
        · rename_i i hi
          obtain ⟨hmem, hread⟩ := firstRead_some hi
          rw [← h0] at hmem
          split at h
          · exact h.elim
          · rename_i o ho
            have hw := hread o ho
            obtain ⟨v, hv, hk⟩ := pureOp_spec hr h
            obtain ⟨hr', hx'⟩ := hput v ho hr hx
            refine reader_first (ps' := keptS ((i, e, v, a, o) :: L)) hok (fun x hx => List.mem_cons_of_mem _ hx) ho hw f listed a w inv hmem hv (.inr (by simp [keptS])) ?_
            refine ih _ ((i, e, v, a, o) :: L) _ _ _ (inv_set inv hmem) ?_ hr' hx' hk
            intro x hx
            rcases List.mem_cons.1 hx with rfl | hx
            · exact ⟨ho, hr⟩
            · exact hL x hx
        · rename_i hnone
          have h := eachW_spec h
          refine ⟨fun e0 => (by rw [h0] at e0; cases e0), fun j hj => ?_⟩
          have hj' := hj
          rw [h0] at hj'
          have h := h j hj'
          split at h
          · exact h.elim
          · rename_i o ho
            have hw := firstRead_none hnone j hj' o ho
            unfold aOp
            simp only [ho, hw, if_true]
            refine writeOp_spec hG hr (K := fun v w' => obligs P ops w' j (keptP L) (vcAny P G ops f (listed.setIfInBounds j true) (keptP L) (e.put o.dst v) w' K)) (fun v w' hv => ?_) h
            obtain ⟨h1, h2⟩ := obligs_spec hL hv
            obtain ⟨hr', hx'⟩ := hput v ho hr hx
            refine ⟨fun _ x hx hn => ?_, ih _ L _ _ _ (inv_set inv hj) hL hr' hx' h1⟩
            obtain ⟨y, hy, rfl⟩ := List.mem_map.1 hx
            exact h2 y hy hn

theorem pickE_some {ds : List Nat} {e : Env} {s : Nat} {v : Value} : ∀ {ks : List Nat}, (pickE ds e ks).get s = some v → s ∉ ds ∧ e.get s = some v
  | [], h => by simp [pickE, Env.get] at h
  | k :: r, h => by
    simp only [pickE] at h
    split at h
    · exact pickE_some h
    · rename_i hm
      split at h
      · rename_i u hu
        simp only [Env.get] at h
        split at h
        · rename_i e1; have e1 := Nat.eq_of_beq_eq_true e1; subst e1
          have hmm : k ∉ ds := by
            intro hmem
            rw [memN_iff.2 hmem] at hm
            cases hm
          exact ⟨hmm, by rw [hu]; exact h⟩
        · exact pickE_some h
      · exact pickE_some h

theorem get_append {x y : Env} {s : Nat} : (x ++ y).get s = match x.get s with | some v => some v | none => y.get s := by
  induction x with
  | nil => rfl
  | cons p r ih =>
    obtain ⟨t, v⟩ := p
    simp only [List.cons_append, Env.get]
    split <;> simp_all

theorem withV_spec {e : Env} : ∀ {ls : Lv} {K : ST ls → Prop}, withV ls e K → ∃ z : ST ls, (∀ s v, (zipE ls z).get s = some v → e.get s = some v) ∧ K z
  | [], K, h => ⟨(), fun s v hs => by simp [zipE, Env.get] at hs, h⟩
  | (s, k) :: r, K, h => by
    simp only [withV] at h
    split at h
    · rename_i v hv
      obtain ⟨x, hxv, h'⟩ := un_spec h
      clear h
      subst hxv
      obtain ⟨z, h1, h2⟩ := withV_spec h'
      refine ⟨(x, z), fun t u ht => ?_, h2⟩
      simp only [zipE, Env.get] at ht
      split at ht
      · rename_i e; have e := Nat.eq_of_beq_eq_true e; subst e; rw [hv]; exact ht
      · exact h1 t u ht
    · exact h.elim

/-- The frame that a piece leaves, seen by its live slots. -/
theorem rep_join {ds ks : List Nat} {ls : Lv} {e e1 : Env} {a a1 : Act} (hr : Rep n dfs e a) (hr1 : Rep n dfs e1 a1) (hx : Ext ds a a1) {z : ST ls} (hz : ∀ s v, (zipE ls z).get s = some v → e1.get s = some v) :
    Rep n dfs (zipE ls z ++ pickE ds e ks) a1 := by
  refine ⟨hr1.size, fun s v hs => ?_, hr1.defers⟩
  rw [get_append] at hs
  split at hs
  · rename_i u hu
    have hs := Option.some.inj hs
    subst hs
    exact hr1.get s u (hz s u hu)
  · obtain ⟨h1, h2⟩ := pickE_some hs
    obtain ⟨h3, h4⟩ := hr.get s v h2
    exact ⟨h3, by rw [hx s h1]; exact h4⟩

theorem loop_rule {c : Code} {Q : Exit → Act → World → Prop} (I : Nat → Act → World → Prop) (round : ∀ m a w, I m a w → c.wp P (Exit.then (fun a' w' => ∃ m', m' < m ∧ I m' a' w') Q) a w) :
    ∀ m a w, I m a w → (Code.loop c).wp P Q a w := by
  intro m a w hI b k cs
  have key : ∀ m a w, I m a w → ∃ e a' w', Q e a' w' ∧ Arrives P (lone (b.at a (.code c :: .inLoop c :: k)) cs w) b k cs e a' w' := by
    intro m
    induction m using Nat.strongRecOn with
    | _ m ih =>
      intro a w hI
      obtain ⟨e, a₁, w₁, hq, harr⟩ := round m a w hI b (.inLoop c :: k) cs
      cases e with
      | normal =>
        obtain ⟨m', hlt, hI₁⟩ := hq
        obtain ⟨e₂, a₂, w₂, hq₂, harr₂⟩ := ih m' hlt a₁ w₁ hI₁
        exact ⟨e₂, a₂, w₂, hq₂, .of_steps (Steps.trans harr (.one step_inLoop)) harr₂⟩
      | exit id => exact ⟨_, a₁, w₁, hq, .pass (x := .inLoop c) rfl (fun _ _ => .inl (by simp)) harr⟩
      | goto l => exact ⟨_, a₁, w₁, hq, .pass (x := .inLoop c) rfl (fun _ _ => .inl (by simp)) harr⟩
      | ret => exact ⟨_, a₁, w₁, hq, .pass (x := .inLoop c) rfl (fun _ _ => .inl (by simp)) harr⟩
      | panic ch => exact ⟨_, a₁, w₁, hq, .pass (x := .inLoop c) rfl (fun _ _ => .inl (by simp)) harr⟩
      | outgrown => exact ⟨_, a₁, w₁, hq, .pass (x := .inLoop c) rfl (fun _ _ => .inl (by simp)) harr⟩
  obtain ⟨e, a', w', hq, harr⟩ := key m a w hI
  exact ⟨e, a', w', hq, .of_steps (.one step_loop) harr⟩

theorem vc_sound (hm : P.follows .mixedOrders = true) (hG : Bodies P G) : ∀ (c : Code) (b : Nat) (K : Exit → Env → World → Prop) (e : Env) (a : Act) (w : World),
    (∀ d ∈ Code.dsts c, d < n) → vc P G ann b c K e w → Rep n dfs e a → c.wp P (fun ex a' w' => ∃ e', Rep n dfs e' a' ∧ Ext (Code.dsts c) a a' ∧ K ex e' w') a w := by
  intro c
  induction c with
  | skip => intro b K e a w _ h hr; exact wp_skip ⟨e, hr, Ext.refl _ _, h⟩
  | label l => intro b K e a w _ h hr; exact wp_label ⟨e, hr, Ext.refl _ _, h⟩
  | exit id => intro b K e a w _ h hr; exact wp_exit ⟨e, hr, Ext.refl _ _, h⟩
  | goto l => intro b K e a w _ h hr; exact wp_goto ⟨e, hr, Ext.refl _ _, h⟩
  | ret => intro b K e a w _ h hr; exact wp_ret ⟨e, hr, Ext.refl _ _, h⟩
  | refuse why => intro b K e a w _ h hr; exact h.elim
  | rangeFunc f ps as bd ih1 ih2 => intro b K e a w _ h hr; exact h.elim
  | scope x ih => intro b K e a w _ h hr; exact h.elim
  | region id ops dr =>
    intro b K e a w hd h hr
    have hd' : ∀ d ∈ opsDsts ops.toList, d < n ∧ d ∈ Code.dsts (.region id ops dr) := fun d hx => ⟨hd d hx, hx⟩
    have hlen : List.range ops.size = List.range' 0 ops.toList.length := by rw [List.range_eq_range']; simp
    cases dr with
    | false =>
      refine wp_still (wr := wrP P) (K := fun a' w' => ∃ e', Rep n dfs e' a' ∧ Ext (Code.dsts (.region id ops false)) a a' ∧ K .normal e' w') (fun _ _ h => h) ?_
      rw [hlen]
      exact vcOps_spec hG (K := fun e w => K .normal e w) (fun e' a' w' h1 h2 h3 => ⟨e', h1, h2, h3⟩) ops.toList 0 e a w (fun j => by simp) hd' hr (Ext.refl _ _) h
    | true =>
      simp only [vc] at h
      split at h
      · rename_i hok
        refine wp_draw (wr := wrP P) (K := fun a' w' => ∃ e', Rep n dfs e' a' ∧ Ext (Code.dsts (.region id ops true)) a a' ∧ K .normal e' w') hm hok (fun _ _ h => h) ?_
        rw [hlen]
        exact vcOps_spec hG (K := fun e w => K .normal e w) (fun e' a' w' h1 h2 h3 => ⟨e', h1, h2, h3⟩) ops.toList 0 e a _ (fun j => by simp) hd' hr (Ext.refl _ _) h
      · split at h
        · rename_i hok
          refine wp_any (wr := wrP P) (K := fun a' w' => ∃ e', Rep n dfs e' a' ∧ Ext (Code.dsts (.region id ops true)) a a' ∧ K .normal e' w') hm hok (fun _ _ h => h) ?_
          exact vcAny_spec hG (K := fun e w => K .normal e w) hok (fun j o d ho hd => hd' d (opsDsts_mem (Array.mem_toList_iff.2 (Array.mem_of_getElem? ho)) hd)) (fun e' a' w' h1 h2 h3 => ⟨e', h1, h2, h3⟩) ops.size _ [] e a _ inv_start (fun x hx => by cases hx) hr (Ext.refl _ _) h
        · exact h.elim
  | seq x y ihx ihy =>
    intro b K e a w hd h hr
    have hdx : ∀ d ∈ Code.dsts x, d < n := fun d h => hd d (List.mem_append_left _ h)
    have hdy : ∀ d ∈ Code.dsts y, d < n := fun d h => hd d (List.mem_append_right _ h)
    have left : ∀ {a a' : Act}, Ext (Code.dsts x) a a' → Ext (Code.dsts (.seq x y)) a a' := fun h => h.mono fun s hs => List.mem_append_left _ hs
    refine wp_seq ?_
    simp only [vc] at h
    split at h
    · refine wp_mono (ihx _ _ _ _ _ hdx h hr) ?_
      rintro ex a1 w1 ⟨e1, hr1, hx1, hk⟩
      cases ex with
      | normal =>
        refine wp_mono (ihy _ _ _ _ _ hdy hk hr1) ?_
        rintro ex a2 w2 ⟨e2, hr2, hx2, hk2⟩
        exact ⟨e2, hr2, fun s hs => (hx2 s fun h => hs (List.mem_append_right _ h)).trans (hx1 s fun h => hs (List.mem_append_left _ h)), hk2⟩
      | _ => exact ⟨e1, hr1, left hx1, hk⟩
    · rename_i ls ks hls
      unfold JoinC at h
      refine wp_mono (ihx _ _ _ _ _ hdx h hr) ?_
      rintro ex a1 w1 ⟨e1, hr1, hx1, hk⟩
      cases ex with
      | normal =>
        obtain ⟨z, hz, hk⟩ := withV_spec hk
        refine wp_mono (ihy _ _ _ _ _ hdy hk (rep_join hr hr1 hx1 hz)) ?_
        rintro ex a2 w2 ⟨e2, hr2, hx2, hk2⟩
        exact ⟨e2, hr2, fun s hs => (hx2 s fun h => hs (List.mem_append_right _ h)).trans (hx1 s fun h => hs (List.mem_append_left _ h)), hk2⟩
      | _ => exact ⟨e1, hr1, left hx1, hk⟩
  | cond c x y ihx ihy =>
    intro b K e a w hd h hr
    have hdx : ∀ d ∈ Code.dsts x, d < n := fun d h => hd d (List.mem_append_left _ h)
    have hdy : ∀ d ∈ Code.dsts y, d < n := fun d h => hd d (List.mem_append_right _ h)
    have h := wv_spec hr h
    split at h
    · rename_i t ht
      rcases IfC_spec h with ⟨rfl, h⟩ | ⟨rfl, h⟩
      · exact wp_cond_true ht (wp_mono (ihx _ _ _ _ _ hdx h hr) fun ex a w ⟨e, h1, h2, h3⟩ => ⟨e, h1, h2.mono fun s hs => List.mem_append_left _ hs, h3⟩)
      · exact wp_cond_false ht (wp_mono (ihy _ _ _ _ _ hdy h hr) fun ex a w ⟨e, h1, h2, h3⟩ => ⟨e, h1, h2.mono fun s hs => List.mem_append_right _ hs, h3⟩)
    · exact h.elim
  | block id x ih =>
    intro b K e a w hd h hr
    refine wp_block (wp_mono (ih _ _ _ _ _ hd h hr) ?_)
    rintro ex a1 w1 ⟨e1, hr1, hx1, hk⟩
    cases ex with
    | exit id' =>
      simp only [Exit.inBlock]
      simp only at hk
      split at hk
      · rename_i hb
        rw [if_pos (Nat.eq_of_beq_eq_true hb)]
        exact ⟨e1, hr1, hx1, hk⟩
      · rename_i hb
        rw [if_neg (fun e => by subst e; simp at hb)]
        exact ⟨e1, hr1, hx1, hk⟩
    | _ => exact ⟨e1, hr1, hx1, hk⟩
  | loop x ih =>
    intro b K e a w hd h hr
    simp only [vc] at h
    split at h
    · exact h.elim
    · rename_i ls ks hls
      obtain ⟨J, m, h0, hround⟩ := h
      obtain ⟨z0, hz0, hJ0⟩ := withV_spec h0
      refine loop_rule (fun k a' w => ∃ z : ST ls, Rep n dfs (zipE ls z ++ pickE (Code.dsts x) e ks) a' ∧ Ext (Code.dsts x) a a' ∧ J z w ∧ m z w = k) ?_ (m z0 w) a w ⟨z0, rep_join hr hr (Ext.refl _ _) hz0, Ext.refl _ _, hJ0, rfl⟩
      rintro k a1 w1 ⟨z, hr1, hx1, hJ, rfl⟩
      refine wp_mono (ih _ _ _ _ _ hd (hround z w1 hJ) hr1) ?_
      rintro ex a2 w2 ⟨e2, hr2, hx2, hk⟩
      have hx : Ext (Code.dsts x) a a2 := hx1.trans hx2
      cases ex with
      | normal =>
        obtain ⟨z', hz', hJ', hlt⟩ := withV_spec hk
        exact ⟨m z' w2, hlt, z', rep_join hr hr2 hx hz', hx, hJ', rfl⟩
      | _ => exact ⟨e2, hr2, hx, hk⟩
end
end Go.V
