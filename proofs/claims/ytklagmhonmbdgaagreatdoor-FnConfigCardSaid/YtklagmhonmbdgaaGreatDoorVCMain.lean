/- The whole body: what is to be shown of it, and that this suffices. -/
import Derived.Test.YtklagmhonmbdgaaGreatDoorVCPure
namespace Go.V
open Go

section
variable {P : Program} {w : World}

theorem wk {s : Sem Value} {K : Value → Prop} : (∃ v, (∀ w, s.run P w = .ok v w) ∧ K v) → ∃ v, s.run P w = .ok v w ∧ K v := fun ⟨v, h1, h2⟩ => ⟨v, h1 w, h2⟩
theorem r_v {s : Sem Value} {v : Value} {w' : World} (h : s.run P w = .ok v w') : (do pure (Next.value (← s)) : Sem Next).run P w = .ok (.value v) w' := by
  simp only [Sem.run_bind, h, Result.andThen_ok, Sem.run_pure]

theorem equalIn_iface {d : Nat} {t : TypeId} {ms : Array (String × TypeId)} (hu : P.underlying t = some (.interface ms)) {x y : Value} {b : Bool} {w' : World} (h : (Op.equalIn (d + 1) t x y).run P w = .ok b w') :
    (x = .nilIface ∨ ∃ u v, x = .iface u v) ∧ (y = .nilIface ∨ ∃ u v, y = .iface u v) := by
  simp only [Op.equalIn, Sem.run_bind, r_under hu, Result.andThen_ok] at h
  cases x <;> cases y <;> first
    | (simp; done)
    | (exfalso; revert h; simp; done)
theorem equal_iface {t : TypeId} {ms : Array (String × TypeId)} (hu : P.underlying t = some (.interface ms)) {x y : Value} {b : Bool} {w' : World} (h : (Op.equal t x y).run P w = .ok b w') :
    (x = .nilIface ∨ ∃ u v, x = .iface u v) ∧ (y = .nilIface ∨ ∃ u v, y = .iface u v) := equalIn_iface (d := 9999) hu h

theorem equalIn_agg {d : Nat} {t : TypeId} {fs : Array Field} (hu : P.underlying t = some (.struct fs)) {x y : Value} {b : Bool} {w w' : World} (h : (Op.equalIn (d + 1) t x y).run P w = .ok b w') :
    ∃ c e, x = .agg c ∧ y = .agg e := by
  simp only [Op.equalIn, Sem.run_bind, r_under hu, Result.andThen_ok] at h
  cases x <;> cases y <;> first
    | (exact ⟨_, _, rfl, rfl⟩)
    | (exfalso; revert h; simp; done)
theorem eqIn_bool {d : Nat} {t : TypeId} (hu : P.underlying t = some .bool) {x y : Bool} : (Op.equalIn (d + 1) t (.bool x) (.bool y)).run P w = .ok (x == y) w := by
  simp only [Op.equalIn, Sem.run_bind, r_under hu, Result.andThen_ok, Sem.run_pure]
theorem eq_bool {t : TypeId} (hu : P.underlying t = some .bool) {x y : Bool} : (Op.equal t (.bool x) (.bool y)).run P w = .ok (x == y) w := eqIn_bool (d := 9999) hu
theorem eqIn_nil {d : Nat} {t : TypeId} {ms : Array (String × TypeId)} (hu : P.underlying t = some (.interface ms)) : (Op.equalIn (d + 1) t .nilIface .nilIface).run P w = .ok true w := by
  simp only [Op.equalIn, Sem.run_bind, r_under hu, Result.andThen_ok, Sem.run_pure]
theorem eq_nil {t : TypeId} {ms : Array (String × TypeId)} (hu : P.underlying t = some (.interface ms)) : (Op.equal t .nilIface .nilIface).run P w = .ok true w := eqIn_nil (d := 9999) hu
theorem eqIn_held {d : Nat} {t : TypeId} {ms : Array (String × TypeId)} (hu : P.underlying t = some (.interface ms)) {u : TypeId} {v : Value} : (Op.equalIn (d + 1) t (.iface u v) .nilIface).run P w = .ok false w := by
  simp only [Op.equalIn, Sem.run_bind, r_under hu, Result.andThen_ok, Sem.run_pure]
theorem eq_held {t : TypeId} {ms : Array (String × TypeId)} (hu : P.underlying t = some (.interface ms)) {u : TypeId} {v : Value} : (Op.equal t (.iface u v) .nilIface).run P w = .ok false w := eqIn_held (d := 9999) hu
theorem eqIn_ptr {d : Nat} {t : TypeId} {el : TypeId} (hu : P.underlying t = some (.pointer el)) {p : Option Addr} : (Op.equalIn (d + 1) t (.pointer p) (.pointer none)).run P w = .ok p.isNone w := by
  cases p <;> simp only [Op.equalIn, Sem.run_bind, r_under hu, Result.andThen_ok, Sem.run_pure, Option.isNone]
theorem eq_ptr {t : TypeId} {el : TypeId} (hu : P.underlying t = some (.pointer el)) {p : Option Addr} : (Op.equal t (.pointer p) (.pointer none)).run P w = .ok p.isNone w := eqIn_ptr (d := 9999) hu
theorem eqIn_sl {d : Nat} {t : TypeId} {el : TypeId} (hu : P.underlying t = some (.slice el)) {p : Option Addr} {l c l' c' : Nat} : (Op.equalIn (d + 1) t (.slice p l c) (.slice none l' c')).run P w = .ok p.isNone w := by
  cases p <;> simp only [Op.equalIn, Sem.run_bind, r_under hu, Result.andThen_ok, Sem.run_pure, Option.isNone]
theorem eq_sl {t : TypeId} {el : TypeId} (hu : P.underlying t = some (.slice el)) {p : Option Addr} {l c l' c' : Nat} : (Op.equal t (.slice p l c) (.slice none l' c')).run P w = .ok p.isNone w := eqIn_sl (d := 9999) hu

def okG : Value → Value → Bool
  | .agg _, .agg _ => false
  | .nilIface, .nilIface => false
  | _, _ => true
theorem r_guard {op : BinOp} {t : TypeId} {x y : Operand} (a b : Value) (h : okG a b = true) : (eqGuard op t x y a b).run P w = .ok () w := by
  unfold eqGuard
  cases op <;> cases a <;> cases b <;> first
    | rfl
    | cases h

theorem vBin_spec {op : BinOp} {t : TypeId} {x y : Operand} {va vb : Value} {K : Value → Prop} (hy : isNilC y = true → vb = .nilIface) (h : vBin P w op t x y va vb K) :
    ∃ v, (do eqGuard op t x y va vb; binOp op t va vb : Sem Value).run P w = .ok v w ∧ K v := by
  have guard : ∀ (a b : Value), okG a b = true → (eqGuard op t x y a b).run P w = .ok () w := fun a b => r_guard a b
  unfold vBin at h
  split at h
  · split at h
    · rename_i k a k' b
      obtain ⟨v, h1, h2⟩ := vInt_spec (P := P) (t := t) h
      exact ⟨v, by simp only [Sem.run_bind, guard (.int k a) (.int k' b) rfl, Result.andThen_ok, h1], h2⟩
    · exact h.elim
  · split at h
    · rename_i hu _ _ a b
      split at h
      · refine ⟨_, ?_, h⟩
        simp only [Sem.run_bind, guard (.bool a) (.bool b) rfl, Result.andThen_ok]
        simp [binOp, eq_bool hu]
      · refine ⟨_, ?_, h⟩
        simp only [Sem.run_bind, guard (.bool a) (.bool b) rfl, Result.andThen_ok]
        simp [binOp, eq_bool hu]
      · exact h.elim
    · exact h.elim
  · split at h
    · rename_i hu _ _ a b
      split at h
      · refine ⟨_, ?_, h⟩
        simp only [Sem.run_bind, guard (.string a) (.string b) rfl, Result.andThen_ok]
        simp [binOp, Op.stringOp, strEq]
      · refine ⟨_, ?_, h⟩
        simp only [Sem.run_bind, guard (.string a) (.string b) rfl, Result.andThen_ok]
        simp [binOp, Op.stringOp, strEq]
      · refine ⟨_, ?_, h.2⟩
        simp only [Sem.run_bind, guard (.string a) (.string b) rfl, Result.andThen_ok]
        have : ¬ (((a.size + b.size : Nat) : Int) > IntKind.i64.max) := by
          have := h.1
          simp only [IntKind.max, IntKind.signed, IntKind.bits]
          omega
        simp only [binOp, Op.stringOp, this, if_false, Sem.run_pure]
      · exact h.elim
    · exact h.elim
  · rename_i ms hu
    split at h
    · rename_i hn
      have hvb := hy hn
      subst hvb
      have hyc : y = .const .nilIface := by
        unfold isNilC at hn
        split at hn
        · rfl
        · cases hn
      subst hyc
      have hg : (eqGuard op t x (.const .nilIface) va .nilIface).run P w = .ok () w := by
        cases va <;> first
          | exact r_guard _ _ rfl
          | (unfold eqGuard; cases op <;> cases x <;> rfl)
      split at h
      · cases va <;> simp only [EqNil] at h
        · exact ⟨_, by simp only [Sem.run_bind, hg, Result.andThen_ok]; simp [binOp, eq_held hu], h⟩
        · exact ⟨_, by simp only [Sem.run_bind, hg, Result.andThen_ok]; simp [binOp, eq_nil hu], h⟩
      · cases va <;> simp only [EqNil] at h
        · exact ⟨_, by simp only [Sem.run_bind, hg, Result.andThen_ok]; simp [binOp, eq_held hu], h⟩
        · exact ⟨_, by simp only [Sem.run_bind, hg, Result.andThen_ok]; simp [binOp, eq_nil hu], h⟩
      · exact h.elim
    · split at h
      · obtain ⟨b, h1, h2⟩ := h
        refine ⟨_, ?_, h2⟩
        simp only [Sem.run_bind] at h1 ⊢
        cases hg : (eqGuard .eql t x y va vb).run P w with
        | halt e w' => simp [hg] at h1
        | ok u w' =>
          simp only [hg, Result.andThen_ok] at h1 ⊢
          have hs := equal_iface hu h1
          obtain ⟨ha | ⟨_, _, ha⟩, hb | ⟨_, _, hb⟩⟩ := hs <;> subst ha <;> subst hb <;> simp only [binOp, Sem.run_bind, h1, Result.andThen_ok, Sem.run_pure]
      · obtain ⟨b, h1, h2⟩ := h
        refine ⟨_, ?_, h2⟩
        simp only [Sem.run_bind] at h1 ⊢
        cases hg : (eqGuard .neq t x y va vb).run P w with
        | halt e w' => simp [hg] at h1
        | ok u w' =>
          simp only [hg, Result.andThen_ok] at h1 ⊢
          have hs := equal_iface hu h1
          obtain ⟨ha | ⟨_, _, ha⟩, hb | ⟨_, _, hb⟩⟩ := hs <;> subst ha <;> subst hb <;> simp only [binOp, Sem.run_bind, h1, Result.andThen_ok, Sem.run_pure]
      · exact h.elim
  · rename_i fs hu
    split at h
    · obtain ⟨b, h1, h2⟩ := h
      refine ⟨_, ?_, h2⟩
      simp only [Sem.run_bind] at h1 ⊢
      cases hg : (eqGuard .eql t x y va vb).run P w with
      | halt e w' => simp [hg] at h1
      | ok u w' =>
        simp only [hg, Result.andThen_ok] at h1 ⊢
        obtain ⟨c, d, ha, hb⟩ := equalIn_agg (d := 9999) hu h1
        subst ha; subst hb
        simp only [binOp, Sem.run_bind, h1, Result.andThen_ok, Sem.run_pure]
    · obtain ⟨b, h1, h2⟩ := h
      refine ⟨_, ?_, h2⟩
      simp only [Sem.run_bind] at h1 ⊢
      cases hg : (eqGuard .neq t x y va vb).run P w with
      | halt e w' => simp [hg] at h1
      | ok u w' =>
        simp only [hg, Result.andThen_ok] at h1 ⊢
        obtain ⟨c, d, ha, hb⟩ := equalIn_agg (d := 9999) hu h1
        subst ha; subst hb
        simp only [binOp, Sem.run_bind, h1, Result.andThen_ok, Sem.run_pure]
    · exact h.elim
  · rename_i el hu
    split at h
    · rename_i p
      split at h
      · refine ⟨_, ?_, h⟩
        simp only [Sem.run_bind, guard (.pointer p) (.pointer none) rfl, Result.andThen_ok]
        simp [binOp, eq_ptr hu]
      · refine ⟨_, ?_, h⟩
        simp only [Sem.run_bind, guard (.pointer p) (.pointer none) rfl, Result.andThen_ok]
        simp [binOp, eq_ptr hu]
      · exact h.elim
    · exact h.elim
  · rename_i el hu
    split at h
    · rename_i p l1 c1 l2 c2
      split at h
      · refine ⟨_, ?_, h⟩
        simp only [Sem.run_bind, guard (.slice p l1 c1) (.slice none l2 c2) rfl, Result.andThen_ok]
        simp [binOp, eq_sl hu]
      · refine ⟨_, ?_, h⟩
        simp only [Sem.run_bind, guard (.slice p l1 c1) (.slice none l2 c2) rfl, Result.andThen_ok]
        simp [binOp, eq_sl hu]
      · exact h.elim
    · exact h.elim
  · exact h.elim

theorem args_map {e : Env} {n : Nat} {dfs : List Deferred} {a : Act} (h : Rep n dfs e a) (xs : Array Operand) {K : List Value → Prop} (hk : wvs e xs.toList K) : K (xs.map a.eval).toList := by
  have := wvs_spec h hk
  simpa using this

theorem one_arg {xs : Array Value} {v : Value} (h : xs.toList = [v]) : xs = #[v] := by
  cases xs; simp at h; subst h; rfl
theorem two_args {xs : Array Value} {u v : Value} (h : xs.toList = [u, v]) : xs = #[u, v] := by
  cases xs; simp at h; subst h; rfl

theorem pureOp_spec {n : Nat} {dfs : List Deferred} {e : Env} {a : Act} {o : Oper} {K : Value → Prop} (hr : Rep n dfs e a) (h : pureOp P w e o.op K) : ∃ v, (execOp a.eval o).run P w = .ok (.value v) w ∧ K v := by
  obtain ⟨dst, op, type, pos, after, guard⟩ := o
  have fin : ∀ {s : Sem Value} {K' : Value → Prop}, (∃ v, s.run P w = .ok v w ∧ K' v) → ∃ v, (do pure (Next.value (← s)) : Sem Next).run P w = .ok (.value v) w ∧ K' v :=
    fun ⟨v, h1, h2⟩ => ⟨v, r_v h1, h2⟩
  unfold pureOp at h
  simp only at h
  split at h
  · exact ⟨_, rfl, wv_spec hr h⟩
  · exact ⟨_, rfl, wv_spec hr h⟩
  · rename_i c x y
    have h := wv_spec hr h
    simp only [execOp]
    split at h
    · rename_i hc; exact ⟨_, by simp [hc, asBool], wv_spec hr h⟩
    · rename_i hc; exact ⟨_, by simp [hc, asBool], wv_spec hr h⟩
    · exact h.elim
  · exact fin (vLoad_spec (wv_spec hr h))
  · exact vNil_spec (ρ := a.eval) rfl (wv_spec hr h)
  · rename_i op t x y yt
    have h := wv_spec hr h
    have h := wv_spec hr h
    refine fin (vBin_spec (fun hn => ?_) h)
    unfold isNilC at hn
    split at hn
    · rfl
    · cases hn
  · exact fin (wk (vUn_spec (wv_spec hr h)))
  · exact fin (vConv_spec (wv_spec hr h))
  · rename_i t x
    have h := wv_spec hr h
    split at h
    · exact h.elim
    · rename_i d hd hu
      refine fin ⟨_, ?_, h⟩
      cases d <;> first
        | exact absurd rfl (hd _)
        | simp [Instr.makeInterface, r_under hu]
    · exact h.elim
  · rename_i fn first cap
    have h := wvs_spec hr h
    have h := wvs_spec hr h
    refine fin ⟨_, ?_, h⟩
    have e1 : (List.map a.eval first.toList).toArray = first.map a.eval := by simp [← Array.toList_map]
    have e2 : (List.map a.eval cap.toList).toArray = cap.map a.eval := by simp [← Array.toList_map]
    rw [e1, e2]
    simp [Instr.makeFunc]
  · rename_i t x lo hi
    have h := wv_spec hr h
    have h := wvo_spec hr h
    have h := wvo_spec hr h
    exact fin (wk (vSlice_spec h))
  · rename_i t x lo hi mx
    have h := wv_spec hr h
    have h := wv_spec hr h
    have h := wv_spec hr h
    have h := wv_spec hr h
    exact fin (wk (vSlice3_spec h))
  · exact fin (wk (vFieldAddr_spec (wv_spec hr h)))
  · exact fin (wk (vField_spec (wv_spec hr h)))
  · rename_i t x i
    have h := wv_spec hr h
    have h := wv_spec hr h
    exact fin (wk (vIndexAddr_spec h))
  · rename_i t x i
    have h := wv_spec hr h
    have h := wv_spec hr h
    exact fin (wk (vIndex_spec h))
  · rename_i x i
    have h := wv_spec hr h
    split at h
    · rename_i vs hv
      split at h
      · rename_i v hi
        exact fin ⟨v, by simp [Instr.extract, hv, hi], h⟩
      · exact h.elim
    · exact h.elim
  · rename_i x xt at_ ok
    have h := wv_spec hr h
    obtain ⟨u, b, h1, h2⟩ := vTA_spec h
    obtain ⟨u', rfl, h3⟩ := exTy_spec h2
    cases ok
    · exact fin ⟨_, by simpa using h1, h3⟩
    · exact fin ⟨_, by simpa using h1, h3⟩
  · rename_i t parts
    have h := wvp_spec hr h
    obtain ⟨ps', hs, h⟩ := normParts_spec h
    split at h
    · rename_i cs hc
      refine fin ⟨_, buildCells_spec ?_, h⟩
      rw [← hc, ← buildCells_norm hs]; congr 1; simp
    · exact h.elim
  · rename_i c
    have bi : ∀ {b : Builtin} {ts : Array TypeId} {ty : TypeId} {cs : Array Bool} {xs : Array Value} {K' : Value → Prop} {s : Sem Value}, builtin b ts ty cs xs = (do pure (Next.value (← s)) : Sem Next) → (∃ v, s.run P w = .ok v w ∧ K' v) →
        ∃ v, (builtin b ts ty cs xs).run P w = .ok (.value v) w ∧ K' v := fun e h => by rw [e]; exact fin h
    obtain ⟨callee, args, argTypes⟩ := c
    simp only at h
    simp only [execOp]
    split at h
    · have h := args_map hr _ h
      split at h
      · rename_i x t hx ht
        have hx := one_arg hx
        simp only [resolve, Sem.run_bind, Sem.run_pure, Result.andThen_ok, invoke]
        exact bi rfl (by rw [hx]; exact wk (vLen_spec ht h))
      · exact h.elim
    · have h := args_map hr _ h
      split at h
      · rename_i x t hx ht
        have hx := one_arg hx
        simp only [resolve, Sem.run_bind, Sem.run_pure, Result.andThen_ok, invoke]
        exact bi rfl (by rw [hx]; exact wk (vCap_spec ht h))
      · exact h.elim
    · have h := args_map hr _ h
      split at h
      · rename_i k x k' y hx
        have hx := two_args hx
        simp only [resolve, Sem.run_bind, Sem.run_pure, Result.andThen_ok, invoke]
        exact bi rfl ⟨_, by rw [hx]; simp [Builtin.min_, Builtin.min2, minI], h⟩
      · exact h.elim
    · have h := args_map hr _ h
      split at h
      · rename_i k x k' y hx
        have hx := two_args hx
        simp only [resolve, Sem.run_bind, Sem.run_pure, Result.andThen_ok, invoke]
        exact bi rfl ⟨_, by rw [hx]; simp [Builtin.max_, Builtin.max2, maxI], h⟩
      · exact h.elim
    · exact h.elim
  · exact h.elim
end
end Go.V
