/- Operations whose value hangs on no memory. -/
import Derived.Test.YtklagmhonmbdgaaGreatDoorVCMain
namespace Go.V
open Go

def freeT (P : Program) (t : TypeId) : Bool :=
  match P.underlying t with
  | some (.int _) | some .bool | some .string | some (.pointer _) | some (.slice _) => true
  | _ => false
def freeOp (P : Program) (_e : Env) (op : Op) : Bool :=
  match op with
  | .move _ | .assign _ | .pick .. | .makeInterface .. | .slice .. | .fieldAddr .. | .field .. | .indexAddr .. | .index .. | .extract .. | .build .. | .unOp .. => true
  | .binOp _ t _ _ _ => freeT P t
  | .convert s d _ => match P.underlying d with
    | some (.int _) => true
    | some .string => match P.underlying s with | some .string => true | _ => false
    | _ => false
  | .call c => match c.callee with | .builtin .len | .builtin .cap | .builtin .min | .builtin .max => true | _ => false
  | _ => false

section
variable {P : Program} {w : World}

theorem vBin_free {op : BinOp} {t : TypeId} {x y : Operand} {va vb : Value} {K : Value → Prop} (hf : freeT P t = true) (h : vBin P w op t x y va vb K) :
    ∃ v, (∀ w, (do eqGuard op t x y va vb; binOp op t va vb : Sem Value).run P w = .ok v w) ∧ K v := by
  have guard : ∀ (a b : Value) (w : World), okG a b = true → (eqGuard op t x y a b).run P w = .ok () w := fun a b w => r_guard a b
  unfold vBin at h
  unfold freeT at hf
  split at h
  · split at h
    · rename_i k a k' b
      obtain ⟨v, h1, h2⟩ := vInt_spec (P := P) (t := t) h
      exact ⟨v, fun w => by simp only [Sem.run_bind, guard (.int k a) (.int k' b) w rfl, Result.andThen_ok, h1], h2⟩
    · exact h.elim
  · split at h
    · rename_i hu _ _ a b
      split at h
      · refine ⟨_, fun w => ?_, h⟩
        simp only [Sem.run_bind, guard (.bool a) (.bool b) w rfl, Result.andThen_ok]
        simp [binOp, eq_bool hu]
      · refine ⟨_, fun w => ?_, h⟩
        simp only [Sem.run_bind, guard (.bool a) (.bool b) w rfl, Result.andThen_ok]
        simp [binOp, eq_bool hu]
      · exact h.elim
    · exact h.elim
  · split at h
    · rename_i hu _ _ a b
      split at h
      · refine ⟨_, fun w => ?_, h⟩
        simp only [Sem.run_bind, guard (.string a) (.string b) w rfl, Result.andThen_ok]
        simp [binOp, Op.stringOp, strEq]
      · refine ⟨_, fun w => ?_, h⟩
        simp only [Sem.run_bind, guard (.string a) (.string b) w rfl, Result.andThen_ok]
        simp [binOp, Op.stringOp, strEq]
      · refine ⟨_, fun w => ?_, h.2⟩
        simp only [Sem.run_bind, guard (.string a) (.string b) w rfl, Result.andThen_ok]
        have : ¬ (((a.size + b.size : Nat) : Int) > IntKind.i64.max) := by
          have := h.1
          simp only [IntKind.max, IntKind.signed, IntKind.bits]
          omega
        simp only [binOp, Op.stringOp, this, if_false, Sem.run_pure]
      · exact h.elim
    · exact h.elim
  · rename_i hu; simp [hu] at hf
  · rename_i hu; simp [hu] at hf
  · rename_i el hu
    split at h
    · rename_i p
      split at h
      · refine ⟨_, fun w => ?_, h⟩
        simp only [Sem.run_bind, guard (.pointer p) (.pointer none) w rfl, Result.andThen_ok]
        simp [binOp, eq_ptr hu]
      · refine ⟨_, fun w => ?_, h⟩
        simp only [Sem.run_bind, guard (.pointer p) (.pointer none) w rfl, Result.andThen_ok]
        simp [binOp, eq_ptr hu]
      · exact h.elim
    · exact h.elim
  · rename_i el hu
    split at h
    · rename_i p l1 c1 l2 c2
      split at h
      · refine ⟨_, fun w => ?_, h⟩
        simp only [Sem.run_bind, guard (.slice p l1 c1) (.slice none l2 c2) w rfl, Result.andThen_ok]
        simp [binOp, eq_sl hu]
      · refine ⟨_, fun w => ?_, h⟩
        simp only [Sem.run_bind, guard (.slice p l1 c1) (.slice none l2 c2) w rfl, Result.andThen_ok]
        simp [binOp, eq_sl hu]
      · exact h.elim
    · exact h.elim
  · exact h.elim

theorem pureOp_free {n : Nat} {dfs : List Deferred} {e : Env} {a : Act} {o : Oper} {K : Value → Prop} (hr : Rep n dfs e a) (hf : freeOp P e o.op = true) (h : pureOp P w e o.op K) :
    ∃ v, (∀ w, (execOp a.eval o).run P w = .ok (.value v) w) ∧ K v := by
  obtain ⟨dst, op, type, pos, after, guard⟩ := o
  have fin : ∀ {s : Sem Value} {K' : Value → Prop}, (∃ v, (∀ w, s.run P w = .ok v w) ∧ K' v) → ∃ v, (∀ w, (do pure (Next.value (← s)) : Sem Next).run P w = .ok (.value v) w) ∧ K' v :=
    fun ⟨v, h1, h2⟩ => ⟨v, fun w => r_v (h1 w), h2⟩
  unfold pureOp at h
  unfold freeOp at hf
  simp only at h hf
  split at h
  · exact ⟨_, fun _ => rfl, wv_spec hr h⟩
  · exact ⟨_, fun _ => rfl, wv_spec hr h⟩
  · rename_i c x y
    have h := wv_spec hr h
    simp only [execOp]
    split at h
    · rename_i hc; exact ⟨_, fun w => by simp [hc, asBool], wv_spec hr h⟩
    · rename_i hc; exact ⟨_, fun w => by simp [hc, asBool], wv_spec hr h⟩
    · exact h.elim
  · cases hf
  · cases hf
  · have h := wv_spec hr h
    have h := wv_spec hr h
    exact fin (vBin_free hf h)
  · exact fin (vUn_spec (wv_spec hr h))
  · rename_i s d x
    have h := wv_spec hr h
    unfold vConv at h
    refine fin ?_
    split at h
    · rename_i k1 k hs hd
      revert h
      generalize a.eval x = xv
      intro h
      cases xv with
      | int k0 m => exact ⟨_, fun w => by simp [convert, r_under hs, r_under hd, Conv.intToInt], h⟩
      | _ => exact h.elim
    · rename_i hs hd
      revert h
      generalize a.eval x = xv
      intro h
      cases xv with
      | string b => exact ⟨_, fun w => by simp [convert, r_under hs, r_under hd], h⟩
      | _ => exact h.elim
    · rename_i el hs hd
      simp [hs, hd] at hf
    · exact h.elim
  · rename_i t x
    have h := wv_spec hr h
    split at h
    · exact h.elim
    · rename_i d hd hu
      refine fin ⟨_, fun w => ?_, h⟩
      cases d <;> first
        | exact absurd rfl (hd _)
        | simp [Instr.makeInterface, r_under hu]
    · exact h.elim
  · cases hf
  · rename_i t x lo hi
    have h := wv_spec hr h
    have h := wvo_spec hr h
    have h := wvo_spec hr h
    exact fin (vSlice_spec h)
  · rename_i t x lo hi mx
    have h := wv_spec hr h
    have h := wv_spec hr h
    have h := wv_spec hr h
    have h := wv_spec hr h
    exact fin (vSlice3_spec h)
  · exact fin (vFieldAddr_spec (wv_spec hr h))
  · exact fin (vField_spec (wv_spec hr h))
  · have h := wv_spec hr h
    have h := wv_spec hr h
    exact fin (vIndexAddr_spec h)
  · have h := wv_spec hr h
    have h := wv_spec hr h
    exact fin (vIndex_spec h)
  · rename_i x i
    have h := wv_spec hr h
    split at h
    · rename_i vs hv
      split at h
      · rename_i v hi
        exact fin ⟨v, fun w => by simp [Instr.extract, hv, hi], h⟩
      · exact h.elim
    · exact h.elim
  · cases hf
  · rename_i t parts
    have h := wvp_spec hr h
    obtain ⟨ps', hs, h⟩ := normParts_spec h
    split at h
    · rename_i cs hc
      refine fin ⟨_, fun w => buildCells_spec ?_, h⟩
      rw [← hc, ← buildCells_norm hs]; congr 1; simp
    · exact h.elim
  · rename_i c
    have bi : ∀ {b : Builtin} {ts : Array TypeId} {ty : TypeId} {cs : Array Bool} {xs : Array Value} {K' : Value → Prop} {s : Sem Value}, builtin b ts ty cs xs = (do pure (Next.value (← s)) : Sem Next) → (∃ v, (∀ w, s.run P w = .ok v w) ∧ K' v) →
        ∃ v, (∀ w, (builtin b ts ty cs xs).run P w = .ok (.value v) w) ∧ K' v := fun e h => by rw [e]; exact fin h
    obtain ⟨callee, args, argTypes⟩ := c
    simp only at h
    simp only [execOp]
    split at h
    · have h := args_map hr _ h
      split at h
      · rename_i x t hx ht
        have hx := one_arg hx
        simp only [resolve, Sem.run_bind, Sem.run_pure, Result.andThen_ok, invoke]
        exact bi rfl (by rw [hx]; exact vLen_spec ht h)
      · exact h.elim
    · have h := args_map hr _ h
      split at h
      · rename_i x t hx ht
        have hx := one_arg hx
        simp only [resolve, Sem.run_bind, Sem.run_pure, Result.andThen_ok, invoke]
        exact bi rfl (by rw [hx]; exact vCap_spec ht h)
      · exact h.elim
    · have h := args_map hr _ h
      split at h
      · rename_i k x k' y hx
        have hx := two_args hx
        simp only [resolve, Sem.run_bind, Sem.run_pure, Result.andThen_ok, invoke]
        exact bi rfl ⟨_, fun w => by rw [hx]; simp [Builtin.min_, Builtin.min2, minI], h⟩
      · exact h.elim
    · have h := args_map hr _ h
      split at h
      · rename_i k x k' y hx
        have hx := two_args hx
        simp only [resolve, Sem.run_bind, Sem.run_pure, Result.andThen_ok, invoke]
        exact bi rfl ⟨_, fun w => by rw [hx]; simp [Builtin.max_, Builtin.max2, maxI], h⟩
      · exact h.elim
    · exact h.elim
  · exact h.elim
end
end Go.V
