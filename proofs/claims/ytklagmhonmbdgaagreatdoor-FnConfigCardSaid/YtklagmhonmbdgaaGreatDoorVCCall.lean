/- A function, by its body. -/
import Derived.Test.YtklagmhonmbdgaaGreatDoorVCCode
namespace Go.V
open Go

section
variable (P : Program)
def retVs (w : World) : List ResultVar → Env → (List Value → Prop) → Prop
  | [], _, K => K []
  | .tmp t :: r, e, K => match e.get t with | some v => retVs w r e fun vs => K (v :: vs) | none => False
  | .cell a t :: r, e, K => match e.get a with | some p => vLoad P w t p fun v => retVs w r e fun vs => K (v :: vs) | none => False
def packV : List Value → Value
  | [v] => v
  | vs => .tuple vs.toArray
def retK (rs : List ResultVar) (R : Value → World → Prop) : Exit → Env → World → Prop
  | .normal, e, w => retVs P w rs e fun vs => R (packV vs) w
  | .ret, e, w => retVs P w rs e fun vs => R (packV vs) w
  | _, _, _ => False
def argE : Nat → List Value → Env
  | _, [] => []
  | i, v :: vs => (i, v) :: argE (i + 1) vs
/-- Where slots are kept over a join or a loop. -/
def annOf : List (Nat × Lv × List Nat) → Nat → Option (Lv × List Nat)
  | [], _ => none
  | (b, l) :: r, n => match Nat.beq b n with | true => some l | false => annOf r n
end

section
variable {P : Program} {G : Nat → Bool} {ann : Nat → Option (Lv × List Nat)}

def resOf (tmps : Array Value) : ResultVar → Sem Value
  | .tmp t => pure (tmps.getD t undef)
  | .cell a t => do loadVar t (← asAddr (tmps.getD a undef))
theorem results_eq (fn : Func) (tmps : Array Value) : results fn tmps = (do
    let vs ← fn.results.mapM (resOf tmps)
    pure (if h : vs.size = 1 then vs[0] else .tuple vs)) := by
  have : (fun x => match x with | .tmp t => pure (tmps.getD t undef) | .cell a t => do loadVar t (← asAddr (tmps.getD a undef)) : ResultVar → Sem Value) = resOf tmps := by
    funext x; cases x <;> rfl
  rw [← this]; rfl
theorem retVs_spec {n : Nat} {dfs : List Deferred} {w : World} {e : Env} {a : Act} (hr : Rep n dfs e a) : ∀ {rs : List ResultVar} {K : List Value → Prop}, retVs P w rs e K →
    ∃ vs, (rs.mapM (resOf a.tmps)).run P w = .ok vs w ∧ K vs
  | [], K, h => ⟨[], by simp, h⟩
  | .tmp t :: r, K, h => by
    simp only [retVs] at h
    split at h
    · rename_i v hv
      obtain ⟨vs, h1, h2⟩ := retVs_spec hr h
      refine ⟨v :: vs, ?_, h2⟩
      simp only [List.mapM_cons, resOf, Sem.run_bind, Sem.run_pure, Result.andThen_ok, (hr.get t v hv).2, h1]
    · exact h.elim
  | .cell x t :: r, K, h => by
    simp only [retVs] at h
    split at h
    · rename_i p hp
      have hload : ∃ v, (do loadVar t (← asAddr p) : Sem Value).run P w = .ok v w ∧ retVs P w r e fun vs => K (v :: vs) := by
        have h' := h
        unfold vLoad at h'
        cases p with
        | pointer q =>
          obtain ⟨b, hq, _⟩ := PtrC_spec h'
          subst hq
          obtain ⟨v, h1, h2⟩ := vLoad_spec h
          refine ⟨v, ?_, h2⟩
          simp only [Instr.loadAt, Instr.sureAddr, Sem.run_bind, Sem.run_pure, Result.andThen_ok] at h1
          simp only [asAddr, Sem.run_bind, Sem.run_pure, Result.andThen_ok, h1]
        | _ => exact h'.elim
      obtain ⟨v, h1, h2⟩ := hload
      obtain ⟨vs, h3, h4⟩ := retVs_spec hr h2
      refine ⟨v :: vs, ?_, h4⟩
      simp only [List.mapM_cons, resOf]
      rw [Sem.run_bind, (hr.get x p hp).2, h1]
      simp only [Result.andThen_ok, Sem.run_bind, h3, Sem.run_pure]
    · exact h.elim

theorem results_spec {n : Nat} {dfs : List Deferred} {w : World} {e : Env} {a : Act} {fn : Func} (hr : Rep n dfs e a) {R : Value → World → Prop} (h : retVs P w fn.results.toList e fun vs => R (packV vs) w) :
    ∃ v, (results fn a.tmps).run P w = .ok v w ∧ R v w := by
  obtain ⟨vs, h1, h2⟩ := retVs_spec hr h
  refine ⟨_, ?_, h2⟩
  rw [results_eq, Sem.run_bind, Array.mapM_eq_mapM_toList, Sem.run_map, h1]
  simp only [Result.andThen_ok]
  match vs with
  | [] => rfl
  | [v] => rfl
  | u :: v :: r => simp [packV]

theorem argE_get : ∀ {vs : List Value} {i s : Nat} {v : Value}, (argE i vs).get s = some v → i ≤ s ∧ vs[s - i]? = some v
  | [], _, _, _, h => by simp [argE, Env.get] at h
  | u :: vs, i, s, v, h => by
    simp only [argE, Env.get] at h
    split at h
    · rename_i e
      have e := Nat.eq_of_beq_eq_true e
      subst e
      simp at h
      subst h
      simp
    · obtain ⟨h1, h2⟩ := argE_get h
      refine ⟨by omega, ?_⟩
      rw [show s - i = (s - (i + 1)) + 1 by omega]
      simpa using h2

theorem calls_of_vc (hm : P.follows .mixedOrders = true) (hG : Bodies P G) {f : FuncId} {fn : Func} {c : Code} {args : List Value} {w : World} {R : Value → World → Prop} (hf : P.funcs[f]? = some fn) (hb : fn.body = some c)
    (hd : okD fn.ntmps (Code.dsts c) = true) (hn : Nat.ble args.length fn.ntmps = true) (h : vc P G ann 0 c (retK P fn.results.toList R) (argE 0 args) w) : CallT P f args.toArray w R := by
  have hn := Nat.le_of_ble_eq_true hn
  refine calls_of_wp hf hb ?_
  have hr : Rep fn.ntmps [] (argE 0 args) { tmps := args.toArray ++ Array.replicate (fn.ntmps - args.toArray.size) undef, defers := [] } := by
    refine ⟨by simp; omega, fun s v hs => ?_, rfl⟩
    obtain ⟨_, h2⟩ := argE_get hs
    have hlt : s < args.length := by simpa using (List.getElem?_eq_some_iff.1 h2).1
    refine ⟨by omega, ?_⟩
    simp only [Array.getD_eq_getD_getElem?]
    rw [Array.getElem?_append_left (by simpa using hlt)]
    simp at h2
    simp [h2]
  refine wp_mono (vc_sound hm hG c 0 _ _ _ w (okD_mem hd) h hr) ?_
  rintro ex a' w' ⟨e', hr', _, hk⟩
  cases ex with
  | normal =>
    obtain ⟨v, h1, h2⟩ := results_spec hr' hk
    exact ⟨hr'.defers, v, h1, v, rfl, h2⟩
  | ret =>
    obtain ⟨v, h1, h2⟩ := results_spec hr' hk
    exact ⟨hr'.defers, v, h1, v, rfl, h2⟩
  | _ => exact hk.elim
end
end Go.V
