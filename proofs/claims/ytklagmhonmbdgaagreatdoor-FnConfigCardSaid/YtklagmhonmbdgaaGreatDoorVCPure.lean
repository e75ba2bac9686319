/- The operations that read: what is reckoned of each suffices. -/
import Derived.Test.YtklagmhonmbdgaaGreatDoorVC
namespace Go.V
open Go

section
variable {P : Program} {w : World}

theorem r_typeInfo {t : TypeId} {i : TypeInfo} (h : P.info? t = some i) : (typeInfo t).run P w = .ok i w := by simp [typeInfo, h]
theorem r_under {t : TypeId} {d : TypeDesc} (h : P.underlying t = some d) : (underlying t).run P w = .ok d w := by simp [underlying, h]
theorem r_sizeOf {t : TypeId} {i : TypeInfo} (h : P.info? t = some i) : (sizeOf t).run P w = .ok i.size w := by simp [sizeOf, r_typeInfo h]
theorem r_load {a : Addr} {v : Value} (h : w.cell? a = some v) : (load a).run P w = .ok v w := by simp [h]
theorem r_isAgg {t : TypeId} {b : Bool} (h : aggT P t = some b) : (isAgg t).run P w = .ok b w := by
  unfold aggT at h
  unfold isAgg
  cases hu : P.underlying t with
  | none => simp [hu] at h
  | some d => cases d <;> simp [hu] at h <;> subst h <;> simp [r_under hu]
theorem info_of_under {t : TypeId} {d : TypeDesc} (h : P.underlying t = some d) : ∃ i, P.info? t = some i := by
  unfold Program.underlying at h
  cases hi : P.info? t with
  | none => simp [hi] at h
  | some i => exact ⟨i, rfl⟩

theorem LoadK_spec {a : Addr} {k : Kd} {K : Value → Prop} (h : LoadK w a k K) : ∃ v, w.cell? a = some v ∧ K v := by
  cases k <;> simp only [LoadK] at h
  all_goals first
    | (obtain ⟨_, h1, h2⟩ := h; exact ⟨_, h1, h2⟩)
    | (obtain ⟨_, _, _, h1, h2⟩ := h; exact ⟨_, h1, h2⟩)

theorem loadKs_spec {a : Addr} : ∀ {ks : List Kd} {i : Nat} {K : List Value → Prop}, loadKs w a i ks K →
    ∃ vs : List Value, vs.length = ks.length ∧ (∀ j v, vs[j]? = some v → w.cell? (a.add (i + j)) = some v) ∧ K vs
  | [], _, _, h => ⟨[], rfl, fun j v hv => by simp at hv, h⟩
  | k :: ks, i, K, h => by
    obtain ⟨v, hv, h⟩ := LoadK_spec h
    obtain ⟨vs, h1, h2, h3⟩ := loadKs_spec h
    refine ⟨v :: vs, by simp [h1], fun j u hj => ?_, h3⟩
    cases j with
    | zero => simp at hj; subst hj; exact hv
    | succ j => have := h2 j u (by simpa using hj); rwa [show i + (j + 1) = i + 1 + j by omega]

theorem r_loadCells {a : Addr} {vs : List Value} {n : Nat} (hn : vs.length = n) (h : ∀ j v, vs[j]? = some v → w.cell? (a.add j) = some v) : (loadCells a n).run P w = .ok vs.toArray w := by
  subst hn; exact run_loadCells_list w a vs h

theorem vLoad_spec {t : TypeId} {p : Value} {K : Value → Prop} (h : vLoad P w t p K) : ∃ v, (Instr.loadAt t p).run P w = .ok v w ∧ K v := by
  unfold vLoad at h
  cases p with
  | pointer q =>
    replace h := PtrC_spec h; obtain ⟨a, rfl, h⟩ := h
    simp only [Instr.loadAt, Instr.sureAddr, Sem.run_bind, Sem.run_pure, Result.andThen_ok]
    cases hu : P.underlying t with
    | none => simp only [hu] at h
    | some d =>
      obtain ⟨i, hi⟩ := info_of_under hu
      have one : ∀ {k : Kd}, aggT P t = some false → LoadK w a k K → ∃ v, (loadVar t a).run P w = .ok v w ∧ K v := by
        intro k hb hl
        obtain ⟨v, hv, hk⟩ := LoadK_spec hl
        exact ⟨v, by simp [loadVar, r_isAgg hb, hv], hk⟩
      have many : aggT P t = some true → (match Nat.ble (P.cellsOf t) 16 with
          | true => match cellKinds P t with | some ks => loadKs w a 0 ks fun vs => K (.agg vs.toArray) | none => False
          | false => LoadA w a (P.cellsOf t) fun cs => K (.agg cs)) → ∃ v, (loadVar t a).run P w = .ok v w ∧ K v := by
        intro hb hl
        split at hl
        · cases hk : cellKinds P t with
          | none => simp only [hk] at hl
          | some ks =>
            simp only [hk] at hl
            obtain ⟨vs, h1, h2, h3⟩ := loadKs_spec hl
            have hsz : ks.length = i.size := by
              unfold cellKinds at hk
              simp only [hi] at hk
              cases hz : i.zero with
              | none => simp [hz] at hk
              | some z =>
                simp only [hz] at hk
                split at hk
                · rename_i hb; have := Nat.eq_of_beq_eq_true hb; simp at hk; subst hk; simp [this]
                · cases hk
            exact ⟨_, by simp [loadVar, r_isAgg hb, r_sizeOf hi, r_loadCells (P := P) (by rw [h1, hsz]) (fun j v hv => by simpa using h2 j v hv)], h3⟩
        · obtain ⟨cs, ⟨h1, h2⟩, h3⟩ := hl
          refine ⟨_, ?_, h3⟩
          have hs : cs.toList.length = i.size := by simpa [Program.cellsOf, hi] using h1
          have := r_loadCells (P := P) (w := w) (a := a) hs (fun j v hv => by
            have hj : j < cs.size := by simpa using (List.getElem?_eq_some_iff.1 hv).1
            rw [h2 j (by omega)]
            simp at hv
            simp [hv])
          simp [loadVar, r_isAgg hb, r_sizeOf hi, this]
      cases d <;> simp only [hu] at h <;> first
        | exact one (by simp [aggT, hu]) h
        | exact many (by simp [aggT, hu]) h
  | _ => exact h.elim

theorem vNil_spec {o : Oper} {ρ : Operand → Value} {x : Operand} {K : Value → Prop} (ho : o.op = .nilCheck x) (h : vNil P w (ρ x) K) : ∃ v, (execOp ρ o).run P w = .ok (.value v) w ∧ K v := by
  obtain ⟨dst, op, type, pos, after, guard⟩ := o
  simp only at ho
  subst ho
  simp only [execOp]
  generalize ρ x = v at h
  cases v with
  | pointer q => replace h := PtrC_spec h; obtain ⟨a, rfl, h⟩ := h; exact ⟨_, rfl, h⟩
  | iface t x => exact ⟨_, rfl, h⟩
  | func fn first cap =>
    cases fn with
    | func f => exact ⟨_, rfl, h⟩
    | method m =>
      obtain ⟨t, x, h1, h2, h3⟩ := h
      refine ⟨_, ?_, h3⟩
      simp only [h1, Sem.run_bind, run_program, Result.andThen_ok, h2]
      rfl
    | _ => exact h.elim
  | _ => exact h.elim

theorem vInt_spec {op : BinOp} {k k' : IntKind} {a b : Int} {t : TypeId} {K : Value → Prop} (h : vInt op k a k' b K) : ∃ v, (∀ w, (binOp op t (.int k a) (.int k' b)).run P w = .ok v w) ∧ K v := by
  unfold vInt at h
  cases op
  case shl => 
    simp only [ShC] at h
    split at h
    · exact h.elim
    · rename_i hb; exact ⟨_, fun w => by simp [binOp, Op.shift, hb, shlI], h⟩
  case shr =>
    simp only [ShC] at h
    split at h
    · exact h.elim
    · rename_i hb; exact ⟨_, fun w => by simp [binOp, Op.shift, hb, shrI], h⟩
  case quo =>
    simp only at h
    split at h
    · exact h.elim
    rename_i e
    have e := of_decide_eq_true e
    subst e
    simp only [DivC] at h
    split at h
    · exact h.elim
    · rename_i hb; exact ⟨_, fun w => by simp [binOp, Op.intDiv, hb], h⟩
  case rem =>
    simp only at h
    split at h
    · exact h.elim
    rename_i e
    have e := of_decide_eq_true e
    subst e
    simp only [DivC] at h
    split at h
    · exact h.elim
    · rename_i hb; exact ⟨_, fun w => by simp [binOp, Op.intDiv, hb], h⟩
  all_goals
    simp only at h
    split at h
    · exact h.elim
    rename_i e
    have e := of_decide_eq_true e
    subst e
  all_goals first
    | exact h.elim
    | (refine ⟨_, fun w => ?_, h⟩
       first
         | (simp [binOp, Op.intArith]; done)
         | (simp [binOp, Op.intBits, bAnd]; done)
         | (simp [binOp, Op.intBits, bOr]; done)
         | (simp [binOp, Op.intBits, bXor]; done)
         | (simp [binOp, Op.intBits, bAndNot]; done)
         | (simp [binOp, Op.intCmp]; done))

theorem vUn_spec {op : UnOp} {x : Value} {K : Value → Prop} (h : vUn op x K) : ∃ v, (∀ w, (Op.unary op x).run P w = .ok v w) ∧ K v := by
  unfold vUn at h
  split at h
  · exact ⟨_, fun w => by simp [Op.unary], h⟩
  · exact ⟨_, fun w => by simp [Op.unary, Op.intArith], h⟩
  · exact ⟨_, fun w => by simp [Op.unary, Op.intBits, bXor], h⟩
  · exact h.elim

theorem vConv_spec {s d : TypeId} {x : Value} {K : Value → Prop} (h : vConv P w s d x K) : ∃ v, (convert s d x).run P w = .ok v w ∧ K v := by
  unfold vConv at h
  split at h
  · rename_i k1 k hs hd
    cases x with
    | int k0 n => exact ⟨_, by simp [convert, r_under hs, r_under hd, Conv.intToInt], h⟩
    | _ => exact h.elim
  · rename_i hs hd
    cases x with
    | string b => exact ⟨_, by simp [convert, r_under hs, r_under hd], h⟩
    | _ => exact h.elim
  · rename_i el hs hd
    split at h
    · rename_i he
      cases x with
      | slice p l c =>
        obtain ⟨b, h1, h2⟩ := h
        exact ⟨_, by simp [convert, r_under hs, r_under hd, r_under he, h1], h2⟩
      | _ => exact h.elim
    · exact h.elim
  · exact h.elim

theorem r_bound {k : IntKind} {i : Int} {y : Nat} {c : BoundsCode} (h : 0 ≤ i ∧ i ≤ (y : Int)) : (Instr.sliceBound (.int k i) y c).run P w = .ok i.toNat w := by
  simp [Instr.sliceBound, asIntOf, h]

theorem vSl3_bounds {b : Bool} {sz : Nat} {p : Option Addr} {len cap : Nat} {lo hi : Option Value} {K : Value → Prop} (h : vSl3 sz p len cap lo hi K) :
    ∃ l h' m, (∀ w, (Instr.sliceBounds b len cap lo hi none).run P w = .ok (l, h', m) w) ∧ (m = cap) ∧ K (.slice (if m = l then p else p.map (·.add (l * sz))) (h' - l) (m - l)) := by
  have zero : ∀ (p : Option Addr) (c : Nat), (if c = 0 then p else p.map (·.add (0 * sz))) = p := by
    intro p c
    split
    · rfl
    · cases p <;> simp [Addr.add]
  unfold vSl3 at h
  split at h
  · exact ⟨0, len, cap, fun w => by simp [Instr.sliceBounds], rfl, by rw [zero]; simpa using h⟩
  · obtain ⟨h1, h2⟩ := h
    rename_i k hh
    exact ⟨0, hh.toNat, cap, fun w => by simp [Instr.sliceBounds, r_bound h1], rfl, by rw [zero]; simpa using h2⟩
  · obtain ⟨h1, h2⟩ := h
    rename_i k l
    exact ⟨l.toNat, len, cap, fun w => by simp [Instr.sliceBounds, r_bound h1], rfl, by simpa [slAdd] using h2⟩
  · obtain ⟨h1, h2, h3⟩ := h
    rename_i k l k' hh
    have h2' : 0 ≤ l ∧ l ≤ (hh.toNat : Int) := ⟨h2.1, by omega⟩
    exact ⟨l.toNat, hh.toNat, cap, fun w => by simp [Instr.sliceBounds, r_bound h1, r_bound h2'], rfl, by simpa [slAdd] using h3⟩
  · exact h.elim

theorem some_ite_add {a : Addr} {m l sz : Nat} : (if m = l then some a else (some a).map (·.add (l * sz))) = some (if m = l then a else a.add (l * sz)) := by split <;> rfl

theorem cellsOf_eq {t : TypeId} {i : TypeInfo} (h : P.info? t = some i) : P.cellsOf t = i.size := by simp [Program.cellsOf, h]

theorem vSlice_spec {t : TypeId} {x : Value} {lo hi : Option Value} {K : Value → Prop} (h : vSlice P t x lo hi K) : ∃ v, (∀ w, (Instr.sliceAt t x lo hi none).run P w = .ok v w) ∧ K v := by
  unfold vSlice at h
  split at h
  · rename_i n el hu
    split at h
    · rename_i i hi
      cases x with
      | pointer q =>
        replace h := PtrC_spec h; obtain ⟨a, rfl, h⟩ := h
        obtain ⟨l, h', m, h1, rfl, h2⟩ := vSl3_bounds (P := P) (b := false) h
        rw [some_ite_add] at h2
        exact ⟨_, fun w => by simp [Instr.sliceAt, r_under hu, Instr.sureAddr, h1, r_sizeOf hi], h2⟩
      | _ => exact h.elim
    · exact h.elim
  · rename_i el hu
    split at h
    · rename_i i hi
      cases x with
      | slice p len cap =>
        obtain ⟨l, h', m, h1, rfl, h2⟩ := vSl3_bounds (P := P) (b := true) h
        exact ⟨_, fun w => by simp [Instr.sliceAt, Instr.slice, r_under hu, h1, r_sizeOf hi], h2⟩
      | _ => exact h.elim
    · exact h.elim
  · rename_i hu
    cases x with
    | string s =>
      simp only at h
      split at h
      · obtain ⟨h1, h2⟩ := h
        exact ⟨_, fun w => by simp [Instr.sliceAt, Instr.slice, r_under hu, Instr.sliceBounds, r_bound h1], h2⟩
      · obtain ⟨h1, h2⟩ := h
        exact ⟨_, fun w => by simp [Instr.sliceAt, Instr.slice, r_under hu, Instr.sliceBounds, r_bound h1], h2⟩
      · obtain ⟨h1, h2, h3⟩ := h
        rename_i k l k' hh
        have h2' : 0 ≤ l ∧ l ≤ (hh.toNat : Int) := ⟨h2.1, by omega⟩
        exact ⟨_, fun w => by simp [Instr.sliceAt, Instr.slice, r_under hu, Instr.sliceBounds, r_bound h1, r_bound h2'], h3⟩
      · exact h.elim
    | _ => exact h.elim
  · exact h.elim

theorem vSlice3_spec {t : TypeId} {x lo hi mx : Value} {K : Value → Prop} (h : vSlice3 P t x lo hi mx K) : ∃ v, (∀ w, (Instr.sliceAt t x (some lo) (some hi) (some mx)).run P w = .ok v w) ∧ K v := by
  unfold vSlice3 at h
  split at h
  · rename_i el hu
    split at h
    · rename_i i hi
      split at h
      · rename_i p len cap kl l kh hh km m
        obtain ⟨h1, h2, h3, h4⟩ := h
        have h2' : 0 ≤ hh ∧ hh ≤ (m.toNat : Int) := ⟨h2.1, by omega⟩
        have h3' : 0 ≤ l ∧ l ≤ (hh.toNat : Int) := ⟨h3.1, by omega⟩
        refine ⟨_, fun w => ?_, h4⟩
        simp [Instr.sliceAt, Instr.slice, r_under hu, Instr.sliceBounds, r_bound h1, r_bound h2', r_bound h3', r_sizeOf hi, slAdd]
      · exact h.elim
    · exact h.elim
  · exact h.elim

theorem vFieldAddr_spec {s : TypeId} {x : Value} {f : Nat} {K : Value → Prop} (h : vFieldAddr P s x f K) : ∃ v, (∀ w, (Instr.fieldAt s x f).run P w = .ok v w) ∧ K v := by
  unfold vFieldAddr at h
  cases x with
  | pointer q =>
    replace h := PtrC_spec h; obtain ⟨a, rfl, h⟩ := h
    split at h
    · rename_i fs hu
      split at h
      · rename_i fd hf
        split at h
        · rename_i i hi
          split at h
          · exact h.elim
          · rename_i hz
            have hz : i.size ≠ 0 := fun e => by rw [e] at hz; simp at hz
            exact ⟨_, fun w => by simp [Instr.fieldAt, r_under hu, hf, Instr.sureAddr, fieldPlace, r_sizeOf hi, hz], h⟩
        · exact h.elim
      · exact h.elim
    · exact h.elim
  | _ => exact h.elim

theorem part?_spec {t : TypeId} {cs : Array Value} {off : Nat} {v : Value} (h : part? P t cs off = some v) : (part t cs off).run P w = .ok v w := by
  unfold part? at h
  split at h
  · rename_i hb
    split at h
    · rename_i i hi
      simp at h; subst h
      simp [part, r_isAgg hb, r_sizeOf hi]
    · cases h
  · rename_i hb
    simp [part, r_isAgg hb, h]
  · cases h

theorem vField_spec {t : TypeId} {x : Value} {f : Nat} {K : Value → Prop} (h : vField P t x f K) : ∃ v, (∀ w, (Instr.field t x f).run P w = .ok v w) ∧ K v := by
  unfold vField at h
  cases x with
  | agg cs =>
    simp only at h
    split at h
    · rename_i fs hu
      split at h
      · rename_i fd hf
        split at h
        · rename_i v hv
          exact ⟨v, fun w => by simp [Instr.field, r_under hu, hf, asAgg, part?_spec hv], h⟩
        · exact h.elim
      · exact h.elim
    · exact h.elim
  | _ => exact h.elim

theorem elemAt_eq (a : Addr) (i s : Nat) : elemAt a i s = a.add (i * s) := by
  unfold elemAt; split
  · simp
  · rfl

theorem vIndexAddr_spec {t : TypeId} {x i : Value} {K : Value → Prop} (h : vIndexAddr P t x i K) : ∃ v, (∀ w, (Instr.indexAt t x i).run P w = .ok v w) ∧ K v := by
  unfold vIndexAddr at h
  cases i with
  | int k i =>
    simp only at h
    split at h
    · rename_i n el hu
      cases x with
      | pointer q =>
        replace h := PtrC_spec h; obtain ⟨a, rfl, hb, h⟩ := h
        split at h
        · rename_i ie hi
          rw [elemAt_eq] at h
          exact ⟨_, fun w => by simp [Instr.indexAt, asIntOf, r_under hu, Instr.sureAddr, hb, r_sizeOf hi], h⟩
        · exact h.elim
      | _ => exact h.elim
    · rename_i el hu
      cases x with
      | slice p len cap =>
        obtain ⟨hb, h⟩ := h
        replace h := PtrC_spec h; obtain ⟨a, rfl, h⟩ := h
        split at h
        · rename_i ie hi
          rw [elemAt_eq] at h
          exact ⟨_, fun w => by simp [Instr.indexAt, asIntOf, r_under hu, hb, r_sizeOf hi], h⟩
        · exact h.elim
      | _ => exact h.elim
    · exact h.elim
  | _ => exact h.elim

theorem vIndex_spec {t : TypeId} {x i : Value} {K : Value → Prop} (h : vIndex P t x i K) : ∃ v, (∀ w, (Instr.index t x i).run P w = .ok v w) ∧ K v := by
  unfold vIndex at h
  cases i with
  | int k i =>
    simp only at h
    split at h
    · rename_i hu
      cases x with
      | string s =>
        obtain ⟨hb, h⟩ := h
        have hlt : i.toNat < s.size := by omega
        refine ⟨_, fun w => ?_, h⟩
        simp [Instr.index, asIntOf, r_under hu, hb.1, sAt, hlt]
      | _ => exact h.elim
    · rename_i n el hu
      cases x with
      | agg cs =>
        obtain ⟨hb, h⟩ := h
        split at h
        · rename_i hagg
          obtain ⟨v, hv, h⟩ := h
          obtain ⟨u, rfl, h⟩ := exTy_spec h
          have : ∃ ie, P.info? el = some ie := by
            unfold aggT at hagg
            cases hue : P.underlying el with
            | none => simp [hue] at hagg
            | some d => exact info_of_under hue
          obtain ⟨ie, hie⟩ := this
          rw [cellsOf_eq hie] at hv
          exact ⟨_, fun w => by simp [Instr.index, asIntOf, r_under hu, hb, r_sizeOf hie, part, r_isAgg hagg, hv], h⟩
        · exact h.elim
      | _ => exact h.elim
    · exact h.elim
  | _ => exact h.elim

theorem r_zv {t : TypeId} {z : Value} (h : zv P t = some z) : (zeroValue t).run P w = .ok z w := by
  unfold zv at h
  split at h
  · rename_i i hi; simp [zeroValue, r_typeInfo hi, h]
  · cases h

theorem vTA_spec {x : Value} {xt at_ : TypeId} {ok : Bool} {K : Value → Bool → Prop} (h : vTA P w x xt at_ ok K) :
    ∃ u b, (Instr.typeAssert x xt at_ ok).run P w = .ok (if ok then .tuple #[u, .bool b] else u) w ∧ K u b := by
  unfold vTA at h
  split at h
  · split at h
    · obtain ⟨u, b, h1, h2⟩ := h; exact ⟨u, b, by simpa using h1, h2⟩
    · obtain ⟨u, h1, h2⟩ := h; exact ⟨u, true, by simpa using h1, h2⟩
  · rename_i d hd hu
    cases x with
    | iface t v =>
      simp only at h
      split at h
      · rename_i e
        have e := Nat.eq_of_beq_eq_true e
        subst e
        refine ⟨v, true, ?_, h⟩
        cases d <;> first
          | exact absurd rfl (hd _)
          | (cases ok <;> simp [Instr.typeAssert, r_under hu])
      · rename_i e
        have e : t ≠ at_ := fun e' => by subst e'; simp at e
        split at h
        · split at h
          · rename_i z hz
            refine ⟨z, false, ?_, h⟩
            cases d <;> first
              | exact absurd rfl (hd _)
              | simp [Instr.typeAssert, r_under hu, e, r_zv hz]
          · exact h.elim
        · exact h.elim
    | nilIface =>
      simp only at h
      split at h
      · split at h
        · rename_i z hz
          refine ⟨z, false, ?_, h⟩
          cases d <;> first
            | exact absurd rfl (hd _)
            | simp [Instr.typeAssert, r_under hu, r_zv hz]
        · exact h.elim
      · exact h.elim
    | _ => exact h.elim
  · exact h.elim

theorem r_places : ∀ {fs : List Field} {pl : List (Nat × Nat)}, fieldPlaces P fs = some pl → (fs.mapM fun f => (do pure (f.offset, ← sizeOf f.type) : Sem (Nat × Nat))).run P w = .ok pl w
  | [], pl, h => by simp [fieldPlaces] at h; subst h; simp
  | f :: fs, pl, h => by
    simp only [fieldPlaces] at h
    split at h
    · rename_i i hi
      split at h
      · rename_i r hr
        simp at h; subst h
        simp only [List.mapM_cons, Sem.run_bind, r_sizeOf hi, Result.andThen_ok, Sem.run_pure, r_places hr]
      · cases h
    · cases h

theorem buildCells_spec {t : TypeId} {ps : Array (Nat × Value)} {cs : Array Value} (h : buildCells P t ps.toList = some cs) : (Instr.build t ps).run P w = .ok (.agg cs) w := by
  unfold buildCells at h
  split at h
  · rename_i z hz
    split at h
    · rename_i fs hu
      split at h
      · rename_i pl hp
        have := r_places (w := w) hp
        have e : (fs.mapM fun f => (do pure (f.offset, ← sizeOf f.type) : Sem (Nat × Nat))).run P w = .ok pl.toArray w := by
          rw [Array.mapM_eq_mapM_toList, Sem.run_map, this]; rfl
        simp only [Instr.build, Sem.run_bind, r_zv hz, r_under hu, Result.andThen_ok, e, h, Sem.run_pure]
      · cases h
    · rename_i n el hu
      split at h
      · rename_i ie hi
        simp [Instr.build, r_zv hz, r_under hu, r_sizeOf hi, h]
      · cases h
    · cases h
  · cases h

def SameC : List (Nat × Value) → List (Nat × Value) → Prop
  | [], [] => True
  | x :: r, y :: l => (x.1 = y.1 ∧ x.2.cells = y.2.cells) ∧ SameC r l
  | _, _ => False
theorem fill_agg {place : Nat → Option (Nat × Nat)} : ∀ {ps ps' : List (Nat × Value)} {cells : Array Value}, SameC ps ps' → Instr.fill place cells ps = Instr.fill place cells ps'
  | [], [], _, _ => rfl
  | [], _ :: _, _, h => h.elim
  | _ :: _, [], _, h => h.elim
  | (i, v) :: r, (j, u) :: l, cells, h => by
    obtain ⟨⟨h3, h4⟩, h2⟩ := h
    simp only at h3 h4
    subst h3
    simp only [Instr.fill, h4]
    split
    · rfl
    · split
      · rfl
      · exact fill_agg h2
theorem normParts_spec {t : TypeId} : ∀ {ps : List (Nat × Value)} {K : List (Nat × Value) → Prop}, normParts P t ps K → ∃ ps', SameC ps ps' ∧ K ps'
  | [], K, h => ⟨[], trivial, h⟩
  | (i, v) :: r, K, h => by
    unfold normParts at h
    split at h
    · have hv : v.oneCell' = true := by
        cases hv : v.oneCell' with
        | true => rfl
        | false => rw [hv] at h; exact h.elim
      rw [hv] at h
      obtain ⟨ps', h1, h2⟩ := normParts_spec (h : normParts P t r _)
      refine ⟨(i, .agg #[v]) :: ps', ⟨⟨rfl, ?_⟩, h1⟩, h2⟩
      cases v <;> first | rfl | cases hv
    · obtain ⟨ps', h1, h2⟩ := normParts_spec h
      exact ⟨_ :: ps', ⟨⟨rfl, rfl⟩, h1⟩, h2⟩
    · exact h.elim
theorem buildCells_norm {t : TypeId} {ps ps' : List (Nat × Value)} (h : SameC ps ps') : buildCells P t ps = buildCells P t ps' := by
  unfold buildCells
  split
  · split
    · split
      · exact fill_agg h
      · rfl
    · split
      · exact fill_agg h
      · rfl
    · rfl
  · rfl

theorem vLen_spec {t : TypeId} {x : Value} {ts : Array TypeId} {ty : TypeId} {K : Value → Prop} (ht : ts[0]? = some t) (h : vLen P t x K) : ∃ v, (∀ w, (Builtin.len_ ts ty #[x]).run P w = .ok v w) ∧ K v := by
  unfold vLen at h
  split at h
  · rename_i hu
    cases x with
    | string s => exact ⟨_, fun w => by simp [Builtin.len_, ht, r_under hu, goInt], h⟩
    | _ => exact h.elim
  · rename_i n el hu
    exact ⟨_, fun w => by simp [Builtin.len_, ht, r_under hu, goInt], h⟩
  · rename_i arr hu
    split at h
    · rename_i n el hu2
      exact ⟨_, fun w => by simp [Builtin.len_, ht, r_under hu, r_under hu2, goInt], h⟩
    · exact h.elim
  · rename_i el hu
    cases x with
    | slice p n c => exact ⟨_, fun w => by simp [Builtin.len_, ht, r_under hu, goInt], h⟩
    | _ => exact h.elim
  · exact h.elim
theorem vCap_spec {t : TypeId} {x : Value} {ts : Array TypeId} {ty : TypeId} {K : Value → Prop} (ht : ts[0]? = some t) (h : vCap P t x K) : ∃ v, (∀ w, (Builtin.cap_ ts ty #[x]).run P w = .ok v w) ∧ K v := by
  unfold vCap at h
  split at h
  · rename_i el hu
    cases x with
    | slice p n c => exact ⟨_, fun w => by simp [Builtin.cap_, ht, r_under hu, goInt], h⟩
    | _ => exact h.elim
  · exact h.elim

end
end Go.V
