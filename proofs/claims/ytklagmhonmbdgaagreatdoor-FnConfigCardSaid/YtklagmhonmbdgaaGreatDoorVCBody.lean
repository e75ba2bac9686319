/- Operations that write, and bodies. -/
import Derived.Test.YtklagmhonmbdgaaGreatDoorVCMain
namespace Go.V
open Go

/-! ### Operations that write -/
def StoreC (w : World) (a : Addr) (v : Value) (K : World → Prop) : Prop := (w.cell? a).isSome = true ∧ w.frozen? a = false ∧ K (w.setCell a v)
/-- A new block. -/
def AllocC (w : World) (o : Obj) (K : Nat → World → Prop) : Prop := K w.heap.size (w.alloc o)
/-- A draw. -/
def DrewC (w : World) (K : World → Prop) : Prop := K w.drew
def storeCs (a : Addr) : Nat → List Value → World → (World → Prop) → Prop
  | _, [], w, K => K w
  | i, v :: vs, w, K => OneC v.oneCell' (StoreC w (a.add i) v fun w' => storeCs a (i + 1) vs w' K)
/-- A great aggregate is stored. -/
def StoreA (P : Program) (w : World) (t : TypeId) (a : Addr) (cs : Array Value) (K : World → Prop) : Prop := ∃ w', (storeVar t a (.agg cs)).run P w = .ok () w' ∧ K w'
def zrow (P : Program) (el : TypeId) (n : Nat) : Array Value := (Array.range (n * P.cellsOf el)).map fun i => (zc P el)[i % (zc P el).size]!
/-- A function with a body is called, and returns. -/
def CallT (P : Program) (f : FuncId) (args : Array Value) (w : World) (R : Value → World → Prop) : Prop := Calls P f args w fun e w' => ∃ v, e = .returned v ∧ R v w'
theorem CallT.mono {P : Program} {f : FuncId} {args : Array Value} {w : World} {R R' : Value → World → Prop} (h : CallT P f args w R) (hr : ∀ v w', R v w' → R' v w') : CallT P f args w R' :=
  Calls.mono h fun _ _ ⟨v, h1, h2⟩ => ⟨v, h1, hr _ _ h2⟩

section
variable (P : Program) (G : Nat → Bool) (w : World)

def vStore (t : TypeId) (p v : Value) (K : World → Prop) : Prop :=
  match p with
  | .pointer q => PtrC q fun a =>
    match P.info? t with
    | some i => match aggT P t with
      | some false => match Nat.beq i.size 1 with | true => OneC v.oneCell' (StoreC w a v K) | false => False
      | some true => match v with
        | .agg cs => match Nat.ble i.size 16 with
          | true => match Nat.beq cs.size i.size with | true => storeCs a 0 cs.toList w K | false => False
          | false => StoreA P w t a cs K
        | _ => False
      | none => False
    | none => False
  | _ => False

def sliceCells (el : TypeId) (len : Nat) (ps : List (Nat × Value)) : Option (Array Value) :=
  match P.info? el with
  | some ie => match Nat.ble (len * ie.size) 16777216 with
    | true => match Nat.beq (len * ie.size) 0 with
      | true => Instr.fill (fun i => some (i * ie.size, ie.size)) #[] ps
      | false => match zv P el with
        | some z => Instr.fill (fun i => some (i * ie.size, ie.size)) ((Array.range (len * ie.size)).map (z.cells[· % z.cells.size]!)) ps
        | none => none
    | false => none
  | none => none

def vMake (t : TypeId) (l c : Value) (K : Value → World → Prop) : Prop :=
  match l, c with
  | .int _ l, .int _ c => match P.underlying t with
    | some (.slice el) => match P.info? el with
      | some ie => match zv P el with
        | some _ => (0 ≤ l ∧ l ≤ c ∧ c ≤ 281474976710656 ∧ (ie.bytes : Int) * c ≤ 281474976710656) ∧ AllocC w (.cells (zrow P el c.toNat) el) fun r w' => K (.slice (some ⟨r, 0, none⟩) l.toNat c.toNat) w'
        | none => False
      | none => False
    | _ => False
  | _, _ => False

/-- append, copy, a string turned into bytes: as the model runs them. -/
def AppC (ts : Array TypeId) (ty : TypeId) (s x : Value) (K : Value → World → Prop) : Prop :=
  ∃ (p : Option Addr) (l c : Nat) (w' : World), (Builtin.append_ ts ty #[s, x]).run P w = .ok (.slice p l c) w' ∧ K (.slice p l c) w'
def CopyC (ts : Array TypeId) (ty : TypeId) (s x : Value) (K : Value → World → Prop) : Prop :=
  ∃ (n : Int) (w' : World), (Builtin.copy_ ts ty #[s, x]).run P w = .ok (.int .i64 n) w' ∧ K (.int .i64 n) w'
def ConvC (s d : TypeId) (x : Value) (K : Value → World → Prop) : Prop :=
  ∃ (p : Option Addr) (l c : Nat) (w' : World), (convert s d x).run P w = .ok (.slice p l c) w' ∧ K (.slice p l c) w'
/-- A function that the model answers for by itself. -/
def ExtC (f : FuncId) (args : Array Value) (K : Value → World → Prop) : Prop := ∃ v w', (callFunc f args).run P w = .ok (.value v) w' ∧ K v w'
/-- A method of what an interface value holds. -/
def InvC (recv : Value) (name : String) (args : List Value) (K : Value → World → Prop) : Prop :=
  ∃ t v f r, recv = .iface t v ∧ (method (P.types.size + Made.depth) t v name).run P w = .ok (f, r) w ∧ (match G f with | true => CallT P f (r :: args).toArray w K | false => ExtC P w f (r :: args).toArray K)
/-- A call of a function value. -/
def vCallF (fv : Value) (args : List Value) (K : Value → World → Prop) : Prop :=
  match fv with
  | .func (.func g) first cap => match G g with
    | true => CallT P g (first.toList ++ args ++ cap.toList).toArray w K
    | false => ExtC P w g (first.toList ++ args ++ cap.toList).toArray K
  | .func (.method name) first _ => match first.toList ++ args with
    | recv :: args => InvC P G w recv name args K
    | [] => False
  | _ => False

def writeOp (e : Env) (op : Op) (ty : TypeId) (K : Value → World → Prop) : Prop :=
  match op with
  | .store t x y => wv e x fun p => wv e y fun v => vStore P w t p v fun w' => K undef w'
  | .alloc t => match zv P t with | some _ => AllocC w (.cells (zc P t) t) fun r w' => K (.pointer (some ⟨r, 0, none⟩)) w' | none => False
  | .box t x => wv e x fun v => AllocC w (.cells v.cells t) fun r w' => K (.pointer (some ⟨r, 0, none⟩)) w'
  | .buildSlice t len ps => wvp e ps.toList fun ps => match P.underlying t with
    | some (.slice el) => match sliceCells P el len ps with
      | some cs => AllocC w (.cells cs el) fun r w' => K (.slice (some ⟨r, 0, none⟩) len len) w'
      | none => False
    | _ => False
  | .makeSlice t l c => wv e l fun l => wv e c fun c => vMake P w t l c K
  | .convert s d x => wv e x fun x => ConvC P w s d x K
  | .call c => match c.callee with
    | .builtin .append => wvs e c.args.toList fun xs => match xs with | [s, x] => AppC P w c.argTypes ty s x K | _ => False
    | .builtin .copy => wvs e c.args.toList fun xs => match xs with | [s, x] => CopyC P w c.argTypes ty s x K | _ => False
    | .value f => wv e f fun fv => wvs e c.args.toList fun xs => vCallF P G w fv xs fun v w' => TyR P ty v fun v' => K v' w'
    | .invoke r name => wv e r fun rv => wvs e c.args.toList fun xs => InvC P G w rv name xs fun v w' => TyR P ty v fun v' => K v' w'
    | _ => False
  | _ => False
end

/-- What is known of the functions with bodies. -/
def Bodies (P : Program) (G : Nat → Bool) : Prop := ∀ g, G g = true → ∃ fn, P.funcs[g]? = some fn ∧ fn.body.isNone = false ∧ (fn.name == "runtime.NumGoroutine") = false

section
variable {P : Program} {G : Nat → Bool} {w : World}

theorem cells_one {v : Value} (h : v.oneCell' = true) : v.cells = #[v] := by cases v <;> first | rfl | cases h
theorem OneC_spec {b : Bool} {X : Prop} (h : OneC b X) : b = true ∧ X := by cases b with | true => exact ⟨rfl, h⟩ | false => exact h.elim

theorem r_store {a : Addr} {v : Value} {K : World → Prop} (hv : v.oneCell' = true) (h : StoreC w a v K) : (store a v).run P w = .ok () (w.setCell a v) ∧ K (w.setCell a v) := by
  obtain ⟨h1, h2, h3⟩ := h
  refine ⟨?_, h3⟩
  rw [run_store P w a v .plain hv]
  cases hc : w.cell? a with
  | none => simp [hc] at h1
  | some u => simp [h2]

theorem storeCs_spec {a : Addr} : ∀ {vs : List Value} {i : Nat} {w : World} {K : World → Prop}, storeCs a i vs w K → ∃ w', (storeCells a vs i).run P w = .ok () w' ∧ K w'
  | [], _, w, _, h => ⟨w, by simp [storeCells], h⟩
  | v :: vs, i, w, K, h => by
    obtain ⟨h1, h2⟩ := OneC_spec h
    obtain ⟨h3, h4⟩ := r_store (P := P) h1 h2
    obtain ⟨w', h5, h6⟩ := storeCs_spec h4
    exact ⟨w', by simp only [storeCells, Sem.run_bind, h3, Result.andThen_ok, h5], h6⟩

theorem vStore_spec {t : TypeId} {p v : Value} {K : World → Prop} (h : vStore P w t p v K) : ∃ w', (Instr.storeAt t p v).run P w = .ok () w' ∧ K w' := by
  unfold vStore at h
  cases p with
  | pointer q =>
    replace h := PtrC_spec h; obtain ⟨a, rfl, h⟩ := h
    split at h
    · rename_i i hi
      split at h
      · split at h
        · rename_i e
          have e := Nat.eq_of_beq_eq_true e
          obtain ⟨h1, h2⟩ := OneC_spec h
          obtain ⟨h3, h4⟩ := r_store (P := P) h1 h2
          refine ⟨_, ?_, h4⟩
          have ha : (a.add 0) = a := by simp [Addr.add]
          simp only [Instr.storeAt, Instr.sureAddr, Sem.run_bind, Sem.run_pure, Result.andThen_ok, storeVar, r_sizeOf hi, cells_one h1, e]
          simp [storeCells, ha, h3]
        · exact h.elim
      · cases v with
        | agg cs =>
          simp only at h
          split at h
          · split at h
            · rename_i e
              have e := Nat.eq_of_beq_eq_true e
              obtain ⟨w', h1, h2⟩ := storeCs_spec (P := P) h
              refine ⟨w', ?_, h2⟩
              simp only [Instr.storeAt, Instr.sureAddr, Sem.run_bind, Sem.run_pure, Result.andThen_ok, storeVar, r_sizeOf hi, Value.cells, e]
              simp [h1]
            · exact h.elim
          · obtain ⟨w', h1, h2⟩ := h
            exact ⟨w', by simp only [Instr.storeAt, Instr.sureAddr, Sem.run_bind, Sem.run_pure, Result.andThen_ok, h1], h2⟩
        | _ => exact h.elim
      · exact h.elim
    · exact h.elim
  | _ => exact h.elim

theorem sliceCells_spec {t el : TypeId} {len : Nat} {ps : Array (Nat × Value)} {cs : Array Value} (hu : P.underlying t = some (.slice el)) (h : sliceCells P el len ps.toList = some cs) :
    (Instr.buildSlice t len ps).run P w = .ok (.slice (some ⟨w.heap.size, 0, none⟩) len len) (w.alloc (.cells cs el)) := by
  unfold sliceCells at h
  split at h
  · rename_i ie hi
    split at h
    · rename_i hle
      have hle := Nat.le_of_ble_eq_true hle
      have hn : ¬ (len * ie.size > 2 ^ 24) := by omega
      split at h
      · rename_i e
        have e := Nat.eq_of_beq_eq_true e
        have e0 : ¬ (0 > 2 ^ 24) := by omega
        have e1 : (Array.map (fun x => (#[] : Array Value)[x % (#[] : Array Value).size]!) (Array.range 0)) = #[] := by simp
        simp only [Instr.buildSlice, Sem.run_bind, r_under hu, r_sizeOf hi, Result.andThen_ok, Sem.run_ite, if_false, e, e0, if_true, Sem.run_pure, e1, h, newRow, run_newObj]
        rfl
      · rename_i e
        have e : len * ie.size ≠ 0 := fun e' => by rw [e'] at e; simp at e
        split at h
        · rename_i z hz
          simp only [Instr.buildSlice, Sem.run_bind, r_under hu, r_sizeOf hi, Result.andThen_ok, Sem.run_ite, hn, if_false, e, Sem.run_pure, r_zv hz, h, newRow, run_newObj]
          rfl
        · cases h
    · cases h
  · cases h

theorem vMake_spec {t : TypeId} {l c : Value} {K : Value → World → Prop} (h : vMake P w t l c K) : ∃ v w', (Instr.makeSlice t l c).run P w = .ok v w' ∧ K v w' := by
  unfold vMake at h
  split at h
  · rename_i k l k' c
    split at h
    · rename_i el hu
      split at h
      · rename_i ie hi
        split at h
        · rename_i z hz
          obtain ⟨⟨h1, h2, h3, h4⟩, hk⟩ := h
          refine ⟨.slice (some ⟨w.heap.size, 0, none⟩) l.toNat c.toNat, w.alloc (.cells (zrow P el c.toNat) el), ?_, hk⟩
          have wl : IntKind.i64.wrap l = l := by rw [IntKind.wrap_i64]; omega
          have wc : IntKind.i64.wrap c = c := by rw [IntKind.wrap_i64]; omega
          have t1 : ¬ (c < 0) := by omega
          have t2 : ¬ ((ie.bytes : Int) * c > 2 ^ 48) := by omega
          have t3 : ¬ (l < 0) := by omega
          have t4 : ¬ (l > c) := by omega
          have hzc : zc P el = z.cells := by
            unfold zv at hz; unfold zc
            simp only [hi] at hz ⊢
            simp [hz]
          simp only [Instr.makeSlice, Sem.run_bind, r_under hu, Result.andThen_ok, asInt, asIntOf, Sem.run_pure, r_typeInfo hi, wl, wc]
          simp only [t1, t2, t3, t4, decide_false, Bool.or_self, Bool.false_eq_true, if_false, run_askRoom, Result.andThen_ok, r_sizeOf hi, Sem.run_bind]
          by_cases hn : c.toNat * ie.size = 0
          · simp only [hn, if_true]
            have e0 : Array.range 0 = #[] := rfl
            simp [newRow, zrow, cellsOf_eq hi, hn, e0]
          · simp only [hn, if_false, Sem.run_bind, r_zv hz, Result.andThen_ok, Sem.run_pure]
            simp [newRow, zrow, cellsOf_eq hi, hzc]
        · exact h.elim
      · exact h.elim
    · exact h.elim
  · exact h.elim

theorem r_callFunc (hG : Bodies P G) {g : FuncId} (hg : G g = true) {args : Array Value} : (callFunc g args).run P w = .ok (.enter g args) w := by
  obtain ⟨fn, h1, h2, h3⟩ := hG g hg
  simp only [callFunc, Sem.run_bind, run_program, Result.andThen_ok, h1, h3, h2, Bool.false_eq_true, if_false, Sem.run_pure]

theorem upon_call {o : Oper} {a : Act} {next : Act → World → Prop} {Q : Exit → Act → World → Prop} {f : FuncId} {args : Array Value} {K : Value → World → Prop}
    (hk : ∀ v w', K v w' → next (a.put o.dst v) w') (h : CallT P f args w K) : o.upon P a next Q (.ok (.enter f args) w) := by
  rw [Oper.upon_enter]
  exact Calls.mono h fun e w' ⟨v, he, hv⟩ => by subst he; exact hk _ _ hv

theorem vCallF_spec (hG : Bodies P G) {o : Oper} {a : Act} {next : Act → World → Prop} {Q : Exit → Act → World → Prop} {fv : Value} {args : List Value} {K : Value → World → Prop}
    (hk : ∀ v w', K v w' → next (a.put o.dst v) w') (h : vCallF P G w fv args K) :
    o.upon P a next Q ((do let d ← Deferred.ofValue fv args.toArray; invoke d.target d.args : Sem Next).run P w) := by
  unfold vCallF at h
  have inv : ∀ {recv : Value} {name : String} {args : List Value}, InvC P G w recv name args K → o.upon P a next Q ((callMethod recv name args.toArray).run P w) := by
    intro recv name args hi
    obtain ⟨t, v, f, r, rfl, h1, h3⟩ := hi
    simp only [callMethod, Sem.run_bind, run_program, Result.andThen_ok, h1]
    have : #[r] ++ args.toArray = (r :: args).toArray := by simp
    rw [this]
    split at h3
    · rename_i h2
      rw [r_callFunc hG h2]
      exact upon_call hk h3
    · obtain ⟨v, w', h4, h5⟩ := h3
      rw [h4]
      exact hk _ _ h5
  split at h
  · rename_i g first cap
    have e : first ++ args.toArray ++ cap = (first.toList ++ args ++ cap.toList).toArray := by simp
    simp only [Deferred.ofValue, Sem.run_bind, Sem.run_pure, Result.andThen_ok, invoke, e]
    split at h
    · rename_i hg
      rw [r_callFunc hG hg]
      exact upon_call hk h
    · obtain ⟨v, w', h1, h2⟩ := h
      rw [h1]
      exact hk _ _ h2
  · rename_i name first cap
    simp only [Deferred.ofValue, Sem.run_bind, Sem.run_pure, Result.andThen_ok, invoke]
    split at h
    · rename_i recv rest hr
      have e : first ++ args.toArray = (recv :: rest).toArray := by rw [← hr]; simp
      rw [e]
      have e2 : ((recv :: rest).toArray.extract 1 (recv :: rest).toArray.size) = rest.toArray := by simp
      have e3 : ((recv :: rest).toArray[0]? : Option Value) = some recv := by simp
      simp only [e3, e2]
      exact inv h
    · exact h.elim
  · exact h.elim

theorem first_of (x : Value) (ys : Array Value) : ((#[x] ++ ys)[0]? : Option Value) = some x := by
  cases ys with | mk l => simp
theorem rest_of (x : Value) (ys : Array Value) : (#[x] ++ ys).extract 1 (#[x] ++ ys).size = ys := by
  cases ys with | mk l => apply Array.ext'; simp

theorem writeOp_spec (hG : Bodies P G) {n : Nat} {dfs : List Deferred} {e : Env} {a : Act} {o : Oper} {next : Act → World → Prop} {Q : Exit → Act → World → Prop} {K : Value → World → Prop} (hr : Rep n dfs e a)
    (hk : ∀ v w', K v w' → next (a.put o.dst v) w') (h : writeOp P G w e o.op o.type K) : o.wp P a w next Q := by
  obtain ⟨dst, op, type, pos, after, guard⟩ := o
  have fin : ∀ {s : Sem Value} {v : Value} {w' : World}, s.run P w = .ok v w' → K v w' → Oper.upon P ⟨dst, op, type, pos, after, guard⟩ a next Q ((do pure (Next.value (← s)) : Sem Next).run P w) := by
    intro s v w' h1 h2
    rw [r_v h1]
    exact hk _ _ h2
  unfold Oper.wp
  unfold writeOp at h
  simp only at h
  split at h
  · have h := wv_spec hr h
    have h := wv_spec hr h
    obtain ⟨w', h1, h2⟩ := vStore_spec h
    simp only [execOp, Sem.run_bind, h1, Result.andThen_ok, Sem.run_pure, Oper.upon_skip]
    exact hk _ _ h2
  · rename_i t
    split at h
    · rename_i z hz
      simp only [execOp]
      refine fin (v := .pointer (some ⟨w.heap.size, 0, none⟩)) (w' := w.alloc (.cells (zc P t) t)) ?_ h
      have hzc : zc P t = z.cells := by
        unfold zv at hz
        unfold zc
        split at hz
        · simp [hz]
        · cases hz
      simp only [Instr.alloc, Sem.run_bind, r_zv hz, Result.andThen_ok, newVar, newRow, run_newObj, Sem.run_pure, hzc]
      rfl
    · exact h.elim
  · rename_i t x
    have h := wv_spec hr h
    simp only [execOp]
    refine fin (v := .pointer (some ⟨w.heap.size, 0, none⟩)) (w' := w.alloc (.cells (a.eval x).cells t)) ?_ h
    simp only [Instr.box, Sem.run_bind, newVar, newRow, run_newObj, Sem.run_pure, Result.andThen_ok]
    rfl
  · rename_i t len ps
    have h := wvp_spec hr h
    split at h
    · rename_i el hu
      split at h
      · rename_i cs hc
        simp only [execOp]
        refine fin (v := .slice (some ⟨w.heap.size, 0, none⟩) len len) (w' := w.alloc (.cells cs el)) (sliceCells_spec hu ?_) h
        rw [← hc]; congr 1; simp
      · exact h.elim
    · exact h.elim
  · have h := wv_spec hr h
    have h := wv_spec hr h
    obtain ⟨v, w', h1, h2⟩ := vMake_spec h
    simp only [execOp]
    exact fin h1 h2
  · have h := wv_spec hr h
    obtain ⟨p, l, c, w', h1, h2⟩ := h
    simp only [execOp]
    exact fin h1 h2
  · rename_i c
    obtain ⟨callee, args, argTypes⟩ := c
    simp only at h
    simp only [execOp]
    split at h
    · have h := args_map hr _ h
      split at h
      · rename_i s x hx
        have hx := two_args hx
        obtain ⟨p, l, c, w', h1, h2⟩ := h
        simp only [resolve, Sem.run_bind, Sem.run_pure, Result.andThen_ok, invoke, hx]
        have := fin h1 h2
        simpa only [builtin, Sem.run_bind] using this
      · exact h.elim
    · have h := args_map hr _ h
      split at h
      · rename_i s x hx
        have hx := two_args hx
        obtain ⟨m, w', h1, h2⟩ := h
        simp only [resolve, Sem.run_bind, Sem.run_pure, Result.andThen_ok, invoke, hx]
        have := fin h1 h2
        simpa only [builtin, Sem.run_bind] using this
      · exact h.elim
    · rename_i f
      have h := wv_spec hr h
      have h := args_map hr _ h
      have := vCallF_spec (Q := Q) (o := ⟨dst, .call ⟨.value f, args, argTypes⟩, type, pos, after, guard⟩) (a := a) (next := next) hG (fun v w' hv => hk _ _ (TyR_spec hv)) h
      simpa only [resolve, Array.toArray_toList] using this
    · rename_i r name
      have h := wv_spec hr h
      have h := args_map hr _ h
      obtain ⟨t, v, f, rr, h0, h1, h3⟩ := h
      simp only [resolve, Sem.run_bind, Sem.run_pure, Result.andThen_ok, invoke]
      have e0 := first_of (a.eval r) (args.map a.eval)
      have e1 := rest_of (a.eval r) (args.map a.eval)
      rw [h0] at e0 e1
      simp only [h0, e0, e1, callMethod, Sem.run_bind, run_program, Result.andThen_ok, h1]
      have e2 : #[rr] ++ args.map a.eval = (rr :: (args.map a.eval).toList).toArray := by simp
      rw [e2]
      split at h3
      · rename_i h2
        rw [r_callFunc hG h2]
        exact upon_call (fun v w' hv => hk _ _ (TyR_spec hv)) h3
      · obtain ⟨v, w', h4, h5⟩ := h3
        rw [h4]
        exact hk _ _ (TyR_spec h5)
    · exact h.elim
  · exact h.elim
end
end Go.V
