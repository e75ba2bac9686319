/- What is to be shown of a function's body, reckoned from its text as one plain proposition about loaded values; and the proof that this suffices. -/
import Derived.Test.YtklagmhonmbdgaaGreatDoorDraw
import Derived.Tactics
import Derived.Laws.Sem
import Derived.Laws.World
import Derived.Laws.Cells
import Derived.Laws.Entries
namespace Go.V
open Go

/-! ### Kinds of values -/
structure Sl where
  a : Option Addr
  len : Nat
  cap : Nat

inductive Kd where
  | i (k : IntKind)
  | b
  | s
  | sl
  | p
  | v

@[reducible] def Kd.T : Kd → Type
  | .i _ => Int
  | .b => Bool
  | .s => ByteArray
  | .sl => Sl
  | .p => Option Addr
  | .v => Value

def Kd.val : (k : Kd) → k.T → Value
  | .i k, x => .int k x
  | .b, x => .bool x
  | .s, x => .string x
  | .sl, x => .slice x.a x.len x.cap
  | .p, x => .pointer x
  | .v, x => x

/-- What is known of a value's kind. -/
def Kd.un : (k : Kd) → Value → (k.T → Prop) → Prop
  | .i k, .int k' x, K => match decide (k = k') with | true => K x | false => False
  | .b, .bool x, K => K x
  | .s, .string x, K => K x
  | .sl, .slice x y z, K => K ⟨x, y, z⟩
  | .p, .pointer x, K => K x
  | .v, x, K => K x
  | _, _, _ => False

theorem un_spec {k : Kd} {v : Value} {K : k.T → Prop} (h : k.un v K) : ∃ x, v = k.val x ∧ K x := by
  cases k <;> cases v <;> simp only [Kd.un] at h <;> first
    | exact h.elim
    | exact ⟨_, rfl, h⟩
    | (rename_i k k' n
       split at h
       · rename_i e; have e := of_decide_eq_true e; subst e; exact ⟨_, rfl, h⟩
       · exact h.elim)

@[reducible] def St : List Kd → Type
  | [] => Unit
  | k :: ks => k.T × St ks

def exK : (k : Kd) → (Value → Prop) → Prop
  | .i k, K => ∃ n : Int, K (.int k n)
  | .b, K => ∃ b : Bool, K (.bool b)
  | .s, K => ∃ s : ByteArray, K (.string s)
  | .sl, K => ∃ a : Option Addr, ∃ l c : Nat, K (.slice a l c)
  | .p, K => ∃ p : Option Addr, K (.pointer p)
  | .v, K => ∃ v : Value, K v

def exKs : List Kd → (List Value → Prop) → Prop
  | [], K => K []
  | k :: ks, K => exK k fun v => exKs ks fun vs => K (v :: vs)

theorem exK_spec {k : Kd} {K : Value → Prop} (h : exK k K) : ∃ v, K v := by
  cases k <;> simp only [exK] at h
  all_goals first
    | (obtain ⟨_, h⟩ := h; exact ⟨_, h⟩)
    | (obtain ⟨_, _, _, h⟩ := h; exact ⟨_, h⟩)

theorem exKs_spec : ∀ {ks : List Kd} {K : List Value → Prop}, exKs ks K → ∃ vs, K vs
  | [], _, h => ⟨_, h⟩
  | _ :: _, _, h => let ⟨_, h1⟩ := exK_spec h; let ⟨_, h2⟩ := exKs_spec h1; ⟨_, h2⟩

def kdOf : Value → Kd
  | .int k _ => .i k
  | .bool _ => .b
  | .string _ => .s
  | .slice .. => .sl
  | .pointer _ => .p
  | _ => .v

/-! ### Small words -/
def PtrC : Option Addr → (Addr → Prop) → Prop
  | some a, K => K a
  | none, _ => False
def IfC : Bool → Prop → Prop → Prop
  | true, X, _ => X
  | false, _, Y => Y
def DivC (b : Int) (X : Prop) : Prop := if b = 0 then False else X
def ShC (b : Int) (X : Prop) : Prop := if b < 0 then False else X
def OneC : Bool → Prop → Prop
  | true, X => X
  | false, _ => False
def JoinC {T : Type} (J : T → World → Prop) (B : (T → World → Prop) → Prop) : Prop := B J

theorem PtrC_spec {q : Option Addr} {K : Addr → Prop} (h : PtrC q K) : ∃ a, q = some a ∧ K a := by cases q with | none => exact h.elim | some a => exact ⟨a, rfl, h⟩

/-! ### The types of a program -/
section types
variable (P : Program)
/-- The kinds of a type's cells, off its zero value; and how many there are. -/
def cellKinds (t : TypeId) : Option (List Kd) :=
  match P.info? t with
  | some i => match i.zero with
    | some z => match Nat.beq z.cells.size i.size with | true => some (z.cells.toList.map kdOf) | false => none
    | none => none
  | none => none
def zc (t : TypeId) : Array Value := match P.info? t with | some i => (match i.zero with | some z => z.cells | none => #[]) | none => #[]
def zv (t : TypeId) : Option Value := match P.info? t with | some i => i.zero | none => none
def aggT (t : TypeId) : Option Bool :=
  match P.underlying t with
  | some (.struct _) | some (.array _ _) => some true
  | some _ => some false
  | none => none
/-- A value of a type, with its parts as variables. -/
def exTy (t : TypeId) (K : Value → Prop) : Prop :=
  match P.underlying t with
  | some (.int k) => ∃ n : Int, K (.int k n)
  | some .bool => ∃ b : Bool, K (.bool b)
  | some .string => ∃ s : ByteArray, K (.string s)
  | some (.slice _) => ∃ a : Option Addr, ∃ l c : Nat, K (.slice a l c)
  | some (.pointer _) => ∃ p : Option Addr, K (.pointer p)
  | some (.struct _) | some (.array _ _) =>
    match Nat.ble (P.cellsOf t) 16 with
    | true => match cellKinds P t with | some ks => exKs ks fun vs => K (.agg vs.toArray) | none => False
    | false => ∃ cs : Array Value, K (.agg cs)
  | some _ => ∃ v : Value, K v
  | none => False
def exTys : List TypeId → (List Value → Prop) → Prop
  | [], K => K []
  | t :: ts, K => exTy P t fun v => exTys ts fun vs => K (v :: vs)
/-- What a call hands back, of one type or of a tuple of types. -/
def TyR (t : TypeId) (v : Value) (K : Value → Prop) : Prop :=
  match P.underlying t with
  | some (.tuple ts) => exTys P ts.toList fun vs => v = .tuple vs.toArray ∧ K (.tuple vs.toArray)
  | some _ => exTy P t fun x => v = x ∧ K x
  | none => False
end types

theorem exTy_spec {P : Program} {t : TypeId} {K : Value → Prop} (h : exTy P t K) : ∃ v, K v := by
  unfold exTy at h
  split at h
  any_goals first
    | exact h.elim
    | (obtain ⟨_, h⟩ := h; exact ⟨_, h⟩)
    | (obtain ⟨_, _, _, h⟩ := h; exact ⟨_, h⟩)
  all_goals
    split at h
    · split at h
      · obtain ⟨_, h⟩ := exKs_spec h; exact ⟨_, h⟩
      · exact h.elim
    · obtain ⟨_, h⟩ := h; exact ⟨_, h⟩

theorem exTys_spec {P : Program} : ∀ {ts : List TypeId} {K : List Value → Prop}, exTys P ts K → ∃ vs, K vs
  | [], _, h => ⟨_, h⟩
  | _ :: _, _, h => let ⟨_, h1⟩ := exTy_spec h; let ⟨_, h2⟩ := exTys_spec h1; ⟨_, h2⟩

theorem TyR_spec {P : Program} {t : TypeId} {v : Value} {K : Value → Prop} (h : TyR P t v K) : K v := by
  unfold TyR at h
  split at h
  · obtain ⟨vs, h1, h2⟩ := exTys_spec h; rw [h1]; exact h2
  · obtain ⟨x, h1, h2⟩ := exTy_spec h; rw [h1]; exact h2
  · exact h.elim

/-! ### Frames of which some slots are known -/
abbrev Env := List (Nat × Value)
def Env.get : Env → Nat → Option Value
  | [], _ => none
  | (s, v) :: r, t => match Nat.beq s t with | true => some v | false => Env.get r t
def Env.put (e : Env) : Option Tmp → Value → Env
  | some d, v => (d, v) :: e
  | none, _ => e

structure Rep (n : Nat) (dfs : List Deferred) (e : Env) (a : Act) : Prop where
  size : a.tmps.size = n
  get : ∀ s v, e.get s = some v → s < n ∧ a.tmps.getD s undef = v
  defers : a.defers = dfs

theorem Rep.put {n : Nat} {dfs : List Deferred} {e : Env} {a : Act} (h : Rep n dfs e a) {d : Option Tmp} (hd : ∀ x, d = some x → x < n) (v : Value) : Rep n dfs (e.put d v) (a.put d v) := by
  cases d with
  | none => exact h
  | some d =>
    have hd := hd d rfl
    refine ⟨by simp [Act.put, h.size], fun s u hs => ?_, h.defers⟩
    simp only [Env.put, Env.get] at hs
    split at hs
    · rename_i e
      have e := Nat.eq_of_beq_eq_true e
      subst e
      simp only [Option.some.injEq] at hs
      subst hs
      refine ⟨hd, ?_⟩
      have : d < a.tmps.size := by rw [h.size]; exact hd
      simp [Act.put, this]
    · rename_i e
      obtain ⟨h1, h2⟩ := h.get s u hs
      refine ⟨h1, ?_⟩
      have hne : d ≠ s := fun e' => by subst e'; simp [Nat.beq_refl] at e
      simp only [Act.put]
      rw [← h2]
      simp only [Array.getD_eq_getD_getElem?, Array.getElem?_setIfInBounds_ne hne]

def ev (e : Env) : Operand → Option Value
  | .tmp t => e.get t
  | .const v => some v
  | .global g => some (.pointer (some ⟨g, 0, none⟩))
  | .func f => some (.func (.func f) #[] #[])

def wv (e : Env) (x : Operand) (K : Value → Prop) : Prop := match ev e x with | some v => K v | none => False
def wvs (e : Env) : List Operand → (List Value → Prop) → Prop
  | [], K => K []
  | x :: xs, K => wv e x fun v => wvs e xs fun vs => K (v :: vs)
def wvo (e : Env) : Option Operand → (Option Value → Prop) → Prop
  | none, K => K none
  | some x, K => wv e x fun v => K (some v)
def wvp (e : Env) : List (Nat × Operand) → (List (Nat × Value) → Prop) → Prop
  | [], K => K []
  | (i, x) :: xs, K => wv e x fun v => wvp e xs fun vs => K ((i, v) :: vs)

section
variable {n : Nat} {dfs : List Deferred} {e : Env} {a : Act}
theorem ev_spec (h : Rep n dfs e a) {x : Operand} {v : Value} (hv : ev e x = some v) : a.eval x = v := by
  cases x with
  | tmp t => exact (h.get t v hv).2
  | _ => simpa [ev, Act.eval] using hv
theorem wv_spec (h : Rep n dfs e a) {x : Operand} {K : Value → Prop} (hk : wv e x K) : K (a.eval x) := by
  unfold wv at hk
  split at hk
  · rename_i v hv; rw [ev_spec h hv]; exact hk
  · exact hk.elim
theorem wvs_spec (h : Rep n dfs e a) : ∀ {xs : List Operand} {K : List Value → Prop}, wvs e xs K → K (xs.map a.eval)
  | [], _, hk => hk
  | x :: xs, K, hk => wvs_spec h (xs := xs) (K := fun vs => K (a.eval x :: vs)) (wv_spec (K := fun v => wvs e xs fun vs => K (v :: vs)) h hk)
theorem wvo_spec (h : Rep n dfs e a) {x : Option Operand} {K : Option Value → Prop} (hk : wvo e x K) : K (x.map a.eval) := by
  cases x with
  | none => exact hk
  | some x => exact wv_spec h hk
theorem wvp_spec (h : Rep n dfs e a) : ∀ {xs : List (Nat × Operand)} {K : List (Nat × Value) → Prop}, wvp e xs K → K (xs.map fun (i, x) => (i, a.eval x))
  | [], _, hk => hk
  | (i, x) :: xs, K, hk => wvp_spec h (xs := xs) (K := fun vs => K ((i, a.eval x) :: vs)) (wv_spec (K := fun v => wvp e xs fun vs => K ((i, v) :: vs)) h hk)
end

/-! ### Operations that read -/
section pure
variable (P : Program) (w : World)

def LoadK (a : Addr) : Kd → (Value → Prop) → Prop
  | .i k, K => ∃ n : Int, w.cell? a = some (.int k n) ∧ K (.int k n)
  | .b, K => ∃ b : Bool, w.cell? a = some (.bool b) ∧ K (.bool b)
  | .s, K => ∃ s : ByteArray, w.cell? a = some (.string s) ∧ K (.string s)
  | .sl, K => ∃ p : Option Addr, ∃ l c : Nat, w.cell? a = some (.slice p l c) ∧ K (.slice p l c)
  | .p, K => ∃ p : Option Addr, w.cell? a = some (.pointer p) ∧ K (.pointer p)
  | .v, K => ∃ v : Value, w.cell? a = some v ∧ K v
def loadKs (a : Addr) : Nat → List Kd → (List Value → Prop) → Prop
  | _, [], K => K []
  | i, k :: ks, K => LoadK w (a.add i) k fun v => loadKs a (i + 1) ks fun vs => K (v :: vs)
def LoadA (a : Addr) (n : Nat) (K : Array Value → Prop) : Prop := ∃ cs : Array Value, (cs.size = n ∧ ∀ i, i < n → w.cell? (a.add i) = some (cs.getD i undef)) ∧ K cs

def vLoad (t : TypeId) (p : Value) (K : Value → Prop) : Prop :=
  match p with
  | .pointer q => PtrC q fun a =>
    match P.underlying t with
    | some (.int k) => LoadK w a (.i k) K
    | some .bool => LoadK w a .b K
    | some .string => LoadK w a .s K
    | some (.slice _) => LoadK w a .sl K
    | some (.pointer _) => LoadK w a .p K
    | some (.struct _) | some (.array _ _) =>
      match Nat.ble (P.cellsOf t) 16 with
      | true => match cellKinds P t with | some ks => loadKs w a 0 ks fun vs => K (.agg vs.toArray) | none => False
      | false => LoadA w a (P.cellsOf t) fun cs => K (.agg cs)
    | some _ => LoadK w a .v K
    | none => False
  | _ => False

def vNil (v : Value) (K : Value → Prop) : Prop :=
  match v with
  | .pointer q => PtrC q fun a => K (.pointer (some a))
  | .iface t x => K (.iface t x)
  | .func (.func f) a b => K (.func (.func f) a b)
  | .func (.method m) first cap => ∃ t x, first[0]? = some (.iface t x) ∧ (nilAhead (P.types.size + Made.depth) t x m).run P w = .ok (some false) w ∧ K (.func (.method m) first cap)
  | _ => False

def bAnd (k : IntKind) (a b : Int) : Int := k.wrap (BitVec.ofInt k.bits a &&& BitVec.ofInt k.bits b).toNat
def bOr (k : IntKind) (a b : Int) : Int := k.wrap (BitVec.ofInt k.bits a ||| BitVec.ofInt k.bits b).toNat
def bXor (k : IntKind) (a b : Int) : Int := k.wrap (BitVec.ofInt k.bits a ^^^ BitVec.ofInt k.bits b).toNat
def bAndNot (k : IntKind) (a b : Int) : Int := k.wrap (BitVec.ofInt k.bits a &&& ~~~ BitVec.ofInt k.bits b).toNat
def shlI (k : IntKind) (a b : Int) : Int := k.wrap (a * 2 ^ (min b.toNat k.bits))
def shrI (k : IntKind) (a b : Int) : Int := a.fdiv (2 ^ (min b.toNat k.bits))

def vInt (op : BinOp) (k : IntKind) (a : Int) (k' : IntKind) (b : Int) (K : Value → Prop) : Prop :=
  match op with
  | .shl => ShC b (K (.int k (shlI k a b)))
  | .shr => ShC b (K (.int k (shrI k a b)))
  | op =>
    match decide (k = k') with
    | false => False
    | true =>
      match op with
      | .add => K (.int k (k.wrap (a + b)))
      | .sub => K (.int k (k.wrap (a - b)))
      | .mul => K (.int k (k.wrap (a * b)))
      | .quo => DivC b (K (.int k (k.wrap (a.tdiv b))))
      | .rem => DivC b (K (.int k (a.tmod b)))
      | .and => K (.int k (bAnd k a b))
      | .or => K (.int k (bOr k a b))
      | .xor => K (.int k (bXor k a b))
      | .andNot => K (.int k (bAndNot k a b))
      | .eql => K (.bool (a == b))
      | .neq => K (.bool (a != b))
      | .lss => K (.bool (decide (a < b)))
      | .leq => K (.bool (decide (a ≤ b)))
      | .gtr => K (.bool (decide (a > b)))
      | .geq => K (.bool (decide (a ≥ b)))
      | _ => False

/-- '==' of two values of an interface type. -/
def vEqI (t : TypeId) (x y : Operand) (va vb : Value) (K : Bool → Prop) : Prop :=
  ∃ b : Bool, (do eqGuard .eql t x y va vb; Op.equal t va vb : Sem Bool).run P w = .ok b w ∧ K b
/-- The same, one side the nil that is written. -/
def EqNil (va : Value) (K : Bool → Prop) : Prop :=
  match va with
  | .nilIface => K true
  | .iface _ _ => K false
  | _ => False

def strEq (a b : ByteArray) : Bool := a.toList == b.toList

def isNilC : Operand → Bool
  | .const .nilIface => true
  | _ => false

def vBin (op : BinOp) (t : TypeId) (x y : Operand) (va vb : Value) (K : Value → Prop) : Prop :=
  match P.underlying t with
  | some (.int _) => match va, vb with | .int k a, .int k' b => vInt op k a k' b K | _, _ => False
  | some .bool => match va, vb with
    | .bool a, .bool b => match op with | .eql => K (.bool (a == b)) | .neq => K (.bool (!(a == b))) | _ => False
    | _, _ => False
  | some .string => match va, vb with
    | .string a, .string b => match op with
      | .eql => K (.bool (strEq a b))
      | .neq => K (.bool (!(strEq a b)))
      | .add => a.size + b.size ≤ 9223372036854775807 ∧ K (.string (a ++ b))
      | _ => False
    | _, _ => False
  | some (.interface _) =>
    match isNilC y with
    | true => match op with
      | .eql => EqNil va fun r => K (.bool r)
      | .neq => EqNil va fun r => K (.bool (!r))
      | _ => False
    | false => match op with
      | .eql => vEqI P w t x y va vb fun r => K (.bool r)
      | .neq => ∃ b : Bool, (do eqGuard .neq t x y va vb; Op.equal t va vb : Sem Bool).run P w = .ok b w ∧ K (.bool (!b))
      | _ => False
  | some (.struct _) => match op with
      | .eql => vEqI P w t x y va vb fun r => K (.bool r)
      | .neq => ∃ b : Bool, (do eqGuard .neq t x y va vb; Op.equal t va vb : Sem Bool).run P w = .ok b w ∧ K (.bool (!b))
      | _ => False
  | some (.pointer _) => match va, vb with
    | .pointer p, .pointer none => match op with | .eql => K (.bool p.isNone) | .neq => K (.bool (!p.isNone)) | _ => False
    | _, _ => False
  | some (.slice _) => match va, vb with
    | .slice p _ _, .slice none _ _ => match op with | .eql => K (.bool p.isNone) | .neq => K (.bool (!p.isNone)) | _ => False
    | _, _ => False
  | _ => False

def vUn (op : UnOp) (x : Value) (K : Value → Prop) : Prop :=
  match op, x with
  | .not, .bool b => K (.bool (!b))
  | .neg, .int k n => K (.int k (k.wrap (0 - n)))
  | .xor, .int k n => K (.int k (bXor k (if k.signed then -1 else k.max) n))
  | _, _ => False

def vConv (s d : TypeId) (x : Value) (K : Value → Prop) : Prop :=
  match P.underlying s, P.underlying d with
  | some (.int _), some (.int k) => match x with | .int _ n => K (.int k (k.wrap n)) | _ => False
  | some .string, some .string => match x with | .string b => K (.string b) | _ => False
  | some (.slice el), some .string =>
    match P.underlying el with
    | some (.int .u8) => match x with
      | .slice p l c => ∃ b : ByteArray, (Conv.bytesToString (.slice p l c)).run P w = .ok (.string b) w ∧ K (.string b)
      | _ => False
    | _ => False
  | _, _ => False

def slAdd (p : Option Addr) (cap l sz : Nat) : Option Addr := if cap = l then p else p.map (·.add (l * sz))
def vSl3 (sz : Nat) (p : Option Addr) (len cap : Nat) (lo hi : Option Value) (K : Value → Prop) : Prop :=
  match lo, hi with
  | none, none => K (.slice p len cap)
  | none, some (.int _ h) => (0 ≤ h ∧ h ≤ (cap : Int)) ∧ K (.slice p h.toNat cap)
  | some (.int _ l), none => (0 ≤ l ∧ l ≤ (len : Int)) ∧ K (.slice (slAdd p cap l.toNat sz) (len - l.toNat) (cap - l.toNat))
  | some (.int _ l), some (.int _ h) => (0 ≤ h ∧ h ≤ (cap : Int)) ∧ (0 ≤ l ∧ l ≤ h) ∧ K (.slice (slAdd p cap l.toNat sz) (h.toNat - l.toNat) (cap - l.toNat))
  | _, _ => False
def vSlice (t : TypeId) (x : Value) (lo hi : Option Value) (K : Value → Prop) : Prop :=
  match P.underlying t with
  | some (.array n el) => match P.info? el with
    | some ie => match x with | .pointer q => PtrC q fun a => vSl3 ie.size (some a) n n lo hi K | _ => False
    | none => False
  | some (.slice el) => match P.info? el with
    | some ie => match x with | .slice p len cap => vSl3 ie.size p len cap lo hi K | _ => False
    | none => False
  | some .string => match x with
    | .string s => match lo, hi with
      | none, some (.int _ h) => (0 ≤ h ∧ h ≤ (s.size : Int)) ∧ K (.string (s.extract 0 h.toNat))
      | some (.int _ l), none => (0 ≤ l ∧ l ≤ (s.size : Int)) ∧ K (.string (s.extract l.toNat s.size))
      | some (.int _ l), some (.int _ h) => (0 ≤ h ∧ h ≤ (s.size : Int)) ∧ (0 ≤ l ∧ l ≤ h) ∧ K (.string (s.extract l.toNat h.toNat))
      | _, _ => False
    | _ => False
  | _ => False

/-- 'x[l:h:m]' of a slice. -/
def vSlice3 (t : TypeId) (x lo hi mx : Value) (K : Value → Prop) : Prop :=
  match P.underlying t with
  | some (.slice el) => match P.info? el with
    | some ie => match x, lo, hi, mx with
      | .slice p _ cap, .int _ l, .int _ h, .int _ m => (0 ≤ m ∧ m ≤ (cap : Int)) ∧ (0 ≤ h ∧ h ≤ m) ∧ (0 ≤ l ∧ l ≤ h) ∧ K (.slice (slAdd p m.toNat l.toNat ie.size) (h.toNat - l.toNat) (m.toNat - l.toNat))
      | _, _, _, _ => False
    | none => False
  | _ => False

def vFieldAddr (s : TypeId) (x : Value) (f : Nat) (K : Value → Prop) : Prop :=
  match x with
  | .pointer q => PtrC q fun a =>
    match P.underlying s with
    | some (.struct fs) => match fs[f]? with
      | some fd => match P.info? fd.type with
        | some i => match Nat.beq i.size 0 with | true => False | false => K (.pointer (some (a.add fd.offset)))
        | none => False
      | none => False
    | _ => False
  | _ => False

def part? (t : TypeId) (cs : Array Value) (off : Nat) : Option Value :=
  match aggT P t with
  | some true => match P.info? t with | some i => some (.agg (cs.extract off (off + i.size))) | none => none
  | some false => cs[off]?
  | none => none
def vField (t : TypeId) (x : Value) (f : Nat) (K : Value → Prop) : Prop :=
  match x with
  | .agg cs => match P.underlying t with
    | some (.struct fs) => match fs[f]? with
      | some fd => match part? P fd.type cs fd.offset with | some v => K v | none => False
      | none => False
    | _ => False
  | _ => False

def elemAt (a : Addr) (i : Nat) : Nat → Addr
  | 1 => a.add i
  | s => a.add (i * s)
def vIndexAddr (t : TypeId) (x i : Value) (K : Value → Prop) : Prop :=
  match i with
  | .int _ i =>
    match P.underlying t with
    | some (.array n el) => match x with
      | .pointer q => PtrC q fun a => (0 ≤ i ∧ i < (n : Int)) ∧ match P.info? el with | some ie => K (.pointer (some (elemAt a i.toNat ie.size))) | none => False
      | _ => False
    | some (.slice el) => match x with
      | .slice p len _ => (0 ≤ i ∧ i < (len : Int)) ∧ PtrC p fun a => match P.info? el with | some ie => K (.pointer (some (elemAt a i.toNat ie.size))) | none => False
      | _ => False
    | _ => False
  | _ => False

def sAt (s : ByteArray) (i : Nat) : Int := match s[i]? with | some b => (b.toNat : Int) | none => 0
def vIndex (t : TypeId) (x i : Value) (K : Value → Prop) : Prop :=
  match i with
  | .int _ i =>
    match P.underlying t with
    | some .string => match x with | .string s => (0 ≤ i ∧ i < (s.size : Int)) ∧ K (.int .u8 (sAt s i.toNat)) | _ => False
    | some (.array n el) => match x with
      | .agg cs => (0 ≤ i ∧ i < (n : Int)) ∧ match aggT P el with
        | some false => ∃ v, cs[i.toNat * P.cellsOf el]? = some v ∧ exTy P el fun u => v = u ∧ K u
        | _ => False
      | _ => False
    | _ => False
  | _ => False

/-- A type assertion: what is held, and whether it is of that type. -/
def vTA (x : Value) (xt at_ : TypeId) (ok : Bool) (K : Value → Bool → Prop) : Prop :=
  match P.underlying at_ with
  | some (.interface _) =>
    match ok with
    | true => ∃ (u : Value) (b : Bool), (Instr.typeAssert x xt at_ true).run P w = .ok (.tuple #[u, .bool b]) w ∧ K u b
    | false => ∃ u : Value, (Instr.typeAssert x xt at_ false).run P w = .ok u w ∧ K u true
  | some _ =>
    match x with
    | .iface t v => match Nat.beq t at_ with
      | true => K v true
      | false => match ok with | true => (match zv P at_ with | some z => K z false | none => False) | false => False
    | .nilIface => match ok with | true => (match zv P at_ with | some z => K z false | none => False) | false => False
    | _ => False
  | none => False

def fieldPlaces : List Field → Option (List (Nat × Nat))
  | [] => some []
  | f :: fs => match P.info? f.type with
    | some i => match fieldPlaces fs with | some r => some ((f.offset, i.size) :: r) | none => none
    | none => none
def buildCells (t : TypeId) (ps : List (Nat × Value)) : Option (Array Value) :=
  match zv P t with
  | some z => match P.underlying t with
    | some (.struct fs) => match fieldPlaces P fs.toList with
      | some pl => Instr.fill (pl.toArray[·]?) z.cells ps
      | none => none
    | some (.array _ el) => match P.info? el with | some ie => Instr.fill (fun i => some (i * ie.size, ie.size)) z.cells ps | none => none
    | _ => none
  | none => none

/-- A part of one cell, as its cell. -/
def partAgg (t : TypeId) (i : Nat) : Option Bool :=
  match P.underlying t with
  | some (.struct fs) => match fs[i]? with | some f => aggT P f.type | none => none
  | some (.array _ el) => aggT P el
  | _ => none
def normParts (t : TypeId) : List (Nat × Value) → (List (Nat × Value) → Prop) → Prop
  | [], K => K []
  | (i, v) :: r, K => match partAgg P t i with
    | some false => OneC v.oneCell' (normParts t r fun l => K ((i, .agg #[v]) :: l))
    | some true => normParts t r fun l => K ((i, v) :: l)
    | none => False
def bcells (t : TypeId) (ps : List (Nat × Value)) : Array Value := match buildCells P t ps with | some cs => cs | none => #[]
def vLen (t : TypeId) (x : Value) (K : Value → Prop) : Prop :=
  match P.underlying t with
  | some .string => match x with | .string s => K (.int .i64 s.size) | _ => False
  | some (.array n _) => K (.int .i64 n)
  | some (.pointer arr) => match P.underlying arr with | some (.array n _) => K (.int .i64 n) | _ => False
  | some (.slice _) => match x with | .slice _ n _ => K (.int .i64 n) | _ => False
  | _ => False
def vCap (t : TypeId) (x : Value) (K : Value → Prop) : Prop :=
  match P.underlying t with
  | some (.slice _) => match x with | .slice _ _ n => K (.int .i64 n) | _ => False
  | _ => False

def minI (x y : Int) : Int := if y < x then y else x
def maxI (x y : Int) : Int := if x < y then y else x

def pureOp (e : Env) (op : Op) (K : Value → Prop) : Prop :=
  match op with
  | .move x | .assign x => wv e x K
  | .pick c x y => wv e c fun c => match c with | .bool true => wv e x K | .bool false => wv e y K | _ => False
  | .load t x => wv e x fun p => vLoad P w t p K
  | .nilCheck x => wv e x fun v => vNil P w v K
  | .binOp op t x y _ => wv e x fun a => wv e y fun b => vBin P w op t x y a b K
  | .unOp op _ x => wv e x fun a => vUn op a K
  | .convert s d x => wv e x fun a => vConv P w s d a K
  | .makeInterface t x => wv e x fun a => match P.underlying t with | some (.interface _) => False | some _ => K (.iface t a) | none => False
  | .makeFunc fn first cap => wvs e first.toList fun f => wvs e cap.toList fun c => K (.func fn f.toArray c.toArray)
  | .slice t x lo hi none => wv e x fun a => wvo e lo fun l => wvo e hi fun h => vSlice P t a l h K
  | .slice t x (some lo) (some hi) (some mx) => wv e x fun a => wv e lo fun l => wv e hi fun h => wv e mx fun m => vSlice3 P t a l h m K
  | .fieldAddr s x f => wv e x fun a => vFieldAddr P s a f K
  | .field t x f => wv e x fun a => vField P t a f K
  | .indexAddr t x i => wv e x fun a => wv e i fun i => vIndexAddr P t a i K
  | .index t x i => wv e x fun a => wv e i fun i => vIndex P t a i K
  | .extract x i => wv e x fun a => match a with | .tuple vs => (match vs[i]? with | some v => K v | none => False) | _ => False
  | .typeAssert x xt at_ ok => wv e x fun a => vTA P w a xt at_ ok fun u b => exTy P at_ fun u' => u = u' ∧ match ok with | true => K (.tuple #[u', .bool b]) | false => K u'
  | .build t parts => wvp e parts.toList fun ps => normParts P t ps fun ps => match buildCells P t ps with | some cs => K (.agg cs) | none => False
  | .call c => match c.callee with
    | .builtin .len => wvs e c.args.toList fun xs => match xs, c.argTypes[0]? with | [x], some t => vLen P t x K | _, _ => False
    | .builtin .cap => wvs e c.args.toList fun xs => match xs, c.argTypes[0]? with | [x], some t => vCap P t x K | _, _ => False
    | .builtin .min => wvs e c.args.toList fun xs => match xs with | [.int k x, .int _ y] => K (.int k (minI x y)) | _ => False
    | .builtin .max => wvs e c.args.toList fun xs => match xs with | [.int k x, .int _ y] => K (.int k (maxI x y)) | _ => False
    | _ => False
  | _ => False
end pure
end Go.V
