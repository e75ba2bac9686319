/- The words in which what is to be shown is printed. -/
import Derived.Test.YtklagmhonmbdgaaGreatDoorVCCall
import Derived.KernelRfl
namespace Go.V
open Go
def LdI (w : World) (a : Addr) (k : IntKind) (K : Int → Prop) : Prop := ∃ n : Int, w.cell? a = some (.int k n) ∧ K n
def LdB (w : World) (a : Addr) (K : Bool → Prop) : Prop := ∃ b : Bool, w.cell? a = some (.bool b) ∧ K b
def LdS (w : World) (a : Addr) (K : ByteArray → Prop) : Prop := ∃ s : ByteArray, w.cell? a = some (.string s) ∧ K s
def LdSl (w : World) (a : Addr) (K : Option Addr → Nat → Nat → Prop) : Prop := ∃ p : Option Addr, ∃ l c : Nat, w.cell? a = some (.slice p l c) ∧ K p l c
def LdP (w : World) (a : Addr) (K : Option Addr → Prop) : Prop := ∃ p : Option Addr, w.cell? a = some (.pointer p) ∧ K p
def LdV (w : World) (a : Addr) (K : Value → Prop) : Prop := ∃ v : Value, w.cell? a = some v ∧ K v
section
variable (P : Program)
def B2S (w : World) (p : Option Addr) (l c : Nat) (K : ByteArray → Prop) : Prop := ∃ b : ByteArray, (Conv.bytesToString (.slice p l c)).run P w = .ok (.string b) w ∧ K b
def ConvS (w : World) (s d : TypeId) (x : Value) (K : Option Addr → Nat → Nat → World → Prop) : Prop :=
  ∃ (p : Option Addr) (l c : Nat) (w' : World), (convert s d x).run P w = .ok (.slice p l c) w' ∧ K p l c w'
def AppR (w : World) (ts : Array TypeId) (ty : TypeId) (s x : Value) (K : Option Addr → Nat → Nat → World → Prop) : Prop :=
  ∃ (p : Option Addr) (l c : Nat) (w' : World), (Builtin.append_ ts ty #[s, x]).run P w = .ok (.slice p l c) w' ∧ K p l c w'
def CopyR (w : World) (ts : Array TypeId) (ty : TypeId) (s x : Value) (K : Int → World → Prop) : Prop :=
  ∃ (n : Int) (w' : World), (Builtin.copy_ ts ty #[s, x]).run P w = .ok (.int .i64 n) w' ∧ K n w'
def VEqI (t : TypeId) (x y : Operand) (va vb : Value) (w : World) (K : Bool → Prop) : Prop := vEqI P w t x y va vb K
def VEqN (t : TypeId) (x y : Operand) (va vb : Value) (w : World) (K : Bool → Prop) : Prop :=
  ∃ b : Bool, (do eqGuard .neq t x y va vb; Op.equal t va vb : Sem Bool).run P w = .ok b w ∧ K b
def VNil (w : World) (v : Value) (K : Value → Prop) : Prop := vNil P w v K
def NilAhead (w : World) (t : TypeId) (x : Value) (m : String) : Prop := (nilAhead (P.types.size + Made.depth) t x m).run P w = .ok (some false) w
def TAI (w : World) (x : Value) (xt at_ : TypeId) (K : Value → Bool → Prop) : Prop := ∃ (u : Value) (b : Bool), (Instr.typeAssert x xt at_ true).run P w = .ok (.tuple #[u, .bool b]) w ∧ K u b
def TAI1 (w : World) (x : Value) (xt at_ : TypeId) (K : Value → Prop) : Prop := ∃ u : Value, (Instr.typeAssert x xt at_ false).run P w = .ok u w ∧ K u
def TA (w : World) (x : Value) (xt at_ : TypeId) (ok : Bool) (K : Value → Bool → Prop) : Prop := vTA P w x xt at_ ok K
end
end Go.V
