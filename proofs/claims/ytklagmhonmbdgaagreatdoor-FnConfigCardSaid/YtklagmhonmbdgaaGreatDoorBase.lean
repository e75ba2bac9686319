/- A step of the proofs (Base): contracts of the functions printed here, for all their arguments that meet what each names. -/
import Derived.Test.YtklagmhonmbdgaaGreatDoorVCAtoms
import Derived.Test.YtklagmhonmbdgaaGreatDoorProg
namespace Go.Proofs
open Go Go.V
noncomputable abbrev Pg : Program := Tryz.prog
def bodyOf (f : Func) : Code := match f.body with | some c => c | none => .skip
def withBodies : List Nat := [2, 3, 4, 5, 6, 7, 8, 9, 10, 11, 12, 13, 14, 15, 16, 17, 18, 19, 20, 21, 22, 23, 24, 25, 26, 27, 28, 29, 30, 31, 32, 33, 34, 35, 36, 37, 38, 39, 40, 41, 42, 43, 44, 45, 46, 47, 48, 49, 50, 51, 52, 53, 54, 55, 56, 57, 58, 59, 60, 61, 62, 63, 64, 65, 66, 67, 68, 69, 70, 71, 72, 73, 74, 75, 76, 77, 78, 79, 80, 81, 85, 86, 87, 88, 89, 90, 91, 92, 93, 97, 98, 99, 100, 101, 102, 103, 104, 105, 106, 107, 108, 109, 110, 111, 112, 113, 114, 115, 116, 117, 118, 119, 120, 121, 122, 123, 124, 125, 126, 127, 128, 129, 130, 131, 132, 133, 134, 135, 136, 137, 138, 139, 140, 141, 142, 143, 144, 145, 146, 147, 148, 149, 150, 151, 152, 153, 154, 155, 156, 157, 158, 159, 160, 161, 162, 163, 164, 165, 166, 167, 168, 169, 189, 190, 191, 192, 193, 194, 195, 202, 206, 209, 212, 215, 218, 221, 224, 242, 245, 247, 248, 249, 250, 252, 253, 254, 257, 258, 259, 263, 264, 265, 266, 267, 268, 269, 270, 271, 272, 273, 274, 275, 276, 277, 278, 279, 280, 281, 282, 283, 284, 286, 304]
def Gg (g : Nat) : Bool := memN withBodies g
theorem follows : Pg.follows .mixedOrders = true := by kernel_rfl
theorem bodies_all : (withBodies.all fun g => match Pg.funcs[g]? with | some fn => !fn.body.isNone && !(fn.name == "runtime.NumGoroutine") | none => false) = true := by kernel_rfl
theorem bodies : Bodies Pg Gg := by
  intro g hg
  have h := List.all_eq_true.1 bodies_all g (memN_iff.1 hg)
  split at h
  · rename_i fn hfn
    simp only [Bool.and_eq_true, Bool.not_eq_true'] at h
    exact ⟨fn, hfn, h.1, h.2⟩
  · cases h
end Go.Proofs
