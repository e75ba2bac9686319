/- A step of the proofs (S9): contracts of the functions printed here, for all their arguments that meet what each names. -/
import Derived.Test.YtklagmhonmbdgaaGreatDoorBase
import Derived.Test.YtklagmhonmbdgaaGreatDoorSteps
import Derived.Test.YtklagmhonmbdgaaGreatDoorS8
set_option maxRecDepth 1000000
set_option linter.unusedVariables false
set_option linter.unusedSimpArgs false
set_option maxHeartbeats 4000000
namespace Go.Proofs
open Go Go.V
/-- bytes.NewReader -/
def wp41 (x0 : Option Addr) (x0l : Nat) (x0c : Nat) (R : Value → World → Prop) (w : World) : Prop := AllocC w (.cells #[.slice x0 x0l x0c, .int .i64 (0 : Int), .int .i64 (-1 : Int)] 124) fun (r1 : Nat) (w2 : World) => R (.pointer (some ⟨r1, 0, none⟩) : Value) w2
theorem eq41 (x0 : Option Addr) (x0l : Nat) (x0c : Nat) (R : Value → World → Prop) (w : World) : vc Pg Gg (annOf []) 0 (bodyOf Tryz.f41) (retK Pg Tryz.f41.results.toList R) (argE 0 [.slice x0 x0l x0c]) w = wp41 x0 x0l x0c R w := by kernel_rfl
theorem call41 {x0 : Option Addr} {x0l : Nat} {x0c : Nat} {R : Value → World → Prop} {w : World} (h : wp41 x0 x0l x0c R w) : CallT Pg 41 #[.slice x0 x0l x0c] w R :=
  calls_of_vc follows bodies Tryz.func41 (by kernel_rfl) (by kernel_rfl) (by kernel_rfl) ((eq41 x0 x0l x0c R w).mpr h)

/-- slices.Clone[[]byte,byte] -/
def wp42 (x0 : Option Addr) (x0l : Nat) (x0c : Nat) (R : Value → World → Prop) (w : World) : Prop := IfC x0.isNone (R (.slice none 0 0 : Value) w) (AllocC w (.cells #[] 5) fun (r1 : Nat) (w2 : World) => AppR Pg w2 #[33, 33] 33 (.slice (some ⟨r1, 0, none⟩) 0 0) (.slice x0 x0l x0c) fun (p3 : Option Addr) (l4 : Nat) (c5 : Nat) (w6 : World) => R (.slice p3 l4 c5 : Value) w6)
theorem eq42 (x0 : Option Addr) (x0l : Nat) (x0c : Nat) (R : Value → World → Prop) (w : World) : vc Pg Gg (annOf []) 0 (bodyOf Tryz.f42) (retK Pg Tryz.f42.results.toList R) (argE 0 [.slice x0 x0l x0c]) w = wp42 x0 x0l x0c R w := by kernel_rfl
theorem call42 {x0 : Option Addr} {x0l : Nat} {x0c : Nat} {R : Value → World → Prop} {w : World} (h : wp42 x0 x0l x0c R w) : CallT Pg 42 #[.slice x0 x0l x0c] w R :=
  calls_of_vc follows bodies Tryz.func42 (by kernel_rfl) (by kernel_rfl) (by kernel_rfl) ((eq42 x0 x0l x0c R w).mpr h)

/-- loop.example/pub-g03440/pub/png.beUint32 -/
def wp72 (x0 : Option Addr) (x0l : Nat) (x0c : Nat) (R : Value → World → Prop) (w : World) : Prop := And (0 ≤ (3 : Int) ∧ (3 : Int) < (x0l : Int)) (PtrC x0 fun (a1 : Addr) => LdI w ⟨a1.block, a1.off + 3, none⟩ .u8 fun (n2 : Int) => DrewC w fun (w3 : World) => And (0 ≤ (3 : Int) ∧ (3 : Int) < (x0l : Int)) (PtrC x0 fun (a4 : Addr) => LdI w3 ⟨a4.block, a4.off + 3, none⟩ .u8 fun (n5 : Int) => And (0 ≤ (2 : Int) ∧ (2 : Int) < (x0l : Int)) (PtrC x0 fun (a6 : Addr) => LdI w3 ⟨a6.block, a6.off + 2, none⟩ .u8 fun (n7 : Int) => ShC (8 : Int) (And (0 ≤ (1 : Int) ∧ (1 : Int) < (x0l : Int)) (PtrC x0 fun (a8 : Addr) => LdI w3 ⟨a8.block, a8.off + 1, none⟩ .u8 fun (n9 : Int) => ShC (16 : Int) (And (0 ≤ (0 : Int) ∧ (0 : Int) < (x0l : Int)) (PtrC x0 fun (a10 : Addr) => LdI w3 a10 .u8 fun (n11 : Int) => ShC (24 : Int) (R (.int .u32 (bOr .u32 (bOr .u32 (bOr .u32 (IntKind.wrap .u32 n5) (shlI .u32 (IntKind.wrap .u32 n7) (8 : Int))) (shlI .u32 (IntKind.wrap .u32 n9) (16 : Int))) (shlI .u32 (IntKind.wrap .u32 n11) (24 : Int))) : Value) w3))))))))
theorem eq72 (x0 : Option Addr) (x0l : Nat) (x0c : Nat) (R : Value → World → Prop) (w : World) : vc Pg Gg (annOf []) 0 (bodyOf Tryz.f72) (retK Pg Tryz.f72.results.toList R) (argE 0 [.slice x0 x0l x0c]) w = wp72 x0 x0l x0c R w := by kernel_rfl
theorem call72 {x0 : Option Addr} {x0l : Nat} {x0c : Nat} {R : Value → World → Prop} {w : World} (h : wp72 x0 x0l x0c R w) : CallT Pg 72 #[.slice x0 x0l x0c] w R :=
  calls_of_vc follows bodies Tryz.func72 (by kernel_rfl) (by kernel_rfl) (by kernel_rfl) ((eq72 x0 x0l x0c R w).mpr h)

/-- (*loop.example/pub-g03440/pub/png.crcDigest).Reset -/
def wp73 (x0 : Addr) (R : Value → World → Prop) (w : World) : Prop := StoreC w x0 (.int .u32 (0 : Int)) fun (w1 : World) => R (.tuple #[] : Value) w1
theorem eq73 (x0 : Addr) (R : Value → World → Prop) (w : World) : vc Pg Gg (annOf []) 0 (bodyOf Tryz.f73) (retK Pg Tryz.f73.results.toList R) (argE 0 [.pointer (some x0)]) w = wp73 x0 R w := by kernel_rfl
theorem call73 {x0 : Addr} {R : Value → World → Prop} {w : World} (h : wp73 x0 R w) : CallT Pg 73 #[.pointer (some x0)] w R :=
  calls_of_vc follows bodies Tryz.func73 (by kernel_rfl) (by kernel_rfl) (by kernel_rfl) ((eq73 x0 R w).mpr h)

/-- (*loop.example/pub-g03440/pub/png.crcDigest).Write -/
def wp74 (x0 : Addr) (x1 : Option Addr) (x1l : Nat) (x1c : Nat) (R : Value → World → Prop) (w : World) : Prop := LdI w x0 .u32 fun (n1 : Int) => LoopC (fun (J4 : (Int × Int × Unit) → World → Prop) => J4 (bXor .u32 (if IntKind.signed .u32 then -1 else IntKind.max .u32) n1, (0 : Int), ()) w) (fun (z2 : (Int × Int × Unit)) (w3 : World) (N5 : (Int × Int × Unit) → World → Prop) => IfC (decide (z2.2.1 < (x1l : Int))) (And (0 ≤ z2.2.1 ∧ z2.2.1 < (x1l : Int)) (PtrC x1 fun (a6 : Addr) => LdI w3 (elemAt a6 z2.2.1.toNat 1) .u8 fun (n7 : Int) => And (0 ≤ bXor .u8 (IntKind.wrap .u8 z2.1) n7 ∧ bXor .u8 (IntKind.wrap .u8 z2.1) n7 < (256 : Int)) (LdI w3 (elemAt ⟨3, 0, none⟩ ((bXor .u8 (IntKind.wrap .u8 z2.1) n7).toNat) 1) .u32 fun (n8 : Int) => ShC (8 : Int) (N5 (bXor .u32 n8 (shrI .u32 z2.1 (8 : Int)), IntKind.wrap .i64 (z2.2.1 + (1 : Int)), ()) w3)))) (StoreC w3 x0 (.int .u32 (bXor .u32 (if IntKind.signed .u32 then -1 else IntKind.max .u32) z2.1)) fun (w9 : World) => R (.tuple #[.int .i64 (x1l : Int), .nilIface] : Value) w9))
theorem eq74 (x0 : Addr) (x1 : Option Addr) (x1l : Nat) (x1c : Nat) (R : Value → World → Prop) (w : World) : vc Pg Gg (annOf [(8, [(6, .i .u32), (16, .i .i64)], [0, 1, 4, 5, 14, 15])]) 0 (bodyOf Tryz.f74) (retK Pg Tryz.f74.results.toList R) (argE 0 [.pointer (some x0), .slice x1 x1l x1c]) w = wp74 x0 x1 x1l x1c R w := by kernel_rfl
theorem call74 {x0 : Addr} {x1 : Option Addr} {x1l : Nat} {x1c : Nat} {R : Value → World → Prop} {w : World} (h : wp74 x0 x1 x1l x1c R w) : CallT Pg 74 #[.pointer (some x0), .slice x1 x1l x1c] w R :=
  calls_of_vc follows bodies Tryz.func74 (by kernel_rfl) (by kernel_rfl) (by kernel_rfl) ((eq74 x0 x1 x1l x1c R w).mpr h)

/-- (*loop.example/pub-g03440/pub/png.crcDigest).Sum32 -/
def wp93 (x0 : Addr) (R : Value → World → Prop) (w : World) : Prop := LdI w x0 .u32 fun (n1 : Int) => R (.int .u32 n1 : Value) w
theorem eq93 (x0 : Addr) (R : Value → World → Prop) (w : World) : vc Pg Gg (annOf []) 0 (bodyOf Tryz.f93) (retK Pg Tryz.f93.results.toList R) (argE 0 [.pointer (some x0)]) w = wp93 x0 R w := by kernel_rfl
theorem call93 {x0 : Addr} {R : Value → World → Prop} {w : World} (h : wp93 x0 R w) : CallT Pg 93 #[.pointer (some x0)] w R :=
  calls_of_vc follows bodies Tryz.func93 (by kernel_rfl) (by kernel_rfl) (by kernel_rfl) ((eq93 x0 R w).mpr h)

/-- (*bytes.Reader).Read -/
def wp189 (x0 : Addr) (x1 : Option Addr) (x1l : Nat) (x1c : Nat) (R : Value → World → Prop) (w : World) : Prop := DrewC w fun (w1 : World) => LdI w1 ⟨x0.block, x0.off + 1, none⟩ .i64 fun (n2 : Int) => LdSl w1 x0 fun (p3 : Option Addr) (l4 : Nat) (c5 : Nat) => IfC (decide (n2 ≥ (l4 : Int))) (DrewC w1 fun (w6 : World) => LdV w6 ⟨0, 0, none⟩ fun (v7 : Value) => R (.tuple #[.int .i64 (0 : Int), v7] : Value) w6) (StoreC w1 ⟨x0.block, x0.off + 2, none⟩ (.int .i64 (-1 : Int)) fun (w8 : World) => DrewC w8 fun (w9 : World) => LdSl w9 x0 fun (p10 : Option Addr) (l11 : Nat) (c12 : Nat) => LdI w9 ⟨x0.block, x0.off + 1, none⟩ .i64 fun (n13 : Int) => And (0 ≤ n13 ∧ n13 ≤ (l11 : Int)) (CopyR Pg w9 #[33, 33] 3 (.slice x1 x1l x1c) (.slice (slAdd p10 c12 n13.toNat 1) (l11 - n13.toNat) (c12 - n13.toNat)) fun (n14 : Int) (w15 : World) => LdI w15 ⟨x0.block, x0.off + 1, none⟩ .i64 fun (n16 : Int) => StoreC w15 ⟨x0.block, x0.off + 1, none⟩ (.int .i64 (IntKind.wrap .i64 (n16 + n14))) fun (w17 : World) => R (.tuple #[.int .i64 n14, .nilIface] : Value) w17))
theorem eq189 (x0 : Addr) (x1 : Option Addr) (x1l : Nat) (x1c : Nat) (R : Value → World → Prop) (w : World) : vc Pg Gg (annOf []) 0 (bodyOf Tryz.f189) (retK Pg Tryz.f189.results.toList R) (argE 0 [.pointer (some x0), .slice x1 x1l x1c]) w = wp189 x0 x1 x1l x1c R w := by kernel_rfl
theorem call189 {x0 : Addr} {x1 : Option Addr} {x1l : Nat} {x1c : Nat} {R : Value → World → Prop} {w : World} (h : wp189 x0 x1 x1l x1c R w) : CallT Pg 189 #[.pointer (some x0), .slice x1 x1l x1c] w R :=
  calls_of_vc follows bodies Tryz.func189 (by kernel_rfl) (by kernel_rfl) (by kernel_rfl) ((eq189 x0 x1 x1l x1c R w).mpr h)

/-- io.ReadAtLeast -/
def wp91 (x0 : Value) (x1 : Option Addr) (x1l : Nat) (x1c : Nat) (x2 : Int) (R : Value → World → Prop) (w : World) : Prop := IfC (decide ((x1l : Int) < x2)) (DrewC w fun (w1 : World) => LdV w1 ⟨4, 0, none⟩ fun (v2 : Value) => R (.tuple #[.int .i64 (0 : Int), v2] : Value) w1) (JoinC (fun (z3 : (Int × Value × Unit)) (w4 : World) => IfC (decide (z3.1 ≥ x2)) (R (.tuple #[.int .i64 z3.1, .nilIface] : Value) w4) (IfC (decide (z3.1 > (0 : Int))) (LdV w4 ⟨0, 0, none⟩ fun (v6 : Value) => VEqI Pg 82 (.tmp 41) (.tmp 42) z3.2.1 v6 w4 fun (b7 : Bool) => IfC b7 (LdV w4 ⟨1, 0, none⟩ fun (v8 : Value) => R (.tuple #[.int .i64 z3.1, v8] : Value) w4) (R (.tuple #[.int .i64 z3.1, z3.2.1] : Value) w4)) (R (.tuple #[.int .i64 z3.1, z3.2.1] : Value) w4))) (fun (J5 : (Int × Value × Unit) → World → Prop) => LoopC (fun (J11 : (Int × Value × Unit) → World → Prop) => J11 ((0 : Int), (.nilIface : Value), ()) w) (fun (z9 : (Int × Value × Unit)) (w10 : World) (N12 : (Int × Value × Unit) → World → Prop) => JoinC (fun (z13 : (Unit)) (w14 : World) => DrewC w14 fun (w16 : World) => And (0 ≤ z9.1 ∧ z9.1 ≤ (x1l : Int)) (Exists fun (t17 : Nat) => Exists fun (x18 : Value) => And ((#[x0] : Array Value)[0]? = some (.iface t17 x18)) (And (NilAhead Pg w16 t17 x18 "Read") (InvC Pg Gg w16 x0 "Read" [.slice (slAdd x1 x1c z9.1.toNat 1) (x1l - z9.1.toNat) (x1c - z9.1.toNat)] fun (v19 : Value) (w20 : World) => Exists fun (n21 : Int) => Exists fun (v22 : Value) => And (v19 = .tuple #[.int .i64 n21, v22]) (N12 (IntKind.wrap .i64 (z9.1 + n21), (v22 : Value), ()) w20))))) (fun (J15 : (Unit) → World → Prop) => IfC (decide (z9.1 < x2)) (EqNil z9.2.1 fun (b23 : Bool) => IfC b23 (J15 (()) w10) (J5 (z9.1, (z9.2.1 : Value), ()) w10)) (J5 (z9.1, (z9.2.1 : Value), ()) w10)))))
theorem eq91 (x0 : Value) (x1 : Option Addr) (x1l : Nat) (x1c : Nat) (x2 : Int) (R : Value → World → Prop) (w : World) : vc Pg Gg (annOf [(10, [(6, .i .i64), (7, .v)], [2]), (12, [(6, .i .i64), (7, .v)], [0, 1, 2]), (13, [], [0, 1, 2, 6])]) 0 (bodyOf Tryz.f91) (retK Pg Tryz.f91.results.toList R) (argE 0 [x0, .slice x1 x1l x1c, .int .i64 x2]) w = wp91 x0 x1 x1l x1c x2 R w := by kernel_rfl
theorem call91 {x0 : Value} {x1 : Option Addr} {x1l : Nat} {x1c : Nat} {x2 : Int} {R : Value → World → Prop} {w : World} (h : wp91 x0 x1 x1l x1c x2 R w) : CallT Pg 91 #[x0, .slice x1 x1l x1c, .int .i64 x2] w R :=
  calls_of_vc follows bodies Tryz.func91 (by kernel_rfl) (by kernel_rfl) (by kernel_rfl) ((eq91 x0 x1 x1l x1c x2 R w).mpr h)

/-- io.ReadFull -/
def wp71 (x0 : Value) (x1 : Option Addr) (x1l : Nat) (x1c : Nat) (R : Value → World → Prop) (w : World) : Prop := CallT Pg 91 #[x0, .slice x1 x1l x1c, .int .i64 (x1l : Int)] w fun (v1 : Value) (w2 : World) => Exists fun (n3 : Int) => Exists fun (v4 : Value) => And (v1 = .tuple #[.int .i64 n3, v4]) (R (.tuple #[.int .i64 n3, v4] : Value) w2)
theorem eq71 (x0 : Value) (x1 : Option Addr) (x1l : Nat) (x1c : Nat) (R : Value → World → Prop) (w : World) : vc Pg Gg (annOf []) 0 (bodyOf Tryz.f71) (retK Pg Tryz.f71.results.toList R) (argE 0 [x0, .slice x1 x1l x1c]) w = wp71 x0 x1 x1l x1c R w := by kernel_rfl
theorem call71 {x0 : Value} {x1 : Option Addr} {x1l : Nat} {x1c : Nat} {R : Value → World → Prop} {w : World} (h : wp71 x0 x1 x1l x1c R w) : CallT Pg 71 #[x0, .slice x1 x1l x1c] w R :=
  calls_of_vc follows bodies Tryz.func71 (by kernel_rfl) (by kernel_rfl) (by kernel_rfl) ((eq71 x0 x1 x1l x1c R w).mpr h)

section
variable {w : World}
theorem el33 : Pg.underlying 33 = some (.slice 5) := by kernel_rfl
theorem el5 : elOK Pg 33 5 1 1 = true := ok33
/-- Bytes are copied. -/
theorem CopyR_of {g o : Nat} {T : TypeId} {arr : Array Value} (hg : hp w g = Row T arr) {n cap : Nat} (ho : o + n ≤ arr.size) {q : Option Addr} {m d : Nat} {xs : List UInt8} (hq : Has w q (bv xs)) (hm : m = xs.length) (hb : m < 4611686018427387904)
    {K : Int → World → Prop} (hK : ∀ w' arr', hp w' g = Row T arr' → arr'.size = arr.size → (∀ j, arr'[j]? = if o ≤ j ∧ j < o + min m n then (bv xs)[j - o]? else arr[j]?) → Fr [g] w w' → hn w' = hn w → K ((min m n : Nat) : Int) w') :
    CopyR Pg w #[33, 33] 3 (.slice (some ⟨g, o, none⟩) n cap) (.slice q m d) K := by
  obtain ⟨ht, i, z, hi, hs, _⟩ := elOK_spec ok33
  subst hm
  have hlen : ((bv xs).take (min xs.length n)).length = min xs.length n * i.size := by simp [hs, Nat.min_comm]
  have hfit : o + 0 + ((bv xs).take (min xs.length n)).length ≤ arr.size := by rw [hlen, hs]; omega
  have hst := run_storeL (P := Pg) (vs := (bv xs).take (min xs.length n)) (w := w) (i := 0) (o := o) hg hfit (fun v hv => bv_one xs v (List.mem_of_mem_take hv))
  obtain ⟨arr', h1, h2, h3⟩ := hp_updL (vs := (bv xs).take (min xs.length n)) (w := w) (o := o) hg (by omega)
  have hfc : (Builtin.firstCells i.size (min xs.length n) (.slice q xs.length d)).run Pg w = .ok ((bv xs).take (min xs.length n)).toArray w := by
    cases q with
    | none =>
      have : xs = [] := bv_inj (xs := xs) (ys := []) hq
      subst this
      simpa using run_firstCells_none (P := Pg) (w := w) i.size 0 0 d
    | some a => exact run_firstCells_some (P := Pg) w i.size _ a xs.length d _ hlen (fun j v hj => hq.cells j v (by
        rw [List.getElem?_take] at hj
        split at hj
        · exact hj
        · cases hj))
  refine ⟨((min xs.length n : Nat) : Int), updL w g o ((bv xs).take (min xs.length n)), ?_, ?_⟩
  · have e : Nat.min xs.length n = min xs.length n := rfl
    simp only [Nat.add_zero] at hst
    simp [Builtin.copy_, run_underlying ht, sizeOf, typeInfo, hi, Builtin.lenOf, e, hfc, hst, goInt]
    try rfl
  · refine hK _ arr' h1 h2 ?_ (Fr.updL (by simp)) (hn_updL _ _ _ _)
    intro j
    rw [h3 j, hlen, hs, Nat.mul_one]
    split
    · rename_i hj
      rw [List.getElem?_take, if_pos (by omega)]
    · rfl

/-- A reader over bytes of which `rs` are left. -/
def RdAt (w : World) (rb : Nat) (p : Option Addr) (rs : List UInt8) : Prop :=
  ∃ (l c pos : Nat) (pr : Int) (xs : List UInt8), hp w rb = Row 124 #[.slice p l c, .int .i64 pos, .int .i64 pr] ∧ Has w p (bv xs) ∧ l = xs.length ∧ l ≤ c ∧ l < 1099511627776 ∧ pos ≤ l ∧ rs = xs.drop pos
theorem RdAt.fr {S : List Nat} {w w' : World} {rb : Nat} {p : Option Addr} {rs : List UInt8} (h : RdAt w rb p rs) (hf : Fr S w w') (h1 : rb ∉ S) (h2 : ∀ a, p = some a → a.block ∉ S) : RdAt w' rb p rs := by
  obtain ⟨l, c, pos, pr, xs, h3, h4, h5⟩ := h
  exact ⟨l, c, pos, pr, xs, hf.row h3 h1, h4.fr hf h2, h5⟩
theorem c41 {p : Option Addr} {l c : Nat} {xs : List UInt8} (hx : Has w p (bv xs)) (hl : l = xs.length) (hc : l ≤ c) (hb : l < 1099511627776) : CallT Pg 41 #[.slice p l c] w fun v w' => v = .pointer (some ⟨hn w, 0, none⟩) ∧ RdAt w' (hn w) p xs ∧ Fr [] w w' ∧ hn w < hn w' := by
  apply call41
  unfold wp41
  refine AllocC_at fun w1 h1 f1 n1 => ?_
  exact ⟨rfl, ⟨l, c, 0, -1, xs, h1, hx.fr0 f1, hl, hc, hb, by omega, rfl⟩, f1, by omega⟩
theorem c42 {p : Option Addr} {l c : Nat} {xs : List UInt8} (hx : Has w p (bv xs)) (hl : l = xs.length) (hb : l < 1099511627776) : CallT Pg 42 #[.slice p l c] w fun v w' => Fr [] w w' ∧ ∃ q c', v = .slice q l c' ∧ Has w' q (bv xs) ∧ l ≤ c' ∧ (∀ a, q = some a → hn w ≤ a.block ∧ a.block < hn w') := by
  apply call42
  unfold wp42
  cases p with
  | none =>
    have : xs = [] := bv_inj (xs := xs) (ys := []) hx
    subst this
    subst hl
    exact ⟨Fr.refl _ _, none, 0, rfl, rfl, by simp, by simp⟩
  | some a =>
    refine IfC_bool (fun h => by cases h) (fun _ => ?_)
    refine AllocC_at fun w2 h2 f2 n2 => ?_
    refine AppR_own (S := []) (w0 := w) ok33 f2 (Own.of_row (l := 0) h2 (Nat.le_refl _) rfl) (hx.fr0 f2) (by simp [hl]) (bv_one xs) (by omega) (by simp) ?_
    intro p' c' w' F f ho
    rw [Nat.zero_add] at ho ⊢
    refine ⟨F, p', c', rfl, by simpa using ho.has, ?_, fun a ha => by have := ho.at ha; omega⟩
    rcases ho.2 with ⟨_, h, h'⟩ | ⟨_, _, _, _, _, h, _⟩ <;> omega
theorem slAdd_zero (b o cap : Nat) : slAdd (some ⟨b, o, none⟩) cap 0 1 = some ⟨b, o, none⟩ := by
  unfold slAdd
  split
  · rfl
  · simp [add_none]
/-- A piece of a row is overwritten. -/
def Put (arr : Array Value) (o : Nat) (vs : List Value) (arr' : Array Value) : Prop := arr'.size = arr.size ∧ ∀ j, arr'[j]? = if o ≤ j ∧ j < o + vs.length then vs[j - o]? else arr[j]?
theorem c189 {rb g o : Nat} {p : Option Addr} {rs : List UInt8} {T : TypeId} {arr : Array Value} (hr : RdAt w rb p rs) (hg : hp w g = Row T arr) {n cap : Nat} (ho : o + n ≤ arr.size) (hrg : rb ≠ g) (hpg : ∀ a, p = some a → a.block ≠ g) (hpr : ∀ a, p = some a → a.block ≠ rb) (hne : rs ≠ []) :
    CallT Pg 189 #[.pointer (some ⟨rb, 0, none⟩), .slice (some ⟨g, o, none⟩) n cap] w fun v w' => v = .tuple #[.int .i64 (min rs.length n : Nat), .nilIface] ∧ RdAt w' rb p (rs.drop n) ∧ Fr [rb, g] w w' ∧ hn w' = hn w ∧
      ∃ arr', hp w' g = Row T arr' ∧ Put arr o (bv (rs.take n)) arr' := by
  obtain ⟨l, c, pos, pr, xs, h1, hx, hl, hlc, hb, hpos, rfl⟩ := hr
  have hlt : pos < l := by
    rcases Nat.lt_or_ge pos l with h | h
    · exact h
    · exact absurd (List.drop_eq_nil_of_le (by omega)) hne
  apply call189
  unfold wp189
  dsimp only
  refine DrewC_at fun w1 f1 n1 => ?_
  have h1' := f1.row0 h1
  refine LdI_at h1' rfl ?_
  refine LdSl_at h1' rfl ?_
  refine IfC_dec (fun h => absurd h (by omega)) (fun _ => ?_)
  refine StoreC_at h1' (by simp) fun w8 h8 f8 n8 => ?_
  refine DrewC_at fun w9 f9 n9 => ?_
  have h9 : hp w9 rb = Row 124 #[.slice p l c, .int .i64 pos, .int .i64 (-1)] := by simpa using f9.row0 h8
  refine LdSl_at h9 rfl (LdI_at h9 rfl ⟨⟨by omega, by omega⟩, ?_⟩)
  have F9 : Fr [rb] w w9 := (f1.mono (by simp)).trans (f8.trans (f9.mono (by simp)))
  have hx9 := hx.fr F9 (fun a ha => by simpa using hpr a ha)
  have hg9 := F9.row1 hg (fun h => hrg h.symm)
  have hsz : (((pos : Int)).toNat) = pos := Int.toNat_natCast pos
  rw [hsz]
  refine CopyR_of hg9 ho (Has.adv (n := pos) hx9 (by omega) (by omega)) (m := l - pos) (by simp [hl]) (by omega) ?_
  intro w' arr' hg' hs' hj' f' n'
  have h15 := f'.row1 h9 hrg
  refine LdI_at h15 rfl ?_
  refine StoreC_at h15 (by simp) fun w17 h17 f17 n17 => ?_
  have e : IntKind.wrap .i64 ((pos : Int) + ((min (l - pos) n : Nat) : Int)) = ((pos + min (l - pos) n : Nat) : Int) := by
    rw [wrap_i64_id (by omega) (by omega)]; omega
  rw [e] at h17
  refine ⟨?_, ⟨l, c, pos + min (l - pos) n, -1, xs, by simpa using h17, ?_, hl, hlc, hb, by omega, ?_⟩, ?_, by omega, arr', ?_, hs', ?_⟩
  · simp [hl]
  · exact (hx9.fr f' fun a ha => by simpa using hpg a ha).fr f17 fun a ha => by simpa using hpr a ha
  · rw [List.drop_drop]
    rcases Nat.le_total n (l - pos) with h | h
    · rw [Nat.min_eq_right h]
    · rw [Nat.min_eq_left h, List.drop_eq_nil_of_le (by omega), List.drop_eq_nil_of_le (by omega)]
  · exact (F9.mono (by simp)).trans ((f'.mono (by simp)).trans (f17.mono (by simp)))
  · exact f17.row1 hg' (fun h => hrg h.symm)
  · intro j
    rw [hj' j]
    have e2 : (bv ((xs.drop pos).take n)).length = min (l - pos) n := by simp [hl, Nat.min_comm]
    rw [e2]
    split
    · rename_i hj
      simp only [bv, List.map_take, List.getElem?_take]
      rw [if_pos (by omega)]
    · rfl
theorem c71 {rb g o : Nat} {p : Option Addr} {rs : List UInt8} {T : TypeId} {arr : Array Value} (hr : RdAt w rb p rs) (hg : hp w g = Row T arr) {n cap : Nat} (ho : o + n ≤ arr.size) (hrg : rb ≠ g) (hpg : ∀ a, p = some a → a.block ≠ g) (hpr : ∀ a, p = some a → a.block ≠ rb) (hn0 : 0 < n) (hnl : n ≤ rs.length) (hnb : n < 1099511627776) :
    CallT Pg 71 #[.iface 85 (.pointer (some ⟨rb, 0, none⟩)), .slice (some ⟨g, o, none⟩) n cap] w fun v w' => v = .tuple #[.int .i64 n, .nilIface] ∧ RdAt w' rb p (rs.drop n) ∧ Fr [rb, g] w w' ∧ hn w' = hn w ∧
      ∃ arr', hp w' g = Row T arr' ∧ Put arr o (bv (rs.take n)) arr' := by
  apply call71
  unfold wp71
  refine CallT.mono (R := fun v w' => v = .tuple #[.int .i64 n, .nilIface] ∧ RdAt w' rb p (rs.drop n) ∧ Fr [rb, g] w w' ∧ hn w' = hn w ∧ ∃ arr', hp w' g = Row T arr' ∧ Put arr o (bv (rs.take n)) arr') ?_ ?_
  · apply call91
    unfold wp91
    refine IfC_dec (fun h => absurd h (by omega)) (fun _ => ?_)
    refine JoinC_of (fun z w' => z = ((n : Int), .nilIface, ()) ∧ RdAt w' rb p (rs.drop n) ∧ Fr [rb, g] w w' ∧ hn w' = hn w ∧ ∃ arr', hp w' g = Row T arr' ∧ Put arr o (bv (rs.take n)) arr') ?_ ?_
    · rintro z w' ⟨rfl, h⟩
      refine IfC_dec (fun _ => ⟨rfl, h⟩) (fun h => absurd (Int.le_refl _) h)
    · intro J hJ
      refine LoopC_of (fun z w' => (z = ((0 : Int), .nilIface, ()) ∧ w' = w) ∨ (z = ((n : Int), .nilIface, ()) ∧ RdAt w' rb p (rs.drop n) ∧ Fr [rb, g] w w' ∧ hn w' = hn w ∧ ∃ arr', hp w' g = Row T arr' ∧ Put arr o (bv (rs.take n)) arr')) (fun z _ => n - z.1.toNat) (.inl ⟨rfl, rfl⟩) ?_
      rintro z w' (⟨rfl, rfl⟩ | ⟨rfl, h⟩)
      · refine JoinC_of (fun z w'' => w'' = w') ?_ ?_
        · rintro ⟨⟩ _ rfl
          refine DrewC_at fun w1 f1 n1 => ⟨⟨by omega, by omega⟩, _, _, rfl, rfl, 85, .pointer (some ⟨rb, 0, none⟩), 189, .pointer (some ⟨rb, 0, none⟩), rfl, rfl, ?_⟩
          show CallT Pg 189 #[.pointer (some ⟨rb, 0, none⟩), .slice (slAdd (some ⟨g, o, none⟩) cap 0 1) n cap] w1 _
          rw [slAdd_zero]
          refine CallT.mono (c189 (hr.fr f1 (by simp) (by simp)) (f1.row0 hg) ho hrg hpg hpr (by intro h; subst h; simp at hnl; omega)) ?_
          rintro _ w2 ⟨rfl, hr2, f2, n2, arr', hg2, hp2⟩
          have hmin : min rs.length n = n := by omega
          rw [hmin]
          refine ⟨_, _, rfl, .inr ⟨?_, hr2, (f1.mono (by simp)).trans f2, by omega, arr', hg2, hp2⟩, ?_⟩
          · rw [wrap_i64_id (by omega) (by omega)]; simp
          · rw [wrap_i64_id (by omega) (by omega)]; omega
        · intro J' hJ'
          refine IfC_dec (fun _ => hJ' _ _ rfl) (fun h => absurd h (by dsimp only; omega))
      · refine JoinC_of (fun _ _ => False) (fun _ _ h => h.elim) ?_
        intro J' hJ'
        refine IfC_dec (fun h => absurd h (by dsimp only; omega)) (fun _ => ?_)
        exact hJ _ _ ⟨rfl, h⟩
  · rintro _ w' ⟨rfl, h⟩
    exact ⟨_, _, rfl, rfl, h⟩
theorem crcStep_xor (a b : Nat) : crcStep (a ^^^ b) = crcStep a ^^^ crcStep b := by
  have h2 : (a ^^^ b) / 2 = a / 2 ^^^ b / 2 := Nat.xor_div_two
  have h1 : (a ^^^ b) % 2 = a % 2 ^^^ b % 2 := Nat.xor_mod_two_pow (n := 1)
  have lc : ∀ p q r : Nat, p ^^^ (q ^^^ r) = q ^^^ (p ^^^ r) := fun p q r => by rw [← Nat.xor_assoc, Nat.xor_comm p q, Nat.xor_assoc]
  have cc : ∀ p q : Nat, p ^^^ (q ^^^ p) = q := fun p q => by rw [lc, Nat.xor_self, Nat.xor_zero]
  unfold crcStep
  rw [h1, h2]
  generalize a / 2 = A, b / 2 = B, (3988292384 : Nat) = P
  rcases Nat.mod_two_eq_zero_or_one a with ha | ha <;> rcases Nat.mod_two_eq_zero_or_one b with hb | hb <;> simp only [ha, hb]
  · rfl
  · simp [Nat.xor_assoc]
  · simp [Nat.xor_assoc, Nat.xor_comm B P]
  · have : (A ^^^ P) ^^^ (B ^^^ P) = A ^^^ B := by rw [Nat.xor_assoc, cc]
    simp [this]
theorem crc8_xor (n a b : Nat) : crc8 n (a ^^^ b) = crc8 n a ^^^ crc8 n b := by
  induction n generalizing a b with
  | zero => rfl
  | succ n ih => rw [crc8, crcStep_xor, ih]; rfl
theorem crc8_shl (n h : Nat) : crc8 n (h * 2 ^ n) = h := by
  induction n with
  | zero => simp [crc8]
  | succ n ih =>
    have : crcStep (h * 2 ^ (n + 1)) = h * 2 ^ n := by
      unfold crcStep
      rw [Nat.pow_succ, ← Nat.mul_assoc, if_neg (by omega)]
      omega
    rw [crc8, this, ih]
theorem crc8_tab (x v : Nat) : crc8 8 (x ^^^ v) = crc8 8 ((x % 256) ^^^ v) ^^^ (x / 256) := by
  have hx : x = (x / 256 * 2 ^ 8) ^^^ (x % 256) := by
    apply Nat.eq_of_testBit_eq
    intro i
    rw [Nat.testBit_xor, Nat.mul_comm, Nat.testBit_two_pow_mul]
    have e1 := Nat.testBit_mod_two_pow x 8 i
    have e2 := Nat.testBit_div_two_pow (i := i - 8) (n := 8) x
    simp only [Nat.reducePow] at e1 e2
    rw [e1, e2]
    by_cases hi : i < 8
    · have : ¬ 8 ≤ i := by omega
      simp [hi, this]
    · have : i - 8 + 8 = i := by omega
      have h8 : 8 ≤ i := by omega
      simp [hi, this, h8]
  have h : x ^^^ v = (x / 256 * 2 ^ 8) ^^^ ((x % 256) ^^^ v) := by rw [← Nat.xor_assoc, ← hx]
  rw [h, crc8_xor, crc8_shl, Nat.xor_comm]
/-- The table of the sums. -/
def Tab (w : World) : Prop := ∃ T arr, hp w 3 = Row T arr ∧ ∀ i, i < 256 → arr[i]? = some (.int .u32 (crc8 8 i : Nat))
theorem Tab.fr {S : List Nat} {w w' : World} (h : Tab w) (hf : Fr S w w') (h3 : 3 ∉ S) : Tab w' := by
  obtain ⟨T, arr, h1, h2⟩ := h
  exact ⟨T, arr, hf.row h1 h3, h2⟩
def crcU (x : Nat) (xs : List UInt8) : Nat := crcF (x ^^^ 4294967295) xs ^^^ 4294967295
theorem crcU_lt {x : Nat} (h : x < 4294967296) (xs : List UInt8) : crcU x xs < 4294967296 := Nat.xor_lt_two_pow (n := 32) (crcF_lt (Nat.xor_lt_two_pow (n := 32) h (by decide))) (by decide)
theorem crcU_nil (xs : List UInt8) : crcU 0 xs = crcL xs := by simp [crcU, crcL_eq]
theorem crcU_app (x : Nat) (xs ys : List UInt8) : crcU (crcU x xs) ys = crcU x (xs ++ ys) := by
  unfold crcU
  rw [Nat.xor_assoc, Nat.xor_self, Nat.xor_zero]
  simp [crcF]
theorem c72 {b o l c : Nat} {xs : List UInt8} (hx : Has w (some ⟨b, o, none⟩) (bv xs)) (hl : 4 ≤ xs.length) (hl' : 4 ≤ l) : CallT Pg 72 #[.slice (some ⟨b, o, none⟩) l c] w fun v w' => v = .int .u32 (be4 xs 0) ∧ Fr [] w w' ∧ hn w' = hn w := by
  apply call72
  unfold wp72
  obtain ⟨_, T, arr, h, hj⟩ := hx
  have hv : ∀ j, j < 4 → arr[o + j]? = some (.int .u8 (gb xs j)) := fun j hj4 => hj j _ (bv_gb (by omega))
  refine ⟨⟨by omega, by omega⟩, LdI_at h (hv 3 (by omega)) ?_⟩
  refine DrewC_at fun w1 f1 n1 => ?_
  have h := f1.row0 h
  refine ⟨⟨by omega, by omega⟩, LdI_at h (hv 3 (by omega)) ⟨⟨by omega, by omega⟩, LdI_at h (hv 2 (by omega)) ?_⟩⟩
  refine ShC_of (by decide) ⟨⟨by omega, by omega⟩, LdI_at h (hv 1 (by omega)) ?_⟩
  refine ShC_of (by decide) ⟨⟨by omega, by omega⟩, LdI_at h (hv 0 (by omega)) ?_⟩
  refine ShC_of (by decide) ⟨?_, f1, n1⟩
  have ha := gb_lt xs 0; have hb := gb_lt xs 1; have hc := gb_lt xs 2; have hd := gb_lt xs 3
  simp only [be4, Nat.zero_add]
  generalize gb xs 0 = a, gb xs 1 = b, gb xs 2 = c, gb xs 3 = d at *
  have oc : ∀ {a b : Int}, 0 ≤ a → a < 4294967296 → 0 ≤ b → b < 4294967296 → bOr .u32 a b = bOr .u32 b a := fun ha ha' hb hb' => by rw [or_u32 ha ha' hb hb', or_u32 hb hb' ha ha', Nat.or_comm]
  simp (disch := omega) only [wrap_u32_id, shl_u32, Int.reduceToNat, Int.reducePow]
  rw [oc (a := (d : Int)) (by omega) (by omega) (by omega) (by omega), or8_u32 (a := (c : Int) * 256) (b := (d : Int)) (by omega) (by omega) (by omega) (by omega) (by omega), oc (b := (b : Int) * 65536) (by omega) (by omega) (by omega) (by omega), or16_u32 (a := (b : Int) * 65536) (by omega) (by omega) (by omega) (by omega) (by omega), oc (b := (a : Int) * 16777216) (by omega) (by omega) (by omega) (by omega), or24_u32 (a := (a : Int) * 16777216) (by omega) (by omega) (by omega) (by omega) (by omega)]
  refine congrArg (Value.int .u32) ?_
  omega
theorem c73 {kb : Nat} {x : Value} (hk : hp w kb = Row 113 #[x]) : CallT Pg 73 #[.pointer (some ⟨kb, 0, none⟩)] w fun v w' => v = .tuple #[] ∧ hp w' kb = Row 113 #[.int .u32 0] ∧ Fr [kb] w w' ∧ hn w' = hn w := by
  apply call73
  unfold wp73
  refine StoreC_at hk (by simp) fun w1 h1 f1 n1 => ?_
  exact ⟨rfl, by simpa using h1, f1, n1⟩
theorem c93 {kb x : Nat} (hk : hp w kb = Row 113 #[.int .u32 x]) : CallT Pg 93 #[.pointer (some ⟨kb, 0, none⟩)] w fun v w' => v = .int .u32 x ∧ w' = w := by
  apply call93
  unfold wp93
  exact LdI_at hk rfl ⟨rfl, rfl⟩
theorem c74 {kb x : Nat} (hk : hp w kb = Row 113 #[.int .u32 x]) (hx32 : x < 4294967296) (hT : Tab w) {p : Option Addr} {l c : Nat} {xs : List UInt8} (hx : Has w p (bv xs)) (hl : l = xs.length) (hb : l < 4611686018427387904) :
    CallT Pg 74 #[.pointer (some ⟨kb, 0, none⟩), .slice p l c] w fun v w' => v = .tuple #[.int .i64 l, .nilIface] ∧ hp w' kb = Row 113 #[.int .u32 (crcU x xs)] ∧ Fr [kb] w w' ∧ hn w' = hn w := by
  apply call74
  unfold wp74
  refine LdI_at hk rfl ?_
  have e1 : (if IntKind.signed .u32 then (-1 : Int) else IntKind.max .u32) = 4294967295 := by decide
  rw [e1, xor_u32 (by omega) (by omega) (by omega) (by omega), Int.toNat_natCast, show Int.toNat 4294967295 = 4294967295 from rfl]
  have hx0 : 4294967295 ^^^ x < 4294967296 := Nat.xor_lt_two_pow (n := 32) (by decide) hx32
  refine LoopC_of (fun z w' => w' = w ∧ ∃ i : Nat, i ≤ l ∧ z.2.1 = i ∧ z.1 = (crcF (4294967295 ^^^ x) (xs.take i) : Nat)) (fun z _ => l - z.2.1.toNat) ⟨rfl, 0, by omega, rfl, by simp [crcF]⟩ ?_
  rintro ⟨y, k, ⟨⟩⟩ w' ⟨rfl, i, hi, rfl, rfl⟩
  dsimp only
  have hlt := crcF_lt (xs := xs.take i) hx0
  refine IfC_dec (fun h => ?_) (fun h => ?_)
  · have hi' : i < xs.length := by omega
    refine IdxB hx hl (by omega) h ?_
    have hg := gb_lt xs i
    have hs := crcF_snoc (x := 4294967295 ^^^ x) hi'
    rw [crc8_tab] at hs
    generalize hY : crcF (4294967295 ^^^ x) (xs.take i) = Y at *
    rw [Int.toNat_natCast]
    have hz : Y % 256 ^^^ gb xs i < 256 := Nat.xor_lt_two_pow (n := 8) (by omega) hg
    have ez : bXor .u8 (IntKind.wrap .u8 (Y : Int)) (gb xs i : Int) = ((Y % 256 ^^^ gb xs i : Nat) : Int) := by
      rw [wrap_u8, xor_u8 (by omega) (by omega) (by omega) (by omega), Int.toNat_natCast]
      congr 2
    rw [ez]
    obtain ⟨T, arr, h3, hj⟩ := hT
    refine ⟨⟨by omega, by omega⟩, ?_⟩
    rw [elemAt_one, Nat.zero_add, Int.toNat_natCast]
    refine LdI_at h3 (hj _ hz) (ShC_of (by decide) ?_)
    have es : shrI .u32 (Y : Int) (8 : Int) = ((Y / 256 : Nat) : Int) := by
      rw [shr_u32 (by omega) (by decide) (by decide), Int.toNat_natCast]
      rfl
    rw [es, wrap_i64_id (by omega) (by omega)]
    have h8 := crc8_lt (n := 8) (x := Y % 256 ^^^ gb xs i) (by omega)
    refine ⟨⟨rfl, i + 1, by omega, by simp, ?_⟩, by omega⟩
    rw [xor_u32 (by omega) (by omega) (by omega) (by omega), hs, Int.toNat_natCast, Int.toNat_natCast]
  · have : i = xs.length := by omega
    subst this
    rw [List.take_length] at hlt ⊢
    refine StoreC_at hk (by simp) fun w1 h1 f1 n1 => ?_
    refine ⟨rfl, ?_, f1, n1⟩
    rw [h1, xor_u32 (by omega) (by omega) (by omega) (by omega)]
    simp [crcU, Nat.xor_comm]
end
end Go.Proofs
