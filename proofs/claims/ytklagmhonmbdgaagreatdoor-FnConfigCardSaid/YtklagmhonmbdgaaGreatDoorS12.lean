/- A step of the proofs (S12): contracts of the functions printed here, for all their arguments that meet what each names. -/
import Derived.Test.YtklagmhonmbdgaaGreatDoorBase
import Derived.Test.YtklagmhonmbdgaaGreatDoorSteps
import Derived.Test.YtklagmhonmbdgaaGreatDoorS11
set_option maxRecDepth 1000000
set_option linter.unusedVariables false
set_option linter.unusedSimpArgs false
set_option maxHeartbeats 4000000
namespace Go.Proofs
open Go Go.V
/-- loop.example/pub-g03440/pub/png.cbTrueColor -/
def wp77 (x0 : Int) (R : Value → World → Prop) (w : World) : Prop := IfC (x0 == (6 : Int)) (R (.bool true : Value) w) (R (.bool (x0 == (14 : Int)) : Value) w)
theorem eq77 (x0 : Int) (R : Value → World → Prop) (w : World) : vc Pg Gg (annOf []) 0 (bodyOf Tryz.f77) (retK Pg Tryz.f77.results.toList R) (argE 0 [.int .i64 x0]) w = wp77 x0 R w := by kernel_rfl
theorem call77 {x0 : Int} {R : Value → World → Prop} {w : World} (h : wp77 x0 R w) : CallT Pg 77 #[.int .i64 x0] w R :=
  calls_of_vc follows bodies Tryz.func77 (by kernel_rfl) (by kernel_rfl) (by kernel_rfl) ((eq77 x0 R w).mpr h)

/-- (*loop.example/pub-g03440/pub/png.decoder).parseChunk -/
def wp60 (x0 : Addr) (x1 : Bool) (R : Value → World → Prop) (w : World) : Prop := DrewC w fun (w1 : World) => LdV w1 x0 fun (v2 : Value) => And (0 ≤ (8 : Int) ∧ (8 : Int) ≤ (768 : Int)) (CallT Pg 71 #[v2, .slice (some ⟨x0.block, x0.off + 10, none⟩) 8 768] w1 fun (v3 : Value) (w4 : World) => Exists fun (n5 : Int) => Exists fun (v6 : Value) => And (v3 = .tuple #[.int .i64 n5, v6]) (EqNil v6 fun (b7 : Bool) => IfC (!b7) (R (v6 : Value) w4) (And (0 ≤ (4 : Int) ∧ (4 : Int) ≤ (768 : Int)) (CallT Pg 72 #[.slice (some ⟨x0.block, x0.off + 10, none⟩) 4 768] w4 fun (v8 : Value) (w9 : World) => Exists fun (n10 : Int) => And (v8 = .int .u32 n10) (LdP w9 ⟨x0.block, x0.off + 2, none⟩ fun (p11 : Option Addr) => CallT Pg 73 #[.pointer p11] w9 fun (v12 : Value) (w13 : World) => And (v12 = .tuple #[]) (DrewC w13 fun (w14 : World) => LdP w14 ⟨x0.block, x0.off + 2, none⟩ fun (p15 : Option Addr) => And (0 ≤ (8 : Int) ∧ (8 : Int) ≤ (768 : Int)) (And (0 ≤ (4 : Int) ∧ (4 : Int) ≤ (8 : Int)) (CallT Pg 74 #[.pointer p15, .slice (some ⟨x0.block, x0.off + 10 + 4, none⟩) 4 764] w14 fun (v16 : Value) (w17 : World) => Exists fun (n18 : Int) => Exists fun (v19 : Value) => And (v16 = .tuple #[.int .i64 n18, v19]) (JoinC (fun (z20 : (Unit)) (w21 : World) => IfC (decide (n10 > (2147483647 : Int))) (R (.iface 125 (.string ⟨#[66, 97, 100, 32, 99, 104, 117, 110, 107, 32, 108, 101, 110, 103, 116, 104]⟩) : Value) w21) (AllocC w21 (.cells (zc Pg 150) 150) fun (r23 : Nat) (w24 : World) => LoopC (fun (J27 : (Int × Unit) → World → Prop) => J27 (n10, ()) w24) (fun (z25 : (Int × Unit)) (w26 : World) (N28 : (Int × Unit) → World → Prop) => IfC (decide (z25.1 > (0 : Int))) (DrewC w26 fun (w29 : World) => LdV w29 x0 fun (v30 : Value) => And (0 ≤ minI (4096 : Int) (IntKind.wrap .i64 z25.1) ∧ minI (4096 : Int) (IntKind.wrap .i64 z25.1) ≤ (4096 : Int)) (CallT Pg 71 #[v30, .slice (some ⟨r23, 0, none⟩) ((minI (4096 : Int) (IntKind.wrap .i64 z25.1)).toNat) 4096] w29 fun (v31 : Value) (w32 : World) => Exists fun (n33 : Int) => Exists fun (v34 : Value) => And (v31 = .tuple #[.int .i64 n33, v34]) (EqNil v34 fun (b35 : Bool) => IfC (!b35) (R (v34 : Value) w32) (DrewC w32 fun (w36 : World) => LdP w36 ⟨x0.block, x0.off + 2, none⟩ fun (p37 : Option Addr) => And (0 ≤ n33 ∧ n33 ≤ (4096 : Int)) (CallT Pg 74 #[.pointer p37, .slice (some ⟨r23, 0, none⟩) n33.toNat 4096] w36 fun (v38 : Value) (w39 : World) => Exists fun (n40 : Int) => Exists fun (v41 : Value) => And (v38 = .tuple #[.int .i64 n40, v41]) (N28 (IntKind.wrap .u32 (z25.1 - (IntKind.wrap .u32 n33)), ()) w39)))))) (CallT Pg 81 #[.pointer (some x0)] w26 fun (v42 : Value) (w43 : World) => Exists fun (v44 : Value) => And (v42 = v44) (R (v44 : Value) w43))))) (fun (J22 : (Unit) → World → Prop) => And (0 ≤ (8 : Int) ∧ (8 : Int) ≤ (768 : Int)) (And (0 ≤ (4 : Int) ∧ (4 : Int) ≤ (8 : Int)) (B2S Pg w17 (some ⟨x0.block, x0.off + 10 + 4, none⟩) 4 764 fun (s45 : ByteArray) => IfC (strEq s45 ⟨#[73, 72, 68, 82]⟩) (LdI w17 ⟨x0.block, x0.off + 8, none⟩ .i64 fun (n46 : Int) => IfC (n46 != (0 : Int)) (R (.iface 125 (.string ⟨#[99, 104, 117, 110, 107, 32, 111, 117, 116, 32, 111, 102, 32, 111, 114, 100, 101, 114]⟩) : Value) w17) (StoreC w17 ⟨x0.block, x0.off + 8, none⟩ (.int .i64 (1 : Int)) fun (w47 : World) => CallT Pg 75 #[.pointer (some x0), .int .u32 n10] w47 fun (v48 : Value) (w49 : World) => Exists fun (v50 : Value) => And (v48 = v50) (R (v50 : Value) w49))) (IfC (strEq s45 ⟨#[80, 76, 84, 69]⟩) (LdI w17 ⟨x0.block, x0.off + 8, none⟩ .i64 fun (n51 : Int) => IfC (n51 != (1 : Int)) (R (.iface 125 (.string ⟨#[99, 104, 117, 110, 107, 32, 111, 117, 116, 32, 111, 102, 32, 111, 114, 100, 101, 114]⟩) : Value) w17) (StoreC w17 ⟨x0.block, x0.off + 8, none⟩ (.int .i64 (2 : Int)) fun (w52 : World) => CallT Pg 76 #[.pointer (some x0), .int .u32 n10] w52 fun (v53 : Value) (w54 : World) => Exists fun (v55 : Value) => And (v53 = v55) (R (v55 : Value) w54))) (IfC (strEq s45 ⟨#[116, 82, 78, 83]⟩) (LdI w17 ⟨x0.block, x0.off + 7, none⟩ .i64 fun (n56 : Int) => CallT Pg 61 #[.int .i64 n56] w17 fun (v57 : Value) (w58 : World) => Exists fun (b59 : Bool) => And (v57 = .bool b59) (IfC b59 (LdI w58 ⟨x0.block, x0.off + 8, none⟩ .i64 fun (n60 : Int) => IfC (n60 != (2 : Int)) (R (.iface 125 (.string ⟨#[99, 104, 117, 110, 107, 32, 111, 117, 116, 32, 111, 102, 32, 111, 114, 100, 101, 114]⟩) : Value) w58) (StoreC w58 ⟨x0.block, x0.off + 8, none⟩ (.int .i64 (3 : Int)) fun (w61 : World) => CallT Pg 78 #[.pointer (some x0), .int .u32 n10] w61 fun (v62 : Value) (w63 : World) => Exists fun (v64 : Value) => And (v62 = v64) (R (v64 : Value) w63))) (LdI w58 ⟨x0.block, x0.off + 7, none⟩ .i64 fun (n65 : Int) => CallT Pg 77 #[.int .i64 n65] w58 fun (v66 : Value) (w67 : World) => Exists fun (b68 : Bool) => And (v66 = .bool b68) (IfC b68 (LdI w67 ⟨x0.block, x0.off + 8, none⟩ .i64 fun (n69 : Int) => IfC (n69 != (1 : Int)) (LdI w67 ⟨x0.block, x0.off + 8, none⟩ .i64 fun (n70 : Int) => IfC (n70 != (2 : Int)) (R (.iface 125 (.string ⟨#[99, 104, 117, 110, 107, 32, 111, 117, 116, 32, 111, 102, 32, 111, 114, 100, 101, 114]⟩) : Value) w67) (StoreC w67 ⟨x0.block, x0.off + 8, none⟩ (.int .i64 (3 : Int)) fun (w71 : World) => CallT Pg 78 #[.pointer (some x0), .int .u32 n10] w71 fun (v72 : Value) (w73 : World) => Exists fun (v74 : Value) => And (v72 = v74) (R (v74 : Value) w73))) (StoreC w67 ⟨x0.block, x0.off + 8, none⟩ (.int .i64 (3 : Int)) fun (w75 : World) => CallT Pg 78 #[.pointer (some x0), .int .u32 n10] w75 fun (v76 : Value) (w77 : World) => Exists fun (v78 : Value) => And (v76 = v78) (R (v78 : Value) w77))) (LdI w67 ⟨x0.block, x0.off + 8, none⟩ .i64 fun (n79 : Int) => IfC (n79 != (1 : Int)) (R (.iface 125 (.string ⟨#[99, 104, 117, 110, 107, 32, 111, 117, 116, 32, 111, 102, 32, 111, 114, 100, 101, 114]⟩) : Value) w67) (StoreC w67 ⟨x0.block, x0.off + 8, none⟩ (.int .i64 (3 : Int)) fun (w80 : World) => CallT Pg 78 #[.pointer (some x0), .int .u32 n10] w80 fun (v81 : Value) (w82 : World) => Exists fun (v83 : Value) => And (v81 = v83) (R (v83 : Value) w82))))))) (IfC (strEq s45 ⟨#[73, 68, 65, 84]⟩) (LdI w17 ⟨x0.block, x0.off + 8, none⟩ .i64 fun (n84 : Int) => IfC (decide (n84 < (1 : Int))) (R (.iface 125 (.string ⟨#[99, 104, 117, 110, 107, 32, 111, 117, 116, 32, 111, 102, 32, 111, 114, 100, 101, 114]⟩) : Value) w17) (LdI w17 ⟨x0.block, x0.off + 8, none⟩ .i64 fun (n85 : Int) => IfC (decide (n85 > (4 : Int))) (R (.iface 125 (.string ⟨#[99, 104, 117, 110, 107, 32, 111, 117, 116, 32, 111, 102, 32, 111, 114, 100, 101, 114]⟩) : Value) w17) (LdI w17 ⟨x0.block, x0.off + 8, none⟩ .i64 fun (n86 : Int) => IfC (n86 == (1 : Int)) (LdI w17 ⟨x0.block, x0.off + 7, none⟩ .i64 fun (n87 : Int) => CallT Pg 61 #[.int .i64 n87] w17 fun (v88 : Value) (w89 : World) => Exists fun (b90 : Bool) => And (v88 = .bool b90) (IfC b90 (R (.iface 125 (.string ⟨#[99, 104, 117, 110, 107, 32, 111, 117, 116, 32, 111, 102, 32, 111, 114, 100, 101, 114]⟩) : Value) w89) (LdI w89 ⟨x0.block, x0.off + 8, none⟩ .i64 fun (n91 : Int) => IfC (n91 == (4 : Int)) (J22 (()) w89) (StoreC w89 ⟨x0.block, x0.off + 8, none⟩ (.int .i64 (4 : Int)) fun (w92 : World) => IfC x1 (R (.nilIface : Value) w92) (CallT Pg 79 #[.pointer (some x0), .int .u32 n10] w92 fun (v93 : Value) (w94 : World) => Exists fun (v95 : Value) => And (v93 = v95) (R (v95 : Value) w94)))))) (LdI w17 ⟨x0.block, x0.off + 8, none⟩ .i64 fun (n96 : Int) => IfC (n96 == (4 : Int)) (J22 (()) w17) (StoreC w17 ⟨x0.block, x0.off + 8, none⟩ (.int .i64 (4 : Int)) fun (w97 : World) => IfC x1 (R (.nilIface : Value) w97) (CallT Pg 79 #[.pointer (some x0), .int .u32 n10] w97 fun (v98 : Value) (w99 : World) => Exists fun (v100 : Value) => And (v98 = v100) (R (v100 : Value) w99))))))) (IfC (strEq s45 ⟨#[73, 69, 78, 68]⟩) (LdI w17 ⟨x0.block, x0.off + 8, none⟩ .i64 fun (n101 : Int) => IfC (n101 != (4 : Int)) (R (.iface 125 (.string ⟨#[99, 104, 117, 110, 107, 32, 111, 117, 116, 32, 111, 102, 32, 111, 114, 100, 101, 114]⟩) : Value) w17) (StoreC w17 ⟨x0.block, x0.off + 8, none⟩ (.int .i64 (5 : Int)) fun (w102 : World) => CallT Pg 80 #[.pointer (some x0), .int .u32 n10] w102 fun (v103 : Value) (w104 : World) => Exists fun (v105 : Value) => And (v103 = v105) (R (v105 : Value) w104))) (J22 (()) w17)))))))))))))))))
theorem eq60 (x0 : Addr) (x1 : Bool) (R : Value → World → Prop) (w : World) : vc Pg Gg (annOf [(18, [], [0, 7]), (147, [(7, .i .u32)], [0, 8])]) 0 (bodyOf Tryz.f60) (retK Pg Tryz.f60.results.toList R) (argE 0 [.pointer (some x0), .bool x1]) w = wp60 x0 x1 R w := by kernel_rfl
theorem call60 {x0 : Addr} {x1 : Bool} {R : Value → World → Prop} {w : World} (h : wp60 x0 x1 R w) : CallT Pg 60 #[.pointer (some x0), .bool x1] w R :=
  calls_of_vc follows bodies Tryz.func60 (by kernel_rfl) (by kernel_rfl) (by kernel_rfl) ((eq60 x0 x1 R w).mpr h)

section
variable {w : World}
theorem c77 {x : Int} : CallT Pg 77 #[.int .i64 x] w fun v w' => v = .bool (decide (x = 6) || decide (x = 14)) ∧ w' = w := by
  apply call77
  unfold wp77
  refine IfC_eqI (fun h => ?_) (fun h => ?_)
  · simp [h]
  · refine ⟨?_, rfl⟩
    simp [h]
    rfl
/-- What a chunk comes to. -/
inductive Next
  | refuse
  | call (f : Nat) (s : Int)
  | idat
  | skip
def nextN (d : Dec) (nm : List UInt8) : Next :=
  if nm = nIHDR then (if d.stage ≠ 0 then .refuse else .call 75 1)
  else if nm = nPLTE then (if d.stage ≠ 1 then .refuse else .call 76 2)
  else if nm = ntRNS then (if 7 ≤ d.cb ∧ d.cb ≤ 10 then (if d.stage ≠ 2 then .refuse else .call 78 3) else if d.cb = 6 ∨ d.cb = 14 then (if d.stage ≠ 1 ∧ d.stage ≠ 2 then .refuse else .call 78 3) else (if d.stage ≠ 1 then .refuse else .call 78 3))
  else if nm = nIDAT then (if d.stage < 1 ∨ 4 < d.stage then .refuse else if d.stage = 1 ∧ 7 ≤ d.cb ∧ d.cb ≤ 10 then .refuse else if d.stage = 4 then .skip else .idat)
  else if nm = nIEND then (if d.stage ≠ 4 then .refuse else .call 80 5)
  else .skip
theorem Dst.c60 {db rb kb crc : Nat} {p : Option Addr} {d : Dec} {rs : List UInt8} (h : Dst w db rb kb p d crc rs) (hl : 8 ≤ rs.length) {b : Bool} {R : Value → World → Prop}
    (H : ∀ w1 tmp s, Fr [rb, kb, db] w w1 → hn w1 = hn w → Dst w1 db rb kb p { d with tmp := tmp, stage := s } (crcU 0 ((rs.drop 4).take 4)) (rs.drop 8) →
      match nextN d ((rs.drop 4).take 4) with
      | .refuse => s = d.stage → ∀ v, Refuse 125 v → R v w1
      | .call f s' => s = s' → CallT Pg f #[.pointer (some ⟨db, 0, none⟩), .int .u32 (be4 rs 0)] w1 R
      | .idat => s = 4 → if b then R .nilIface w1 else CallT Pg 79 #[.pointer (some ⟨db, 0, none⟩), .int .u32 (be4 rs 0)] w1 R
      | .skip => False) : CallT Pg 60 #[.pointer (some ⟨db, 0, none⟩), .bool b] w R := by
  apply call60
  unfold wp60
  refine DrewC_at fun w1 f1 n1 => ?_
  have h := h.fr0 f1
  refine LdV_at h.dec d.at0 ⟨⟨by decide, by decide⟩, ?_⟩
  refine CallT.mono (h.read (n := 8) (by decide) (by decide) (by omega)) ?_
  rintro _ w4 ⟨rfl, h4, f4, n4⟩
  refine ⟨_, _, rfl, EqNil_nil (IfC_f ⟨⟨by decide, by decide⟩, ?_⟩)⟩
  refine CallT.mono (h4.be4r (o := 0) rfl (by decide) (by decide)) ?_
  rintro _ w9 ⟨rfl, f9, n9⟩
  have h9 := h4.fr0 f9
  refine ⟨_, rfl, LdP_at h9.dec ((Dec.at2 _).trans (congrArg some h9.ck)) ?_⟩
  have hne := h.ne
  refine CallT.mono (c73 h9.sum) ?_
  rintro _ w13 ⟨rfl, hk13, f13, n13⟩
  have h13 : Dst w13 db rb kb p { d with tmp := rs.take 8 ++ d.tmp.drop 8 } 0 (rs.drop 8) :=
    ⟨f13.row1 h9.dec (by omega), h9.htmp, h9.htr, h9.rd, h9.ck, h9.at_.fr f13 (by simp; omega) (fun a ha => by have := hne.2.1 a ha; simp; omega), hk13, by decide, h9.tab.fr f13 (by simp; omega), hne⟩
  refine ⟨rfl, DrewC_at fun w14 f14 n14 => ?_⟩
  have h14 := h13.fr0 f14
  refine LdP_at h14.dec ((Dec.at2 _).trans (congrArg some h14.ck)) ⟨⟨by decide, by decide⟩, ⟨by decide, by decide⟩, ?_⟩
  refine CallT.mono (h14.sums (o := 4) (n := 4) rfl (by decide)) ?_
  rintro _ w17 ⟨rfl, h17, f17, n17⟩
  refine ⟨_, _, rfl, ?_⟩
  have ht8 : (rs.take 8).length = 8 := by simp; omega
  have enm : ((({ d with tmp := rs.take 8 ++ d.tmp.drop 8 } : Dec).tmp.drop 4).take 4) = (rs.drop 4).take 4 := by
    show ((rs.take 8 ++ d.tmp.drop 8).drop 4).take 4 = _
    rw [List.drop_append_of_le_length (by omega), List.take_append_of_le_length (by simp; omega), List.drop_take, List.take_take]
    rfl
  have eln : be4 (rs.take 8 ++ d.tmp.drop 8) 0 = be4 rs 0 := by rw [be4_app (by omega), be4_take (by omega)]
  rw [enm] at h17
  have hnb := Dec.has _ h17.dec 4 4
  rw [enm] at hnb
  have hnl : ((rs.drop 4).take 4).length = 4 := by simp; omega
  have F17 : Fr [rb, kb, db] w w17 := (f1.mono (by simp)).trans ((f4.mono (by simp)).trans ((f9.mono (by simp)).trans ((f13.mono (by simp)).trans ((f14.mono (by simp)).trans (f17.mono (by simp))))))
  have hn17 : hn w17 = hn w := by omega
  dsimp only
  rw [eln]
  generalize be4 rs 0 = len at *
  generalize (rs.drop 4).take 4 = nm at *
  clear f1 f4 f9 f13 f14 f17 n1 n4 n9 n13 n14 n17 h h4 h9 h13 h14 hk13 eln enm
  -- the two endings
  have no : nextN d nm = .refuse → ∀ v, Refuse 125 v → R v w17 := by
    intro e v hv
    have := H w17 _ _ F17 hn17 h17
    rw [e] at this
    exact this rfl v hv
  have skip : nextN d nm ≠ .skip := by
    intro e
    have := H w17 _ _ F17 hn17 h17
    rw [e] at this
    exact this
  have st : ∀ (s : Int) (K : World → Prop), (∀ w', Fr [rb, kb, db] w w' → hn w' = hn w → Dst w' db rb kb p { d with tmp := rs.take 8 ++ d.tmp.drop 8, stage := s } (crcU 0 nm) (rs.drop 8) → K w') → StoreC w17 ⟨db, 0 + 8, none⟩ (.int .i64 s) K := by
    intro s K hK
    refine StoreC_at h17.dec (by rw [Dec.size, h17.htmp, h17.htr]; decide) fun w' h' f' n' => hK w' (F17.trans (f'.mono (by simp))) (by omega) ?_
    exact h17.upd (d' := { d with tmp := rs.take 8 ++ d.tmp.drop 8, stage := s }) f' (h'.trans (congrArg (Row 119) (Dec.set8 _ _))) rfl rfl h17.htmp h17.htr
  have go : ∀ (f : Nat) (s : Int), nextN d nm = .call f s → StoreC w17 ⟨db, 0 + 8, none⟩ (.int .i64 s) fun w' => CallT Pg f #[.pointer (some ⟨db, 0, none⟩), .int .u32 len] w' fun v w'' => Exists fun v' => And (v = v') (R v' w'') := by
    intro f s e
    refine st s _ fun w' f' n' h' => ?_
    have := H w' _ _ f' n' h'
    rw [e] at this
    exact CallT.mono (this rfl) fun v w'' hv => ⟨v, rfl, hv⟩
  refine JoinC_of (fun _ _ => False) (fun _ _ h => h.elim) ?_
  intro J hJ
  refine ⟨⟨by decide, by decide⟩, ⟨by decide, by decide⟩, B2S_of hnb hnl.symm ?_⟩
  rw [show strEq ⟨nm.toArray⟩ ⟨#[73, 72, 68, 82]⟩ = (nm == nIHDR) from strEq_eq _ nIHDR, show strEq ⟨nm.toArray⟩ ⟨#[80, 76, 84, 69]⟩ = (nm == nPLTE) from strEq_eq _ nPLTE, show strEq ⟨nm.toArray⟩ ⟨#[116, 82, 78, 83]⟩ = (nm == ntRNS) from strEq_eq _ ntRNS, show strEq ⟨nm.toArray⟩ ⟨#[73, 68, 65, 84]⟩ = (nm == nIDAT) from strEq_eq _ nIDAT, show strEq ⟨nm.toArray⟩ ⟨#[73, 69, 78, 68]⟩ = (nm == nIEND) from strEq_eq _ nIEND]
  refine IfC_bool (fun h1 => ?_) (fun h1 => ?_)
  · have e1 : nm = nIHDR := eq_of_beq h1
    refine LdI_at h17.dec (Dec.at8 _) (IfC_neI (fun h2 => ?_) (fun h2 => ?_))
    · exact no (by dsimp only at h2; unfold nextN; rw [if_pos e1, if_pos h2]) _ ⟨_, rfl⟩
    · exact go 75 1 (by dsimp only at h2; unfold nextN; rw [if_pos e1, if_neg (by simpa using h2)])
  have e1 : ¬ nm = nIHDR := by intro e; rw [e] at h1; exact absurd h1 (by decide)
  refine IfC_bool (fun h2 => ?_) (fun h2 => ?_)
  · have e2 : nm = nPLTE := eq_of_beq h2
    refine LdI_at h17.dec (Dec.at8 _) (IfC_neI (fun h3 => ?_) (fun h3 => ?_))
    · exact no (by dsimp only at h3; unfold nextN; rw [if_neg e1, if_pos e2, if_pos h3]) _ ⟨_, rfl⟩
    · exact go 76 2 (by dsimp only at h3; unfold nextN; rw [if_neg e1, if_pos e2, if_neg (by simpa using h3)])
  have e2 : ¬ nm = nPLTE := by intro e; rw [e] at h2; exact absurd h2 (by decide)
  refine IfC_bool (fun h3 => ?_) (fun h3 => ?_)
  · have e3 : nm = ntRNS := eq_of_beq h3
    refine LdI_at h17.dec (Dec.at7 _) (CallT.mono c61 ?_)
    rintro _ w58 ⟨rfl, rfl⟩
    refine ⟨_, rfl, ?_⟩
    dsimp only
    refine IfC_bool (fun hp => ?_) (fun hp => ?_)
    · have hp' : 7 ≤ d.cb ∧ d.cb ≤ 10 := by simpa using hp
      refine LdI_at h17.dec (Dec.at8 _) (IfC_neI (fun h4 => ?_) (fun h4 => ?_))
      · exact no (by dsimp only at h4; unfold nextN; rw [if_neg e1, if_neg e2, if_pos e3, if_pos hp', if_pos h4]) _ ⟨_, rfl⟩
      · exact go 78 3 (by dsimp only at h4; unfold nextN; rw [if_neg e1, if_neg e2, if_pos e3, if_pos hp', if_neg (by simpa using h4)])
    have hp' : ¬ (7 ≤ d.cb ∧ d.cb ≤ 10) := by simpa using hp
    refine LdI_at h17.dec (Dec.at7 _) (CallT.mono c77 ?_)
    rintro _ w67 ⟨rfl, rfl⟩
    refine ⟨_, rfl, ?_⟩
    dsimp only
    refine IfC_bool (fun ht => ?_) (fun ht => ?_)
    · have ht' : d.cb = 6 ∨ d.cb = 14 := by simpa using ht
      refine LdI_at h17.dec (Dec.at8 _) (IfC_neI (fun h4 => ?_) (fun h4 => ?_))
      · refine LdI_at h17.dec (Dec.at8 _) (IfC_neI (fun h5 => ?_) (fun h5 => ?_))
        · exact no (by dsimp only at h4 h5; unfold nextN; rw [if_neg e1, if_neg e2, if_pos e3, if_neg hp', if_pos ht', if_pos ⟨h4, h5⟩]) _ ⟨_, rfl⟩
        · exact go 78 3 (by dsimp only at h4 h5; unfold nextN; rw [if_neg e1, if_neg e2, if_pos e3, if_neg hp', if_pos ht', if_neg (by intro h; exact h.2 h5)])
      · exact go 78 3 (by dsimp only at h4; unfold nextN; rw [if_neg e1, if_neg e2, if_pos e3, if_neg hp', if_pos ht', if_neg (by intro h; exact h.1 h4)])
    have ht' : ¬ (d.cb = 6 ∨ d.cb = 14) := by simpa using ht
    refine LdI_at h17.dec (Dec.at8 _) (IfC_neI (fun h4 => ?_) (fun h4 => ?_))
    · exact no (by dsimp only at h4; unfold nextN; rw [if_neg e1, if_neg e2, if_pos e3, if_neg hp', if_neg ht', if_pos h4]) _ ⟨_, rfl⟩
    · exact go 78 3 (by dsimp only at h4; unfold nextN; rw [if_neg e1, if_neg e2, if_pos e3, if_neg hp', if_neg ht', if_neg (by simpa using h4)])
  have e3 : ¬ nm = ntRNS := by intro e; rw [e] at h3; exact absurd h3 (by decide)
  refine IfC_bool (fun h4 => ?_) (fun h4 => ?_)
  · have e4 : nm = nIDAT := eq_of_beq h4
    have eN : nextN d nm = (if d.stage < 1 ∨ 4 < d.stage then Next.refuse else if d.stage = 1 ∧ 7 ≤ d.cb ∧ d.cb ≤ 10 then .refuse else if d.stage = 4 then .skip else .idat) := by
      unfold nextN; rw [if_neg e1, if_neg e2, if_neg e3, if_pos e4]
    refine LdI_at h17.dec (Dec.at8 _) (IfC_dec (fun h5 => ?_) (fun h5 => ?_))
    · exact no (by dsimp only at h5; rw [eN, if_pos (Or.inl h5)]) _ ⟨_, rfl⟩
    refine LdI_at h17.dec (Dec.at8 _) (IfC_dec (fun h6 => ?_) (fun h6 => ?_))
    · exact no (by dsimp only at h6; rw [eN, if_pos (Or.inr h6)]) _ ⟨_, rfl⟩
    dsimp only at h5 h6
    rw [if_neg (by omega)] at eN
    have fin : ¬ (d.stage = 1 ∧ 7 ≤ d.cb ∧ d.cb ≤ 10) → LdI w17 ⟨db, 0 + 8, none⟩ .i64 fun n96 => IfC (n96 == (4 : Int)) (J () w17) (StoreC w17 ⟨db, 0 + 8, none⟩ (.int .i64 (4 : Int)) fun w97 => IfC b (R (.nilIface : Value) w97) (CallT Pg 79 #[.pointer (some ⟨db, 0, none⟩), .int .u32 len] w97 fun v98 w99 => Exists fun v100 => And (v98 = v100) (R v100 w99))) := by
      intro hno
      rw [if_neg hno] at eN
      refine LdI_at h17.dec (Dec.at8 _) (IfC_eqI (fun h7 => ?_) (fun h7 => ?_))
      · dsimp only at h7
        rw [if_pos h7] at eN
        exact absurd eN skip
      · dsimp only at h7
        rw [if_neg h7] at eN
        refine st 4 _ fun w' f' n' h' => ?_
        have := H w' _ _ f' n' h'
        rw [eN] at this
        have := this rfl
        cases b with
        | true => exact this
        | false => exact CallT.mono this fun v w'' hv => ⟨v, rfl, hv⟩
    refine LdI_at h17.dec (Dec.at8 _) (IfC_eqI (fun h7 => ?_) (fun h7 => ?_))
    · refine LdI_at h17.dec (Dec.at7 _) (CallT.mono c61 ?_)
      rintro _ w89 ⟨rfl, rfl⟩
      refine ⟨_, rfl, ?_⟩
      dsimp only at h7 ⊢
      refine IfC_bool (fun hp => ?_) (fun hp => ?_)
      · have hp' : 7 ≤ d.cb ∧ d.cb ≤ 10 := by simpa using hp
        exact no (by rw [eN, if_pos ⟨h7, hp'⟩]) _ ⟨_, rfl⟩
      · have hp' : ¬ (7 ≤ d.cb ∧ d.cb ≤ 10) := by simpa using hp
        exact fin fun h => hp' h.2
    · exact fin fun h => h7 h.1
  have e4 : ¬ nm = nIDAT := by intro e; rw [e] at h4; exact absurd h4 (by decide)
  refine IfC_bool (fun h5 => ?_) (fun h5 => ?_)
  · have e5 : nm = nIEND := eq_of_beq h5
    refine LdI_at h17.dec (Dec.at8 _) (IfC_neI (fun h6 => ?_) (fun h6 => ?_))
    · exact no (by dsimp only at h6; unfold nextN; rw [if_neg e1, if_neg e2, if_neg e3, if_neg e4, if_pos e5, if_pos h6]) _ ⟨_, rfl⟩
    · exact go 80 5 (by dsimp only at h6; unfold nextN; rw [if_neg e1, if_neg e2, if_neg e3, if_neg e4, if_pos e5, if_neg (by simpa using h6)])
  have e5 : ¬ nm = nIEND := by intro e; rw [e] at h5; exact absurd h5 (by decide)
  exact absurd (by unfold nextN; rw [if_neg e1, if_neg e2, if_neg e3, if_neg e4, if_neg e5]) skip
end
end Go.Proofs
