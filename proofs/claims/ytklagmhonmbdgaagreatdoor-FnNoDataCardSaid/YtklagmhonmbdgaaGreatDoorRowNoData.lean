/- The statement of the function laws.FnNoData, as it is given (FnNoDataCardSaid): a file without its packed bytes is malformed. -/
import Derived.Test.YtklagmhonmbdgaaGreatDoorLNoData
import Derived.Test.YtklagmhonmbdgaaGreatDoorRowDoor
import Derived.Test.YtklagmhonmbdgaaGreatDoorRowKit
import Derived.Test.YtklagmhonmbdgaaGreatDoorENoData
import Derived.Test.YtklagmhonmbdgaaGreatDoorRowFacts
import Derived.Test.YtklagmhonmbdgaaGreatDoorRowTie
namespace Go.Proofs.YtklagmhonmbdgaaGreatDoor
open Go Go.V Go.ChangeShapes Go.WideShapes Go.ChangeAt Go.RowKit

set_option maxRecDepth 100000
theorem fnNoData_named : Tryz.prog.funcNamed "loop.example/pub-g03440/laws.FnNoData" = some 12 := by kernel_rfl
theorem fnNoData_k5 : namedTie Tryz.prog Rows.fnNoDataRow.named Rows.fnNoDataSpec.vars = true := by kernel_rfl
theorem fnNoData_k10 : (Rows.fnNoDataRow.inPlace == Tryz.prog.inPlace 12) = true := by kernel_rfl
theorem fnNoData_k11 : (Rows.fnNoDataRow.unfollowed == Tryz.prog.unfollowed 12) = true := by kernel_rfl
theorem fnNoData_k12 : (Rows.fnNoDataRow.recurses == Tryz.prog.recurses 12) = true := by kernel_rfl
theorem fnNoData_k13 : (Rows.fnNoDataRow.named == Tryz.prog.varsNamed 12) = true := by kernel_rfl
theorem fnNoData_k18 : Rows.fnNoDataSpec.vars.all (Tryz.prog.varReadable ·) = true := by kernel_rfl
theorem fnNoData_k15 : (Rows.fnNoDataRow.ifaces == (Tryz.f12.params.toList ++ Rows.fnNoDataSpec.plain.varTypes Tryz.prog).any (Tryz.prog.ifacesRec ·)) = true := by kernel_rfl
theorem fnNoData_k28 : Rows.fnNoDataRow.veiledFits Tryz.prog Tryz.f12.params.toList (Tryz.f12.params.toList ++ Rows.fnNoDataSpec.plain.varTypes Tryz.prog ++ Tryz.f12.resultTypes.toList) = true := by kernel_rfl
theorem fnNoData_joined : joinedFacts Tryz.prog 12 Tryz.f12 Rows.fnNoDataSpec Rows.fnNoDataRow = true :=
  joined_of (by kernel_rfl) fLaid fRowed (by kernel_rfl) fnNoData_k5 (by kernel_rfl) fStops (by kernel_rfl) fKnobs fnNoData_k10 fnNoData_k11 fnNoData_k12 fnNoData_k13 (by kernel_rfl) fnNoData_k15 (by kernel_rfl) (by kernel_rfl) (by kernel_rfl) fnNoData_k18
    (by kernel_rfl) (by kernel_rfl) (by kernel_rfl) (by rw [fKeys]; rfl) (by kernel_rfl) fHeard mayEnterT (by rw [liftsFinalT]; rfl) (by rw [makeT]; rfl) (by kernel_rfl) (by kernel_rfl) (by kernel_rfl) (by kernel_rfl) fnNoData_k28
theorem fnNoData_wf : Rows.fnNoDataRow.wfByText (OpenSpec.ofChange Rows.fnNoDataSpec) = true := by kernel_rfl
theorem fnNoData_goes : false = Rows.fnNoDataRow.goesBy Tryz.prog := by kernel_rfl
theorem fnNoData_inst : Tryz.f12.isInstance Tryz.prog Rows.fnNoDataRow.origin Rows.fnNoDataRow.targs := of_decide_eq_true (by kernel_rfl)
theorem fnNoData_wrap : Tryz.f12.isWrapper Tryz.prog Rows.fnNoDataRow.wrapper Rows.fnNoDataRow.mainSum := by
  unfold Func.isWrapper
  rw [if_neg (of_decide_eq_false (by kernel_rfl))]
  exact ⟨rfl, rfl⟩
set_option maxRecDepth 100000 in
theorem fnNoData_lifted (os : Os) (started : os.Started) (H : Type) (enc : TypeId × Value → H) :
    ReturnsInHanded {} Tryz.checked os 12 .any (fun w args => (Rows.fnNoDataSpec.pre enc Tryz.prog Tryz.f12 [] false w args ∧ laidMetH Tryz.prog laidL w) ∧ sizedMet enc Tryz.prog Tryz.f12 (OpenSpec.ofChange Rows.fnNoDataSpec) false w args)
      (Rows.fnNoDataSpec.post enc Tryz.prog Tryz.f12 false true false false) := by
  refine returnsInHanded_of_change_and (C := Tryz.checked) (X := fun w _ => laidMetH Tryz.prog laidL w) (fun _ _ _ hh h => h.of_heap hh) own started (by kernel_rfl) Tryz.func12
    (ChangeSpec.witness_shaped (enc := enc) (C := Tryz.checked) (os := os) (X := fun w _ => laidMetH Tryz.prog laidL w) false (World.doorLaid Tryz.prog 205 os) #[.int .u32 0, .slice none 0 0] 8 rfl (World.shaped_of_RefB (by kernel_rfl) (by kernel_rfl)) (by kernel_rfl) (by kernel_rfl) (by kernel_rfl) (door_met os _)) ?_
  intro W base args ds gs before hval0 hW _ _ hL _
  have hval : ∀ (j : Nat) t v, Tryz.f12.params[j]? = some t → args[j]? = some v → Value.okWide Tryz.prog W .any base t v := hval0
  have hW' := hW
  obtain ⟨p, q, hA0, hV, rfl, hfz, hnd⟩ := hW
  have hA : DataW.TrodAll enc Tryz.prog W 0 (fun _ => true) true Tryz.f12.params.toList args.toList ds p := hA0
  rw [Tryz.params12] at hA hval
  obtain ⟨v0, v1, d0, d1, p0, p1, rfl, rfl, rfl, h0, h1⟩ := trodAll_two hA
  obtain ⟨a1, len1, cap1, rfl⟩ := okWide_slice Tryz.underlying23 (hval 1 23 v1 rfl rfl)
  have k1 := h1
  have lt1 : ∀ x ∈ p1, x.block < W.heap.size := by obtain ⟨m, hm⟩ := k1; exact DataW.trod_lt m _ _ _ hm
  obtain ⟨n0, rfl, rfl, rfl, w0⟩ := open_int Tryz.underlying22 (hval 0 22 v0 rfl rfl) h0
  obtain ⟨ss, hls, hss⟩ := samples_of h1
  have b0 := bounds_u32 w0
  obtain ⟨m0, rfl⟩ := Int.eq_ofNat_of_zero_le b0.1
  obtain ⟨E0, hV0⟩ := env_of_laid hL
  have hgl := varsLen hV
  obtain ⟨g1, g2, g3, g4, g5, rfl⟩ : ∃ g1 g2 g3 g4 g5, gs = [g1, g2, g3, g4, g5] := by
    rcases gs with _ | ⟨g1, _ | ⟨g2, _ | ⟨g3, _ | ⟨g4, _ | ⟨g5, _ | ⟨g6, r⟩⟩⟩⟩⟩⟩ <;> simp [Rows.fnNoDataSpec] at hgl
    exact ⟨_, _, _, _, _, rfl⟩
  clear hA0 hval0
  refine Calls.mono (c12 (n := m0) (by omega) hss hls hV0) fun e W' hE => ?_
  obtain ⟨v, rfl, rfl, hfr⟩ := hE
  have bel := below_of_fr hfr
  exact ⟨_, rfl, _, _, _, [], _, q, hW', trodAll_mk1 (shut_bool Tryz.underlying4 _), (trodAll_cons_mk (shut_int Tryz.underlying22 w0) (trodAll_cons_mk (Below.trod laidOut (by kernel_rfl) (of_decide_eq_true (by kernel_rfl)) k1 bel lt1) trodAll_mk0)), Below.trodVars laidOut bel (by kernel_rfl) hV, bel.frame _, fun h => by cases h⟩
theorem fnNoData_holds : Rows.FnNoDataSaid :=
  OpenClaim.holds_of_wide 12 Tryz.f12 rfl rfl rfl rfl rfl rfl rfl ⟨rfl, rfl, rfl, rfl, rfl⟩ rfl rfl rfl rfl rfl fnNoData_named Tryz.func12 fnNoData_joined fnNoData_inst fnNoData_wrap
    (fun os started H enc _ => fnNoData_lifted os started H enc)
theorem fnNoData_tie : Rows.fnNoDataRow.laidByTextAt .later Tryz.pinned [.handle, .sentinel, .sentinel, .sentinel, .sentinel, .data, .sentinel, .sentinel, .data, .data] true :=
  OpenClaim.laidByTextAt_later rfl rfl rowsTie noUnsafeT
theorem fnNoData_plain (j : Nat) (t : TypeId) (ht : Tryz.f12.params[j]? = some t) : Tryz.prog.wantsStandIn t = false := by
  rw [Tryz.params12] at ht
  have hm : t ∈ [22, 23] := by simpa using Array.mem_of_getElem? ht
  have hall : ([22, 23].all fun u => !Tryz.prog.wantsStandIn u) = true := by kernel_rfl
  exact (show Tryz.prog.wantsStandIn t = false by simpa using List.all_eq_true.1 hall t hm)
/-- laws.FnNoData, as it is given. -/
theorem fnNoData_card_holds : Rows.FnNoDataCardSaid :=
  Claim7.holds_tied_plain_at .later [] [.handle, .sentinel, .sentinel, .sentinel, .sentinel, .data, .sentinel, .sentinel, .data, .data] true (true, "09ae77e30f36cd5f4e62352753e7cdaf3fcb38f1a84f2c91d9d740edf3cddeba") true
    fnNoData_holds (fun _ h => by cases h) fnNoData_wf (fun _ h => by cases h) fnNoData_tie rfl ⟨rfl, rfl⟩ isMain rfl
    (fun f fn hf hfn => by
      obtain rfl : f = 12 := Option.some.inj (fnNoData_named.symm.trans hf) |>.symm
      obtain rfl : fn = Tryz.f12 := (Option.some.inj (Tryz.func12.symm.trans hfn)).symm
      exact ⟨fLooks.symm, fnNoData_plain⟩)
    fnNoData_goes

end Go.Proofs.YtklagmhonmbdgaaGreatDoor
#print axioms Go.Proofs.YtklagmhonmbdgaaGreatDoor.fnNoData_card_holds
