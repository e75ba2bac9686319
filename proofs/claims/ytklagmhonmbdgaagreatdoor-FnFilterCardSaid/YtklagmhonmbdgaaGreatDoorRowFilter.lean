/- The statement of the function laws.FnFilter, as it is given (FnFilterCardSaid): a row with a filter that there is not is malformed. -/
import Derived.Test.YtklagmhonmbdgaaGreatDoorLFilter
import Derived.Test.YtklagmhonmbdgaaGreatDoorRowDoor
import Derived.Test.YtklagmhonmbdgaaGreatDoorRowKit
import Derived.Test.YtklagmhonmbdgaaGreatDoorEFilter
import Derived.Test.YtklagmhonmbdgaaGreatDoorRowFacts
import Derived.Test.YtklagmhonmbdgaaGreatDoorRowTie
namespace Go.Proofs.YtklagmhonmbdgaaGreatDoor
open Go Go.V Go.ChangeShapes Go.WideShapes Go.ChangeAt Go.RowKit

set_option maxRecDepth 100000
theorem fnFilter_named : Tryz.prog.funcNamed "loop.example/pub-g03440/laws.FnFilter" = some 8 := by kernel_rfl
theorem fnFilter_k5 : namedTie Tryz.prog Rows.fnFilterRow.named Rows.fnFilterSpec.vars = true := by kernel_rfl
theorem fnFilter_k10 : (Rows.fnFilterRow.inPlace == Tryz.prog.inPlace 8) = true := by kernel_rfl
theorem fnFilter_k11 : (Rows.fnFilterRow.unfollowed == Tryz.prog.unfollowed 8) = true := by kernel_rfl
theorem fnFilter_k12 : (Rows.fnFilterRow.recurses == Tryz.prog.recurses 8) = true := by kernel_rfl
theorem fnFilter_k13 : (Rows.fnFilterRow.named == Tryz.prog.varsNamed 8) = true := by kernel_rfl
theorem fnFilter_k18 : Rows.fnFilterSpec.vars.all (Tryz.prog.varReadable ·) = true := by kernel_rfl
theorem fnFilter_k15 : (Rows.fnFilterRow.ifaces == (Tryz.f8.params.toList ++ Rows.fnFilterSpec.plain.varTypes Tryz.prog).any (Tryz.prog.ifacesRec ·)) = true := by kernel_rfl
theorem fnFilter_k28 : Rows.fnFilterRow.veiledFits Tryz.prog Tryz.f8.params.toList (Tryz.f8.params.toList ++ Rows.fnFilterSpec.plain.varTypes Tryz.prog ++ Tryz.f8.resultTypes.toList) = true := by kernel_rfl
theorem fnFilter_joined : joinedFacts Tryz.prog 8 Tryz.f8 Rows.fnFilterSpec Rows.fnFilterRow = true :=
  joined_of (by kernel_rfl) fLaid fRowed (by kernel_rfl) fnFilter_k5 (by kernel_rfl) fStops (by kernel_rfl) fKnobs fnFilter_k10 fnFilter_k11 fnFilter_k12 fnFilter_k13 (by kernel_rfl) fnFilter_k15 (by kernel_rfl) (by kernel_rfl) (by kernel_rfl) fnFilter_k18
    (by kernel_rfl) (by kernel_rfl) (by kernel_rfl) (by rw [fKeys]; rfl) (by kernel_rfl) fHeard mayEnterT (by rw [liftsFinalT]; rfl) (by rw [makeT]; rfl) (by kernel_rfl) (by kernel_rfl) (by kernel_rfl) (by kernel_rfl) fnFilter_k28
theorem fnFilter_wf : Rows.fnFilterRow.wfByText (OpenSpec.ofChange Rows.fnFilterSpec) = true := by kernel_rfl
theorem fnFilter_goes : false = Rows.fnFilterRow.goesBy Tryz.prog := by kernel_rfl
theorem fnFilter_inst : Tryz.f8.isInstance Tryz.prog Rows.fnFilterRow.origin Rows.fnFilterRow.targs := of_decide_eq_true (by kernel_rfl)
theorem fnFilter_wrap : Tryz.f8.isWrapper Tryz.prog Rows.fnFilterRow.wrapper Rows.fnFilterRow.mainSum := by
  unfold Func.isWrapper
  rw [if_neg (of_decide_eq_false (by kernel_rfl))]
  exact ⟨rfl, rfl⟩
set_option maxRecDepth 100000 in
theorem fnFilter_lifted (os : Os) (started : os.Started) (H : Type) (enc : TypeId × Value → H) :
    ReturnsInHanded {} Tryz.checked os 8 .any (fun w args => (Rows.fnFilterSpec.pre enc Tryz.prog Tryz.f8 [] false w args ∧ laidMetH Tryz.prog laidL w) ∧ sizedMet enc Tryz.prog Tryz.f8 (OpenSpec.ofChange Rows.fnFilterSpec) false w args)
      (Rows.fnFilterSpec.post enc Tryz.prog Tryz.f8 false true false false) := by
  refine returnsInHanded_of_change_and (C := Tryz.checked) (X := fun w _ => laidMetH Tryz.prog laidL w) (fun _ _ _ hh h => h.of_heap hh) own started (by kernel_rfl) Tryz.func8
    (ChangeSpec.witness_shaped (enc := enc) (C := Tryz.checked) (os := os) (X := fun w _ => laidMetH Tryz.prog laidL w) false (World.doorLaid Tryz.prog 205 os) #[.int .u32 0, .slice none 0 0, .int .u8 0, .int .u8 0] 8 rfl (World.shaped_of_RefB (by kernel_rfl) (by kernel_rfl)) (by kernel_rfl) (by kernel_rfl) (by kernel_rfl) (door_met os _)) ?_
  intro W base args ds gs before hval0 hW _ _ hL _
  have hval : ∀ (j : Nat) t v, Tryz.f8.params[j]? = some t → args[j]? = some v → Value.okWide Tryz.prog W .any base t v := hval0
  have hW' := hW
  obtain ⟨p, q, hA0, hV, rfl, hfz, hnd⟩ := hW
  have hA : DataW.TrodAll enc Tryz.prog W 0 (fun _ => true) true Tryz.f8.params.toList args.toList ds p := hA0
  rw [Tryz.params8] at hA hval
  obtain ⟨v0, v1, v2, v3, d0, d1, d2, d3, p0, p1, p2, p3, rfl, rfl, rfl, h0, h1, h2, h3⟩ := trodAll_four hA
  obtain ⟨a1, len1, cap1, rfl⟩ := okWide_slice Tryz.underlying23 (hval 1 23 v1 rfl rfl)
  have k1 := h1
  have lt1 : ∀ x ∈ p1, x.block < W.heap.size := by obtain ⟨m, hm⟩ := k1; exact DataW.trod_lt m _ _ _ hm
  obtain ⟨n0, rfl, rfl, rfl, w0⟩ := open_int Tryz.underlying22 (hval 0 22 v0 rfl rfl) h0
  obtain ⟨n2, rfl, rfl, rfl, w2⟩ := open_int Tryz.underlying5 (hval 2 5 v2 rfl rfl) h2
  obtain ⟨n3, rfl, rfl, rfl, w3⟩ := open_int Tryz.underlying5 (hval 3 5 v3 rfl rfl) h3
  obtain ⟨ss, hls, hss⟩ := samples_of h1
  have b0 := bounds_u32 w0
  obtain ⟨m0, rfl⟩ := Int.eq_ofNat_of_zero_le b0.1
  have b2 := bounds_u8 w2
  obtain ⟨m2, rfl⟩ := Int.eq_ofNat_of_zero_le b2.1
  have b3 := bounds_u8 w3
  obtain ⟨m3, rfl⟩ := Int.eq_ofNat_of_zero_le b3.1
  obtain ⟨E0, hV0⟩ := env_of_laid hL
  have hgl := varsLen hV
  obtain ⟨g1, g2, g3, g4, g5, rfl⟩ : ∃ g1 g2 g3 g4 g5, gs = [g1, g2, g3, g4, g5] := by
    rcases gs with _ | ⟨g1, _ | ⟨g2, _ | ⟨g3, _ | ⟨g4, _ | ⟨g5, _ | ⟨g6, r⟩⟩⟩⟩⟩⟩ <;> simp [Rows.fnFilterSpec] at hgl
    exact ⟨_, _, _, _, _, rfl⟩
  clear hA0 hval0
  refine Calls.mono (c8 (n := m0) (m := m2) (y := m3) (by omega) (by omega) (by omega) hss hls hV0) fun e W' hE => ?_
  obtain ⟨v, rfl, rfl, hfr⟩ := hE
  have bel := below_of_fr hfr
  exact ⟨_, rfl, _, _, _, [], _, q, hW', trodAll_mk1 (shut_bool Tryz.underlying4 _), (trodAll_cons_mk (shut_int Tryz.underlying22 w0) (trodAll_cons_mk (Below.trod laidOut (by kernel_rfl) (of_decide_eq_true (by kernel_rfl)) k1 bel lt1) (trodAll_cons_mk (shut_int Tryz.underlying5 w2) (trodAll_cons_mk (shut_int Tryz.underlying5 w3) trodAll_mk0)))), Below.trodVars laidOut bel (by kernel_rfl) hV, bel.frame _, fun h => by cases h⟩
theorem fnFilter_holds : Rows.FnFilterSaid :=
  OpenClaim.holds_of_wide 8 Tryz.f8 rfl rfl rfl rfl rfl rfl rfl ⟨rfl, rfl, rfl, rfl, rfl⟩ rfl rfl rfl rfl rfl fnFilter_named Tryz.func8 fnFilter_joined fnFilter_inst fnFilter_wrap
    (fun os started H enc _ => fnFilter_lifted os started H enc)
theorem fnFilter_tie : Rows.fnFilterRow.laidByTextAt .later Tryz.pinned [.handle, .sentinel, .sentinel, .sentinel, .sentinel, .data, .sentinel, .sentinel, .data, .data] true :=
  OpenClaim.laidByTextAt_later rfl rfl rowsTie noUnsafeT
theorem fnFilter_plain (j : Nat) (t : TypeId) (ht : Tryz.f8.params[j]? = some t) : Tryz.prog.wantsStandIn t = false := by
  rw [Tryz.params8] at ht
  have hm : t ∈ [22, 23, 5, 5] := by simpa using Array.mem_of_getElem? ht
  have hall : ([22, 23, 5, 5].all fun u => !Tryz.prog.wantsStandIn u) = true := by kernel_rfl
  exact (show Tryz.prog.wantsStandIn t = false by simpa using List.all_eq_true.1 hall t hm)
/-- laws.FnFilter, as it is given. -/
theorem fnFilter_card_holds : Rows.FnFilterCardSaid :=
  Claim7.holds_tied_plain_at .later [] [.handle, .sentinel, .sentinel, .sentinel, .sentinel, .data, .sentinel, .sentinel, .data, .data] true (true, "09ae77e30f36cd5f4e62352753e7cdaf3fcb38f1a84f2c91d9d740edf3cddeba") true
    fnFilter_holds (fun _ h => by cases h) fnFilter_wf (fun _ h => by cases h) fnFilter_tie rfl ⟨rfl, rfl⟩ isMain rfl
    (fun f fn hf hfn => by
      obtain rfl : f = 8 := Option.some.inj (fnFilter_named.symm.trans hf) |>.symm
      obtain rfl : fn = Tryz.f8 := (Option.some.inj (Tryz.func8.symm.trans hfn)).symm
      exact ⟨fLooks.symm, fnFilter_plain⟩)
    fnFilter_goes

end Go.Proofs.YtklagmhonmbdgaaGreatDoor
#print axioms Go.Proofs.YtklagmhonmbdgaaGreatDoor.fnFilter_card_holds
