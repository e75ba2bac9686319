/- The statement of the function laws.FnTwoHeads, as it is given (FnTwoHeadsCardSaid): a file with its head twice is malformed, wherever the other one stands. -/
import Derived.Test.YtklagmhonmbdgaaGreatDoorLTwoHeads
import Derived.Test.YtklagmhonmbdgaaGreatDoorRowDoor
import Derived.Test.YtklagmhonmbdgaaGreatDoorRowKit
import Derived.Test.YtklagmhonmbdgaaGreatDoorETwoHeads
import Derived.Test.YtklagmhonmbdgaaGreatDoorRowFacts
import Derived.Test.YtklagmhonmbdgaaGreatDoorRowTie
namespace Go.Proofs.YtklagmhonmbdgaaGreatDoor
open Go Go.V Go.ChangeShapes Go.WideShapes Go.ChangeAt Go.RowKit

set_option maxRecDepth 100000
theorem fnTwoHeads_named : Tryz.prog.funcNamed "loop.example/pub-g03440/laws.FnTwoHeads" = some 19 := by kernel_rfl
theorem fnTwoHeads_k5 : namedTie Tryz.prog Rows.fnTwoHeadsRow.named Rows.fnTwoHeadsSpec.vars = true := by kernel_rfl
theorem fnTwoHeads_k10 : (Rows.fnTwoHeadsRow.inPlace == Tryz.prog.inPlace 19) = true := by kernel_rfl
theorem fnTwoHeads_k11 : (Rows.fnTwoHeadsRow.unfollowed == Tryz.prog.unfollowed 19) = true := by kernel_rfl
theorem fnTwoHeads_k12 : (Rows.fnTwoHeadsRow.recurses == Tryz.prog.recurses 19) = true := by kernel_rfl
theorem fnTwoHeads_k13 : (Rows.fnTwoHeadsRow.named == Tryz.prog.varsNamed 19) = true := by kernel_rfl
theorem fnTwoHeads_k18 : Rows.fnTwoHeadsSpec.vars.all (Tryz.prog.varReadable ·) = true := by kernel_rfl
theorem fnTwoHeads_k15 : (Rows.fnTwoHeadsRow.ifaces == (Tryz.f19.params.toList ++ Rows.fnTwoHeadsSpec.plain.varTypes Tryz.prog).any (Tryz.prog.ifacesRec ·)) = true := by kernel_rfl
theorem fnTwoHeads_k28 : Rows.fnTwoHeadsRow.veiledFits Tryz.prog Tryz.f19.params.toList (Tryz.f19.params.toList ++ Rows.fnTwoHeadsSpec.plain.varTypes Tryz.prog ++ Tryz.f19.resultTypes.toList) = true := by kernel_rfl
theorem fnTwoHeads_joined : joinedFacts Tryz.prog 19 Tryz.f19 Rows.fnTwoHeadsSpec Rows.fnTwoHeadsRow = true :=
  joined_of (by kernel_rfl) fLaid fRowed (by kernel_rfl) fnTwoHeads_k5 (by kernel_rfl) fStops (by kernel_rfl) fKnobs fnTwoHeads_k10 fnTwoHeads_k11 fnTwoHeads_k12 fnTwoHeads_k13 (by kernel_rfl) fnTwoHeads_k15 (by kernel_rfl) (by kernel_rfl) (by kernel_rfl) fnTwoHeads_k18
    (by kernel_rfl) (by kernel_rfl) (by kernel_rfl) (by rw [fKeys]; rfl) (by kernel_rfl) fHeard mayEnterT (by rw [liftsFinalT]; rfl) (by rw [makeT]; rfl) (by kernel_rfl) (by kernel_rfl) (by kernel_rfl) (by kernel_rfl) fnTwoHeads_k28
theorem fnTwoHeads_wf : Rows.fnTwoHeadsRow.wfByText (OpenSpec.ofChange Rows.fnTwoHeadsSpec) = true := by kernel_rfl
theorem fnTwoHeads_goes : false = Rows.fnTwoHeadsRow.goesBy Tryz.prog := by kernel_rfl
theorem fnTwoHeads_inst : Tryz.f19.isInstance Tryz.prog Rows.fnTwoHeadsRow.origin Rows.fnTwoHeadsRow.targs := of_decide_eq_true (by kernel_rfl)
theorem fnTwoHeads_wrap : Tryz.f19.isWrapper Tryz.prog Rows.fnTwoHeadsRow.wrapper Rows.fnTwoHeadsRow.mainSum := by
  unfold Func.isWrapper
  rw [if_neg (of_decide_eq_false (by kernel_rfl))]
  exact ⟨rfl, rfl⟩
set_option maxRecDepth 100000 in
theorem fnTwoHeads_lifted (os : Os) (started : os.Started) (H : Type) (enc : TypeId × Value → H) :
    ReturnsInHanded {} Tryz.checked os 19 .any (fun w args => (Rows.fnTwoHeadsSpec.pre enc Tryz.prog Tryz.f19 [] false w args ∧ laidMetH Tryz.prog laidL w) ∧ sizedMet enc Tryz.prog Tryz.f19 (OpenSpec.ofChange Rows.fnTwoHeadsSpec) false w args)
      (Rows.fnTwoHeadsSpec.post enc Tryz.prog Tryz.f19 false true false false) := by
  refine returnsInHanded_of_change_and (C := Tryz.checked) (X := fun w _ => laidMetH Tryz.prog laidL w) (fun _ _ _ hh h => h.of_heap hh) own started (by kernel_rfl) Tryz.func19
    (ChangeSpec.witness_shaped (enc := enc) (C := Tryz.checked) (os := os) (X := fun w _ => laidMetH Tryz.prog laidL w) false (World.doorLaid Tryz.prog 205 os) #[.int .u32 0, .slice none 0 0, .int .u8 0] 8 rfl (World.shaped_of_RefB (by kernel_rfl) (by kernel_rfl)) (by kernel_rfl) (by kernel_rfl) (by kernel_rfl) (door_met os _)) ?_
  intro W base args ds gs before hval0 hW _ _ hL _
  have hval : ∀ (j : Nat) t v, Tryz.f19.params[j]? = some t → args[j]? = some v → Value.okWide Tryz.prog W .any base t v := hval0
  have hW' := hW
  obtain ⟨p, q, hA0, hV, rfl, hfz, hnd⟩ := hW
  have hA : DataW.TrodAll enc Tryz.prog W 0 (fun _ => true) true Tryz.f19.params.toList args.toList ds p := hA0
  rw [Tryz.params19] at hA hval
  obtain ⟨v0, v1, v2, d0, d1, d2, p0, p1, p2, rfl, rfl, rfl, h0, h1, h2⟩ := trodAll_three hA
  obtain ⟨a1, len1, cap1, rfl⟩ := okWide_slice Tryz.underlying23 (hval 1 23 v1 rfl rfl)
  have k1 := h1
  have lt1 : ∀ x ∈ p1, x.block < W.heap.size := by obtain ⟨m, hm⟩ := k1; exact DataW.trod_lt m _ _ _ hm
  obtain ⟨n0, rfl, rfl, rfl, w0⟩ := open_int Tryz.underlying22 (hval 0 22 v0 rfl rfl) h0
  obtain ⟨n2, rfl, rfl, rfl, w2⟩ := open_int Tryz.underlying5 (hval 2 5 v2 rfl rfl) h2
  obtain ⟨ss, hls, hss⟩ := samples_of h1
  have b0 := bounds_u32 w0
  obtain ⟨m0, rfl⟩ := Int.eq_ofNat_of_zero_le b0.1
  have b2 := bounds_u8 w2
  obtain ⟨m2, rfl⟩ := Int.eq_ofNat_of_zero_le b2.1
  obtain ⟨E0, hV0⟩ := env_of_laid hL
  have hgl := varsLen hV
  obtain ⟨g1, g2, g3, g4, g5, rfl⟩ : ∃ g1 g2 g3 g4 g5, gs = [g1, g2, g3, g4, g5] := by
    rcases gs with _ | ⟨g1, _ | ⟨g2, _ | ⟨g3, _ | ⟨g4, _ | ⟨g5, _ | ⟨g6, r⟩⟩⟩⟩⟩⟩ <;> simp [Rows.fnTwoHeadsSpec] at hgl
    exact ⟨_, _, _, _, _, rfl⟩
  clear hA0 hval0
  refine Calls.mono (c19 (n := m0) (m := m2) (by omega) (by omega) hss hls hV0) fun e W' hE => ?_
  obtain ⟨v, rfl, rfl, hfr⟩ := hE
  have bel := below_of_fr hfr
  exact ⟨_, rfl, _, _, _, [], _, q, hW', trodAll_mk1 (shut_bool Tryz.underlying4 _), (trodAll_cons_mk (shut_int Tryz.underlying22 w0) (trodAll_cons_mk (Below.trod laidOut (by kernel_rfl) (of_decide_eq_true (by kernel_rfl)) k1 bel lt1) (trodAll_cons_mk (shut_int Tryz.underlying5 w2) trodAll_mk0))), Below.trodVars laidOut bel (by kernel_rfl) hV, bel.frame _, fun h => by cases h⟩
theorem fnTwoHeads_holds : Rows.FnTwoHeadsSaid :=
  OpenClaim.holds_of_wide 19 Tryz.f19 rfl rfl rfl rfl rfl rfl rfl ⟨rfl, rfl, rfl, rfl, rfl⟩ rfl rfl rfl rfl rfl fnTwoHeads_named Tryz.func19 fnTwoHeads_joined fnTwoHeads_inst fnTwoHeads_wrap
    (fun os started H enc _ => fnTwoHeads_lifted os started H enc)
theorem fnTwoHeads_tie : Rows.fnTwoHeadsRow.laidByTextAt .later Tryz.pinned [.handle, .sentinel, .sentinel, .sentinel, .sentinel, .data, .sentinel, .sentinel, .data, .data] true :=
  OpenClaim.laidByTextAt_later rfl rfl rowsTie noUnsafeT
theorem fnTwoHeads_plain (j : Nat) (t : TypeId) (ht : Tryz.f19.params[j]? = some t) : Tryz.prog.wantsStandIn t = false := by
  rw [Tryz.params19] at ht
  have hm : t ∈ [22, 23, 5] := by simpa using Array.mem_of_getElem? ht
  have hall : ([22, 23, 5].all fun u => !Tryz.prog.wantsStandIn u) = true := by kernel_rfl
  exact (show Tryz.prog.wantsStandIn t = false by simpa using List.all_eq_true.1 hall t hm)
/-- laws.FnTwoHeads, as it is given. -/
theorem fnTwoHeads_card_holds : Rows.FnTwoHeadsCardSaid :=
  Claim7.holds_tied_plain_at .later [] [.handle, .sentinel, .sentinel, .sentinel, .sentinel, .data, .sentinel, .sentinel, .data, .data] true (true, "09ae77e30f36cd5f4e62352753e7cdaf3fcb38f1a84f2c91d9d740edf3cddeba") true
    fnTwoHeads_holds (fun _ h => by cases h) fnTwoHeads_wf (fun _ h => by cases h) fnTwoHeads_tie rfl ⟨rfl, rfl⟩ isMain rfl
    (fun f fn hf hfn => by
      obtain rfl : f = 19 := Option.some.inj (fnTwoHeads_named.symm.trans hf) |>.symm
      obtain rfl : fn = Tryz.f19 := (Option.some.inj (Tryz.func19.symm.trans hfn)).symm
      exact ⟨fLooks.symm, fnTwoHeads_plain⟩)
    fnTwoHeads_goes

end Go.Proofs.YtklagmhonmbdgaaGreatDoor
#print axioms Go.Proofs.YtklagmhonmbdgaaGreatDoor.fnTwoHeads_card_holds
