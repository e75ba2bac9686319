/- The statement of the function laws.FnCut, as it is given (FnCutCardSaid): a file that is cut is refused as told. -/
import Derived.Test.YtklagmhonmbdgaaGreatDoorLCut
import Derived.Test.YtklagmhonmbdgaaGreatDoorRowDoor
import Derived.Test.YtklagmhonmbdgaaGreatDoorRowKit
import Derived.Test.YtklagmhonmbdgaaGreatDoorECut
import Derived.Test.YtklagmhonmbdgaaGreatDoorRowFacts
import Derived.Test.YtklagmhonmbdgaaGreatDoorRowTie
namespace Go.Proofs.YtklagmhonmbdgaaGreatDoor
open Go Go.V Go.ChangeShapes Go.WideShapes Go.ChangeAt Go.RowKit

set_option maxRecDepth 100000
theorem fnCut_named : Tryz.prog.funcNamed "loop.example/pub-g03440/laws.FnCut" = some 7 := by kernel_rfl
theorem fnCut_k5 : namedTie Tryz.prog Rows.fnCutRow.named Rows.fnCutSpec.vars = true := by kernel_rfl
theorem fnCut_k10 : (Rows.fnCutRow.inPlace == Tryz.prog.inPlace 7) = true := by kernel_rfl
theorem fnCut_k11 : (Rows.fnCutRow.unfollowed == Tryz.prog.unfollowed 7) = true := by kernel_rfl
theorem fnCut_k12 : (Rows.fnCutRow.recurses == Tryz.prog.recurses 7) = true := by kernel_rfl
theorem fnCut_k13 : (Rows.fnCutRow.named == Tryz.prog.varsNamed 7) = true := by kernel_rfl
theorem fnCut_k18 : Rows.fnCutSpec.vars.all (Tryz.prog.varReadable ·) = true := by kernel_rfl
theorem fnCut_k15 : (Rows.fnCutRow.ifaces == (Tryz.f7.params.toList ++ Rows.fnCutSpec.plain.varTypes Tryz.prog).any (Tryz.prog.ifacesRec ·)) = true := by kernel_rfl
theorem fnCut_k28 : Rows.fnCutRow.veiledFits Tryz.prog Tryz.f7.params.toList (Tryz.f7.params.toList ++ Rows.fnCutSpec.plain.varTypes Tryz.prog ++ Tryz.f7.resultTypes.toList) = true := by kernel_rfl
theorem fnCut_joined : joinedFacts Tryz.prog 7 Tryz.f7 Rows.fnCutSpec Rows.fnCutRow = true :=
  joined_of (by kernel_rfl) fLaid fRowed (by kernel_rfl) fnCut_k5 (by kernel_rfl) fStops (by kernel_rfl) fKnobs fnCut_k10 fnCut_k11 fnCut_k12 fnCut_k13 (by kernel_rfl) fnCut_k15 (by kernel_rfl) (by kernel_rfl) (by kernel_rfl) fnCut_k18
    (by kernel_rfl) (by kernel_rfl) (by kernel_rfl) (by rw [fKeys]; rfl) (by kernel_rfl) fHeard mayEnterT (by rw [liftsFinalT]; rfl) (by rw [makeT]; rfl) (by kernel_rfl) (by kernel_rfl) (by kernel_rfl) (by kernel_rfl) fnCut_k28
theorem fnCut_wf : Rows.fnCutRow.wfByText (OpenSpec.ofChange Rows.fnCutSpec) = true := by kernel_rfl
theorem fnCut_goes : false = Rows.fnCutRow.goesBy Tryz.prog := by kernel_rfl
theorem fnCut_inst : Tryz.f7.isInstance Tryz.prog Rows.fnCutRow.origin Rows.fnCutRow.targs := of_decide_eq_true (by kernel_rfl)
theorem fnCut_wrap : Tryz.f7.isWrapper Tryz.prog Rows.fnCutRow.wrapper Rows.fnCutRow.mainSum := by
  unfold Func.isWrapper
  rw [if_neg (of_decide_eq_false (by kernel_rfl))]
  exact ⟨rfl, rfl⟩
set_option maxRecDepth 100000 in
theorem fnCut_lifted (os : Os) (started : os.Started) (H : Type) (enc : TypeId × Value → H) :
    ReturnsInHanded {} Tryz.checked os 7 .any (fun w args => (Rows.fnCutSpec.pre enc Tryz.prog Tryz.f7 [] false w args ∧ laidMetH Tryz.prog laidL w) ∧ sizedMet enc Tryz.prog Tryz.f7 (OpenSpec.ofChange Rows.fnCutSpec) false w args)
      (Rows.fnCutSpec.post enc Tryz.prog Tryz.f7 false true false false) := by
  refine returnsInHanded_of_change_and (C := Tryz.checked) (X := fun w _ => laidMetH Tryz.prog laidL w) (fun _ _ _ hh h => h.of_heap hh) own started (by kernel_rfl) Tryz.func7
    (ChangeSpec.witness_shaped (enc := enc) (C := Tryz.checked) (os := os) (X := fun w _ => laidMetH Tryz.prog laidL w) false (World.doorLaid Tryz.prog 205 os) #[.int .u32 0, .slice none 0 0, .int .u16 0] 8 rfl (World.shaped_of_RefB (by kernel_rfl) (by kernel_rfl)) (by kernel_rfl) (by kernel_rfl) (by kernel_rfl) (door_met os _)) ?_
  intro W base args ds gs before hval0 hW _ _ hL _
  have hval : ∀ (j : Nat) t v, Tryz.f7.params[j]? = some t → args[j]? = some v → Value.okWide Tryz.prog W .any base t v := hval0
  have hW' := hW
  obtain ⟨p, q, hA0, hV, rfl, hfz, hnd⟩ := hW
  have hA : DataW.TrodAll enc Tryz.prog W 0 (fun _ => true) true Tryz.f7.params.toList args.toList ds p := hA0
  rw [Tryz.params7] at hA hval
  obtain ⟨v0, v1, v2, d0, d1, d2, p0, p1, p2, rfl, rfl, rfl, h0, h1, h2⟩ := trodAll_three hA
  obtain ⟨a1, len1, cap1, rfl⟩ := okWide_slice Tryz.underlying23 (hval 1 23 v1 rfl rfl)
  have k1 := h1
  have lt1 : ∀ x ∈ p1, x.block < W.heap.size := by obtain ⟨m, hm⟩ := k1; exact DataW.trod_lt m _ _ _ hm
  obtain ⟨n0, rfl, rfl, rfl, w0⟩ := open_int Tryz.underlying22 (hval 0 22 v0 rfl rfl) h0
  obtain ⟨n2, rfl, rfl, rfl, w2⟩ := open_int Tryz.underlying24 (hval 2 24 v2 rfl rfl) h2
  obtain ⟨ss, hls, hss⟩ := samples_of h1
  have b0 := bounds_u32 w0
  obtain ⟨m0, rfl⟩ := Int.eq_ofNat_of_zero_le b0.1
  have b2 := bounds_u16 w2
  obtain ⟨m2, rfl⟩ := Int.eq_ofNat_of_zero_le b2.1
  obtain ⟨E0, hV0⟩ := env_of_laid hL
  have hgl := varsLen hV
  obtain ⟨g1, g2, g3, g4, g5, rfl⟩ : ∃ g1 g2 g3 g4 g5, gs = [g1, g2, g3, g4, g5] := by
    rcases gs with _ | ⟨g1, _ | ⟨g2, _ | ⟨g3, _ | ⟨g4, _ | ⟨g5, _ | ⟨g6, r⟩⟩⟩⟩⟩⟩ <;> simp [Rows.fnCutSpec] at hgl
    exact ⟨_, _, _, _, _, rfl⟩
  clear hA0 hval0
  refine Calls.mono (c7 (n := m0) (m := m2) (by omega) (by omega) hss hls hV0) fun e W' hE => ?_
  obtain ⟨v, rfl, rfl, hfr⟩ := hE
  have bel := below_of_fr hfr
  exact ⟨_, rfl, _, _, _, [], _, q, hW', trodAll_mk1 (shut_bool Tryz.underlying4 _), (trodAll_cons_mk (shut_int Tryz.underlying22 w0) (trodAll_cons_mk (Below.trod laidOut (by kernel_rfl) (of_decide_eq_true (by kernel_rfl)) k1 bel lt1) (trodAll_cons_mk (shut_int Tryz.underlying24 w2) trodAll_mk0))), Below.trodVars laidOut bel (by kernel_rfl) hV, bel.frame _, fun h => by cases h⟩
theorem fnCut_holds : Rows.FnCutSaid :=
  OpenClaim.holds_of_wide 7 Tryz.f7 rfl rfl rfl rfl rfl rfl rfl ⟨rfl, rfl, rfl, rfl, rfl⟩ rfl rfl rfl rfl rfl fnCut_named Tryz.func7 fnCut_joined fnCut_inst fnCut_wrap
    (fun os started H enc _ => fnCut_lifted os started H enc)
theorem fnCut_tie : Rows.fnCutRow.laidByTextAt .later Tryz.pinned [.handle, .sentinel, .sentinel, .sentinel, .sentinel, .data, .sentinel, .sentinel, .data, .data] true :=
  OpenClaim.laidByTextAt_later rfl rfl rowsTie noUnsafeT
theorem fnCut_plain (j : Nat) (t : TypeId) (ht : Tryz.f7.params[j]? = some t) : Tryz.prog.wantsStandIn t = false := by
  rw [Tryz.params7] at ht
  have hm : t ∈ [22, 23, 24] := by simpa using Array.mem_of_getElem? ht
  have hall : ([22, 23, 24].all fun u => !Tryz.prog.wantsStandIn u) = true := by kernel_rfl
  exact (show Tryz.prog.wantsStandIn t = false by simpa using List.all_eq_true.1 hall t hm)
/-- laws.FnCut, as it is given. -/
theorem fnCut_card_holds : Rows.FnCutCardSaid :=
  Claim7.holds_tied_plain_at .later [] [.handle, .sentinel, .sentinel, .sentinel, .sentinel, .data, .sentinel, .sentinel, .data, .data] true (true, "09ae77e30f36cd5f4e62352753e7cdaf3fcb38f1a84f2c91d9d740edf3cddeba") true
    fnCut_holds (fun _ h => by cases h) fnCut_wf (fun _ h => by cases h) fnCut_tie rfl ⟨rfl, rfl⟩ isMain rfl
    (fun f fn hf hfn => by
      obtain rfl : f = 7 := Option.some.inj (fnCut_named.symm.trans hf) |>.symm
      obtain rfl : fn = Tryz.f7 := (Option.some.inj (Tryz.func7.symm.trans hfn)).symm
      exact ⟨fLooks.symm, fnCut_plain⟩)
    fnCut_goes

end Go.Proofs.YtklagmhonmbdgaaGreatDoor
#print axioms Go.Proofs.YtklagmhonmbdgaaGreatDoor.fnCut_card_holds
