/- The statement of the function laws.FnPaletteLength, as it is given (FnPaletteLengthCardSaid): a palette without an entry, of a part of one, or of more than 256, or than its bits have, is malformed. -/
import Derived.Test.YtklagmhonmbdgaaGreatDoorLPaletteLength
import Derived.Test.YtklagmhonmbdgaaGreatDoorRowDoor
import Derived.Test.YtklagmhonmbdgaaGreatDoorRowKit
import Derived.Test.YtklagmhonmbdgaaGreatDoorEPaletteLength
import Derived.Test.YtklagmhonmbdgaaGreatDoorRowFacts
import Derived.Test.YtklagmhonmbdgaaGreatDoorRowTie
namespace Go.Proofs.YtklagmhonmbdgaaGreatDoor
open Go Go.V Go.ChangeShapes Go.WideShapes Go.ChangeAt Go.RowKit

set_option maxRecDepth 100000
theorem fnPaletteLength_named : Tryz.prog.funcNamed "loop.example/pub-g03440/laws.FnPaletteLength" = some 16 := by kernel_rfl
theorem fnPaletteLength_k5 : namedTie Tryz.prog Rows.fnPaletteLengthRow.named Rows.fnPaletteLengthSpec.vars = true := by kernel_rfl
theorem fnPaletteLength_k10 : (Rows.fnPaletteLengthRow.inPlace == Tryz.prog.inPlace 16) = true := by kernel_rfl
theorem fnPaletteLength_k11 : (Rows.fnPaletteLengthRow.unfollowed == Tryz.prog.unfollowed 16) = true := by kernel_rfl
theorem fnPaletteLength_k12 : (Rows.fnPaletteLengthRow.recurses == Tryz.prog.recurses 16) = true := by kernel_rfl
theorem fnPaletteLength_k13 : (Rows.fnPaletteLengthRow.named == Tryz.prog.varsNamed 16) = true := by kernel_rfl
theorem fnPaletteLength_k18 : Rows.fnPaletteLengthSpec.vars.all (Tryz.prog.varReadable ·) = true := by kernel_rfl
theorem fnPaletteLength_k15 : (Rows.fnPaletteLengthRow.ifaces == (Tryz.f16.params.toList ++ Rows.fnPaletteLengthSpec.plain.varTypes Tryz.prog).any (Tryz.prog.ifacesRec ·)) = true := by kernel_rfl
theorem fnPaletteLength_k28 : Rows.fnPaletteLengthRow.veiledFits Tryz.prog Tryz.f16.params.toList (Tryz.f16.params.toList ++ Rows.fnPaletteLengthSpec.plain.varTypes Tryz.prog ++ Tryz.f16.resultTypes.toList) = true := by kernel_rfl
theorem fnPaletteLength_joined : joinedFacts Tryz.prog 16 Tryz.f16 Rows.fnPaletteLengthSpec Rows.fnPaletteLengthRow = true :=
  joined_of (by kernel_rfl) fLaid fRowed (by kernel_rfl) fnPaletteLength_k5 (by kernel_rfl) fStops (by kernel_rfl) fKnobs fnPaletteLength_k10 fnPaletteLength_k11 fnPaletteLength_k12 fnPaletteLength_k13 (by kernel_rfl) fnPaletteLength_k15 (by kernel_rfl) (by kernel_rfl) (by kernel_rfl) fnPaletteLength_k18
    (by kernel_rfl) (by kernel_rfl) (by kernel_rfl) (by rw [fKeys]; rfl) (by kernel_rfl) fHeard mayEnterT (by rw [liftsFinalT]; rfl) (by rw [makeT]; rfl) (by kernel_rfl) (by kernel_rfl) (by kernel_rfl) (by kernel_rfl) fnPaletteLength_k28
theorem fnPaletteLength_wf : Rows.fnPaletteLengthRow.wfByText (OpenSpec.ofChange Rows.fnPaletteLengthSpec) = true := by kernel_rfl
theorem fnPaletteLength_goes : false = Rows.fnPaletteLengthRow.goesBy Tryz.prog := by kernel_rfl
theorem fnPaletteLength_inst : Tryz.f16.isInstance Tryz.prog Rows.fnPaletteLengthRow.origin Rows.fnPaletteLengthRow.targs := of_decide_eq_true (by kernel_rfl)
theorem fnPaletteLength_wrap : Tryz.f16.isWrapper Tryz.prog Rows.fnPaletteLengthRow.wrapper Rows.fnPaletteLengthRow.mainSum := by
  unfold Func.isWrapper
  rw [if_neg (of_decide_eq_false (by kernel_rfl))]
  exact ⟨rfl, rfl⟩
set_option maxRecDepth 100000 in
theorem fnPaletteLength_lifted (os : Os) (started : os.Started) (H : Type) (enc : TypeId × Value → H) :
    ReturnsInHanded {} Tryz.checked os 16 .any (fun w args => (Rows.fnPaletteLengthSpec.pre enc Tryz.prog Tryz.f16 [] false w args ∧ laidMetH Tryz.prog laidL w) ∧ sizedMet enc Tryz.prog Tryz.f16 (OpenSpec.ofChange Rows.fnPaletteLengthSpec) false w args)
      (Rows.fnPaletteLengthSpec.post enc Tryz.prog Tryz.f16 false true false false) := by
  refine returnsInHanded_of_change_and (C := Tryz.checked) (X := fun w _ => laidMetH Tryz.prog laidL w) (fun _ _ _ hh h => h.of_heap hh) own started (by kernel_rfl) Tryz.func16
    (ChangeSpec.witness_shaped (enc := enc) (C := Tryz.checked) (os := os) (X := fun w _ => laidMetH Tryz.prog laidL w) false (World.doorLaid Tryz.prog 205 os) #[.int .u32 0, .slice none 0 0, .int .u16 0] 8 rfl (World.shaped_of_RefB (by kernel_rfl) (by kernel_rfl)) (by kernel_rfl) (by kernel_rfl) (by kernel_rfl) (door_met os _)) ?_
  intro W base args ds gs before hval0 hW _ _ hL _
  have hval : ∀ (j : Nat) t v, Tryz.f16.params[j]? = some t → args[j]? = some v → Value.okWide Tryz.prog W .any base t v := hval0
  have hW' := hW
  obtain ⟨p, q, hA0, hV, rfl, hfz, hnd⟩ := hW
  have hA : DataW.TrodAll enc Tryz.prog W 0 (fun _ => true) true Tryz.f16.params.toList args.toList ds p := hA0
  rw [Tryz.params16] at hA hval
  obtain ⟨v0, v1, v2, d0, d1, d2, p0, p1, p2, rfl, rfl, rfl, h0, h1, h2⟩ := trodAll_three hA
  obtain ⟨a1, len1, cap1, rfl⟩ := okWide_slice Tryz.underlying23 (hval 1 23 v1 rfl rfl)
  have k1 := h1
  have lt1 : ∀ x ∈ p1, x.block < W.heap.size := by obtain ⟨m, hm⟩ := k1; exact DataW.trod_lt m _ _ _ hm
  obtain ⟨n0, rfl, rfl, rfl, w0⟩ := open_int Tryz.underlying22 (hval 0 22 v0 rfl rfl) h0
  obtain ⟨n2, rfl, rfl, rfl, w2⟩ := open_int Tryz.underlying24 (hval 2 24 v2 rfl rfl) h2
  obtain ⟨ss, hls, hss⟩ := samples_of h1
  have b0 := bounds_u32 w0
  obtain ⟨m0, rfl⟩ := Int.eq_ofNat_of_zero_le b0.1
  have b2 := bounds_u16 w2
  obtain ⟨m2, rfl⟩ := Int.eq_ofNat_of_zero_le b2.1
  obtain ⟨E0, hV0⟩ := env_of_laid hL
  have hgl := varsLen hV
  obtain ⟨g1, g2, g3, g4, g5, rfl⟩ : ∃ g1 g2 g3 g4 g5, gs = [g1, g2, g3, g4, g5] := by
    rcases gs with _ | ⟨g1, _ | ⟨g2, _ | ⟨g3, _ | ⟨g4, _ | ⟨g5, _ | ⟨g6, r⟩⟩⟩⟩⟩⟩ <;> simp [Rows.fnPaletteLengthSpec] at hgl
    exact ⟨_, _, _, _, _, rfl⟩
  clear hA0 hval0
  refine Calls.mono (c16 (n := m0) (m := m2) (by omega) (by omega) hss hls hV0) fun e W' hE => ?_
  obtain ⟨v, rfl, rfl, hfr⟩ := hE
  have bel := below_of_fr hfr
  exact ⟨_, rfl, _, _, _, [], _, q, hW', trodAll_mk1 (shut_bool Tryz.underlying4 _), (trodAll_cons_mk (shut_int Tryz.underlying22 w0) (trodAll_cons_mk (Below.trod laidOut (by kernel_rfl) (of_decide_eq_true (by kernel_rfl)) k1 bel lt1) (trodAll_cons_mk (shut_int Tryz.underlying24 w2) trodAll_mk0))), Below.trodVars laidOut bel (by kernel_rfl) hV, bel.frame _, fun h => by cases h⟩
theorem fnPaletteLength_holds : Rows.FnPaletteLengthSaid :=
  OpenClaim.holds_of_wide 16 Tryz.f16 rfl rfl rfl rfl rfl rfl rfl ⟨rfl, rfl, rfl, rfl, rfl⟩ rfl rfl rfl rfl rfl fnPaletteLength_named Tryz.func16 fnPaletteLength_joined fnPaletteLength_inst fnPaletteLength_wrap
    (fun os started H enc _ => fnPaletteLength_lifted os started H enc)
theorem fnPaletteLength_tie : Rows.fnPaletteLengthRow.laidByTextAt .later Tryz.pinned [.handle, .sentinel, .sentinel, .sentinel, .sentinel, .data, .sentinel, .sentinel, .data, .data] true :=
  OpenClaim.laidByTextAt_later rfl rfl rowsTie noUnsafeT
theorem fnPaletteLength_plain (j : Nat) (t : TypeId) (ht : Tryz.f16.params[j]? = some t) : Tryz.prog.wantsStandIn t = false := by
  rw [Tryz.params16] at ht
  have hm : t ∈ [22, 23, 24] := by simpa using Array.mem_of_getElem? ht
  have hall : ([22, 23, 24].all fun u => !Tryz.prog.wantsStandIn u) = true := by kernel_rfl
  exact (show Tryz.prog.wantsStandIn t = false by simpa using List.all_eq_true.1 hall t hm)
/-- laws.FnPaletteLength, as it is given. -/
theorem fnPaletteLength_card_holds : Rows.FnPaletteLengthCardSaid :=
  Claim7.holds_tied_plain_at .later [] [.handle, .sentinel, .sentinel, .sentinel, .sentinel, .data, .sentinel, .sentinel, .data, .data] true (true, "09ae77e30f36cd5f4e62352753e7cdaf3fcb38f1a84f2c91d9d740edf3cddeba") true
    fnPaletteLength_holds (fun _ h => by cases h) fnPaletteLength_wf (fun _ h => by cases h) fnPaletteLength_tie rfl ⟨rfl, rfl⟩ isMain rfl
    (fun f fn hf hfn => by
      obtain rfl : f = 16 := Option.some.inj (fnPaletteLength_named.symm.trans hf) |>.symm
      obtain rfl : fn = Tryz.f16 := (Option.some.inj (Tryz.func16.symm.trans hfn)).symm
      exact ⟨fLooks.symm, fnPaletteLength_plain⟩)
    fnPaletteLength_goes

end Go.Proofs.YtklagmhonmbdgaaGreatDoor
#print axioms Go.Proofs.YtklagmhonmbdgaaGreatDoor.fnPaletteLength_card_holds
