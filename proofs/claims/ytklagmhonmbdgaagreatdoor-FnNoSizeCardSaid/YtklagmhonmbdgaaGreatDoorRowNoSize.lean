/- The statement of the function laws.FnNoSize, as it is given (FnNoSizeCardSaid): a head without a width or a height, or with one of 2 to the 31 and more, is malformed. -/
import Derived.Test.YtklagmhonmbdgaaGreatDoorLNoSize
import Derived.Test.YtklagmhonmbdgaaGreatDoorRowDoor
import Derived.Test.YtklagmhonmbdgaaGreatDoorRowKit
import Derived.Test.YtklagmhonmbdgaaGreatDoorENoSize
import Derived.Test.YtklagmhonmbdgaaGreatDoorRowFacts
import Derived.Test.YtklagmhonmbdgaaGreatDoorRowTie
namespace Go.Proofs.YtklagmhonmbdgaaGreatDoor
open Go Go.V Go.ChangeShapes Go.WideShapes Go.ChangeAt Go.RowKit

set_option maxRecDepth 100000
theorem fnNoSize_named : Tryz.prog.funcNamed "loop.example/pub-g03440/laws.FnNoSize" = some 15 := by kernel_rfl
theorem fnNoSize_k5 : namedTie Tryz.prog Rows.fnNoSizeRow.named Rows.fnNoSizeSpec.vars = true := by kernel_rfl
theorem fnNoSize_k10 : (Rows.fnNoSizeRow.inPlace == Tryz.prog.inPlace 15) = true := by kernel_rfl
theorem fnNoSize_k11 : (Rows.fnNoSizeRow.unfollowed == Tryz.prog.unfollowed 15) = true := by kernel_rfl
theorem fnNoSize_k12 : (Rows.fnNoSizeRow.recurses == Tryz.prog.recurses 15) = true := by kernel_rfl
theorem fnNoSize_k13 : (Rows.fnNoSizeRow.named == Tryz.prog.varsNamed 15) = true := by kernel_rfl
theorem fnNoSize_k18 : Rows.fnNoSizeSpec.vars.all (Tryz.prog.varReadable ·) = true := by kernel_rfl
theorem fnNoSize_k15 : (Rows.fnNoSizeRow.ifaces == (Tryz.f15.params.toList ++ Rows.fnNoSizeSpec.plain.varTypes Tryz.prog).any (Tryz.prog.ifacesRec ·)) = true := by kernel_rfl
theorem fnNoSize_k28 : Rows.fnNoSizeRow.veiledFits Tryz.prog Tryz.f15.params.toList (Tryz.f15.params.toList ++ Rows.fnNoSizeSpec.plain.varTypes Tryz.prog ++ Tryz.f15.resultTypes.toList) = true := by kernel_rfl
theorem fnNoSize_joined : joinedFacts Tryz.prog 15 Tryz.f15 Rows.fnNoSizeSpec Rows.fnNoSizeRow = true :=
  joined_of (by kernel_rfl) fLaid fRowed (by kernel_rfl) fnNoSize_k5 (by kernel_rfl) fStops (by kernel_rfl) fKnobs fnNoSize_k10 fnNoSize_k11 fnNoSize_k12 fnNoSize_k13 (by kernel_rfl) fnNoSize_k15 (by kernel_rfl) (by kernel_rfl) (by kernel_rfl) fnNoSize_k18
    (by kernel_rfl) (by kernel_rfl) (by kernel_rfl) (by rw [fKeys]; rfl) (by kernel_rfl) fHeard mayEnterT (by rw [liftsFinalT]; rfl) (by rw [makeT]; rfl) (by kernel_rfl) (by kernel_rfl) (by kernel_rfl) (by kernel_rfl) fnNoSize_k28
theorem fnNoSize_wf : Rows.fnNoSizeRow.wfByText (OpenSpec.ofChange Rows.fnNoSizeSpec) = true := by kernel_rfl
theorem fnNoSize_goes : false = Rows.fnNoSizeRow.goesBy Tryz.prog := by kernel_rfl
theorem fnNoSize_inst : Tryz.f15.isInstance Tryz.prog Rows.fnNoSizeRow.origin Rows.fnNoSizeRow.targs := of_decide_eq_true (by kernel_rfl)
theorem fnNoSize_wrap : Tryz.f15.isWrapper Tryz.prog Rows.fnNoSizeRow.wrapper Rows.fnNoSizeRow.mainSum := by
  unfold Func.isWrapper
  rw [if_neg (of_decide_eq_false (by kernel_rfl))]
  exact ⟨rfl, rfl⟩
set_option maxRecDepth 100000 in
theorem fnNoSize_lifted (os : Os) (started : os.Started) (H : Type) (enc : TypeId × Value → H) :
    ReturnsInHanded {} Tryz.checked os 15 .any (fun w args => (Rows.fnNoSizeSpec.pre enc Tryz.prog Tryz.f15 [] false w args ∧ laidMetH Tryz.prog laidL w) ∧ sizedMet enc Tryz.prog Tryz.f15 (OpenSpec.ofChange Rows.fnNoSizeSpec) false w args)
      (Rows.fnNoSizeSpec.post enc Tryz.prog Tryz.f15 false true false false) := by
  refine returnsInHanded_of_change_and (C := Tryz.checked) (X := fun w _ => laidMetH Tryz.prog laidL w) (fun _ _ _ hh h => h.of_heap hh) own started (by kernel_rfl) Tryz.func15
    (ChangeSpec.witness_shaped (enc := enc) (C := Tryz.checked) (os := os) (X := fun w _ => laidMetH Tryz.prog laidL w) false (World.doorLaid Tryz.prog 205 os) #[.int .u32 0, .slice none 0 0, .bool false, .int .u32 0] 8 rfl (World.shaped_of_RefB (by kernel_rfl) (by kernel_rfl)) (by kernel_rfl) (by kernel_rfl) (by kernel_rfl) (door_met os _)) ?_
  intro W base args ds gs before hval0 hW _ _ hL _
  have hval : ∀ (j : Nat) t v, Tryz.f15.params[j]? = some t → args[j]? = some v → Value.okWide Tryz.prog W .any base t v := hval0
  have hW' := hW
  obtain ⟨p, q, hA0, hV, rfl, hfz, hnd⟩ := hW
  have hA : DataW.TrodAll enc Tryz.prog W 0 (fun _ => true) true Tryz.f15.params.toList args.toList ds p := hA0
  rw [Tryz.params15] at hA hval
  obtain ⟨v0, v1, v2, v3, d0, d1, d2, d3, p0, p1, p2, p3, rfl, rfl, rfl, h0, h1, h2, h3⟩ := trodAll_four hA
  obtain ⟨a1, len1, cap1, rfl⟩ := okWide_slice Tryz.underlying23 (hval 1 23 v1 rfl rfl)
  have k1 := h1
  have lt1 : ∀ x ∈ p1, x.block < W.heap.size := by obtain ⟨m, hm⟩ := k1; exact DataW.trod_lt m _ _ _ hm
  obtain ⟨n0, rfl, rfl, rfl, w0⟩ := open_int Tryz.underlying22 (hval 0 22 v0 rfl rfl) h0
  obtain ⟨n2, rfl, rfl, rfl⟩ := open_bool Tryz.underlying4 (hval 2 4 v2 rfl rfl) h2
  obtain ⟨n3, rfl, rfl, rfl, w3⟩ := open_int Tryz.underlying22 (hval 3 22 v3 rfl rfl) h3
  obtain ⟨ss, hls, hss⟩ := samples_of h1
  have b0 := bounds_u32 w0
  obtain ⟨m0, rfl⟩ := Int.eq_ofNat_of_zero_le b0.1
  have b3 := bounds_u32 w3
  obtain ⟨m3, rfl⟩ := Int.eq_ofNat_of_zero_le b3.1
  obtain ⟨E0, hV0⟩ := env_of_laid hL
  have hgl := varsLen hV
  obtain ⟨g1, g2, g3, g4, g5, rfl⟩ : ∃ g1 g2 g3 g4 g5, gs = [g1, g2, g3, g4, g5] := by
    rcases gs with _ | ⟨g1, _ | ⟨g2, _ | ⟨g3, _ | ⟨g4, _ | ⟨g5, _ | ⟨g6, r⟩⟩⟩⟩⟩⟩ <;> simp [Rows.fnNoSizeSpec] at hgl
    exact ⟨_, _, _, _, _, rfl⟩
  clear hA0 hval0
  refine Calls.mono (c15 (n := m0) (m := m3) (hi := n2) (by omega) (by omega) hss hls hV0) fun e W' hE => ?_
  obtain ⟨v, rfl, rfl, hfr⟩ := hE
  have bel := below_of_fr hfr
  exact ⟨_, rfl, _, _, _, [], _, q, hW', trodAll_mk1 (shut_bool Tryz.underlying4 _), (trodAll_cons_mk (shut_int Tryz.underlying22 w0) (trodAll_cons_mk (Below.trod laidOut (by kernel_rfl) (of_decide_eq_true (by kernel_rfl)) k1 bel lt1) (trodAll_cons_mk (shut_bool Tryz.underlying4 _) (trodAll_cons_mk (shut_int Tryz.underlying22 w3) trodAll_mk0)))), Below.trodVars laidOut bel (by kernel_rfl) hV, bel.frame _, fun h => by cases h⟩
theorem fnNoSize_holds : Rows.FnNoSizeSaid :=
  OpenClaim.holds_of_wide 15 Tryz.f15 rfl rfl rfl rfl rfl rfl rfl ⟨rfl, rfl, rfl, rfl, rfl⟩ rfl rfl rfl rfl rfl fnNoSize_named Tryz.func15 fnNoSize_joined fnNoSize_inst fnNoSize_wrap
    (fun os started H enc _ => fnNoSize_lifted os started H enc)
theorem fnNoSize_tie : Rows.fnNoSizeRow.laidByTextAt .later Tryz.pinned [.handle, .sentinel, .sentinel, .sentinel, .sentinel, .data, .sentinel, .sentinel, .data, .data] true :=
  OpenClaim.laidByTextAt_later rfl rfl rowsTie noUnsafeT
theorem fnNoSize_plain (j : Nat) (t : TypeId) (ht : Tryz.f15.params[j]? = some t) : Tryz.prog.wantsStandIn t = false := by
  rw [Tryz.params15] at ht
  have hm : t ∈ [22, 23, 4, 22] := by simpa using Array.mem_of_getElem? ht
  have hall : ([22, 23, 4, 22].all fun u => !Tryz.prog.wantsStandIn u) = true := by kernel_rfl
  exact (show Tryz.prog.wantsStandIn t = false by simpa using List.all_eq_true.1 hall t hm)
/-- laws.FnNoSize, as it is given. -/
theorem fnNoSize_card_holds : Rows.FnNoSizeCardSaid :=
  Claim7.holds_tied_plain_at .later [] [.handle, .sentinel, .sentinel, .sentinel, .sentinel, .data, .sentinel, .sentinel, .data, .data] true (true, "09ae77e30f36cd5f4e62352753e7cdaf3fcb38f1a84f2c91d9d740edf3cddeba") true
    fnNoSize_holds (fun _ h => by cases h) fnNoSize_wf (fun _ h => by cases h) fnNoSize_tie rfl ⟨rfl, rfl⟩ isMain rfl
    (fun f fn hf hfn => by
      obtain rfl : f = 15 := Option.some.inj (fnNoSize_named.symm.trans hf) |>.symm
      obtain rfl : fn = Tryz.f15 := (Option.some.inj (Tryz.func15.symm.trans hfn)).symm
      exact ⟨fLooks.symm, fnNoSize_plain⟩)
    fnNoSize_goes

end Go.Proofs.YtklagmhonmbdgaaGreatDoor
#print axioms Go.Proofs.YtklagmhonmbdgaaGreatDoor.fnNoSize_card_holds
