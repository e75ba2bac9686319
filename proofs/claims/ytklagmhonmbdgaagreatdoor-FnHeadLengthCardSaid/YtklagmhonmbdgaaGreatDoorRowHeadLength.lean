/- The statement of the function laws.FnHeadLength, as it is given (FnHeadLengthCardSaid): a head of another length than thirteen is malformed. -/
import Derived.Test.YtklagmhonmbdgaaGreatDoorLHeadLength
import Derived.Test.YtklagmhonmbdgaaGreatDoorRowDoor
import Derived.Test.YtklagmhonmbdgaaGreatDoorRowKit
import Derived.Test.YtklagmhonmbdgaaGreatDoorEHeadLength
import Derived.Test.YtklagmhonmbdgaaGreatDoorRowFacts
import Derived.Test.YtklagmhonmbdgaaGreatDoorRowTie
namespace Go.Proofs.YtklagmhonmbdgaaGreatDoor
open Go Go.V Go.ChangeShapes Go.WideShapes Go.ChangeAt Go.RowKit

set_option maxRecDepth 100000
theorem fnHeadLength_named : Tryz.prog.funcNamed "loop.example/pub-g03440/laws.FnHeadLength" = some 9 := by kernel_rfl
theorem fnHeadLength_k5 : namedTie Tryz.prog Rows.fnHeadLengthRow.named Rows.fnHeadLengthSpec.vars = true := by kernel_rfl
theorem fnHeadLength_k10 : (Rows.fnHeadLengthRow.inPlace == Tryz.prog.inPlace 9) = true := by kernel_rfl
theorem fnHeadLength_k11 : (Rows.fnHeadLengthRow.unfollowed == Tryz.prog.unfollowed 9) = true := by kernel_rfl
theorem fnHeadLength_k12 : (Rows.fnHeadLengthRow.recurses == Tryz.prog.recurses 9) = true := by kernel_rfl
theorem fnHeadLength_k13 : (Rows.fnHeadLengthRow.named == Tryz.prog.varsNamed 9) = true := by kernel_rfl
theorem fnHeadLength_k18 : Rows.fnHeadLengthSpec.vars.all (Tryz.prog.varReadable ·) = true := by kernel_rfl
theorem fnHeadLength_k15 : (Rows.fnHeadLengthRow.ifaces == (Tryz.f9.params.toList ++ Rows.fnHeadLengthSpec.plain.varTypes Tryz.prog).any (Tryz.prog.ifacesRec ·)) = true := by kernel_rfl
theorem fnHeadLength_k28 : Rows.fnHeadLengthRow.veiledFits Tryz.prog Tryz.f9.params.toList (Tryz.f9.params.toList ++ Rows.fnHeadLengthSpec.plain.varTypes Tryz.prog ++ Tryz.f9.resultTypes.toList) = true := by kernel_rfl
theorem fnHeadLength_joined : joinedFacts Tryz.prog 9 Tryz.f9 Rows.fnHeadLengthSpec Rows.fnHeadLengthRow = true :=
  joined_of (by kernel_rfl) fLaid fRowed (by kernel_rfl) fnHeadLength_k5 (by kernel_rfl) fStops (by kernel_rfl) fKnobs fnHeadLength_k10 fnHeadLength_k11 fnHeadLength_k12 fnHeadLength_k13 (by kernel_rfl) fnHeadLength_k15 (by kernel_rfl) (by kernel_rfl) (by kernel_rfl) fnHeadLength_k18
    (by kernel_rfl) (by kernel_rfl) (by kernel_rfl) (by rw [fKeys]; rfl) (by kernel_rfl) fHeard mayEnterT (by rw [liftsFinalT]; rfl) (by rw [makeT]; rfl) (by kernel_rfl) (by kernel_rfl) (by kernel_rfl) (by kernel_rfl) fnHeadLength_k28
theorem fnHeadLength_wf : Rows.fnHeadLengthRow.wfByText (OpenSpec.ofChange Rows.fnHeadLengthSpec) = true := by kernel_rfl
theorem fnHeadLength_goes : false = Rows.fnHeadLengthRow.goesBy Tryz.prog := by kernel_rfl
theorem fnHeadLength_inst : Tryz.f9.isInstance Tryz.prog Rows.fnHeadLengthRow.origin Rows.fnHeadLengthRow.targs := of_decide_eq_true (by kernel_rfl)
theorem fnHeadLength_wrap : Tryz.f9.isWrapper Tryz.prog Rows.fnHeadLengthRow.wrapper Rows.fnHeadLengthRow.mainSum := by
  unfold Func.isWrapper
  rw [if_neg (of_decide_eq_false (by kernel_rfl))]
  exact ⟨rfl, rfl⟩
set_option maxRecDepth 100000 in
theorem fnHeadLength_lifted (os : Os) (started : os.Started) (H : Type) (enc : TypeId × Value → H) :
    ReturnsInHanded {} Tryz.checked os 9 .any (fun w args => (Rows.fnHeadLengthSpec.pre enc Tryz.prog Tryz.f9 [] false w args ∧ laidMetH Tryz.prog laidL w) ∧ sizedMet enc Tryz.prog Tryz.f9 (OpenSpec.ofChange Rows.fnHeadLengthSpec) false w args)
      (Rows.fnHeadLengthSpec.post enc Tryz.prog Tryz.f9 false true false false) := by
  refine returnsInHanded_of_change_and (C := Tryz.checked) (X := fun w _ => laidMetH Tryz.prog laidL w) (fun _ _ _ hh h => h.of_heap hh) own started (by kernel_rfl) Tryz.func9
    (ChangeSpec.witness_shaped (enc := enc) (C := Tryz.checked) (os := os) (X := fun w _ => laidMetH Tryz.prog laidL w) false (World.doorLaid Tryz.prog 205 os) #[.int .u32 0, .slice none 0 0, .int .u8 0] 8 rfl (World.shaped_of_RefB (by kernel_rfl) (by kernel_rfl)) (by kernel_rfl) (by kernel_rfl) (by kernel_rfl) (door_met os _)) ?_
  intro W base args ds gs before hval0 hW _ _ hL _
  have hval : ∀ (j : Nat) t v, Tryz.f9.params[j]? = some t → args[j]? = some v → Value.okWide Tryz.prog W .any base t v := hval0
  have hW' := hW
  obtain ⟨p, q, hA0, hV, rfl, hfz, hnd⟩ := hW
  have hA : DataW.TrodAll enc Tryz.prog W 0 (fun _ => true) true Tryz.f9.params.toList args.toList ds p := hA0
  rw [Tryz.params9] at hA hval
  obtain ⟨v0, v1, v2, d0, d1, d2, p0, p1, p2, rfl, rfl, rfl, h0, h1, h2⟩ := trodAll_three hA
  obtain ⟨a1, len1, cap1, rfl⟩ := okWide_slice Tryz.underlying23 (hval 1 23 v1 rfl rfl)
  have k1 := h1
  have lt1 : ∀ x ∈ p1, x.block < W.heap.size := by obtain ⟨m, hm⟩ := k1; exact DataW.trod_lt m _ _ _ hm
  obtain ⟨n0, rfl, rfl, rfl, w0⟩ := open_int Tryz.underlying22 (hval 0 22 v0 rfl rfl) h0
  obtain ⟨n2, rfl, rfl, rfl, w2⟩ := open_int Tryz.underlying5 (hval 2 5 v2 rfl rfl) h2
  obtain ⟨ss, hls, hss⟩ := samples_of h1
  have b0 := bounds_u32 w0
  obtain ⟨m0, rfl⟩ := Int.eq_ofNat_of_zero_le b0.1
  have b2 := bounds_u8 w2
  obtain ⟨m2, rfl⟩ := Int.eq_ofNat_of_zero_le b2.1
  obtain ⟨E0, hV0⟩ := env_of_laid hL
  have hgl := varsLen hV
  obtain ⟨g1, g2, g3, g4, g5, rfl⟩ : ∃ g1 g2 g3 g4 g5, gs = [g1, g2, g3, g4, g5] := by
    rcases gs with _ | ⟨g1, _ | ⟨g2, _ | ⟨g3, _ | ⟨g4, _ | ⟨g5, _ | ⟨g6, r⟩⟩⟩⟩⟩⟩ <;> simp [Rows.fnHeadLengthSpec] at hgl
    exact ⟨_, _, _, _, _, rfl⟩
  clear hA0 hval0
  refine Calls.mono (c9 (n := m0) (m := m2) (by omega) (by omega) hss hls hV0) fun e W' hE => ?_
  obtain ⟨v, rfl, rfl, hfr⟩ := hE
  have bel := below_of_fr hfr
  exact ⟨_, rfl, _, _, _, [], _, q, hW', trodAll_mk1 (shut_bool Tryz.underlying4 _), (trodAll_cons_mk (shut_int Tryz.underlying22 w0) (trodAll_cons_mk (Below.trod laidOut (by kernel_rfl) (of_decide_eq_true (by kernel_rfl)) k1 bel lt1) (trodAll_cons_mk (shut_int Tryz.underlying5 w2) trodAll_mk0))), Below.trodVars laidOut bel (by kernel_rfl) hV, bel.frame _, fun h => by cases h⟩
theorem fnHeadLength_holds : Rows.FnHeadLengthSaid :=
  OpenClaim.holds_of_wide 9 Tryz.f9 rfl rfl rfl rfl rfl rfl rfl ⟨rfl, rfl, rfl, rfl, rfl⟩ rfl rfl rfl rfl rfl fnHeadLength_named Tryz.func9 fnHeadLength_joined fnHeadLength_inst fnHeadLength_wrap
    (fun os started H enc _ => fnHeadLength_lifted os started H enc)
theorem fnHeadLength_tie : Rows.fnHeadLengthRow.laidByTextAt .later Tryz.pinned [.handle, .sentinel, .sentinel, .sentinel, .sentinel, .data, .sentinel, .sentinel, .data, .data] true :=
  OpenClaim.laidByTextAt_later rfl rfl rowsTie noUnsafeT
theorem fnHeadLength_plain (j : Nat) (t : TypeId) (ht : Tryz.f9.params[j]? = some t) : Tryz.prog.wantsStandIn t = false := by
  rw [Tryz.params9] at ht
  have hm : t ∈ [22, 23, 5] := by simpa using Array.mem_of_getElem? ht
  have hall : ([22, 23, 5].all fun u => !Tryz.prog.wantsStandIn u) = true := by kernel_rfl
  exact (show Tryz.prog.wantsStandIn t = false by simpa using List.all_eq_true.1 hall t hm)
/-- laws.FnHeadLength, as it is given. -/
theorem fnHeadLength_card_holds : Rows.FnHeadLengthCardSaid :=
  Claim7.holds_tied_plain_at .later [] [.handle, .sentinel, .sentinel, .sentinel, .sentinel, .data, .sentinel, .sentinel, .data, .data] true (true, "09ae77e30f36cd5f4e62352753e7cdaf3fcb38f1a84f2c91d9d740edf3cddeba") true
    fnHeadLength_holds (fun _ h => by cases h) fnHeadLength_wf (fun _ h => by cases h) fnHeadLength_tie rfl ⟨rfl, rfl⟩ isMain rfl
    (fun f fn hf hfn => by
      obtain rfl : f = 9 := Option.some.inj (fnHeadLength_named.symm.trans hf) |>.symm
      obtain rfl : fn = Tryz.f9 := (Option.some.inj (Tryz.func9.symm.trans hfn)).symm
      exact ⟨fLooks.symm, fnHeadLength_plain⟩)
    fnHeadLength_goes

end Go.Proofs.YtklagmhonmbdgaaGreatDoor
#print axioms Go.Proofs.YtklagmhonmbdgaaGreatDoor.fnHeadLength_card_holds
