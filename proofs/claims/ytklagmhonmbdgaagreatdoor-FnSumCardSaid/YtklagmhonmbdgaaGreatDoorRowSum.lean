/- The statement of the function laws.FnSum, as it is given (FnSumCardSaid): a file with a bit turned in a chunk's sum is malformed. -/
import Derived.Test.YtklagmhonmbdgaaGreatDoorLSum
import Derived.Test.YtklagmhonmbdgaaGreatDoorRowDoor
import Derived.Test.YtklagmhonmbdgaaGreatDoorRowKit
import Derived.Test.YtklagmhonmbdgaaGreatDoorESum
import Derived.Test.YtklagmhonmbdgaaGreatDoorRowFacts
import Derived.Test.YtklagmhonmbdgaaGreatDoorRowTie
namespace Go.Proofs.YtklagmhonmbdgaaGreatDoor
open Go Go.V Go.ChangeShapes Go.WideShapes Go.ChangeAt Go.RowKit

set_option maxRecDepth 100000
theorem fnSum_named : Tryz.prog.funcNamed "loop.example/pub-g03440/laws.FnSum" = some 18 := by kernel_rfl
theorem fnSum_k5 : namedTie Tryz.prog Rows.fnSumRow.named Rows.fnSumSpec.vars = true := by kernel_rfl
theorem fnSum_k10 : (Rows.fnSumRow.inPlace == Tryz.prog.inPlace 18) = true := by kernel_rfl
theorem fnSum_k11 : (Rows.fnSumRow.unfollowed == Tryz.prog.unfollowed 18) = true := by kernel_rfl
theorem fnSum_k12 : (Rows.fnSumRow.recurses == Tryz.prog.recurses 18) = true := by kernel_rfl
theorem fnSum_k13 : (Rows.fnSumRow.named == Tryz.prog.varsNamed 18) = true := by kernel_rfl
theorem fnSum_k18 : Rows.fnSumSpec.vars.all (Tryz.prog.varReadable ·) = true := by kernel_rfl
theorem fnSum_k15 : (Rows.fnSumRow.ifaces == (Tryz.f18.params.toList ++ Rows.fnSumSpec.plain.varTypes Tryz.prog).any (Tryz.prog.ifacesRec ·)) = true := by kernel_rfl
theorem fnSum_k28 : Rows.fnSumRow.veiledFits Tryz.prog Tryz.f18.params.toList (Tryz.f18.params.toList ++ Rows.fnSumSpec.plain.varTypes Tryz.prog ++ Tryz.f18.resultTypes.toList) = true := by kernel_rfl
theorem fnSum_joined : joinedFacts Tryz.prog 18 Tryz.f18 Rows.fnSumSpec Rows.fnSumRow = true :=
  joined_of (by kernel_rfl) fLaid fRowed (by kernel_rfl) fnSum_k5 (by kernel_rfl) fStops (by kernel_rfl) fKnobs fnSum_k10 fnSum_k11 fnSum_k12 fnSum_k13 (by kernel_rfl) fnSum_k15 (by kernel_rfl) (by kernel_rfl) (by kernel_rfl) fnSum_k18
    (by kernel_rfl) (by kernel_rfl) (by kernel_rfl) (by rw [fKeys]; rfl) (by kernel_rfl) fHeard mayEnterT (by rw [liftsFinalT]; rfl) (by rw [makeT]; rfl) (by kernel_rfl) (by kernel_rfl) (by kernel_rfl) (by kernel_rfl) fnSum_k28
theorem fnSum_wf : Rows.fnSumRow.wfByText (OpenSpec.ofChange Rows.fnSumSpec) = true := by kernel_rfl
theorem fnSum_goes : false = Rows.fnSumRow.goesBy Tryz.prog := by kernel_rfl
theorem fnSum_inst : Tryz.f18.isInstance Tryz.prog Rows.fnSumRow.origin Rows.fnSumRow.targs := of_decide_eq_true (by kernel_rfl)
theorem fnSum_wrap : Tryz.f18.isWrapper Tryz.prog Rows.fnSumRow.wrapper Rows.fnSumRow.mainSum := by
  unfold Func.isWrapper
  rw [if_neg (of_decide_eq_false (by kernel_rfl))]
  exact ⟨rfl, rfl⟩
set_option maxRecDepth 100000 in
theorem fnSum_lifted (os : Os) (started : os.Started) (H : Type) (enc : TypeId × Value → H) :
    ReturnsInHanded {} Tryz.checked os 18 .any (fun w args => (Rows.fnSumSpec.pre enc Tryz.prog Tryz.f18 [] false w args ∧ laidMetH Tryz.prog laidL w) ∧ sizedMet enc Tryz.prog Tryz.f18 (OpenSpec.ofChange Rows.fnSumSpec) false w args)
      (Rows.fnSumSpec.post enc Tryz.prog Tryz.f18 false true false false) := by
  refine returnsInHanded_of_change_and (C := Tryz.checked) (X := fun w _ => laidMetH Tryz.prog laidL w) (fun _ _ _ hh h => h.of_heap hh) own started (by kernel_rfl) Tryz.func18
    (ChangeSpec.witness_shaped (enc := enc) (C := Tryz.checked) (os := os) (X := fun w _ => laidMetH Tryz.prog laidL w) false (World.doorLaid Tryz.prog 205 os) #[.int .u32 0, .slice none 0 0, .int .u8 0, .int .u16 0] 8 rfl (World.shaped_of_RefB (by kernel_rfl) (by kernel_rfl)) (by kernel_rfl) (by kernel_rfl) (by kernel_rfl) (door_met os _)) ?_
  intro W base args ds gs before hval0 hW _ _ hL _
  have hval : ∀ (j : Nat) t v, Tryz.f18.params[j]? = some t → args[j]? = some v → Value.okWide Tryz.prog W .any base t v := hval0
  have hW' := hW
  obtain ⟨p, q, hA0, hV, rfl, hfz, hnd⟩ := hW
  have hA : DataW.TrodAll enc Tryz.prog W 0 (fun _ => true) true Tryz.f18.params.toList args.toList ds p := hA0
  rw [Tryz.params18] at hA hval
  obtain ⟨v0, v1, v2, v3, d0, d1, d2, d3, p0, p1, p2, p3, rfl, rfl, rfl, h0, h1, h2, h3⟩ := trodAll_four hA
  obtain ⟨a1, len1, cap1, rfl⟩ := okWide_slice Tryz.underlying23 (hval 1 23 v1 rfl rfl)
  have k1 := h1
  have lt1 : ∀ x ∈ p1, x.block < W.heap.size := by obtain ⟨m, hm⟩ := k1; exact DataW.trod_lt m _ _ _ hm
  obtain ⟨n0, rfl, rfl, rfl, w0⟩ := open_int Tryz.underlying22 (hval 0 22 v0 rfl rfl) h0
  obtain ⟨n2, rfl, rfl, rfl, w2⟩ := open_int Tryz.underlying5 (hval 2 5 v2 rfl rfl) h2
  obtain ⟨n3, rfl, rfl, rfl, w3⟩ := open_int Tryz.underlying24 (hval 3 24 v3 rfl rfl) h3
  obtain ⟨ss, hls, hss⟩ := samples_of h1
  have b0 := bounds_u32 w0
  obtain ⟨m0, rfl⟩ := Int.eq_ofNat_of_zero_le b0.1
  have b2 := bounds_u8 w2
  obtain ⟨m2, rfl⟩ := Int.eq_ofNat_of_zero_le b2.1
  have b3 := bounds_u16 w3
  obtain ⟨m3, rfl⟩ := Int.eq_ofNat_of_zero_le b3.1
  obtain ⟨E0, hV0⟩ := env_of_laid hL
  have hgl := varsLen hV
  obtain ⟨g1, g2, g3, g4, g5, rfl⟩ : ∃ g1 g2 g3 g4 g5, gs = [g1, g2, g3, g4, g5] := by
    rcases gs with _ | ⟨g1, _ | ⟨g2, _ | ⟨g3, _ | ⟨g4, _ | ⟨g5, _ | ⟨g6, r⟩⟩⟩⟩⟩⟩ <;> simp [Rows.fnSumSpec] at hgl
    exact ⟨_, _, _, _, _, rfl⟩
  clear hA0 hval0
  refine Calls.mono (c18 (n := m0) (m := m2) (t := m3) (by omega) (by omega) (by omega) hss hls hV0) fun e W' hE => ?_
  obtain ⟨v, rfl, rfl, hfr⟩ := hE
  have bel := below_of_fr hfr
  exact ⟨_, rfl, _, _, _, [], _, q, hW', trodAll_mk1 (shut_bool Tryz.underlying4 _), (trodAll_cons_mk (shut_int Tryz.underlying22 w0) (trodAll_cons_mk (Below.trod laidOut (by kernel_rfl) (of_decide_eq_true (by kernel_rfl)) k1 bel lt1) (trodAll_cons_mk (shut_int Tryz.underlying5 w2) (trodAll_cons_mk (shut_int Tryz.underlying24 w3) trodAll_mk0)))), Below.trodVars laidOut bel (by kernel_rfl) hV, bel.frame _, fun h => by cases h⟩
theorem fnSum_holds : Rows.FnSumSaid :=
  OpenClaim.holds_of_wide 18 Tryz.f18 rfl rfl rfl rfl rfl rfl rfl ⟨rfl, rfl, rfl, rfl, rfl⟩ rfl rfl rfl rfl rfl fnSum_named Tryz.func18 fnSum_joined fnSum_inst fnSum_wrap
    (fun os started H enc _ => fnSum_lifted os started H enc)
theorem fnSum_tie : Rows.fnSumRow.laidByTextAt .later Tryz.pinned [.handle, .sentinel, .sentinel, .sentinel, .sentinel, .data, .sentinel, .sentinel, .data, .data] true :=
  OpenClaim.laidByTextAt_later rfl rfl rowsTie noUnsafeT
theorem fnSum_plain (j : Nat) (t : TypeId) (ht : Tryz.f18.params[j]? = some t) : Tryz.prog.wantsStandIn t = false := by
  rw [Tryz.params18] at ht
  have hm : t ∈ [22, 23, 5, 24] := by simpa using Array.mem_of_getElem? ht
  have hall : ([22, 23, 5, 24].all fun u => !Tryz.prog.wantsStandIn u) = true := by kernel_rfl
  exact (show Tryz.prog.wantsStandIn t = false by simpa using List.all_eq_true.1 hall t hm)
/-- laws.FnSum, as it is given. -/
theorem fnSum_card_holds : Rows.FnSumCardSaid :=
  Claim7.holds_tied_plain_at .later [] [.handle, .sentinel, .sentinel, .sentinel, .sentinel, .data, .sentinel, .sentinel, .data, .data] true (true, "09ae77e30f36cd5f4e62352753e7cdaf3fcb38f1a84f2c91d9d740edf3cddeba") true
    fnSum_holds (fun _ h => by cases h) fnSum_wf (fun _ h => by cases h) fnSum_tie rfl ⟨rfl, rfl⟩ isMain rfl
    (fun f fn hf hfn => by
      obtain rfl : f = 18 := Option.some.inj (fnSum_named.symm.trans hf) |>.symm
      obtain rfl : fn = Tryz.f18 := (Option.some.inj (Tryz.func18.symm.trans hfn)).symm
      exact ⟨fLooks.symm, fnSum_plain⟩)
    fnSum_goes

end Go.Proofs.YtklagmhonmbdgaaGreatDoor
#print axioms Go.Proofs.YtklagmhonmbdgaaGreatDoor.fnSum_card_holds
