/- The statement of the function laws.FnConfig, as it is given (FnConfigCardSaid): a right file of any of the fifteen kinds, up to 20 pixels wide and high, is told ahead of its picture. -/
import Derived.Test.YtklagmhonmbdgaaGreatDoorS14
import Derived.Test.YtklagmhonmbdgaaGreatDoorRowDoor
import Derived.Test.YtklagmhonmbdgaaGreatDoorRowKit
import Derived.Test.YtklagmhonmbdgaaGreatDoorRowFacts
import Derived.Test.YtklagmhonmbdgaaGreatDoorRowTie
namespace Go.Proofs.YtklagmhonmbdgaaGreatDoor
open Go Go.V Go.ChangeShapes Go.WideShapes Go.ChangeAt Go.RowKit

set_option maxRecDepth 100000
theorem fnConfig_named : Tryz.prog.funcNamed "loop.example/pub-g03440/laws.FnConfig" = some 3 := by kernel_rfl
theorem fnConfig_k5 : namedTie Tryz.prog Rows.fnConfigRow.named Rows.fnConfigSpec.vars = true := by kernel_rfl
theorem fnConfig_k10 : (Rows.fnConfigRow.inPlace == Tryz.prog.inPlace 3) = true := by kernel_rfl
theorem fnConfig_k11 : (Rows.fnConfigRow.unfollowed == Tryz.prog.unfollowed 3) = true := by kernel_rfl
theorem fnConfig_k12 : (Rows.fnConfigRow.recurses == Tryz.prog.recurses 3) = true := by kernel_rfl
theorem fnConfig_k13 : (Rows.fnConfigRow.named == Tryz.prog.varsNamed 3) = true := by kernel_rfl
theorem fnConfig_k18 : Rows.fnConfigSpec.vars.all (Tryz.prog.varReadable ·) = true := by kernel_rfl
theorem fnConfig_k15 : (Rows.fnConfigRow.ifaces == (Tryz.f3.params.toList ++ Rows.fnConfigSpec.plain.varTypes Tryz.prog).any (Tryz.prog.ifacesRec ·)) = true := by kernel_rfl
theorem fnConfig_k28 : Rows.fnConfigRow.veiledFits Tryz.prog Tryz.f3.params.toList (Tryz.f3.params.toList ++ Rows.fnConfigSpec.plain.varTypes Tryz.prog ++ Tryz.f3.resultTypes.toList) = true := by kernel_rfl
theorem fnConfig_joined : joinedFacts Tryz.prog 3 Tryz.f3 Rows.fnConfigSpec Rows.fnConfigRow = true :=
  joined_of (by kernel_rfl) fLaid fRowed (by kernel_rfl) fnConfig_k5 (by kernel_rfl) fStops (by kernel_rfl) fKnobs fnConfig_k10 fnConfig_k11 fnConfig_k12 fnConfig_k13 (by kernel_rfl) fnConfig_k15 (by kernel_rfl) (by kernel_rfl) (by kernel_rfl) fnConfig_k18
    (by kernel_rfl) (by kernel_rfl) (by kernel_rfl) (by rw [fKeys]; rfl) (by kernel_rfl) fHeard mayEnterT (by rw [liftsFinalT]; rfl) (by rw [makeT]; rfl) (by kernel_rfl) (by kernel_rfl) (by kernel_rfl) (by kernel_rfl) fnConfig_k28
theorem fnConfig_wf : Rows.fnConfigRow.wfByText (OpenSpec.ofChange Rows.fnConfigSpec) = true := by kernel_rfl
theorem fnConfig_goes : false = Rows.fnConfigRow.goesBy Tryz.prog := by kernel_rfl
theorem fnConfig_inst : Tryz.f3.isInstance Tryz.prog Rows.fnConfigRow.origin Rows.fnConfigRow.targs := of_decide_eq_true (by kernel_rfl)
theorem fnConfig_wrap : Tryz.f3.isWrapper Tryz.prog Rows.fnConfigRow.wrapper Rows.fnConfigRow.mainSum := by
  unfold Func.isWrapper
  rw [if_neg (of_decide_eq_false (by kernel_rfl))]
  exact ⟨rfl, rfl⟩
set_option maxRecDepth 100000 in
theorem fnConfig_lifted (os : Os) (started : os.Started) (H : Type) (enc : TypeId × Value → H) :
    ReturnsInHanded {} Tryz.checked os 3 .any (fun w args => (Rows.fnConfigSpec.pre enc Tryz.prog Tryz.f3 [] false w args ∧ laidMetH Tryz.prog laidL w) ∧ sizedMet enc Tryz.prog Tryz.f3 (OpenSpec.ofChange Rows.fnConfigSpec) false w args)
      (Rows.fnConfigSpec.post enc Tryz.prog Tryz.f3 false true false false) := by
  refine returnsInHanded_of_change_and (C := Tryz.checked) (X := fun w _ => laidMetH Tryz.prog laidL w) (fun _ _ _ hh h => h.of_heap hh) own started (by kernel_rfl) Tryz.func3
    (ChangeSpec.witness_shaped (enc := enc) (C := Tryz.checked) (os := os) (X := fun w _ => laidMetH Tryz.prog laidL w) false (World.doorLaid Tryz.prog 205 os) #[.int .u32 0, .slice none 0 0, .int .u16 0, .int .u8 0] 8 rfl (World.shaped_of_RefB (by kernel_rfl) (by kernel_rfl)) (by kernel_rfl) (by kernel_rfl) (by kernel_rfl) (door_met os _)) ?_
  intro W base args ds gs before hval0 hW _ _ hL _
  have hval : ∀ (j : Nat) t v, Tryz.f3.params[j]? = some t → args[j]? = some v → Value.okWide Tryz.prog W .any base t v := hval0
  have hW' := hW
  obtain ⟨p, q, hA0, hV, rfl, hfz, hnd⟩ := hW
  have hA : DataW.TrodAll enc Tryz.prog W 0 (fun _ => true) true Tryz.f3.params.toList args.toList ds p := hA0
  rw [Tryz.params3] at hA hval
  obtain ⟨v0, v1, v2, v3, d0, d1, d2, d3, p0, p1, p2, p3, rfl, rfl, rfl, h0, h1, h2, h3⟩ := trodAll_four hA
  obtain ⟨a1, len1, cap1, rfl⟩ := okWide_slice Tryz.underlying23 (hval 1 23 v1 rfl rfl)
  have k1 := h1
  have lt1 : ∀ x ∈ p1, x.block < W.heap.size := by obtain ⟨m, hm⟩ := k1; exact DataW.trod_lt m _ _ _ hm
  obtain ⟨n0, rfl, rfl, rfl, w0⟩ := open_int Tryz.underlying22 (hval 0 22 v0 rfl rfl) h0
  obtain ⟨n2, rfl, rfl, rfl, w2⟩ := open_int Tryz.underlying24 (hval 2 24 v2 rfl rfl) h2
  obtain ⟨n3, rfl, rfl, rfl, w3⟩ := open_int Tryz.underlying5 (hval 3 5 v3 rfl rfl) h3
  obtain ⟨ss, hls, hss⟩ := samples_of h1
  have b0 := bounds_u32 w0
  have b2 := bounds_u16 w2
  have b3 := bounds_u8 w3
  obtain ⟨m0, rfl⟩ := Int.eq_ofNat_of_zero_le b0.1
  obtain ⟨m2, rfl⟩ := Int.eq_ofNat_of_zero_le b2.1
  obtain ⟨m3, rfl⟩ := Int.eq_ofNat_of_zero_le b3.1
  have hgl := varsLen hV
  obtain ⟨g1, g2, g3, g4, g5, rfl⟩ : ∃ g1 g2 g3 g4 g5, gs = [g1, g2, g3, g4, g5] := by
    rcases gs with _ | ⟨g1, _ | ⟨g2, _ | ⟨g3, _ | ⟨g4, _ | ⟨g5, _ | ⟨g6, r⟩⟩⟩⟩⟩⟩ <;> simp [Rows.fnConfigSpec] at hgl
    exact ⟨_, _, _, _, _, rfl⟩
  clear hA0 hval0
  refine Calls.mono (c3 (n := m0) (by omega) hss hls (at_ := m2) (by omega) (by_ := m3) (by omega) (tab_of_laid hL)) fun e W' hE => ?_
  obtain ⟨v, rfl, rfl, hfr⟩ := hE
  have bel := below_of_fr hfr
  exact ⟨_, rfl, _, _, _, [], _, q, hW', trodAll_mk1 (shut_bool Tryz.underlying4 _), (trodAll_cons_mk (shut_int Tryz.underlying22 w0) (trodAll_cons_mk (Below.trod laidOut (by kernel_rfl) (of_decide_eq_true (by kernel_rfl)) k1 bel lt1) (trodAll_cons_mk (shut_int Tryz.underlying24 w2) (trodAll_cons_mk (shut_int Tryz.underlying5 w3) trodAll_mk0)))), Below.trodVars laidOut bel (by kernel_rfl) hV, bel.frame _, fun h => by cases h⟩
theorem fnConfig_holds : Rows.FnConfigSaid :=
  OpenClaim.holds_of_wide 3 Tryz.f3 rfl rfl rfl rfl rfl rfl rfl ⟨rfl, rfl, rfl, rfl, rfl⟩ rfl rfl rfl rfl rfl fnConfig_named Tryz.func3 fnConfig_joined fnConfig_inst fnConfig_wrap
    (fun os started H enc _ => fnConfig_lifted os started H enc)
theorem fnConfig_tie : Rows.fnConfigRow.laidByTextAt .later Tryz.pinned [.handle, .sentinel, .sentinel, .sentinel, .sentinel, .data, .sentinel, .sentinel, .data, .data] true :=
  OpenClaim.laidByTextAt_later rfl rfl rowsTie noUnsafeT
theorem fnConfig_plain (j : Nat) (t : TypeId) (ht : Tryz.f3.params[j]? = some t) : Tryz.prog.wantsStandIn t = false := by
  rw [Tryz.params3] at ht
  have hm : t ∈ [22, 23, 24, 5] := by simpa using Array.mem_of_getElem? ht
  have hall : ([22, 23, 24, 5].all fun u => !Tryz.prog.wantsStandIn u) = true := by kernel_rfl
  exact (show Tryz.prog.wantsStandIn t = false by simpa using List.all_eq_true.1 hall t hm)
/-- laws.FnConfig, as it is given. -/
theorem fnConfig_card_holds : Rows.FnConfigCardSaid :=
  Claim7.holds_tied_plain_at .later [] [.handle, .sentinel, .sentinel, .sentinel, .sentinel, .data, .sentinel, .sentinel, .data, .data] true (true, "09ae77e30f36cd5f4e62352753e7cdaf3fcb38f1a84f2c91d9d740edf3cddeba") true
    fnConfig_holds (fun _ h => by cases h) fnConfig_wf (fun _ h => by cases h) fnConfig_tie rfl ⟨rfl, rfl⟩ isMain rfl
    (fun f fn hf hfn => by
      obtain rfl : f = 3 := Option.some.inj (fnConfig_named.symm.trans hf) |>.symm
      obtain rfl : fn = Tryz.f3 := (Option.some.inj (Tryz.func3.symm.trans hfn)).symm
      exact ⟨fLooks.symm, fnConfig_plain⟩)
    fnConfig_goes

end Go.Proofs.YtklagmhonmbdgaaGreatDoor
#print axioms Go.Proofs.YtklagmhonmbdgaaGreatDoor.fnConfig_card_holds
