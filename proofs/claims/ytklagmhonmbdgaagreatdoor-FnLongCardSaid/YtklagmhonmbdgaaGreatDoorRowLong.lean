/- The statement of the function laws.FnLong, as it is given (FnLongCardSaid): rows behind which other bytes stand are malformed. -/
import Derived.Test.YtklagmhonmbdgaaGreatDoorLLong
import Derived.Test.YtklagmhonmbdgaaGreatDoorRowDoor
import Derived.Test.YtklagmhonmbdgaaGreatDoorRowKit
import Derived.Test.YtklagmhonmbdgaaGreatDoorELong
import Derived.Test.YtklagmhonmbdgaaGreatDoorRowFacts
import Derived.Test.YtklagmhonmbdgaaGreatDoorRowTie
namespace Go.Proofs.YtklagmhonmbdgaaGreatDoor
open Go Go.V Go.ChangeShapes Go.WideShapes Go.ChangeAt Go.RowKit

set_option maxRecDepth 100000
theorem bytes_of{H:Type}{enc:TypeId×Value ->H}{W:World}{a:Option Addr}{len cap:Nat}{d:DataW H}{p:List MemPlace}(h:DataW.Trod enc Tryz.prog W 0 (fun _ =>true) true 33 (.slice a len cap) d p):
  ∃bs:List UInt8,len=bs.length/\HasW W a (bv bs):=by
 obtain⟨fuel,hf⟩:=h
 rcases open_ints Tryz.underlying33 Tryz.underlying5 (by kernel_rfl) hf with⟨hcs,_⟩|⟨x,l,c,zs,hcs,_,hl,hm,hz,_,hcell,hwz⟩
 ·simp[Value.cells]at hcs
  obtain⟨rfl,rfl,rfl⟩:=hcs
  exact⟨[],rfl,rfl⟩
 ·simp[Value.cells]at hcs
  obtain⟨rfl,rfl,rfl⟩:=hcs
  have hz':zs.length=cap:=by simpa using hz
  refine⟨(zs.take len).map fun z=>UInt8.ofNat z.toNat,by simp;omega,?_⟩
  intro j v hj
  simp only[bv,List.map_map,List.getElem?_map,List.getElem?_take]at hj
  split at hj
  ·rename_i hlt
   have hjz:j<zs.length:=by omega
   rw[List.getElem?_eq_getElem hjz]at hj
   simp only[Option.map_some,Option.some.injEq,Function.comp]at hj
   have hc:=hcell j hjz
   obtain⟨b,o,s⟩:=x
   have hw:=hwz zs[j] (List.getElem_mem hjz)
   have hb:=bounds_u8 hw
   have hs:s=none:=by
    simpa [Addr.add]using World.cell?_spot (hcell 0 (by omega))
   subst hs
   refine⟨rfl,?_⟩
   rw[yP]at hc
   rw[hc,<-hj]
   simp only[List.getD,List.getElem?_eq_getElem hjz,Option.getD_some,u8v,UInt8.toNat_ofNat']
   congr 2
   omega
  ·cases hj
theorem fnLong_named : Tryz.prog.funcNamed "loop.example/pub-g03440/laws.FnLong" = some 10 := by kernel_rfl
theorem fnLong_k5 : namedTie Tryz.prog Rows.fnLongRow.named Rows.fnLongSpec.vars = true := by kernel_rfl
theorem fnLong_k10 : (Rows.fnLongRow.inPlace == Tryz.prog.inPlace 10) = true := by kernel_rfl
theorem fnLong_k11 : (Rows.fnLongRow.unfollowed == Tryz.prog.unfollowed 10) = true := by kernel_rfl
theorem fnLong_k12 : (Rows.fnLongRow.recurses == Tryz.prog.recurses 10) = true := by kernel_rfl
theorem fnLong_k13 : (Rows.fnLongRow.named == Tryz.prog.varsNamed 10) = true := by kernel_rfl
theorem fnLong_k18 : Rows.fnLongSpec.vars.all (Tryz.prog.varReadable ·) = true := by kernel_rfl
theorem fnLong_k15 : (Rows.fnLongRow.ifaces == (Tryz.f10.params.toList ++ Rows.fnLongSpec.plain.varTypes Tryz.prog).any (Tryz.prog.ifacesRec ·)) = true := by kernel_rfl
theorem fnLong_k28 : Rows.fnLongRow.veiledFits Tryz.prog Tryz.f10.params.toList (Tryz.f10.params.toList ++ Rows.fnLongSpec.plain.varTypes Tryz.prog ++ Tryz.f10.resultTypes.toList) = true := by kernel_rfl
theorem fnLong_joined : joinedFacts Tryz.prog 10 Tryz.f10 Rows.fnLongSpec Rows.fnLongRow = true :=
 joined_of (by kernel_rfl) fLaid fRowed (by kernel_rfl) fnLong_k5 (by kernel_rfl) fStops (by kernel_rfl) fKnobs fnLong_k10 fnLong_k11 fnLong_k12 fnLong_k13 (by kernel_rfl) fnLong_k15 (by kernel_rfl) (by kernel_rfl) (by kernel_rfl) fnLong_k18
  (by kernel_rfl) (by kernel_rfl) (by kernel_rfl) (by rw [fKeys]; rfl) (by kernel_rfl) fHeard mayEnterT (by rw [liftsFinalT]; rfl) (by rw [makeT]; rfl) (by kernel_rfl) (by kernel_rfl) (by kernel_rfl) (by kernel_rfl) fnLong_k28
theorem fnLong_wf : Rows.fnLongRow.wfByText (OpenSpec.ofChange Rows.fnLongSpec) = true := by kernel_rfl
theorem fnLong_goes : false = Rows.fnLongRow.goesBy Tryz.prog := by kernel_rfl
theorem fnLong_inst : Tryz.f10.isInstance Tryz.prog Rows.fnLongRow.origin Rows.fnLongRow.targs := of_decide_eq_true (by kernel_rfl)
theorem fnLong_wrap : Tryz.f10.isWrapper Tryz.prog Rows.fnLongRow.wrapper Rows.fnLongRow.mainSum := by
 unfold Func.isWrapper
 rw [if_neg (of_decide_eq_false (by kernel_rfl))]
 exact ⟨rfl, rfl⟩
set_option maxRecDepth 100000 in
theorem fnLong_lifted (os : Os) (started : os.Started) (H : Type) (enc : TypeId × Value → H) :
  ReturnsInHanded {} Tryz.checked os 10 .any (fun w args => (Rows.fnLongSpec.pre enc Tryz.prog Tryz.f10 [] false w args ∧ laidMetH Tryz.prog laidL w) ∧ sizedMet enc Tryz.prog Tryz.f10 (OpenSpec.ofChange Rows.fnLongSpec) false w args)
   (Rows.fnLongSpec.post enc Tryz.prog Tryz.f10 false true false false) := by
 refine returnsInHanded_of_change_and (C := Tryz.checked) (X := fun w _ => laidMetH Tryz.prog laidL w) (fun _ _ _ hh h => h.of_heap hh) own started (by kernel_rfl) Tryz.func10
  (ChangeSpec.witness_shaped (enc := enc) (C := Tryz.checked) (os := os) (X := fun w _ => laidMetH Tryz.prog laidL w) false (World.doorLaid Tryz.prog 205 os) #[.int .u32 0, .slice none 0 0, .slice none 0 0] 8 rfl (World.shaped_of_RefB (by kernel_rfl) (by kernel_rfl)) (by kernel_rfl) (by kernel_rfl) (by kernel_rfl) (door_met os _)) ?_
 intro W base args ds gs before hval0 hW _ _ hL _
 have hval : ∀ (j : Nat) t v, Tryz.f10.params[j]? = some t → args[j]? = some v → Value.okWide Tryz.prog W .any base t v := hval0
 have hW' := hW
 obtain ⟨p, q, hA0, hV, rfl, hfz, hnd⟩ := hW
 have hA : DataW.TrodAll enc Tryz.prog W 0 (fun _ => true) true Tryz.f10.params.toList args.toList ds p := hA0
 rw [Tryz.params10] at hA hval
 obtain ⟨v0, v1, v2, d0, d1, d2, p0, p1, p2, rfl, rfl, rfl, h0, h1, h2⟩ := trodAll_three hA
 obtain ⟨a1, len1, cap1, rfl⟩ := okWide_slice Tryz.underlying23 (hval 1 23 v1 rfl rfl)
 have k1 := h1
 have lt1 : ∀ x ∈ p1, x.block < W.heap.size := by obtain ⟨m, hm⟩ := k1; exact DataW.trod_lt m _ _ _ hm
 obtain ⟨a2, len2, cap2, rfl⟩ := okWide_slice Tryz.underlying33 (hval 2 33 v2 rfl rfl)
 have k2 := h2
 have lt2 : ∀ x ∈ p2, x.block < W.heap.size := by obtain ⟨m, hm⟩ := k2; exact DataW.trod_lt m _ _ _ hm
 obtain ⟨n0, rfl, rfl, rfl, w0⟩ := open_int Tryz.underlying22 (hval 0 22 v0 rfl rfl) h0
 obtain ⟨ss, hls, hss⟩ := samples_of h1
 obtain ⟨bs, hlb, hbs⟩ := bytes_of h2
 have b0 := bounds_u32 w0
 obtain ⟨m0, rfl⟩ := Int.eq_ofNat_of_zero_le b0.1
 obtain ⟨E0, hV0⟩ := env_of_laid hL
 have hgl := varsLen hV
 obtain ⟨g1, g2, g3, g4, g5, rfl⟩ : ∃ g1 g2 g3 g4 g5, gs = [g1, g2, g3, g4, g5] := by
  rcases gs with _ | ⟨g1, _ | ⟨g2, _ | ⟨g3, _ | ⟨g4, _ | ⟨g5, _ | ⟨g6, r⟩⟩⟩⟩⟩⟩ <;> simp [Rows.fnLongSpec] at hgl
  exact ⟨_, _, _, _, _, rfl⟩
 clear hA0 hval0
 refine Calls.mono (c10 (n := m0) (by omega) hss hls hbs hlb hV0) fun e W' hE => ?_
 obtain ⟨v, rfl, rfl, hfr⟩ := hE
 have bel := below_of_fr hfr
 exact ⟨_, rfl, _, _, _, [], _, q, hW', trodAll_mk1 (shut_bool Tryz.underlying4 _), (trodAll_cons_mk (shut_int Tryz.underlying22 w0) (trodAll_cons_mk (Below.trod laidOut (by kernel_rfl) (of_decide_eq_true (by kernel_rfl)) k1 bel lt1) (trodAll_cons_mk (Below.trod laidOut (by kernel_rfl) (of_decide_eq_true (by kernel_rfl)) k2 bel lt2) trodAll_mk0))), Below.trodVars laidOut bel (by kernel_rfl) hV, bel.frame _, fun h => by cases h⟩
theorem fnLong_holds : Rows.FnLongSaid :=
 OpenClaim.holds_of_wide 10 Tryz.f10 rfl rfl rfl rfl rfl rfl rfl ⟨rfl, rfl, rfl, rfl, rfl⟩ rfl rfl rfl rfl rfl fnLong_named Tryz.func10 fnLong_joined fnLong_inst fnLong_wrap
  (fun os started H enc _ => fnLong_lifted os started H enc)
theorem fnLong_tie : Rows.fnLongRow.laidByTextAt .later Tryz.pinned [.handle, .sentinel, .sentinel, .sentinel, .sentinel, .data, .sentinel, .sentinel, .data, .data] true :=
 OpenClaim.laidByTextAt_later rfl rfl rowsTie noUnsafeT
theorem fnLong_plain (j : Nat) (t : TypeId) (ht : Tryz.f10.params[j]? = some t) : Tryz.prog.wantsStandIn t = false := by
 rw [Tryz.params10] at ht
 have hm : t ∈ [22, 23, 33] := by simpa using Array.mem_of_getElem? ht
 have hall : ([22, 23, 33].all fun u => !Tryz.prog.wantsStandIn u) = true := by kernel_rfl
 exact (show Tryz.prog.wantsStandIn t = false by simpa using List.all_eq_true.1 hall t hm)
/-- laws.FnLong, as it is given. -/
theorem fnLong_card_holds : Rows.FnLongCardSaid :=
 Claim7.holds_tied_plain_at .later [] [.handle, .sentinel, .sentinel, .sentinel, .sentinel, .data, .sentinel, .sentinel, .data, .data] true (true, "09ae77e30f36cd5f4e62352753e7cdaf3fcb38f1a84f2c91d9d740edf3cddeba") true
  fnLong_holds (fun _ h => by cases h) fnLong_wf (fun _ h => by cases h) fnLong_tie rfl ⟨rfl, rfl⟩ isMain rfl
  (fun f fn hf hfn => by
   obtain rfl : f = 10 := Option.some.inj (fnLong_named.symm.trans hf) |>.symm
   obtain rfl : fn = Tryz.f10 := (Option.some.inj (Tryz.func10.symm.trans hfn)).symm
   exact ⟨fLooks.symm, fnLong_plain⟩)
  fnLong_goes

end Go.Proofs.YtklagmhonmbdgaaGreatDoor
#print axioms Go.Proofs.YtklagmhonmbdgaaGreatDoor.fnLong_card_holds
