/- Facts on the program and on what is laid -/
import Derived.Test.YtklagmhonmbdgaaGreatDoorRows
import Derived.LaidByTextLater
import Derived.Test.YtklagmhonmbdgaaGreatDoorCards
import Derived.ProofKit
import Derived.JoinedOf
set_option maxRecDepth 1000000
set_option linter.unusedVariables false
set_option linter.unusedSimpArgs false
set_option maxHeartbeats 4000000
namespace Go.Proofs.YtklagmhonmbdgaaGreatDoor
open Go
theorem wordsSigns_word:(w:List Char) ->(w.all fun c=>c !=Char.ofNat 32)=true ->(r:List Char) ->wordsSigns (w++Char.ofNat 32::r)=w::wordsSigns r
 |[],_,r=>by simp[wordsSigns]
 |c::w,h,r=>by
  simp only[List.all_cons,Bool.and_eq_true,bne_iff_ne,ne_eq]at h;have ih:=wordsSigns_word w (by simpa using h.2) r;rw[List.cons_append,wordsSigns,ih];exact h.1
def headR:List Char:=List.map Char.ofNat [97,116,32,108,111,111,112,46,101,120,97,109,112,108,101,47,112,117,98,45,103,48,51,52,52,48,47,108,97,119,115,46,70,110,67,111,110,102,105,103,32,108,111,111,112,46,101,120,97,109,112,108,101,47,112,117,98,45,103,48,51,52,52,48,47,108,97,119,115,46,70,110,83,105,103,110,97,116,117,114,101,32,108,111,111,112,46,101,120,97,109,112,108,101,47,112,117,98,45,103,48,51,52,52,48,47,108,97,119,115,46,70,110,67,108,101,97,114,75,105,110,100,32,108,111,111,112,46,101,120,97,109,112,108,101,47,112,117,98,45,103,48,51,52,52,48,47,108,97,119,115,46,70,110,67,108,101,97,114,76,101,110,103,116,104,32,108,111,111,112,46,101,120,97,109,112,108,101,47,112,117,98,45,103,48,51,52,52,48,47,108,97,119,115,46,70,110,67,117,116,32,108,111,111,112,46,101,120,97,109,112,108,101,47,112,117,98,45,103,48,51,52,52,48,47,108,97,119,115,46,70,110,70,105,108,116,101,114,32,108,111,111,112,46,101,120,97,109,112,108,101,47,112,117,98,45,103,48,51,52,52,48,47,108,97,119,115,46,70,110,72,101,97,100,76,101,110,103,116,104,32,108,111,111,112,46,101,120,97,109,112,108,101,47,112,117,98,45,103,48,51,52,52,48,47,108,97,119,115,46,70,110,76,111,110,103,32,108,111,111,112,46,101,120,97,109,112,108,101,47,112,117,98,45,103,48,51,52,52,48,47,108,97,119,115,46,70,110,77,101,116,104,111,100,32,108,111,111,112,46,101,120,97,109,112,108,101,47,112,117,98,45,103,48,51,52,52,48,47,108,97,119,115,46,70,110,78,111,68,97,116,97,32,108,111,111,112,46,101,120,97,109,112,108,101,47,112,117,98,45,103,48,51,52,52,48,47,108,97,119,115,46,70,110,78,111,72,101,97,100,32,108,111,111,112,46,101,120,97,109,112,108,101,47,112,117,98,45,103,48,51,52,52,48,47,108,97,119,115,46,70,110,78,111,80,97,108,101,116,116,101,32,108,111,111,112,46,101,120,97,109,112,108,101,47,112,117,98,45,103,48,51,52,52,48,47,108,97,119,115,46,70,110,78,111,83,105,122,101,32,108,111,111,112,46,101,120,97,109,112,108,101,47,112,117,98,45,103,48,51,52,52,48,47,108,97,119,115,46,70,110,80,97,108,101,116,116,101,76,101,110,103,116,104,32,108,111,111,112,46,101,120,97,109,112,108,101,47,112,117,98,45,103,48,51,52,52,48,47,108,97,119,115,46,70,110,83,104,111,114,116,32,108,111,111,112,46,101,120,97,109,112,108,101,47,112,117,98,45,103,48,51,52,52,48,47,108,97,119,115,46,70,110,83,117,109,32,108,111,111,112,46,101,120,97,109,112,108,101,47,112,117,98,45,103,48,51,52,52,48,47,108,97,119,115,46,70,110,84,119,111,72,101,97,100,115,32,108,111,111,112,46,101,120,97,109,112,108,101,47,112,117,98,45,103,48,51,52,52,48,47,108,97,119,115,46,70,110,90,108,105,98,32,108,111,111,112,46,101,120,97,109,112,108,101,47,112,117,98,45,103,48,51,52,52,48,47,108,97,119,115,46,70,110,80,105,101,99,101,115]
theorem headA: "harness".toList=List.map Char.ofNat [104,97,114,110,101,115,115]:=String.toList_ofList
theorem headS: "09ae77e30f36cd5f4e62352753e7cdaf3fcb38f1a84f2c91d9d740edf3cddeba".toList=List.map Char.ofNat [48,57,97,101,55,55,101,51,48,102,51,54,99,100,53,102,52,101,54,50,51,53,50,55,53,51,101,55,99,100,97,102,51,102,99,98,51,56,102,49,97,56,52,102,50,99,57,49,100,57,100,55,52,48,101,100,102,51,99,100,100,101,98,97]:=String.toList_ofList
theorem headC: "cut".toList=List.map Char.ofNat [99,117,116]:=String.toList_ofList
theorem headOf:Tryz.prog.initOrder.toList= "harness".toList++Char.ofNat 32::("09ae77e30f36cd5f4e62352753e7cdaf3fcb38f1a84f2c91d9d740edf3cddeba".toList++Char.ofNat 32::("cut".toList++Char.ofNat 32::headR)):=by
 rw[headA,headS,headC];exact(congrArg String.toList (show Tryz.prog.initOrder=String.ofList (List.map Char.ofNat [104,97,114,110,101,115,115]++Char.ofNat 32::(List.map Char.ofNat [48,57,97,101,55,55,101,51,48,102,51,54,99,100,53,102,52,101,54,50,51,53,50,55,53,51,101,55,99,100,97,102,51,102,99,98,51,56,102,49,97,56,52,102,50,99,57,49,100,57,100,55,52,48,101,100,102,51,99,100,100,101,98,97]++Char.ofNat 32::(List.map Char.ofNat [99,117,116]++Char.ofNat 32::headR)))from by kernel_rfl)).trans String.toList_ofList
theorem headWords:wordsSigns Tryz.prog.initOrder.toList= "harness".toList:: "09ae77e30f36cd5f4e62352753e7cdaf3fcb38f1a84f2c91d9d740edf3cddeba".toList:: "cut".toList::wordsSigns headR:=by
 rw[headOf,wordsSigns_word _ (by rw[headA];decide+kernel),wordsSigns_word _ (by rw[headS];decide+kernel),wordsSigns_word _ (by rw[headC];decide+kernel)]
theorem sumS:isSumSigns "09ae77e30f36cd5f4e62352753e7cdaf3fcb38f1a84f2c91d9d740edf3cddeba".toList=true:=by
 rw[headS]
 decide+kernel
theorem bmw_harness{s:List Char}(hs:isSumSigns s=true)(r:List (List Char)):behindMainWord ("harness".toList::s::r)=r:=by
 show(if(("harness".toList== "harness".toList|| "harness".toList== "ownmain".toList)&&isSumSigns s)=true then r else "harness".toList::s::r)=r;rw[hs,beq_self_eq_true]
 rfl
theorem behindWords:behindMainWord (wordsSigns Tryz.prog.initOrder.toList)= "cut".toList::wordsSigns headR:=(congrArg behindMainWord headWords).trans (bmw_harness sumS _)
theorem mainIs_of{P:Program}{s:List Char}{r:List (List Char)}(h:wordsSigns P.initOrder.toList= "harness".toList::s::r)(hs:isSumSigns s=true):P.mainIs=some (true,s):=by
 unfold Program.mainIs;rw[h];show(if(!isSumSigns s)=true then none else if("harness".toList== "harness".toList)=true then some (true,s)else if("harness".toList== "ownmain".toList)=true then some (false,s)else none)=_;rw[hs,beq_self_eq_true]
 rfl
theorem isMain:Tryz.prog.mainIs=some (true,"09ae77e30f36cd5f4e62352753e7cdaf3fcb38f1a84f2c91d9d740edf3cddeba".toList):=mainIs_of headWords sumS
theorem noLifts(r:List (List Char)):stripLifts liftWords ("cut".toList::r)=([],"cut".toList::r):=by
 unfold liftWords;rw[headC]
 repeat rw[stripLifts,if_neg (by decide+kernel)]
 rw[stripLifts]
theorem doorFit:Tryz.prog.doorFits []=true:=by kernel_rfl
theorem laysNone:Tryz.prog.laysLater=false:=by kernel_rfl
theorem reflNone:Tryz.prog.bearsReflect=false:=by kernel_rfl
theorem mayEnter_of{P:Program}{r:List (List Char)}(h:behindMainWord (wordsSigns P.initOrder.toList)= "cut".toList::r)(h1:P.laysLater=false)(h2:P.bearsReflect=false)(h3:P.doorFits []=true):P.mayEnter=true:=by
 unfold Program.mayEnter;simp only[h,noLifts,h1,h2,h3,List.head?_cons,beq_self_eq_true,Bool.not_false,Bool.or_true,Bool.and_true,List.contains_nil]
theorem lifts_of{P:Program}{r:List (List Char)}(h:behindMainWord (wordsSigns P.initOrder.toList)= "cut".toList::r):P.headLifts=[]:=by
 unfold Program.headLifts;simp only[h,noLifts]
 split<;>rfl
theorem cutNe:("cut".toList== "carried".toList)=false/\("cut".toList== "gc".toList)=false/\("cut".toList== "spec".toList)=false:=⟨by decide+kernel,by decide+kernel,by decide+kernel⟩
theorem final_of{P:Program}{r:List (List Char)}(h:behindMainWord (wordsSigns P.initOrder.toList)= "cut".toList::r):P.liftsFinal=false:=by
 unfold Program.liftsFinal;rw[lifts_of h];have e:(some "cut".toList==some "carried".toList)=false:=by decide+kernel
 simp only[h,List.head?_cons,e,Bool.false_and,List.contains_nil,Bool.or_false]
theorem make_of{P:Program}{r:List (List Char)}(h:behindMainWord (wordsSigns P.initOrder.toList)= "cut".toList::r):P.make=some .cut:=by
 unfold Program.make;rw[h];show(if("cut".toList== "gc".toList|| "cut".toList== "spec".toList)=true then some Make.whole else if("cut".toList== "cut".toList||_)=true then some Make.cut else _)=_;rw[cutNe.2.1,cutNe.2.2,beq_self_eq_true]
 rfl
theorem mayEnterT:Tryz.prog.mayEnter=true:=mayEnter_of behindWords laysNone reflNone doorFit
theorem noLiftsT:Tryz.prog.headLifts=[]:=lifts_of behindWords
theorem liftsFinalT:Tryz.prog.liftsFinal=false:=final_of behindWords
theorem makeT:Tryz.prog.make=some .cut:=make_of behindWords
theorem joined_of{P:Program}{f:FuncId}{fn:Func}{s:ChangeSpec}{c:OpenClaim}
  (k1:c.wf (OpenSpec.ofChange s)=true)(k2:laidOutB P=true)(k3:mapsRowed P=true)(k4:fn.params.all (P.readableRec ·)=true)(k5:namedTie P c.named s.vars=true)
  (k6:(c.stops==[])=true)(k7:(P.stops==[])=true)(k8:(c.knobs==[])=true)(k9:(P.stopKnobs==[])=true)
  (k10:(c.inPlace==P.inPlace f)=true)(k11:(c.unfollowed==P.unfollowed f)=true)(k12:(c.recurses==P.recurses f)=true)(k13:(c.named==P.varsNamed f)=true)
  (k14:(c.maps==(fn.params.toList++s.plain.varTypes P).any (P.mapsRec ·))=true)(k15:(c.ifaces==(fn.params.toList++s.plain.varTypes P).any (P.ifacesRec ·))=true)(k16:(c.mapsOut==P.mapsAmong fn.resultTypes.toList)=true)
  (k17:(c.loops==(fn.params.toList++s.plain.varTypes P).any (P.loopsFrom ·))=true)(k17b:(c.wideKeys==(fn.params.toList++s.plain.varTypes P++fn.resultTypes.toList).any (P.wideKeysFrom ·))=true)
  (k18:s.vars.all (P.varReadable ·)=true)(k19:fn.resultTypes.all (fun t=>P.readableRec t&&decide (t<P.types.size))=true)(k20:(c.ifacesOut==fn.resultTypes.toList.any (P.ifacesRec ·))=true)(k21:(c.loopsOut==fn.resultTypes.toList.any (P.loopsFrom ·))=true)
  (k22:(c.plainKeys==P.plainKeys)=true)(k23:c.shortTexts.isNone=true)(k23b:P.stopsHeard=true)(k24:P.mayEnter=true)(k24b:(c.lifted==P.liftsFinal)=true)(k24c:(P.make==some c.make)=true)
  (k25:(c.kinds==[])=true)(k25d:c.domain.isEmpty=true)(k26:(c.pinned==c.pinnedBy)=true)
  (k27:(c.veiled==(fn.params.toList++s.plain.varTypes P++fn.resultTypes.toList).any (P.veiledRec ·))=true)(k28:c.veiledFits P fn.params.toList (fn.params.toList++s.plain.varTypes P++fn.resultTypes.toList)=true):joinedFacts P f fn s c=true:=by
 unfold joinedFacts;rw[k1,k2,k3,k4,k5,k6,k7,k8,k9,k10,k11,k12,k13,k14,k15,k16,k17,k17b,k18,k19,k20,k21,k22,k23,k23b,k24,k24b,k24c,if_pos k25d,k25,k26,k27,k28]
 rfl
theorem fLaid:laidOutB Tryz.prog=true:=by kernel_rfl
theorem fRowed:mapsRowed Tryz.prog=true:=by kernel_rfl
theorem fStops:(Tryz.prog.stops==[])=true:=by kernel_rfl
theorem fKnobs:(Tryz.prog.stopKnobs==[])=true:=by kernel_rfl
theorem fKeys:Tryz.prog.plainKeys=true:=by kernel_rfl
theorem fHeard:Tryz.prog.stopsHeard=true:=by kernel_rfl
theorem fLooks:Tryz.prog.looks []=true:=by kernel_rfl
end Go.Proofs.YtklagmhonmbdgaaGreatDoor
