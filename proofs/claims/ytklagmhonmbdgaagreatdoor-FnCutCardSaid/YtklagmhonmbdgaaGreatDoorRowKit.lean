/- Facts on the program and on what is laid -/
import Derived.Test.YtklagmhonmbdgaaGreatDoorRows
import Derived.LaidByTextLater
import Derived.Test.YtklagmhonmbdgaaGreatDoorCards
import Derived.ProofKit
import Derived.LaidMore
import Derived.OpenShut
import Derived.OpenVars
import Derived.Below
import Derived.Stop.Joined
import Derived.SevenTiedAt
import Derived.Test.YtklagmhonmbdgaaGreatDoorK4
import Derived.Test.YtklagmhonmbdgaaGreatDoorRowDoor
set_option maxRecDepth 1000000
set_option linter.unusedVariables false
set_option linter.unusedSimpArgs false
set_option maxHeartbeats 4000000
namespace Go.Proofs.YtklagmhonmbdgaaGreatDoor
open Go Go.V Go.ChangeShapes Go.WideShapes Go.ChangeAt Go.RowKit
open Go.IntKind (wrap)
theorem gTab:Tryz.prog.globalNamed "loop.example/pub-g03440/pub/png.ieeeTable" =some 3:=by kernel_rfl
theorem tTab:(Tryz.prog.globals[3]?).map (·.type)=some 188:=by kernel_rfl
theorem uTab:Tryz.prog.underlying 188=some (.array 256 22):=by kernel_rfl
theorem cTab:Tryz.prog.cellsOf 188=256:=by kernel_rfl
theorem tabL:(Rows.laid_loop_example_pub_g03440_pub_png_ieeeTable:DataW Unit)= .agg ((List.range 256).map fun i=> .lit (.int .u32 (jY 8 i:Nat))):=by kernel_rfl
theorem tab_of_laid{W:wQ}(h:laidMetH Tryz.prog laidL W):Tab W:=by
 have h':laidMet Tryz.prog (laidL.filter fun x=>x.2.handleName?.isNone) W/\handlesMet Tryz.prog (laidL.filter fun x=>x.2.handleName?.isSome) W:=h;have e:(laidL.filter fun x=>x.2.handleName?.isNone)=laidL.drop 1:=rfl;rw[e]at h';obtain⟨⟨ps,⟨_,_,_,_,_,q1,_,_,_,_,⟨_,_,_,_,_,q2,_,_,_,_,⟨_,_,_,_,_,q3,_,_,_,_,⟨_,_,_,_,_,q4,_,_,_,_,⟨_,_,_,_,_,q5,_,_,_,_,⟨_,_,_,_,_,q6,_,_,_,_,⟨_,_,_,_,_,q7,_,_,_,_,⟨_,_,_,_,_,q8,_,_,_,_,⟨g,t,cs,fu,p9,q9,hg,ht,hv,hd,_,e9⟩,e8⟩,e7⟩,e6⟩,e5⟩,e4⟩,e3⟩,e2⟩,e1⟩,_,hfr⟩,_⟩:=h';obtain rfl:=Option.some.inj (gTab.symm.trans hg);obtain rfl:=Option.some.inj (tTab.symm.trans ht);obtain⟨xs,m,rfl,hx,hlen,hn,hel⟩:=DataW.trod_array uTab hd;have c22:Tryz.prog.cellsOf 22=1:=by kernel_rfl
 have ct:cs.toList.length=256:=by
  rw[hlen,cTab]
 simp only[Prod.mk.injEq]at hx;rw[tabL]at hx;have hxl:xs.map (·.1)=(List.range 256).map fun i=>DataW.lit (.int .u32 (jY 8 i:Nat)):=(DataW.agg.inj hx.1).symm;have hcell:∀i,i<256 ->W.cell? ⟨3,i,none⟩=some (.int .u32 (jY 8 i:Nat)):=by
  intro i hi;have h0:=hel i hi;rw[c22,Nat.mul_one]at h0;obtain⟨x,hxi⟩:∃x,xs[i]? =some x:=⟨_,List.getElem?_eq_getElem oQ⟩;rw[hxi]at h0;obtain⟨k,e1,e2,_⟩:=DataW.trod_int Tryz.underlying22 h0;have hk:x.1= .lit (.int .u32 (jY 8 i:Nat)):=by
   have:=congrArg (·[i]?) hxl;simp only[List.getElem?_map,hxi,List.getElem?_range hi,Option.map_some,Option.some.injEq]at this;exact this
  rw[e2]at hk;have hk':k=(jY 8 i:Nat):=by simpa using hk
  have:=congrArg (·[0]?) e1;simp only[List.getElem?_take,List.getElem?_drop,Nat.add_zero,List.getElem?_cons_zero,Nat.lt_one_iff,if_true]at this;rw[World.var?_cell gTab hv i,<-Array.getElem?_toList,this,hk']
 have hmem:MemPlace.cell 3 0∈ps:=by
  rw[e1,e2,e3,e4,e5,e6,e7,e8,e9];have:MemPlace.cell 3 0∈MemPlace.row ⟨3,0,none⟩ cs.size:=by
   have:cs.size=256:=by simpa using ct
   rw[this]
   decide
  simp[this]
 obtain⟨⟨c,ty,hb⟩,_⟩:=hfr 3 0 hmem;refine⟨ty,c,?_,fun i hi=> ?_⟩
 ·unfold hp;rw[hb];simp[gN,Row]
 ·have:=hcell i hi
  rw[yO]at this;have hr:hp W 3=Row ty c:=by unfold hp;rw[hb];simp[gN,Row]
  rw[hr,atR_Row]at this;exact this
theorem varsLen{H:Type}{enc:TypeId×Value ->H}{P:Program}{W:wQ}{sp:Nat ->Bool}:∀{ns:List String} {gs:List (DataW H)} {ps:List MemPlace},DataW.TrodVars enc P W sp ns gs ps ->gs.length=ns.length
 |[],[],_,_ =>rfl
 |[],_ ::_,_,h=>h.elim
 |_ ::_,[],_,h=>h.elim
 |_ ::ns,_ ::gs,_,h=>by
  obtain⟨_,_,_,_,_,_,_,_,_,_,hs,_⟩:=h;simp[varsLen hs]
theorem below_of_fr{W W':wQ}(h:Fr [] W W'):Below W.heap.size W W':=⟨h.os,h.tape,h.output,h.size,fun k hk=>h.raw k hk sQ⟩
theorem samples_of{H:Type}{enc:TypeId×Value ->H}{W:wQ}{a:pQ}{len cap:Nat}{d:DataW H}{p:List MemPlace}(h:DataW.Trod enc Tryz.prog W 0 (fun _ =>true) true 23 (.slice a len cap) d p):
  ∃ss:List Nat,len=ss.length/\HasW W a (ss.map fun(s:Nat)=> .int .u16 (s:Int)):=by
 obtain⟨fuel,hf⟩:=h;rcases open_ints Tryz.underlying23 Tryz.underlying24 (by kernel_rfl) hf with⟨hcs,_⟩|⟨x,l,c,zs,hcs,_,hl,hm,hz,_,hcell,hwz⟩
 ·simp[Value.cells]at hcs
  obtain⟨rfl,rfl,rfl⟩:=hcs;exact⟨[],rfl,rfl⟩
 ·simp[Value.cells]at hcs
  obtain⟨rfl,rfl,rfl⟩:=hcs;have hz':zs.length=cap:=by simpa using hz
  refine⟨(zs.take len).map Int.toNat,by simp;omega,?_⟩;intro j v hj;simp only[List.map_map,List.getElem?_map,List.getElem?_take]at hj
  split at hj
  ·rename_i hlt
   have hjz:j<zs.length:=oQ;rw[List.getElem?_eq_getElem hjz]at hj;simp only[Option.map_some,Option.some.injEq,Function.comp]at hj;have hc:=hcell j hjz;obtain⟨b,o,s⟩:=x;have hw:=hwz zs[j] (List.getElem_mem hjz);have hb:=bounds_u16 hw;have hs:s=none:=by
    simpa [Addr.add]using World.cell?_spot (hcell 0 oQ)
   subst hs;refine⟨rfl,?_⟩;rw[yQ]at hc;rw[hc,<-hj];simp only[List.getD,List.getElem?_eq_getElem hjz,Option.getD_some]
   congr 2
   omega
  ·cases hj
end Go.Proofs.YtklagmhonmbdgaaGreatDoor
