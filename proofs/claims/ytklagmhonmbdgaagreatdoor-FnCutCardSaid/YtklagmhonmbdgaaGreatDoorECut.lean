/- What is laid gives the walks all that they ask of the package variables -/
import Derived.Test.YtklagmhonmbdgaaGreatDoorLCut
import Derived.Test.YtklagmhonmbdgaaGreatDoorRowKit
import Derived.Test.YtklagmhonmbdgaaGreatDoorRowNm
set_option maxRecDepth 1000000
set_option linter.unusedVariables false
set_option linter.unusedSimpArgs false
set_option maxHeartbeats 4000000
namespace Go.Proofs.YtklagmhonmbdgaaGreatDoor
open Go Go.V Go.ChangeShapes Go.WideShapes Go.ChangeAt Go.RowKit
open Go.IntKind (wrap)
theorem gCode:Tryz.prog.globalNamed "loop.example/pub-g03440/pub/flate.codeOrder" =some 10:=by kernel_rfl
theorem trod_iface{W:wQ}{t:TypeId}{ms:Array (String×TypeId)}{cs:List Value}{fu:Nat}{nm:String}{d:DataW Unit}{p:List MemPlace}(ht:Tryz.prog.underlying t=some (.interface ms))(h:DataW.trod (fun _ =>()) Tryz.prog W 0 (fun _ =>true) false fu t cs=some (.iface nm d,p)):
  ∃u v n,cs=[.iface u v]/\Tryz.prog.typeName? 3 u=some nm/\DataW.trod (fun _ =>()) Tryz.prog W 0 (fun _ =>true) false n u v.cells.toList=some (d,p):=by
 cases fu with
 |zero=>simp[DataW.trod]at h
 |succ n=>
  unfold DataW.trod at h;rw[ht]at h
  split at h<;>first|(simp at h;done)|skip
  all_goals try (simp_all;done)
  rename_i u v _
  split at h
  ·rename_i h2;cases h2
  ·rename_i nm' h1 h2
   simp only[Option.map_eq_some_iff,Prod.mk.injEq,DataW.iface.injEq]at h;obtain⟨x,hx,⟨rfl,rfl⟩,rfl⟩:=h;exact⟨u,v,n,rfl,h2,hx⟩
  ·cases h
theorem row_mem{g n i:Nat}(h:i<n):MemPlace.cell g i∈MemPlace.row ⟨g,0,none⟩ n:=by
 unfold MemPlace.row;exact List.mem_map.2 ⟨i,List.mem_range.2 h,sQ⟩
theorem sent_of{W:wQ}{ps p:List MemPlace}{g fu:Nat}{name:String}{cs:vQ}{bs:bQ}(hh:∀b off,MemPlace.cell b off∈ps ->(∃c t,W.heap[b]? =some (.cells c t (0,0)))/\∀u v,W.cell? ⟨b,off,none⟩=some (.iface u v) ->Value.okWide Tryz.prog W .any 0 u v)
  (hg:Tryz.prog.globalNamed name=some g)(hv:W.var? Tryz.prog name=some cs)(hd:DataW.trod (fun _ =>()) Tryz.prog W 0 (fun _ =>true) false fu 82 cs.toList=some (.iface "*errors.errorString" (.ptr (.agg [.lit (.string bs)])),p))(hmem:∀x∈MemPlace.row ⟨g,0,none⟩ cs.size++p,x∈ps):
  ∃a T s,hp W g=Row T #[xP a]/\ErrAt W a s/\s.data.toList=bs:=by
 obtain⟨ms,u82'⟩:=u82;obtain⟨u,v,n,hcs,hnm,h1⟩:=trod_iface u82' hd;obtain rfl:=nm_of hnm;have hcs':cs= #[.iface 310 v]:=by
  apply Array.toList_inj.1;rw[hcs]
 subst hcs';have hm0:=hmem (.cell g 0) (List.mem_append_left _ (row_mem sQ));obtain⟨⟨c,t,hb⟩,hok⟩:=hh g 0 hm0;have hcell:W.cell? ⟨g,0,none⟩=some (.iface 310 v):=by rw[World.var?_cell hg hv 0];rfl
 obtain⟨a,rfl⟩:=okWide_pointer u310 (hok _ _ hcell);rcases DataW.trod_pointer u310 h1 with⟨_,h2⟩|⟨a',cs',y,n',_,h2,h3,h4,h5⟩
 ·cases h2
 ·have e:a=some a':=by simpa [Value.cells]using h2
  subst e;obtain⟨h31,h32⟩:=Prod.mk.inj h3;have hs:=s348t;unfold s348 at hs
  split at hs
  ·rename_i fs hfs
   simp only[Bool.and_eq_true]at hs;obtain⟨hsz,hs⟩:=hs
   split at hs
   ·rename_i f hf
    simp only[Bool.and_eq_true]at hs;obtain⟨⟨ho,hst⟩,hc1⟩:=hs;have hsz:=Nat.eq_of_beq_eq_true hsz;have ho:=Nat.eq_of_beq_eq_true ho;have hc1:=Nat.eq_of_beq_eq_true hc1;have hst':Tryz.prog.underlying f.type=some .string:=by
     split at hst
     ·assumption
     ·cases hst
    obtain⟨xs,m,_,hy,hl,hxl,hx⟩:=DataW.trod_struct hfs h5;have hx0:=hx 0 f hf;rw[c348]at hl h4 h32;obtain⟨c0,rfl⟩:∃c0,cs'=[c0]:=List.length_eq_one_iff.1 hl;rw[ho,hc1]at hx0;have hx0:DataW.trod (fun _ =>()) Tryz.prog W 0 (fun _ =>true) false m f.type [c0]=xs[0]? :=hx0;obtain⟨x0,rfl⟩:∃x0,xs=[x0]:=List.length_eq_one_iff.1 oQ;obtain⟨s,hs1,hs2,_⟩:=DataW.trod_string hst' hx0;have hs1:c0= .string s:=by simpa using hs1
    subst hs1;subst hs2;rw[hy]at h31 h32;obtain⟨_,_,hci⟩:=World.cells?_some h4;have hcc:=hci 0 dQ;have hsp:a'.spot=none:=by
     obtain⟨b,o,sp⟩:=a'
     simpa [Addr.add]using World.cell?_spot hcc
    obtain⟨b,o,sp⟩:=a';simp only at hsp;subst hsp;rw[yQ]at hcc;have hma:MemPlace.cell b o∈ps:=by
     refine hmem _ (List.mem_append_right _ ?_);rw[h32];refine List.mem_append_left _ ?_;unfold MemPlace.row;exact List.mem_map.2 ⟨0,dQ,sQ⟩
    obtain⟨⟨c2,t2,hb2⟩,_⟩:=hh b o hma;refine⟨⟨b,o,none⟩,t,s,?_,⟨rfl,c2,t2,hb2,?_⟩,?_⟩
    ·have hv':=hv
     simp only[World.var?,hg,Option.bind_some,hb]at hv';obtain rfl:=Option.some.inj hv';unfold hp;rw[hb];simp[gN,Row,xP]
    ·have:=hcc
     rw[yO]at this;unfold hp at this;rw[hb2]at this
     simpa [gN,atR]using this
    ·simpa using h31.symm
   ·cases hs
  ·cases hs
noncomputable def s215:Bool:=match Tryz.prog.underlying 215 with|some (.struct fs)=>Nat.beq fs.size 4&&((List.range 4).all fun j=>match fs[j]? with|some f=>Nat.beq f.offset j&&Nat.beq f.type 3|none=>false)|_ =>false
theorem s215t:s215=true:=by kernel_rfl
theorem c215:Tryz.prog.cellsOf 215=4:=by kernel_rfl
theorem c3o:Tryz.prog.cellsOf 3=1:=by kernel_rfl
theorem u3o:Tryz.prog.underlying 3=some (.int .i64):=by kernel_rfl
theorem struct4{W:wQ}{fu:Nat}{cs:List Value}{p:List MemPlace}{a b c d:Int}(h:DataW.trod (fun _ =>()) Tryz.prog W 0 (fun _ =>true) false fu 215 cs=some (.agg [.lit (.int .i64 a),.lit (.int .i64 b),.lit (.int .i64 c),.lit (.int .i64 d)],p)):
  cs=[.int .i64 a,.int .i64 b,.int .i64 c,.int .i64 d]:=by
 have hs:=s215t;unfold s215 at hs
 split at hs
 ·rename_i fs hfs
  simp only[Bool.and_eq_true]at hs;obtain⟨hsz,hs⟩:=hs;have hf:∀j,j<4 ->∃f,fs[j]? =some f/\f.offset=j/\f.type=3:=by
   intro j hj;have:=List.all_eq_true.1 hs j (List.mem_range.2 hj)
   split at this
   ·rename_i f hf
    simp only[Bool.and_eq_true]at this;exact⟨f,hf,Nat.eq_of_beq_eq_true this.1,Nat.eq_of_beq_eq_true this.2⟩
   ·cases this
  obtain⟨xs,m,_,hy,hl,hxl,hx⟩:=DataW.trod_struct hfs h;rw[c215]at hl;have hxl:xs.length=4:=hxl.trans (Nat.eq_of_beq_eq_true hsz);obtain⟨v0,v1,v2,v3,rfl⟩:∃v0 v1 v2 v3,cs=[v0,v1,v2,v3]:=by
   rcases cs with _ |⟨v0,_ |⟨v1,_ |⟨v2,_ |⟨v3,_ |⟨v4,r⟩⟩⟩⟩⟩<;>simp at hl
   exact⟨_,_,_,_,rfl⟩
  obtain⟨x0,x1,x2,x3,rfl⟩:∃v0 v1 v2 v3,xs=[v0,v1,v2,v3]:=by
   rcases xs with _ |⟨v0,_ |⟨v1,_ |⟨v2,_ |⟨v3,_ |⟨v4,r⟩⟩⟩⟩⟩<;>simp at hxl
   exact⟨_,_,_,_,rfl⟩
  have one:∀j (v:Value) (x:DataW Unit×List MemPlace),j<4 ->([v0,v1,v2,v3].drop j).take 1=[v] ->[x0,x1,x2,x3][j]? =some x ->∃n,v= .int .i64 n/\x.1= .lit (.int .i64 n):=by
   intro j v x hj hv hxx;obtain⟨f,hf1,hf2,hf3⟩:=hf j hj;have:=hx j f hf1;rw[hf2,hf3,c3o,hv,hxx]at this;obtain⟨n,e1,rfl,_⟩:=DataW.trod_int u3o this;exact⟨n,by simpa using e1,rfl⟩
  obtain⟨n0,rfl,e0⟩:=one 0 v0 x0 dQ rfl rfl;obtain⟨n1,rfl,e1⟩:=one 1 v1 x1 dQ rfl rfl;obtain⟨n2,rfl,e2⟩:=one 2 v2 x2 dQ rfl rfl;obtain⟨n3,rfl,e3⟩:=one 3 v3 x3 dQ rfl rfl;have hy:=(Prod.mk.inj hy).1;simp only[List.map_cons,List.map_nil,e0,e1,e2,e3,DataW.agg.injEq,List.cons.injEq,DataW.lit.injEq,Lit.int.injEq,true_and,and_true]at hy;obtain⟨rfl,rfl,rfl,rfl⟩:=hy
  rfl
 ·cases hs
def laceD:List (Int×Int×Int×Int):=[(8,8,0,0),(8,8,4,0),(4,8,0,4),(4,4,2,0),(2,4,0,2),(2,2,1,0),(1,2,0,1)]
theorem laceE:(Rows.laid_loop_example_pub_g03440_pub_png_interlacing:DataW Unit)= .slice (laceD.map fun x=> .agg [.lit (.int .i64 x.1),.lit (.int .i64 x.2.1),.lit (.int .i64 x.2.2.1),.lit (.int .i64 x.2.2.2)]) []:=rfl
theorem laceVE:qFd=laceD.flatMap fun x=>[.int .i64 x.1,.int .i64 x.2.1,.int .i64 x.2.2.1,.int .i64 x.2.2.2]:=rfl
theorem flat4{f:Int×Int×Int×Int ->List Value}(hf:∀x,(f x).length=4):∀(l:List (Int×Int×Int×Int)) (j:Nat) (v:Value),(l.flatMap f)[j]? =some v ->∃x,l[j/4]? =some x/\(f x)[j%4]? =some v
 |[],j,v,h=>by simp at h
 |x::l,j,v,h=>by
  rw[List.flatMap_cons]at h;rcases Nat.lt_or_ge j 4 with hj|hj
  ·rw[List.getElem?_append_left (by rw[hf];exact hj)]at h
   exact⟨x,by rw[Nat.div_eq_of_lt hj];rfl,by rw[Nat.mod_eq_of_lt hj];exact h⟩
  ·rw[List.getElem?_append_right (by rw[hf];exact hj),hf]at h
   obtain⟨y,h1,h2⟩:=flat4 hf l (j -4) v h;refine⟨y,?_,?_⟩
   ·rw[show j/4=(j -4)/4+1 by omega];exact h1
   ·rw[show j%4=(j -4)%4 by omega];exact h2
theorem lace_of{W:wQ}{ps p:List MemPlace}{fu t:Nat}{cs:vQ}(hh:∀b off,MemPlace.cell b off∈ps ->(∃c t,W.heap[b]? =some (.cells c t (0,0)))/\∀u v,W.cell? ⟨b,off,none⟩=some (.iface u v) ->Value.okWide Tryz.prog W .any 0 u v)
  (ht:(Tryz.prog.globals[6]?).map (·.type)=some t)(hv:W.var? Tryz.prog "loop.example/pub-g03440/pub/png.interlacing" =some cs)(hd:DataW.trod (fun _ =>()) Tryz.prog W 0 (fun _ =>true) false fu t cs.toList=some (Rows.laid_loop_example_pub_g03440_pub_png_interlacing,p))(hmem:∀x∈MemPlace.row ⟨6,0,none⟩ cs.size++p,x∈ps):
  ∃T a c,hp W 6=Row T #[.slice (some a) 7 c]/\Has W (some a) qFd/\a.block<hn W:=by
 have ut:Tryz.prog.underlying t=some (.slice 215):=by
  have:=tLace;rw[ht]at this;exact this
 rw[laceE]at hd;rcases DataW.trod_slice ut hd with⟨_,h2⟩|⟨a,len,cap,elems,rest,n,_,hcs,h3,_,hlc,_,hel,hget,_⟩
 ·cases h2
 ·obtain⟨h31,h32⟩:=Prod.mk.inj h3
  have h31:=DataW.slice.inj h31;have hlen:len=7:=by
   rw[<-hel];have:=congrArg List.length h31.1
   simpa [laceD]using this.symm
  subst hlen;have hcs':cs= #[.slice (some a) 7 cap]:=by
   apply Array.toList_inj.1;rw[hcs]
  subst hcs';rw[c215]at hget h32;have hm0:=hmem (.cell 6 0) (List.mem_append_left _ (row_mem sQ));obtain⟨⟨c,T,hb⟩,_⟩:=hh 6 0 hm0;have cell:∀i x,laceD[i]? =some x ->∀r v,[Value.int .i64 x.1,.int .i64 x.2.1,.int .i64 x.2.2.1,.int .i64 x.2.2.2][r]? =some v ->W.cell? ((a.add (i*4)).add r)=some v:=by
   intro i x hx r v hr;have hi:i<7:=(List.getElem?_eq_some_iff.1 hx).1;have hr4:r<4:=(List.getElem?_eq_some_iff.1 hr).1;have hg:=hget i hi;obtain⟨e,he⟩:∃e,elems[i]? =some e:=⟨_,List.getElem?_eq_getElem oQ⟩;rw[he,Option.bind_eq_some_iff]at hg;obtain⟨ci,hc1,hc2⟩:=hg;have he1:e.1= .agg [.lit (.int .i64 x.1),.lit (.int .i64 x.2.1),.lit (.int .i64 x.2.2.1),.lit (.int .i64 x.2.2.2)]:=by
    have:=congrArg (·[i]?) h31.1;simp only[List.getElem?_map,he,hx,Option.map_some,Option.some.injEq]at this;exact this.symm
   obtain⟨e1,e2⟩:=e;simp only at he1;subst he1;have hci:=struct4 hc2;subst hci;obtain⟨_,_,hci⟩:=World.cells?_some hc1;rw[hci r hr4];exact hr
  have hsp:a.spot=none:=by
   have:=World.cell?_spot (cell 0 _ rfl 0 _ rfl);obtain⟨b,o,sp⟩:=a
   simpa [Addr.add]using this
  obtain⟨b,o,sp⟩:=a;simp only at hsp;subst hsp;have hma:MemPlace.cell b o∈ps:=by
   refine hmem _ (List.mem_append_right _ ?_);rw[h32];refine List.mem_append_left _ ?_;unfold MemPlace.row;exact List.mem_map.2 ⟨0,List.mem_range.2 oQ,sQ⟩
  obtain⟨⟨c2,t2,hb2⟩,_⟩:=hh b o hma;have hrow:hp W b=Row t2 c2:=by
   unfold hp;rw[hb2];simp[gN,Row]
  refine⟨T,⟨b,o,none⟩,cap,?_,⟨rfl,t2,c2,hrow,fun j v hj=> ?_⟩,zM hrow⟩
  ·have hv':=hv
   simp only[World.var?,gLace,Option.bind_some,hb]at hv';obtain rfl:=Option.some.inj hv';unfold hp;rw[hb];simp[gN,Row]
  ·rw[laceVE]at hj
   obtain⟨x,h1,h2⟩:=flat4 (fun _ =>rfl) _ _ _ hj;have:=cell _ _ h1 _ _ h2;rw[yQ,yQ,yO,hrow,atR_Row]at this;rw[<-this]
   congr 1
   simp only;omega
theorem ty82:((List.range Tryz.prog.types.size).all fun t=> !(Tryz.prog.rowNamed t [101,114,114,111,114])||Nat.beq t 82)=true:=by kernel_rfl
theorem u192:(Tryz.prog.cutTypes.find? (·.1== "internal/reflectlite.rtype")).map (·.2)=some 192:=by kernel_rfl
theorem gl16:Tryz.prog.globals.size=16:=by kernel_rfl
theorem typ_of{W:wQ}(h:handlesMet Tryz.prog (laidL.filter fun x=>x.2.handleName?.isSome) W):ETyp W:=by
 have e:(laidL.filter fun x=>x.2.handleName?.isSome)=[("errors.errorType",Rows.laid_errors_errorType)]:=rfl;rw[e]at h;have h:=h ("errors.errorType",Rows.laid_errors_errorType) sQ;have e2:(Rows.laid_errors_errorType:DataW Unit).funcsIn? =none:=rfl;rw[show(("errors.errorType",Rows.laid_errors_errorType):String×DataW Unit).2.funcsIn? =none from e2]at h;obtain⟨name,u,ty,h1,h2,h3,h4,h5⟩:=h;obtain rfl:=Option.some.inj (u192.symm.trans h2);have h1:some [101,114,114,111,114]=some name:=h1;obtain rfl:=Option.some.inj h1;have:=List.all_eq_true.1 ty82 ty (List.mem_range.2 h3);rw[h4]at this;have e82:ty=82:=Nat.eq_of_beq_eq_true (by simpa using this);subst e82;show W.cell? ⟨2,0,none⟩=some (Rt 82);rw[World.var?_cell gTyp h5 0];show some (Value.iface 192 (.agg #[.pointer (some ⟨Tryz.prog.globals.size,82,none⟩)]))=_;rw[gl16]
 rfl
theorem env_of_laid{W:wQ}(h:laidMetH Tryz.prog laidL W):∃E,Env W E:=by
 have hT:=tab_of_laid h;have h':laidMet Tryz.prog (laidL.filter fun x=>x.2.handleName?.isNone) W/\handlesMet Tryz.prog (laidL.filter fun x=>x.2.handleName?.isSome) W:=h;have hY:=typ_of h'.2;have e:(laidL.filter fun x=>x.2.handleName?.isNone)=laidL.drop 1:=rfl;rw[e]at h';obtain⟨⟨ps,⟨_,_,_,_,_,q1,_,_,_,_,⟨g2,t2,cs2,fu2,p2,q2,hg2,ht2,hv2,hd2,⟨g3,t3,cs3,fu3,p3,q3,hg3,ht3,hv3,hd3,⟨_,_,_,_,_,q4,_,_,_,_,⟨g5,t5,cs5,fu5,p5,q5,hg5,ht5,hv5,hd5,⟨_,_,_,_,_,q6,_,_,_,_,⟨_,_,_,_,_,q7,_,_,_,_,⟨g8,t8,cs8,fu8,p8,q8,hg8,ht8,hv8,hd8,⟨_,_,_,_,p9,q9,_,_,_,_,_,e9⟩,e8⟩,e7⟩,e6⟩,e5⟩,e4⟩,e3⟩,e2⟩,e1⟩,_,hfr⟩,_⟩:=h';obtain rfl:=Option.some.inj (gEof.symm.trans hg2);obtain rfl:=Option.some.inj (gUne.symm.trans hg3);obtain rfl:=Option.some.inj (gLace.symm.trans hg8);obtain rfl:=Option.some.inj (tEof.symm.trans ht2);obtain rfl:=Option.some.inj (tUne.symm.trans ht3);have m2:∀x∈MemPlace.row ⟨0,0,none⟩ cs2.size++p2,x∈ps:=fun x hx=>by
  rw[e1,e2];exact List.mem_append_right _ (List.mem_append_left _ hx)
 have m3:∀x∈MemPlace.row ⟨1,0,none⟩ cs3.size++p3,x∈ps:=fun x hx=>by
  rw[e1,e2,e3];exact List.mem_append_right _ (List.mem_append_right _ (List.mem_append_left _ hx))
 have m8:∀x∈MemPlace.row ⟨6,0,none⟩ cs8.size++p8,x∈ps:=fun x hx=>by
  rw[e1,e2,e3,e4,e5,e6,e7,e8]
  iterate 7 refine List.mem_append_right _ ?_
  exact List.mem_append_left _ hx
 obtain⟨ea,T2,s2,r2,a2,b2⟩:=sent_of hfr hg2 hv2 hd2 m2;obtain⟨ua,T3,s3,r3,a3,b3⟩:=sent_of hfr hg3 hv3 hd3 m3;obtain⟨T6,pa,c6,r6,hx6,hl6⟩:=lace_of hfr ht8 hv8 hd8 m8;have g5e:g5=10:=Option.some.inj (hg5.symm.trans gCode);subst g5e;have hl10:10<hn W:=by
  have hv5':=hv5;simp only[World.var?,gCode,Option.bind_some]at hv5'
  split at hv5'
  ·rename_i hb
   exact(Array.getElem?_eq_some_iff.1 hb).1
  ·cases hv5'
 refine⟨⟨hn W,ea,ua,s2,s3⟩,hT,⟨⟨T2,r2⟩,⟨T3,r3⟩,?_,a2,a3,by show 8<=hn W;omega,?_,?_⟩,Nat.le_refl _,⟨T6,pa,c6,r6,hx6,hl6⟩,hY⟩
 ·intro he
  have he:ea=ua:=he;subst he;obtain⟨_,c,T,k1,k2⟩:=a2;obtain⟨_,c',T',k1',k2'⟩:=a3;rw[k1]at k1'
  cases k1'
  rw[k2]at k2'
  cases k2'
  rw[b2]at b3;exact absurd b3 dQ
 ·obtain⟨_,c,T,k1,_⟩:=a2
  exact wD k1
 ·obtain⟨_,c,T,k1,_⟩:=a3
  exact wD k1
end Go.Proofs.YtklagmhonmbdgaaGreatDoor
