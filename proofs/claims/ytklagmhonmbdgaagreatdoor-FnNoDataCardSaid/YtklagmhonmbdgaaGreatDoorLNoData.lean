/- Contracts of the law and of what it walks -/
import Derived.Test.YtklagmhonmbdgaaGreatDoorK4
set_option maxRecDepth 1000000
set_option linter.unusedVariables false
set_option linter.unusedSimpArgs false
set_option maxHeartbeats 4000000
namespace Go.Proofs
open Go Go.V
open Go.IntKind (wrap)
section
variable{w w' w0:wQ}{rb db kb crc k W H:Nat}{L:Bool}{p:pQ}{E:Er}{pal:List Px}{cl:List Nat}{d:Dec}
structure Env (w:wQ) (E:Er):Prop where
 tab:Tab w
 errs:Errs w E
 lo:E.n0<=hn w
 lace:LaceAt w E.n0
 ety:ETyp w
theorem Env.fr0(h:Env w E)(f:Fr [] w w'):Env w' E:=⟨h.tab.fr f sQ,h.errs.fr f sQ,Nat.le_trans h.lo f.size,h.lace.fr f (by have:=h.errs.low;omega) sQ,h.ety.fr0 f⟩
def Bad(E:Er)(C:Int ->Prop)(v:Value):Prop:=ErrF E v/\∀e',outE E v e' ->ErrK e'/\C (bR e')
theorem Bad.of125{s:ByteArray}{C:Int ->Prop}(hC:C 1):Bad E C (.iface 125 (.string s)):=by
 refine⟨.inr (.inr ⟨125,s,dQ,rfl⟩),fun e' he=> ?_⟩;rcases he with⟨h,_⟩|⟨_,rfl⟩
 ·simp[zD]at h
 ·exact⟨.inl ⟨s,rfl⟩,hC⟩
theorem Refuse.bad{v:Value}(h:Refuse 125 v){C:Int ->Prop}(hC:C 1):Bad E C v:=by obtain⟨s,rfl,_⟩:=h;exact Bad.of125 hC
theorem c69t{xs:bQ}{C:Int ->Prop}(hr:RdAt w rb p xs)(hT:Tab w)(hE:Errs w E)(hlo:E.n0<=rb)(hrb:3<rb/\rb<hn w)(hp:∀a,p=some a ->3<a.block/\a.block<rb)(h8:8<=xs.length)(hsig:xs.take 8=sigL)(G:World ->Dec ->Nat ->bQ ->Prop)
  (start:∀w6 tmp,G w6 {wV (.iface 85 (.pointer (some ⟨rb,0,none⟩))) (hn w)with tmp:=tmp} 0 (xs.drop 8))
  (step:∀w1 d crc rs,Fr [rb] w w1 ->hn w+2<=hn w1 ->Errs w1 E ->Dst w1 (hn w+1) rb (hn w) p d crc rs ->G w1 d crc rs ->d.stage≠5/\CallT Pg 60 #[.pointer (some ⟨hn w+1,0,none⟩),.bool false] w1 fun v w2=>Fr [rb] w w2/\((v= .nilIface/\∃d' crc' rs',Dst w2 (hn w+1) rb (hn w) p d' crc' rs'/\rs'.length<rs.length/\G w2 d' crc' rs')\/Bad E C v)):
  CallT Pg 69 #[.iface 85 (.pointer (some ⟨rb,0,none⟩))] w fun v w'=>Fr [rb] w w'/\∃e,v= .tuple #[.nilIface,e]/\(ErrK e/\C (bR e)):=by
 have hlow:=hE.low;refine c69 hr hT hE hlo hrb hp h8 (fun w'=>Fr [rb] w w'/\hn w+2<=hn w'/\∃d crc rs,Dst w' (hn w+1) rb (hn w) p d crc rs/\G w' d crc rs) (fun w'=>left w' rb) ?_ ?_ ?_
 ·intro w6 tmp _ F6 n6 D6
  exact⟨F6,n6,_,_,_,D6,start w6 tmp⟩
 ·intro w6 s hs
  exact absurd hsig hs
 ·rintro w1 ⟨F1,n1,d,crc,rs,hD,hG⟩
  obtain⟨h5,hc⟩:=step w1 d crc rs F1 n1 (hE.fr F1 (by simp;omega)) hD hG;refine⟨d,crc,rs,hD,fun h=>absurd h h5,fun _ =>CallT.mono hc ?_⟩;rintro v w2 ⟨F2,⟨rfl,d',crc',rs',hD',hlt,hG'⟩|⟨hb,ho⟩⟩
  ·refine .inl ⟨rfl,⟨F2,by have:=zR hD'.dec;omega,_,_,_,hD',hG'⟩,?_⟩
   rw[hD.at_.left_eq,hD'.at_.left_eq];exact hlt
  ·refine .inr ⟨hb,hE.fr F2 (by simp;omega),fun e' he=>⟨F2,e',rfl,ho e' he⟩⟩
def uV(pal:List Px)(cl:List Nat):List Ch:=(if 0<pal.length then [(xX,xL pal)]else [])++((if zG pal then [(xJ,xM pal)]else [])++(if 0<cl.length then [(xJ,zX cl)]else []))
theorem vY{D C:Nat}:zK W H D C L pal cl=(nIHDR,xT W H D C L)::uV pal cl:=rfl
theorem dW{D C:Nat}(hok:yW D C pal cl)(hC:C=3):uV pal cl=(xX,xL pal)::(if zG pal then [(xJ,xM pal)]else []):=by
 obtain⟨q1,q2,q3⟩:=hok.pal3 hC;have hcl:=hok.cl0 oQ oQ;subst hcl;unfold uV;rw[if_pos (by omega:0<pal.length),show(if 0<([]:List Nat).length then [(xJ,zX [])]else [])=([]:List Ch)from rfl,List.append_nil,List.singleton_append]
theorem qCh{D C:Nat}(hok:yW D C pal cl)(hC:C≠3):uV pal cl=if 0<cl.length then [(xJ,zX cl)]else []:=by
 have hpn:=hok.paln hC;subst hpn
 rfl
def RightAt(w:wQ)(db k W H:Nat)(L:Bool)(pal:List Px)(cl:List Nat)(d:Dec)(r:List Ch):Prop:=
 (d.stage=0/\d.useT=false/\d.cb=0/\r=zK W H (qE k).2 (qE k).1 L pal cl)\/
 (d.stage=1/\d.useT=false/\jG d k W H L/\r=uV pal cl)\/
 (d.stage=2/\(qE k).1=3/\d.useT=false/\jG d k W H L/\kH w db d.pal pal.length (kK (xL pal) pal.length)/\r=if zG pal then [(xJ,xM pal)]else [])\/
 (d.stage=3/\jG d k W H L/\((qE k).1=3 ->∃n cs,kH w db d.pal n cs)/\(d.useT=true ->(qE k).1=0\/(qE k).1=2)/\r=[])
theorem RightAt.ready(h:RightAt w db k W H L pal cl d [])(hok:yW (qE k).2 (qE k).1 pal cl):jG d k W H L/\(1<=d.stage/\d.stage<=3)/\((qE k).1=3 ->d.stage≠1/\∃n cs,kH w db d.pal n cs)/\(d.useT=true ->(qE k).1=0\/(qE k).1=2):=by
 rcases h with⟨_,_,_,hr⟩|⟨h1,hu,hh,hr⟩|⟨h2,hC,hu,hh,hP,hr⟩|⟨h3,hh,hP,hu,_⟩
 ·exact absurd hr.symm (by simp[vY])
 ·refine⟨hh,oQ,fun hC=> ?_,fun e=>by rw[hu]at e;cases e⟩
  rw[dW hok hC]at hr
  cases hr
 ·exact⟨hh,oQ,fun _ =>⟨oQ,_,_,hP⟩,fun e=>by rw[hu]at e;cases e⟩
 ·exact⟨hh,oQ,fun e=>⟨oQ,hP e⟩,hu⟩
theorem RightAt.step{c:Ch}{r:List Ch}{tail:bQ}(h:RightAt w db k W H L pal cl d (c::r))(hD:Dst w db rb kb p d crc (qV c.1 c.2++tail))(hk:k<15)(hW:1<=W/\W<=20)(hH:1<=H/\H<=20)(hok:yW (qE k).2 (qE k).1 pal cl)(F0:Fr [rb] w0 w)(hkb:hn w0<=kb):
  CallT Pg 60 #[.pointer (some ⟨db,0,none⟩),.bool false] w fun v w'=>v= .nilIface/\Fr [rb] w0 w'/\∃d' crc',Dst w' db rb kb p d' crc' tail/\RightAt w' db k W H L pal cl d' r:=by
 have hne:=hD.ne;have hcb:=jT hk;have fr:∀{w':wQ},Fr [rb,kb,db] w w' ->Fr [rb] w0 w':=fun f=>F0.trans' f (fun x hx hlt=>by simp at hx⊢;omega);rcases h with⟨h0,hu,_,hr⟩|⟨h1,hu,hh,hr⟩|⟨h2,hC,hu,hh,hP,hr⟩|⟨_,_,_,_,hr⟩
 ·rw[vY]at hr
  obtain⟨rfl,rfl⟩:=List.cons.inj hr;refine CallT.mono (Dst.goodIHDR hD h0 oQ oQ hk) ?_;rintro v w2 ⟨rfl,F,tmp,crc',hD'⟩;exact⟨rfl,fr F,_,_,hD',.inr (.inl ⟨rfl,hu,⟨rfl,rfl,rfl,rfl,rfl⟩,rfl⟩)⟩
 ·by_cases hC:(qE k).1=3
  ·rw[dW hok hC]at hr
   obtain⟨rfl,rfl⟩:=List.cons.inj hr;obtain⟨q1,q2,q3⟩:=hok.pal3 hC;refine CallT.mono (Dst.goodPLTE hD h1 hh.D_ (vO hk).1 (by rw[hh.cb_];have:=hcb.2.1 hC;omega) oQ oQ q3) ?_;rintro v w2 ⟨rfl,F,tmp,crc',pl,hD',hP⟩;exact⟨rfl,fr F,_,_,hD',.inr (.inr (.inl ⟨rfl,hC,hu,⟨hh.W_,hh.H_,hh.D_,hh.cb_,hh.lace_⟩,hP,rfl⟩))⟩
  ·rw[qCh hok hC]at hr
   by_cases hcl:0<cl.length
   ·rw[if_pos hcl]at hr
    obtain⟨rfl,rfl⟩:=List.cons.inj hr;have hl:=hok.cll.resolve_left (List.length_pos_iff.1 hcl);have h02:(qE k).1=0\/(qE k).1=2:=by
     by_cases h0:(qE k).1=0
     ·exact .inl h0
     ·by_cases h2:(qE k).1=2
      ·exact .inr h2
      ·exact absurd (hok.cl0 h0 h2) (List.length_pos_iff.1 hcl)
    have hcc:=qFj hk;refine CallT.mono (qCi hD h1 ?_) ?_
    ·rw[mE,hl,hh.cb_]
     rcases h02 with h0|h2
     ·refine .inl ⟨by rw[h0];rfl,?_⟩
      have:=hcc.1 h0;omega
     ·refine .inr ⟨by rw[h2];rfl,?_⟩
      have:=hcc.2 h2;omega
    ·rintro v w2 ⟨rfl,F,n2,tmp,tr,crc',hD'⟩
     exact⟨rfl,fr F,_,_,hD',.inr (.inr (.inr ⟨rfl,⟨hh.W_,hh.H_,hh.D_,hh.cb_,hh.lace_⟩,fun e=>absurd e hC,fun _ =>h02,rfl⟩))⟩
   ·rw[if_neg hcl]at hr
    cases hr
 ·by_cases ha:zG pal=true
  ·rw[if_pos ha]at hr
   obtain⟨rfl,rfl⟩:=List.cons.inj hr;obtain⟨q1,q2,q3⟩:=hok.pal3 hC;have hal:(xM pal).length=pal.length:=by simp[xM]
   obtain⟨g,hpal,hdg,hrow,hcl,hn256⟩:=hP;refine CallT.mono (Dst.goodTRNS (al:=xM pal) hD h2 (by rw[hh.cb_];have:=hcb.2.1 hC;omega) ⟨g,hpal,hdg,hrow,hcl,hn256⟩ (mN _ _) oQ oQ) ?_;rintro v w2 ⟨rfl,hF,tmp,crc',pl,hD',_,hP'⟩;have F:=hF g (by rw[hpal]);exact⟨rfl,F0.trans' F (fun x hx hlt=>by simp at hx⊢;omega),_,_,hD',.inr (.inr (.inr ⟨rfl,⟨hh.W_,hh.H_,hh.D_,hh.cb_,hh.lace_⟩,fun _ =>⟨_,_,hP'⟩,(fun h=>by rw[hu]at h;cases h),rfl⟩))⟩
  ·rw[if_neg ha]at hr
   cases hr
 ·cases hr
end
section
variable{w w0 w1 w2:wQ}{rb db kb crc k W H:Nat}{L:Bool}{p q:pQ}{E:Er}{pal:List Px}{cl:List Nat}{d:Dec}
structure Stp (w0 w1:wQ) (E:Er) (db rb kb:Nat):Prop where
 F0:Fr [rb] w0 w1
 hkb:hn w0<=kb
 errs:Errs w1 E
 lace:LaceAt w1 E.n0
 lo:E.n0<=rb
 ord:kb<db
theorem Stp.fr(h:Stp w0 w1 E db rb kb)(f:Fr [rb,kb,db] w1 w2):Fr [rb] w0 w2:=h.F0.trans' f (fun x hx hlt=>by have:=h.hkb;have:=h.ord;simp at hx⊢;omega)
theorem wT{c:Ch}{b:List Ch}{t:bQ}:(chs b++t).length<(chs (c::b)++t).length:=by
 rw[qZ];simp only[List.length_append];have:4<=(qV c.1 c.2).length:=by unfold qV;simp only[List.length_append,xG];omega
 omega
theorem gP{l c:Nat}{a r:List Ch}{bad:bQ}{code:Int}{file:bQ}(ef:file=sigL++(chs a++bad))(hx:Has w q (bv file))(hl:l=file.length)(hlb:l<1099511627776)(hV:Env w E)
  (hfo:zK W H (qE k).2 (qE k).1 L pal cl=a++r)(hk:k<15)(hW:1<=W/\W<=20)(hH:1<=H/\H<=20)(hok:yW (qE k).2 (qE k).1 pal cl)(G2:Dec ->Nat ->bQ ->Prop)
  (hbad:∀{w0 w1:wQ} {db rb kb:Nat} {p:pQ} {d:Dec} {crc:Nat},Stp w0 w1 E db rb kb ->Dst w1 db rb kb p d crc bad ->RightAt w1 db k W H L pal cl d r ->
   CallT Pg 60 #[.pointer (some ⟨db,0,none⟩),.bool false] w1 fun v w2=>Fr [rb] w0 w2/\(Bad E (·=code) v\/(v= .nilIface/\∃d' crc' rs',Dst w2 db rb kb p d' crc' rs'/\rs'.length<bad.length/\G2 d' crc' rs')))
  (after:∀{w0 w1:wQ} {db rb kb:Nat} {p:pQ} {d:Dec} {crc:Nat} {rs:bQ},Stp w0 w1 E db rb kb ->Dst w1 db rb kb p d crc rs ->G2 d crc rs ->
   d.stage≠5/\CallT Pg 60 #[.pointer (some ⟨db,0,none⟩),.bool false] w1 fun v w2=>Fr [rb] w0 w2/\Bad E (·=code) v):
  CallT Pg 29 #[.slice q l c,.int .i64 code] w fun v w'=>v= .bool true/\Fr [] w w':=by
 subst ef;refine qAs (B:=fun e=>ErrK e/\bR e=code) hx hl hlb hV.tab hV.errs hV.lo hV.lace hV.ety (fun e h=>h) fun w2 rb p F2 hr hT2 hE2 hlo2 hrb hp hL2 _ => ?_;refine c69t (C:=(·=code)) hr hT2 hE2 hlo2 hrb hp (by simp[yB]) (kN _) (fun w' d crc rs=>(∃b,rs=chs b++bad/\RightAt w' (hn w2+1) k W H L pal cl d (b++r))\/G2 d crc rs) ?_ ?_
 ·intro w6 tmp
  rw[gU];exact .inl ⟨a,rfl,.inl ⟨rfl,rfl,rfl,hfo.symm⟩⟩
 ·intro w1 d crc rs F1 n1 E1 hD hG
  have hlow:=hE2.low;have hA:Stp w2 w1 E (hn w2+1) rb (hn w2):=⟨F1,Nat.le_refl _,E1,hL2.fr F1 oQ (by simp;omega),hlo2,oQ⟩;rcases hG with⟨b,rfl,hR⟩|hG
  ·have h5:d.stage≠5:=by rcases hR with h|h|h|h<;>omega
   refine⟨h5,?_⟩
   cases b with
   |nil=>
    refine CallT.mono (hbad hA hD hR) ?_;rintro v w3 ⟨F,hb|⟨rfl,d',crc',rs',hD',hlt,hg⟩⟩
    ·exact⟨F,.inr hb⟩
    ·exact⟨F,.inl ⟨rfl,d',crc',rs',hD',hlt,.inr hg⟩⟩
   |cons ch b=>
    have hD':=hD;rw[qZ,List.append_assoc]at hD';refine CallT.mono (RightAt.step hR hD' hk hW hH hok F1 (Nat.le_refl _)) ?_;rintro v w3 ⟨rfl,F,d',crc',hD2,hR2⟩;exact⟨F,.inl ⟨rfl,d',crc',_,hD2,wT,.inl ⟨b,rfl,hR2⟩⟩⟩
  ·obtain⟨h5,hc⟩:=after hA hD hG
   refine⟨h5,CallT.mono hc ?_⟩;rintro v w3 ⟨F,hb⟩;exact⟨F,.inr hb⟩
theorem uS{nm dd rest:bQ}(hA:Stp w0 w1 E db rb kb)(hD:Dst w1 db rb kb p d crc (qV nm dd++rest))(hnl:nm.length=4)(hdd:dd.length<4294967296)(hn:zT d nm= .refuse){C:Int ->Prop}(hC:C 1):
  CallT Pg 60 #[.pointer (some ⟨db,0,none⟩),.bool false] w1 fun v w2=>Fr [rb] w0 w2/\Bad E C v:=by
 obtain⟨h1,h2,h3,h4⟩:=yA (nm:=nm) (d:=dd) (rest:=rest) hnl hdd;refine hD.c60 oQ fun w3 tmp s F3 n3 D3=> ?_;rw[h2,hn];dsimp only;intro _ v hv;exact⟨hA.fr F3,hv.bad hC⟩
end
section
variable{w w' w0:wQ}{E:Er}{Q Q':Nat ->Prop}
theorem c30n{b o l c:Nat}{cs:List Ch}(hx:Has w (some ⟨b,o,none⟩) (bv (qU cs)))(hl:l=(qU cs).length)(hb:l<1099511627776)(hlc:l<=c)(hok:kA cs):
  CallT Pg 30 #[.slice (some ⟨b,o,none⟩) l c] w fun v w'=>∃vs,PcHas (·=b) w' vs cs/\RetR 53 2 w cs.length vs v w':=by
 apply call30;unfold wp30 wIq iQq;rw[zI];have hblt:b<hn w:=by obtain⟨_,T,arr,h1,_⟩:=hx;exact zR h1
 refine qP (fun z w'=>Fr [] w w'/\∃a r vs,cs=a++r/\z.2.1=((8+(chs a).length:Nat):Int)/\z.1.len=a.length/\PcHas (·=b) w' vs a/\Own w' (hn w) 53 2 z.1.a z.1.len z.1.cap vs)
  (fun z _ =>l+1 -z.2.1.toNat) ⟨Fr.alloc _ _ _,[],cs,[],rfl,by simp[chs],rfl,trivial,Own.new (w:=w) (e:=53) (size:=2) (cs:= #[]) (l:=0) (Nat.le_refl _) sQ⟩ ?_
 rintro⟨⟨q,n,m⟩,k,⟨⟩⟩ w1 ⟨hf,a,r,vs,rfl,rfl,rfl,hpc,ho⟩;simp only at ho;have hlen:l=8+(chs a).length+(chs r).length:=by rw[hl];simp[qU,sigL,xU];omega
 have ha:=yN (rC hok);have hr:=yN (mM hok);refine qG (fun h=> ?_) (fun h=> ?_)
 ·simp only at h
  rw[qA oQ oQ]at h
  cases r with
  |nil=>simp only[vJ,List.length_nil]at hlen;omega
  |cons ch r=>
   obtain⟨h4,hd⟩:=hok ch sQ;have hcl:=xA (data:=ch.2) h4;simp only[qZ,List.length_append]at hlen;dsimp only;refine CallT.mono (c46 (hx.fr0 hf) hl oQ oQ oQ) ?_;rintro _ _ ⟨rfl,rfl⟩;rw[Int.toNat_natCast,bX hd];refine⟨_,rfl,?_⟩;rw[zY];have hf2:=hf.drewR.drewR;have hx2:=hx.fr0 hf2;have e0:bv (qU (a++ch::r))=bv (sigL++chs a++xR ch.2.length)++(bv ch.1++bv (ch.2++xR (jJ (ch.1++ch.2))++chs r)):=by
    rw[lI,<-bv_append,<-bv_append];simp[qV]
   have e1:bv (qU (a++ch::r))=bv (sigL++chs a++xR ch.2.length++ch.1)++(bv ch.2++bv (xR (jJ (ch.1++ch.2))++chs r)):=by
    rw[lI,<-bv_append,<-bv_append];simp[qV]
   have hx3:=hx2;rw[e0]at hx2;rw[e1]at hx3;have g0:=Has.sub hx2;have g1:=Has.sub hx3;simp only[bv_length,List.length_append,xG,h4]at g0 g1;have es:sigL.length=8:=rfl;simp only[es]at g0 g1;simp (disch:=omega) only[qA];have t1:((((8+(chs a).length:Nat):Int)+4).toNat)=8+(chs a).length+4:=oQ;have t2:((((8+(chs a).length:Nat):Int)+8).toNat)=8+(chs a).length+4+4:=oQ;have t3:((((8+(chs a).length:Nat):Int)+8+(ch.2.length:Int)).toNat)=8+(chs a).length+4+4+ch.2.length:=oQ;simp only[t1,t2,t3];rw[slAdd_one _ _ _ _ oQ,slAdd_one _ _ _ _ oQ];refine⟨⟨oQ,oQ⟩,⟨oQ,oQ⟩,⟨oQ,oQ⟩,⟨oQ,oQ⟩,?_⟩;refine rX (xs:=ch.1) g0 oQ ?_;refine tD ok50 hf2 ((ho.fr0 (Fr.drew _ _)).fr0 (Fr.drew _ _)) sQ (by simp[Value.oneCell']) oQ ?_;intro q' m' w3 hf3 hf3' ho3;have hq:∀b',b'=b ->b'∉xD q:=by
    intro b' e hmem;have:=ho.blk _ hmem;omega
   refine⟨⟨hf3,a++[ch],r,_,sQ,?_,sQ,?_,ho3⟩,oQ⟩
   ·simp only[xU,qZ,vJ,List.length_append,List.append_nil,hcl];omega
   ·refine PcHas.snoc (g1.fr hf3' ?_) oQ sQ (by intro a ha;cases ha;rfl) (((hpc.fr (Fr.drew [] _) sQ).fr (Fr.drew [] _) sQ).fr hf3' hq)
    intro a' ha';cases ha';exact hq _ rfl
 ·simp only at h
  rw[qA oQ oQ]at h
  cases r with
  |cons ch r=>
   exfalso
   obtain⟨h4,hd⟩:=hok ch sQ;have hcl:=xA (data:=ch.2) h4;simp only[qZ,List.length_append]at hlen;omega
  |nil=>exact⟨vs,by simpa using hpc,hf,q,m,sQ,by simpa using ho⟩
theorem PcHas.mono(h:∀b,Q b ->Q' b):∀{vs:List Value} {cs:List Ch},PcHas Q w vs cs ->PcHas Q' w vs cs
 |[],[],_ =>trivial
 | .string _ :: .slice _ _ _ ::_,_ ::_,⟨h1,h2,h3,h4,h5,h6⟩=>⟨h1,h2,h3,h4,fun a ha=>h _ (h5 a ha),PcHas.mono h h6⟩
structure Made (k W H:Nat) (L:Bool) (pal:List Px) (cl:List Nat) (fl xs zs d0:bQ) (dr:List (bQ)):Prop where
 hk:k<15
 hW:1<=W/\W<=20
 hH:1<=H/\H<=20
 ok:yW (qE k).2 (qE k).1 pal cl
 rows:RowsOf (mH W H (qE k).2 (qE k).1 L) (gF fl) xs
 zl:tE xs zs
 flat:(d0::dr).flatten=zs
 ne:∀x∈d0::dr,x≠[]
 zlen:zs.length<=2097152
 xlen:xs.length<32768
def xV(k W H:Nat)(L:Bool)(pal:List Px)(cl:List Nat)(d0:bQ)(dr:List (bQ)):List Ch:=zK W H (qE k).2 (qE k).1 L pal cl++xZ (d0::dr)++[(xW,[])]
section
variable{k W H:Nat}{L:Bool}{pal:List Px}{cl:List Nat}{fl xs zs d0:bQ}{dr:List (bQ)}
theorem Made.okc(M:Made k W H L pal cl fl xs zs d0 dr):kA (xV k W H L pal cl d0 dr)/\(qU (xV k W H L pal cl d0 dr)).length<1099511627776:=by
 have hzp:0<zs.length:=by
  obtain⟨_,_,_,_,hz⟩:=M.zl;rw[hz];simp
 obtain⟨_,h1,h2,_⟩:=nJ (W:=W) (H:=H) (L:=L) M.hk M.ok hzp M.zlen M.flat M.ne;exact⟨h1,h2⟩
theorem Made.whole{q:pQ}{l c:Nat}{file:bQ}(M:Made k W H L pal cl fl xs zs d0 dr)(hV:Env w E)(hf:file=qU (xV k W H L pal cl d0 dr))(hx:Has w q (bv file))(hl:l=file.length):CallT Pg 28 #[.slice q l c] w fun v w'=>v= .bool true/\Fr [] w w':=
 qCy hf hx hl (by rw[hl,hf];exact M.okc.2) hV.tab hV.errs hV.lo hV.lace hV.ety M.hk M.hW M.hH M.ok M.rows M.zl M.flat M.ne M.zlen M.xlen
end
theorem nU{k W H:Nat}{L:Bool}{pal:List Px}{cl:List Nat}{v:Value}(hk:k<15)(hW:1<=W/\W<=20)(hH:1<=H/\H<=20)(hok:yW (qE k).2 (qE k).1 pal cl)(hF:oR w0 W H (qE k).2 (qE k).1 L pal cl v w):
  ∃fl xs zs d0 dr,Made k W H L pal cl fl xs zs d0 dr/\dL w0 (qU (xV k W H L pal cl d0 dr)) v w:=by
 obtain⟨fs,xs,zs,ds,_,hrows,hZ,hds,hne,hzl,hR⟩:=hF;have hD16:(qE k).2<=16:=by have:=(vO hk).1;omega
 cases ds with
 |nil=>
  obtain⟨bl,out,_,_,hz⟩:=hZ;rw[hz]at hds;simp at hds
 |cons d0 dr=>exact⟨fs,xs,zs,d0,dr,⟨hk,hW,hH,hok,hrows,hZ,hds,hne,hzl,aS hrows hW.2 hH.2 hD16⟩,hR⟩
def Pcs(w0 w:wQ)(p:pQ)(l c:Nat)(cs:List Ch):Prop:=∃b vs,Own w (hn w0) 53 2 p l c vs/\PcHas (·=b) w vs cs/\l=cs.length/\hn w0<=b/\b<hn w/\∀x∈xD p,b<x
theorem qDn{p:pQ}{base l c:Nat}{cs:List Ch}(h:Own w base 5 1 p l c (bv (qU cs)))(hl:l=(qU cs).length):∃b,p=some ⟨b,0,none⟩/\l<=c/\base<=b/\b<hn w:=by
 obtain⟨b,rfl,h1⟩:=pW h (by rw[hl];simp[qU,yB];omega);have:=h.at rfl;exact⟨b,rfl,h1,this.2.2.1,this.2.2.2⟩
theorem qBz{k W H:Nat}{L:Bool}{pal:List Px}{cl:List Nat}{fl xs zs d0:bQ}{dr:List (bQ)}{p:pQ}{l c:Nat}(M:Made k W H L pal cl fl xs zs d0 dr)(F:Fr [] w0 w)(h:Own w (hn w0) 5 1 p l c (bv (qU (xV k W H L pal cl d0 dr))))(hl:l=(qU (xV k W H L pal cl d0 dr)).length)
  {K:pQ ->Nat ->Nat ->World ->Prop}(hK:∀p l c w',Fr [] w0 w' ->Fr [] w w' ->Pcs w0 w' p l c (xV k W H L pal cl d0 dr) ->K p l c w'):
  CallT Pg 30 #[.slice p l c] w fun v w'=>Exists fun p':pQ=>Exists fun l':Nat=>Exists fun c':Nat=>And (v= .slice p' l' c') (K p' l' c' w'):=by
 obtain⟨b,rfl,hlc,hb0,hb1⟩:=qDn h hl;refine CallT.mono (c30n h.has hl (by rw[hl];exact M.okc.2) hlc M.okc.1) ?_;rintro v w' ⟨vs,hpc,f,q,c',rfl,ho⟩;refine⟨_,_,_,rfl,hK _ _ _ _ (F.trans f) f ⟨b,vs,ho.base_le F.size,hpc,rfl,hb0,Nat.lt_of_lt_of_le hb1 f.size,fun x hx=> ?_⟩⟩;have:=(ho.blk x hx).1;omega
theorem Pcs.glue{p:pQ}{l c:Nat}{cs:List Ch}(h:Pcs w0 w p l c cs)(hok:kA cs)(hb:(qU cs).length<1099511627776):CallT Pg 31 #[.slice p l c] w (dL w (qU cs)):=by
 obtain⟨b,vs,ho,hpc,hl,_,hb1,_⟩:=h;exact c31 ho.has hpc (fun x hx=>by have:x=b:=hx;omega) hl hb hok
theorem uA{k W H:Nat}{L:Bool}{pal:List Px}{cl:List Nat}{fl xs zs d0:bQ}{dr:List (bQ)}{p:pQ}{l c:Nat}(M:Made k W H L pal cl fl xs zs d0 dr)(hV:Env w0 E)(F:Fr [] w0 w)(h:Pcs w0 w p l c (xV k W H L pal cl d0 dr))
  {K:Bool ->World ->Prop}(hK:∀w',Fr [] w0 w' ->Fr [] w w' ->K true w'):
  CallT Pg 31 #[.slice p l c] w fun v w1=>Exists fun p':pQ=>Exists fun l':Nat=>Exists fun c':Nat=>And (v= .slice p' l' c') (CallT Pg 28 #[.slice p' l' c'] w1 fun v' w2=>Exists fun b:Bool=>And (v'= .bool b) (K b w2)):=by
 refine CallT.mono (h.glue M.okc.1 M.okc.2) ?_;rintro v w1 ⟨f,q,c',rfl,ho⟩;refine⟨_,_,_,rfl,CallT.mono (M.whole (hV.fr0 (F.trans f)) rfl ho.has rfl) ?_⟩;rintro v w2 ⟨rfl,f2⟩;exact⟨_,rfl,hK w2 ((F.trans f).trans f2) (f.trans f2)⟩
theorem lN{p:pQ}{l c:Nat}{vs:List Value}{cs:List Ch}{code:Int}(hV:Env w0 E)(F:Fr [] w0 w)(hp:Has w p vs)(hpc:PcHas Q w vs cs)(hQ:∀b,Q b ->b<hn w)(hl:l=cs.length)(hok:kA cs)(hb:(qU cs).length<1099511627776)
  (ht:∀{w1:wQ} {q:pQ} {c:Nat},Env w1 E ->Has w1 q (bv (qU cs)) ->CallT Pg 29 #[.slice q (qU cs).length c,.int .i64 code] w1 fun v w'=>v= .bool true/\Fr [] w1 w')
  {K:Bool ->World ->Prop}(hK:∀w',Fr [] w0 w' ->K true w'):
  CallT Pg 31 #[.slice p l c] w fun v w1=>Exists fun p':pQ=>Exists fun l':Nat=>Exists fun c':Nat=>And (v= .slice p' l' c') (CallT Pg 29 #[.slice p' l' c',.int .i64 code] w1 fun v' w2=>Exists fun b:Bool=>And (v'= .bool b) (K b w2)):=by
 refine CallT.mono (c31 hp hpc hQ hl hb hok) ?_;rintro v w1 ⟨f,q,c',rfl,ho⟩;refine⟨_,_,_,rfl,CallT.mono (ht (hV.fr0 (F.trans f)) ho.has) ?_⟩;rintro v w2 ⟨rfl,f2⟩;exact⟨_,rfl,hK w2 ((F.trans f).trans f2)⟩
theorem kZ{p:pQ}{l c:Nat}{R:vPq}{X:World ->Prop}(hR:R (.bool true) w)(hX:l<=1000 ->X w):
  IfC (decide ((l:Int)>(2147483647:Int))) (R (.bool true) w) (CallT Pg 22 #[.slice p l c] w fun v w2=>Exists fun b:Bool=>And (v= .bool b) (IfC (!b) (R (.bool true) w2) (X w2))):=by
 refine qG (fun _ =>hR) (fun _ =>CallT.mono c22 ?_);rintro v w2 ⟨rfl,rfl⟩;refine⟨_,rfl,?_⟩
 by_cases h:l<=1000
 ·rw[decide_eq_true h];exact hX h
 ·rw[decide_eq_false h];exact hR
theorem gH{n:Nat}(hn32:n<4294967296){p:pQ}{l c:Nat}{ss:List Nat}(hx:HasW w p (ss.map fun(s:Nat)=> .int .u16 (s:Int)))(hl:l=ss.length)(hb:l<=1000){K:pQ ->Nat ->Nat ->World ->Prop}
  (hK:∀{W H:Nat} {L:Bool} {pal:List Px} {cl:List Nat} {fl xs zs d0:bQ} {dr:List (bQ)},Made (n%15) W H L pal cl fl xs zs d0 dr ->∀p l c w',Fr [] w w' ->Pcs w w' p l c (xV (n%15) W H L pal cl d0 dr) ->K p l c w'):
  CallT Pg 27 #[.int .u32 n,.slice p l c] w fun v w1=>Exists fun p':pQ=>Exists fun l':Nat=>Exists fun c':Nat=>And (v= .slice p' l' c') (CallT Pg 30 #[.slice p' l' c'] w1 fun v' w2=>Exists fun p2:pQ=>Exists fun l2:Nat=>Exists fun c2:Nat=>And (v'= .slice p2 l2 c2) (K p2 l2 c2 w2)):=by
 refine CallT.mono (c27 hn32 hx hl hb) ?_;rintro v w1 ⟨W,H,L,pal,cl,hW,hH,hok,hF⟩;obtain⟨fl,xs,zs,d0,dr,M,f,q,c',rfl,ho⟩:=nU oQ hW hH hok hF;exact⟨_,_,_,rfl,qBz M f ho rfl fun p l c w' F _ h=>hK M p l c w' F h⟩
end
section
variable{w w' w0:wQ}{E:Er}{k W H:Nat}{L:Bool}{pal:List Px}{cl:List Nat}{fl xs zs d0:bQ}{dr:List (bQ)}{p q:pQ}{l c c':Nat}{cs:List Ch}{hd dd:bQ}{nm:bQ}
theorem Made.len(M:Made k W H L pal cl fl xs zs d0 dr):(qU (xV k W H L pal cl d0 dr)).length<1000000000:=by
 have hpl:pal.length<=9:=by
  by_cases h:(qE k).1=3
  ·exact(M.ok.pal3 h).2.1
  ·rw[M.ok.paln h];simp
 have hcll:cl.length<=4:=by
  have:=tF (qE k).1;rcases M.ok.cll with h|h
  ·rw[h];simp
  ·omega
 have hal:(xM pal).length=pal.length:=by simp[xM]
 have hsl:=vP pal;have hcL:=mE cl;have hdat:∀ds:List (bQ),(∀x∈ds,x≠[]) ->(chs (xZ ds)).length<=13*ds.flatten.length:=by
  intro ds
  induction ds with
  |nil=>intro _;simp[xZ,chs]
  |cons d r ih=>
   intro hne;have:=ih (fun x hx=>hne x (List.mem_cons_of_mem _ hx));have hd:1<=d.length:=List.length_pos_iff.2 (hne d sQ);have e:xZ (d::r)=(nIDAT,d)::xZ r:=rfl;rw[e,qZ,List.length_append,xA rfl,List.flatten_cons,List.length_append];dsimp only;omega
 have h1:=hdat _ M.ne;rw[M.flat]at h1;have hz:=M.zlen;unfold xV;rw[qU,List.length_append,xU,xU,List.length_append,List.length_append,zK,qZ,xU,xU];simp only[List.length_append];have e0:(qV nIHDR (xT W H (qE k).2 (qE k).1 L)).length=12+13:=xA rfl;have e1:(chs (if 0<pal.length then [(xX,xL pal)]else [])).length<=12+27:=by
  split
  ·rw[qZ,vJ,List.append_nil,xA rfl];dsimp only;omega
  ·simp[chs]
 have e2:(chs (if zG pal=true then [(xJ,xM pal)]else [])).length<=12+9:=by
  split
  ·rw[qZ,vJ,List.append_nil,xA rfl];dsimp only;omega
  ·simp[chs]
 have e3:(chs (if 0<cl.length then [(xJ,zX cl)]else [])).length<=12+8:=by
  split
  ·rw[qZ,vJ,List.append_nil,xA rfl];dsimp only;omega
  ·simp[chs]
 have e4:(chs [(xW,[])]).length=12:=rfl;rw[yB];omega
end
section
variable{w w' w0:wQ}{E:Er}{k W H:Nat}{L:Bool}{pal:List Px}{cl:List Nat}{fl xs zs d0:bQ}{dr:List (bQ)}{p q:pQ}{l c c':Nat}{cs:List Ch}{hd dd:bQ}{nm:bQ}
theorem Pcs.fr0(h:Pcs w0 w p l c cs)(f:Fr [] w w'):Pcs w0 w' p l c cs:=by
 obtain⟨b,vs,ho,hpc,r⟩:=h;exact⟨b,vs,ho.fr0 f,hpc.fr f sQ,r.1,r.2.1,Nat.lt_of_lt_of_le r.2.2.1 f.size,r.2.2.2⟩
end
section
variable{w w' w0:wQ}
end
def wp12(x0:Int)(x1:pQ)(x1l:Nat)(x1c:Nat)(R:vPq)(w:wQ):Prop:=IfC (decide ((x1l:Int)>(2147483647:Int))) (R (.bool true) w) (CallT Pg 22 #[.slice x1 x1l x1c] w fun A i=>∃j,And (A= .bool j) (IfC (!j) (R (.bool true) i) (CallT Pg 27 #[.int .u32 x0,.slice x1 x1l x1c] i fun B C=>∃k l m,And (B= .slice k l m) (CallT Pg 30 #[.slice k l m] C fun D E=>∃g e n,And (D= .slice g e n) (qK E (.cells #[] 53) fun F G=>xE (fun(H:(Sl×Int×Unit) ->World ->Prop)=>H ((⟨some ⟨F,0,none⟩,0,0⟩:Sl),(0:Int),()) G) (fun b f o=>IfC (decide (b.2.1<(e:Int))) (And (0<=b.2.1/\b.2.1<(e:Int)) (qN g fun h=>LdS f (qI h b.2.1.toNat 2) fun I=>qS f ⟨(qI h b.2.1.toNat 2).block,(qI h b.2.1.toNat 2).off+1,none⟩ fun J K L=>qK f (.cells (zc Pg 53) 53) fun c M=>qB M ⟨c,0,none⟩ (.string I) fun N=>qB N ⟨c,0+1,none⟩ (.slice J K L) fun d=>LdS d ⟨c,0,none⟩ fun O=>IfC (!(yI O ⟨#[73,68,65,84]⟩)) (LdS d ⟨c,0,none⟩ fun P=>qS d ⟨c,0+1,none⟩ fun Q S T=>qK d (.cells #[.string P,.slice Q S T] 53) fun U V=>zQ Pg V #[50,50] 50 (.slice b.1.a b.1.len b.1.cap) (.slice (some ⟨U,0,none⟩) 1 1) fun X Y Z aa=>o ((⟨X,Y,Z⟩:Sl),wIq (b.2.1+1),()) aa) (o ((⟨b.1.a,b.1.len,b.1.cap⟩:Sl),wIq (b.2.1+1),()) d))) (CallT Pg 31 #[.slice g e n] f fun ab ac=>∃p q r,And (ab= .slice p q r) (CallT Pg 28 #[.slice p q r] ac fun ad s=>∃t,And (ad= .bool t) (IfC t (CallT Pg 31 #[.slice b.1.a b.1.len b.1.cap] s fun ae af=>∃u v y,And (ae= .slice u v y) (CallT Pg 29 #[.slice u v y,iQq 1] af fun ag ah=>∃z,And (ag= .bool z) (R (.bool z) ah))) (R (.bool false) s))))))))))
theorem call12{x0:Int}{x1:pQ}{x1l:Nat}{x1c:Nat}{R:vPq}{w:wQ}(h:wp12 x0 x1 x1l x1c R w):CallT Pg 12 #[.int .u32 x0,.slice x1 x1l x1c] w R:=cVq [(26,[(6,.sl),(22,.i .i64)],[4,5,20,21])] Tryz.func12 h
section
variable{w w' w0 wB:wQ}{E:Er}{k W H:Nat}{L:Bool}{pal:List Px}{cl:List Nat}{fl xs zs d0:bQ}{dr:List (bQ)}{p q:pQ}{l c c':Nat}{cs ds:List Ch}{hd dd:bQ}{nm:bQ}{s:Sl}
theorem mP{i:Nat}{ch:Ch}(h:Pcs w0 wB p l c cs)(FB:Fr [] wB w)(hi:cs[i]? =some ch){K:ByteArray ->Nat ->World ->Prop}
  (hK:∀q c' r w',Fr [] w w' ->hp w' r=Row 53 #[.string ⟨ch.1.toArray⟩,.slice q ch.2.length c'] ->Has w' q (bv ch.2) ->(q=none ->c'=0) ->(∀x∈xD q,x<hn wB/\hn w0<=x) ->hn w<=r ->K ⟨ch.1.toArray⟩ r w'):
  And (0<=(i:Int)/\(i:Int)<(l:Int)) (qN p fun a=>LdS w (qI a (i:Int).toNat 2) fun s=>qS w ⟨(qI a (i:Int).toNat 2).block,(qI a (i:Int).toNat 2).off+1,none⟩ fun p2 l2 c2=>qK w (.cells (zc Pg 53) 53) fun r w1=>qB w1 ⟨r,0,none⟩ (.string s) fun w2=>qB w2 ⟨r,0+1,none⟩ (.slice p2 l2 c2) fun w3=>LdS w3 ⟨r,0,none⟩ fun s'=>K s' r w3):=by
 obtain⟨b,vs,ho,hpc,hl,hb0,hb1,hb2⟩:=h;have ho:=ho.fr0 FB;have hpc:=hpc.fr FB sQ;have hil:i<cs.length:=(List.getElem?_eq_some_iff.1 hi).1;refine⟨⟨oQ,oQ⟩,?_⟩;obtain⟨q,m,c2,e1,e2,g1,g2,g3,g4⟩:=hpc.at hi;obtain⟨g,o,rfl,k1,k2⟩:=Has.at2 ho.has e1 e2;rw[PtrC_some,zE,Int.toNat_natCast,vU];dsimp only;rw[k1,RdS_some,yT,k2,RdSl_some];refine qF fun w1 h1 f1 n1=> ?_;rw[zc53]at h1;refine qD h1 sQ fun w2 h2 f2 n2=> ?_;refine qD h2 sQ fun w3 h3 f3 n3=> ?_;have h3':hp w3 (hn w)=Row 53 #[.string ⟨ch.1.toArray⟩,.slice q ch.2.length c2]:=by rw[<-g2];simpa using h3
 have F:Fr [] w w3:=(f1.new1 f2 (Nat.le_refl _)).new1 f3 (Nat.le_refl _);refine rY h3' rfl (hK q c2 _ w3 F h3' (g1.fr0 F) g3 (fun x hx=> ?_) (Nat.le_refl _))
 cases q with
 |none=>simp[xD]at hx
 |some a=>
  have:a.block=b:=g4 a rfl;simp[xD]at hx;omega
def Grow(wB w:wQ)(s:Sl)(ds:List Ch):Prop:=Fr [] wB w/\∃vs,Own w (hn wB) 53 2 s.a s.len s.cap vs/\PcHas (fun x=>x<hn w/\x∉xD s.a) w vs ds/\s.len=ds.length
theorem Grow.fr0(h:Grow wB w s ds)(f:Fr [] w w'):Grow wB w' s ds:=by
 obtain⟨F,vs,ho,hpc,hl⟩:=h;exact⟨F.trans f,vs,ho.fr0 f,(hpc.fr f sQ).mono (fun x hx=>⟨Nat.lt_of_lt_of_le hx.1 f.size,hx.2⟩),hl⟩
theorem Grow.start{r:Nat}(h:hp w r=Row 53 #[])(F:Fr [] wB w)(hr:hn wB<=r):Grow wB w ⟨some ⟨r,0,none⟩,0,0⟩ []:=⟨F,[],Own.of_row (arr:= #[]) h hr rfl,trivial,rfl⟩
theorem Grow.add{m:Nat}(h:Grow wB w s ds)(hx:Has w q (bv dd))(hm:m=dd.length)(hc:q=none ->c'=0)(hblk:∀x∈xD q,x<hn w/\x∉xD s.a)(hbig:ds.length<=1000000000){K:pQ ->Nat ->Nat ->World ->Prop}
  (hK:∀s' w',Grow wB w' s' (ds++[(nm,dd)]) ->Fr (xD s.a) w w' ->(∀x∈xD s'.a,x∈xD s.a\/hn w<=x) ->K s'.a s'.len s'.cap w'):
  qK w (.cells #[.string ⟨nm.toArray⟩,.slice q m c'] 53) fun r w1=>zQ Pg w1 #[50,50] 50 (.slice s.a s.len s.cap) (.slice (some ⟨r,0,none⟩) 1 1) K:=by
 obtain⟨F,vs,ho,hpc,hl⟩:=h;refine mX ok50 F ho (cs:= #[.string ⟨nm.toArray⟩,.slice q m c']) (m:=1) sQ (by simp[Value.oneCell']) oQ ?_;intro p' c'' w' F' f' ho' hm';refine hK ⟨p',s.len+1,c''⟩ w' ⟨F',_,ho',?_,by simp[hl]⟩ f' hm';have hsz:=f'.size;have step:∀x,(x<hn w/\x∉xD s.a) ->(x<hn w'/\x∉xD p'):=fun x hx=>⟨oQ,fun hx'=>(hm' x hx').elim hx.2 (fun h=>by omega)⟩;have h1:=(hpc.fr f' (fun x hx=>hx.2)).mono step;refine PcHas.snoc (ch:=(nm,dd)) (hx.fr f' (fun a ha hx'=>(hblk a.block (by subst ha;simp[xD])).2 hx')) hm hc (fun a ha=>step _ (hblk a.block (by subst ha;simp[xD]))) h1
theorem Grow.addAt{r:Nat}{c':Nat}(h:Grow wB w s ds)(hr:hp w r=Row 53 #[.string ⟨nm.toArray⟩,.slice q dd.length c'])(hx:Has w q (bv dd))(hc:q=none ->c'=0)(hblk:∀x∈xD q,x<hn w/\x∉xD s.a)(hbig:ds.length<=1000000000){K:pQ ->Nat ->Nat ->World ->Prop}
  (hK:∀s' w',Grow wB w' s' (ds++[(nm,dd)]) ->Fr (xD s.a) w w' ->(∀x∈xD s'.a,x∈xD s.a\/hn w<=x) ->K s'.a s'.len s'.cap w'):
  LdS w ⟨r,0,none⟩ fun n=>qS w ⟨r,0+1,none⟩ fun p1 l1 c1=>qK w (.cells #[.string n,.slice p1 l1 c1] 53) fun r1 w1=>zQ Pg w1 #[50,50] 50 (.slice s.a s.len s.cap) (.slice (some ⟨r1,0,none⟩) 1 1) K:=
 rY hr rfl (qL hr rfl (h.add hx rfl hc hblk hbig hK))
theorem Grow.blk(h:Grow wB w s ds):∀x∈xD s.a,hn wB<=x/\x<hn w:=by
 obtain⟨_,vs,ho,_⟩:=h;exact ho.blk
theorem Grow.told{w0:wQ}{code:Int}(h:Grow wB w s ds)(hV:Env w0 E)(F:Fr [] w0 w)(hok:kA ds)(hb:(qU ds).length<1099511627776)
  (ht:∀{w1:wQ} {q:pQ} {c:Nat},Env w1 E ->Has w1 q (bv (qU ds)) ->CallT Pg 29 #[.slice q (qU ds).length c,.int .i64 code] w1 fun v w'=>v= .bool true/\Fr [] w1 w')
  {K:Bool ->World ->Prop}(hK:∀w',Fr [] w0 w' ->K true w'):
  CallT Pg 31 #[.slice s.a s.len s.cap] w fun v w1=>Exists fun p':pQ=>Exists fun l':Nat=>Exists fun c':Nat=>And (v= .slice p' l' c') (CallT Pg 29 #[.slice p' l' c',.int .i64 code] w1 fun v' w2=>Exists fun b:Bool=>And (v'= .bool b) (K b w2)):=by
 obtain⟨_,vs,ho,hpc,hl⟩:=h;exact lN hV F ho.has hpc (fun x hx=>hx.1) hl hok hb ht hK
theorem qAc(x:Ch)(h:x∈zK W H (qE k).2 (qE k).1 L pal cl):x.1=nIHDR\/x.1=xX\/x.1=xJ:=by
 unfold zK at h;simp only[List.mem_cons,List.mem_append]at h;rcases h with rfl|h|h|h
 ·exact .inl rfl
 ·split at h
  ·simp at h;subst h;exact .inr (.inl rfl)
  ·simp at h
 ·split at h
  ·simp at h;subst h;exact .inr (.inr rfl)
  ·simp at h
 ·split at h
  ·simp at h;subst h;exact .inr (.inr rfl)
  ·simp at h
theorem noData:(xV k W H L pal cl d0 dr).filter (fun x=> !(x.1==nIDAT))=zK W H (qE k).2 (qE k).1 L pal cl++[(xW,[])]:=by
 unfold xV;rw[List.filter_append,List.filter_append];have h1:(zK W H (qE k).2 (qE k).1 L pal cl).filter (fun x=> !(x.1==nIDAT))=zK W H (qE k).2 (qE k).1 L pal cl:=by
  apply List.filter_eq_self.2;intro x hx;rcases qAc x hx with h|h|h<;>rw[h]<;>decide
 have h2:(xZ (d0::dr)).filter (fun x=> !(x.1==nIDAT))=[]:=by
  apply List.filter_eq_nil_iff.2;intro x hx;unfold xZ at hx;obtain⟨d,_,rfl⟩:=List.mem_map.1 hx;simp
 rw[h1,h2,List.append_nil]
 congr 1
theorem qBw{a b:List Ch}(h:a.Sublist b):(chs a).length<=(chs b).length:=by
 induction h with
 |slnil=>simp
 |cons x _ ih=>rw[qZ,List.length_append];omega
 |cons_cons x _ ih=>rw[qZ,qZ,List.length_append,List.length_append];omega
theorem c12{n:Nat}(hn32:n<4294967296){ss:List Nat}(hx:HasW w p (ss.map fun(s:Nat)=> .int .u16 (s:Int)))(hl:l=ss.length)(hV:Env w E):CallT Pg 12 #[.int .u32 n,.slice p l c] w fun v w'=>v= .bool true/\Fr [] w w':=by
 apply call12;unfold wp12 wIq iQq;refine kZ (R:=fun v w'=>v= .bool true/\Fr [] w w') ⟨rfl,Fr.refl _ _⟩ fun hb=> ?_;refine gH hn32 hx hl hb fun{W H L pal cl fl xs zs d0 dr} M p1 l1 c1 w1 F1 h1=> ?_;obtain⟨hok,hlen⟩:=M.okc;have hml:(xV (n%15) W H L pal cl d0 dr).length<=1000000000:=by
  have:=yN hok;have:=M.len;unfold qU at this;rw[List.length_append]at this;omega
 have hnd:(xV (n%15) W H L pal cl d0 dr).filter (fun x=> !(x.1==nIDAT))=_ :=noData;have hl1:l1=(xV (n%15) W H L pal cl d0 dr).length:=by obtain⟨b,vs,_,_,h,_⟩:=h1;exact h
 have told:∀{w1:wQ} {q:pQ} {c:Nat},Env w1 E ->Has w1 q (bv (qU ((xV (n%15) W H L pal cl d0 dr).filter (fun x=> !(x.1==nIDAT))))) ->CallT Pg 29 #[.slice q (qU ((xV (n%15) W H L pal cl d0 dr).filter (fun x=> !(x.1==nIDAT)))).length c,.int .i64 1] w1 fun v w'=>v= .bool true/\Fr [] w1 w':=by
  intro w1 q c hV1 hx1;have hlt:(qU ((xV (n%15) W H L pal cl d0 dr).filter (fun x=> !(x.1==nIDAT)))).length<1099511627776:=by
   have:=qBw (List.filter_sublist (p:=fun x:Ch=> !(x.1==nIDAT)) (l:=xV (n%15) W H L pal cl d0 dr));unfold qU at hlen⊢;rw[List.length_append]at hlen⊢;omega
  rw[hnd]at hx1 hlt⊢;refine gP (a:=zK W H (qE (n%15)).2 (qE (n%15)).1 L pal cl) (r:=[]) (bad:=qV xW []++[]) (by rw[qU,xU];simp[chs]) hx1 rfl hlt hV1 (by rw[List.append_nil]) M.hk M.hW M.hH M.ok (fun _ _ _ =>False) (fun{w0 w1 db rb kb p d crc} hA hD hR=> ?_) (fun _ _ h=>h.elim);obtain⟨_,hs,_⟩:=hR.ready M.ok;refine CallT.mono (uS (C:=(·=1)) hA hD rfl dQ ?_ rfl) fun v w2 h=>⟨h.1,.inl h.2⟩;unfold zT;rw[if_neg dQ,if_neg dQ,if_neg dQ,if_neg dQ,if_pos rfl,if_pos oQ]
 have hokf:kA ((xV (n%15) W H L pal cl d0 dr).filter (fun x=> !(x.1==nIDAT))):=fun x hx=>hok x (List.mem_filter.1 hx).1;have hltf:(qU ((xV (n%15) W H L pal cl d0 dr).filter (fun x=> !(x.1==nIDAT)))).length<1099511627776:=by
  have:=qBw (List.filter_sublist (p:=fun x:Ch=> !(x.1==nIDAT)) (l:=xV (n%15) W H L pal cl d0 dr));unfold qU at hlen⊢;rw[List.length_append]at hlen⊢;omega
 generalize hcs:xV (n%15) W H L pal cl d0 dr=cs at*;refine qF fun w2 h2 f2 n2=> ?_;refine qP (fun z w'=>∃i:Nat,z.2.1=i/\i<=cs.length/\Grow w1 w' z.1 ((cs.take i).filter (fun x=> !(x.1==nIDAT)))) (fun z _ =>cs.length -z.2.1.toNat) ⟨0,rfl,oQ,Grow.start h2 f2 (Nat.le_refl _)⟩ ?_;rintro⟨⟨sa,sl,sc⟩,_,⟨⟩⟩ w3 ⟨i,rfl,hi,hG⟩;dsimp only at hG⊢;have F3:=hG.1;refine qG (fun hlt=> ?_) (fun hge=> ?_)
 ·obtain⟨ch,hch⟩:∃ch,cs[i]? =some ch:=⟨_,List.getElem?_eq_getElem oQ⟩
  refine mP h1 F3 hch fun q c' r w4 f4 hr hq hqc hqb _ => ?_;have hG4:=hG.fr0 f4;rw[show yI ⟨ch.1.toArray⟩ ⟨#[73,68,65,84]⟩=(ch.1==nIDAT)from yR _ nIDAT];have etk:cs.take (i+1)=cs.take i++[ch]:=by rw[List.take_add_one,hch];rfl
  rw[qA oQ oQ];refine qT (fun hne=> ?_) (fun heq=> ?_)
  ·refine hG4.addAt (nm:=ch.1) (dd:=ch.2) hr hq hqc (fun x hx=>⟨Nat.lt_of_lt_of_le (hqb x hx).1 hG4.1.size,fun hx'=>by have:=(hG4.blk x hx').1;have:=(hqb x hx).1;omega⟩) ?_ fun s' w5 hG5 f5 _ => ?_
   ·have:=List.length_filter_le (fun x:Ch=> !(x.1==nIDAT)) (cs.take i)
    simp at this;omega
   ·refine⟨⟨i+1,oQ,oQ,?_⟩,oQ⟩
    rw[etk,List.filter_append,List.filter_cons,if_pos hne];exact hG5
  ·refine⟨⟨i+1,oQ,oQ,?_⟩,oQ⟩
   rw[etk,List.filter_append,List.filter_cons,if_neg (by rw[heq];decide)]
   simpa using hG4
 ·obtain rfl:i=cs.length:=oQ
  rw[List.take_length]at hG;subst hcs;refine uA M hV (F1.trans F3) (h1.fr0 F3) fun w4 F4 f4=>xC ?_;exact(hG.fr0 f4).told hV F4 hokf hltf told fun w5 F5=>⟨rfl,F5⟩
end
section
variable{w w' w0 wB:wQ}{E:Er}{k W H:Nat}{L:Bool}{pal:List Px}{cl:List Nat}{fl xs zs d0:bQ}{dr:List (bQ)}{p q:pQ}{l c c':Nat}{cs ds es:List Ch}{hd dd:bQ}{nm:bQ}{s:Sl}{db rb kb crc:Nat}{d:Dec}{rs:bQ}
end
section
variable{w w' w0 wB:wQ}{E:Er}{k W H:Nat}{L:Bool}{pal:List Px}{cl:List Nat}{fl xs zs d0:bQ}{dr:List (bQ)}{p q:pQ}{l c c':Nat}{cs ds es r:List Ch}{hd dd:bQ}{nm:bQ}{s:Sl}{db rb kb crc:Nat}{d:Dec}{rs:bQ}
end
section
variable{w w' w0 wB:wQ}{E:Er}{k W H D C:Nat}{L:Bool}{pal:List Px}{cl:List Nat}{fl xs zs d0:bQ}{dr:List (bQ)}{p q:pQ}{l c c':Nat}{cs ds es r:List Ch}{hd dd:bQ}{nm:bQ}{s:Sl}{db rb kb crc:Nat}{d:Dec}{rs:bQ}
end
section
variable{w w' w0 wB:wQ}{E:Er}{k W H D C:Nat}{L:Bool}{pal:List Px}{cl:List Nat}{fl xs zs d0:bQ}{dr:List (bQ)}{p q:pQ}{l c c':Nat}{cs ds es r:List Ch}{hd dd:bQ}{nm:bQ}{s:Sl}{db rb kb crc:Nat}{d:Dec}{rs:bQ}
end
section
variable{w w' w0 w1 wB:wQ}{E:Er}{k W H D C:Nat}{L:Bool}{pal:List Px}{cl:List Nat}{fl xs zs d0:bQ}{dr:List (bQ)}{p q:pQ}{l c c':Nat}{cs ds es r:List Ch}{hd dd:bQ}{nm:bQ}{s:Sl}{db rb kb crc:Nat}{d:Dec}{rs:bQ}
end
section
variable{w w' w0 w1 wB:wQ}{E:Er}{k W H D C:Nat}{L:Bool}{pal:List Px}{cl:List Nat}{fl xs zs d0:bQ}{dr:List (bQ)}{p q:pQ}{l c c':Nat}{cs ds es r:List Ch}{hd dd:bQ}{nm:bQ}{s:Sl}{db rb kb crc:Nat}{d:Dec}{rs:bQ}
end
section
variable{w w' w0 w1 wB:wQ}{E:Er}{k W H D C:Nat}{L:Bool}{pal:List Px}{cl:List Nat}{fl xs zs d0:bQ}{dr:List (bQ)}{p q:pQ}{l c c':Nat}{cs ds es r:List Ch}{hd dd:bQ}{nm:bQ}{db rb kb crc:Nat}{d:Dec}{rs:bQ}
end
section
variable{w w' w0 w1 wB:wQ}{E:Er}{k W H D C:Nat}{L:Bool}{pal:List Px}{cl:List Nat}{fl xs zs d0:bQ}{dr:List (bQ)}{p q:pQ}{l c c':Nat}{cs ds es r:List Ch}{hd dd:bQ}{nm:bQ}{s:Sl}{db rb kb crc:Nat}{d:Dec}{rs:bQ}
end
section
variable{w w' w0 w1 wB:wQ}{E:Er}{k W H D C:Nat}{L:Bool}{pal:List Px}{cl:List Nat}{fl xs zs d0:bQ}{dr:List (bQ)}{p q:pQ}{l c c':Nat}{rb:Nat}
end
end Go.Proofs
