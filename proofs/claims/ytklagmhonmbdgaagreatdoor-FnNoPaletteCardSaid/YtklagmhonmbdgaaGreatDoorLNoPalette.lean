/- Contracts of the law and of what it walks -/
import Derived.Test.YtklagmhonmbdgaaGreatDoorK4
set_option maxRecDepth 1000000
set_option linter.unusedVariables false
set_option linter.unusedSimpArgs false
set_option maxHeartbeats 4000000
namespace Go.Proofs
open Go Go.V
open Go.IntKind (wrap)
section
variable{w w' w0:wQ}{rb db kb crc k W H:Nat}{L:Bool}{p:pQ}{E:Er}{pal:List Px}{cl:List Nat}{d:Dec}
structure Env (w:wQ) (E:Er):Prop where
 tab:Tab w
 errs:Errs w E
 lo:E.n0<=hn w
 lace:LaceAt w E.n0
 ety:ETyp w
theorem Env.fr0(h:Env w E)(f:Fr [] w w'):Env w' E:=⟨h.tab.fr f sQ,h.errs.fr f sQ,Nat.le_trans h.lo f.size,h.lace.fr f (by have:=h.errs.low;omega) sQ,h.ety.fr0 f⟩
def Bad(E:Er)(C:Int ->Prop)(v:Value):Prop:=ErrF E v/\∀e',outE E v e' ->ErrK e'/\C (bR e')
theorem Bad.of125{s:ByteArray}{C:Int ->Prop}(hC:C 1):Bad E C (.iface 125 (.string s)):=by
 refine⟨.inr (.inr ⟨125,s,dQ,rfl⟩),fun e' he=> ?_⟩;rcases he with⟨h,_⟩|⟨_,rfl⟩
 ·simp[zD]at h
 ·exact⟨.inl ⟨s,rfl⟩,hC⟩
theorem Refuse.bad{v:Value}(h:Refuse 125 v){C:Int ->Prop}(hC:C 1):Bad E C v:=by obtain⟨s,rfl,_⟩:=h;exact Bad.of125 hC
theorem c69t{xs:bQ}{C:Int ->Prop}(hr:RdAt w rb p xs)(hT:Tab w)(hE:Errs w E)(hlo:E.n0<=rb)(hrb:3<rb/\rb<hn w)(hp:∀a,p=some a ->3<a.block/\a.block<rb)(h8:8<=xs.length)(hsig:xs.take 8=sigL)(G:World ->Dec ->Nat ->bQ ->Prop)
  (start:∀w6 tmp,G w6 {wV (.iface 85 (.pointer (some ⟨rb,0,none⟩))) (hn w)with tmp:=tmp} 0 (xs.drop 8))
  (step:∀w1 d crc rs,Fr [rb] w w1 ->hn w+2<=hn w1 ->Errs w1 E ->Dst w1 (hn w+1) rb (hn w) p d crc rs ->G w1 d crc rs ->d.stage≠5/\CallT Pg 60 #[.pointer (some ⟨hn w+1,0,none⟩),.bool false] w1 fun v w2=>Fr [rb] w w2/\((v= .nilIface/\∃d' crc' rs',Dst w2 (hn w+1) rb (hn w) p d' crc' rs'/\rs'.length<rs.length/\G w2 d' crc' rs')\/Bad E C v)):
  CallT Pg 69 #[.iface 85 (.pointer (some ⟨rb,0,none⟩))] w fun v w'=>Fr [rb] w w'/\∃e,v= .tuple #[.nilIface,e]/\(ErrK e/\C (bR e)):=by
 have hlow:=hE.low;refine c69 hr hT hE hlo hrb hp h8 (fun w'=>Fr [rb] w w'/\hn w+2<=hn w'/\∃d crc rs,Dst w' (hn w+1) rb (hn w) p d crc rs/\G w' d crc rs) (fun w'=>left w' rb) ?_ ?_ ?_
 ·intro w6 tmp _ F6 n6 D6
  exact⟨F6,n6,_,_,_,D6,start w6 tmp⟩
 ·intro w6 s hs
  exact absurd hsig hs
 ·rintro w1 ⟨F1,n1,d,crc,rs,hD,hG⟩
  obtain⟨h5,hc⟩:=step w1 d crc rs F1 n1 (hE.fr F1 (by simp;omega)) hD hG;refine⟨d,crc,rs,hD,fun h=>absurd h h5,fun _ =>CallT.mono hc ?_⟩;rintro v w2 ⟨F2,⟨rfl,d',crc',rs',hD',hlt,hG'⟩|⟨hb,ho⟩⟩
  ·refine .inl ⟨rfl,⟨F2,by have:=zR hD'.dec;omega,_,_,_,hD',hG'⟩,?_⟩
   rw[hD.at_.left_eq,hD'.at_.left_eq];exact hlt
  ·refine .inr ⟨hb,hE.fr F2 (by simp;omega),fun e' he=>⟨F2,e',rfl,ho e' he⟩⟩
def uV(pal:List Px)(cl:List Nat):List Ch:=(if 0<pal.length then [(xX,xL pal)]else [])++((if zG pal then [(xJ,xM pal)]else [])++(if 0<cl.length then [(xJ,zX cl)]else []))
theorem vY{D C:Nat}:zK W H D C L pal cl=(nIHDR,xT W H D C L)::uV pal cl:=rfl
theorem dW{D C:Nat}(hok:yW D C pal cl)(hC:C=3):uV pal cl=(xX,xL pal)::(if zG pal then [(xJ,xM pal)]else []):=by
 obtain⟨q1,q2,q3⟩:=hok.pal3 hC;have hcl:=hok.cl0 oQ oQ;subst hcl;unfold uV;rw[if_pos (by omega:0<pal.length),show(if 0<([]:List Nat).length then [(xJ,zX [])]else [])=([]:List Ch)from rfl,List.append_nil,List.singleton_append]
theorem qCh{D C:Nat}(hok:yW D C pal cl)(hC:C≠3):uV pal cl=if 0<cl.length then [(xJ,zX cl)]else []:=by
 have hpn:=hok.paln hC;subst hpn
 rfl
def RightAt(w:wQ)(db k W H:Nat)(L:Bool)(pal:List Px)(cl:List Nat)(d:Dec)(r:List Ch):Prop:=
 (d.stage=0/\d.useT=false/\d.cb=0/\r=zK W H (qE k).2 (qE k).1 L pal cl)\/
 (d.stage=1/\d.useT=false/\jG d k W H L/\r=uV pal cl)\/
 (d.stage=2/\(qE k).1=3/\d.useT=false/\jG d k W H L/\kH w db d.pal pal.length (kK (xL pal) pal.length)/\r=if zG pal then [(xJ,xM pal)]else [])\/
 (d.stage=3/\jG d k W H L/\((qE k).1=3 ->∃n cs,kH w db d.pal n cs)/\(d.useT=true ->(qE k).1=0\/(qE k).1=2)/\r=[])
theorem RightAt.ready(h:RightAt w db k W H L pal cl d [])(hok:yW (qE k).2 (qE k).1 pal cl):jG d k W H L/\(1<=d.stage/\d.stage<=3)/\((qE k).1=3 ->d.stage≠1/\∃n cs,kH w db d.pal n cs)/\(d.useT=true ->(qE k).1=0\/(qE k).1=2):=by
 rcases h with⟨_,_,_,hr⟩|⟨h1,hu,hh,hr⟩|⟨h2,hC,hu,hh,hP,hr⟩|⟨h3,hh,hP,hu,_⟩
 ·exact absurd hr.symm (by simp[vY])
 ·refine⟨hh,oQ,fun hC=> ?_,fun e=>by rw[hu]at e;cases e⟩
  rw[dW hok hC]at hr
  cases hr
 ·exact⟨hh,oQ,fun _ =>⟨oQ,_,_,hP⟩,fun e=>by rw[hu]at e;cases e⟩
 ·exact⟨hh,oQ,fun e=>⟨oQ,hP e⟩,hu⟩
theorem RightAt.step{c:Ch}{r:List Ch}{tail:bQ}(h:RightAt w db k W H L pal cl d (c::r))(hD:Dst w db rb kb p d crc (qV c.1 c.2++tail))(hk:k<15)(hW:1<=W/\W<=20)(hH:1<=H/\H<=20)(hok:yW (qE k).2 (qE k).1 pal cl)(F0:Fr [rb] w0 w)(hkb:hn w0<=kb):
  CallT Pg 60 #[.pointer (some ⟨db,0,none⟩),.bool false] w fun v w'=>v= .nilIface/\Fr [rb] w0 w'/\∃d' crc',Dst w' db rb kb p d' crc' tail/\RightAt w' db k W H L pal cl d' r:=by
 have hne:=hD.ne;have hcb:=jT hk;have fr:∀{w':wQ},Fr [rb,kb,db] w w' ->Fr [rb] w0 w':=fun f=>F0.trans' f (fun x hx hlt=>by simp at hx⊢;omega);rcases h with⟨h0,hu,_,hr⟩|⟨h1,hu,hh,hr⟩|⟨h2,hC,hu,hh,hP,hr⟩|⟨_,_,_,_,hr⟩
 ·rw[vY]at hr
  obtain⟨rfl,rfl⟩:=List.cons.inj hr;refine CallT.mono (Dst.goodIHDR hD h0 oQ oQ hk) ?_;rintro v w2 ⟨rfl,F,tmp,crc',hD'⟩;exact⟨rfl,fr F,_,_,hD',.inr (.inl ⟨rfl,hu,⟨rfl,rfl,rfl,rfl,rfl⟩,rfl⟩)⟩
 ·by_cases hC:(qE k).1=3
  ·rw[dW hok hC]at hr
   obtain⟨rfl,rfl⟩:=List.cons.inj hr;obtain⟨q1,q2,q3⟩:=hok.pal3 hC;refine CallT.mono (Dst.goodPLTE hD h1 hh.D_ (vO hk).1 (by rw[hh.cb_];have:=hcb.2.1 hC;omega) oQ oQ q3) ?_;rintro v w2 ⟨rfl,F,tmp,crc',pl,hD',hP⟩;exact⟨rfl,fr F,_,_,hD',.inr (.inr (.inl ⟨rfl,hC,hu,⟨hh.W_,hh.H_,hh.D_,hh.cb_,hh.lace_⟩,hP,rfl⟩))⟩
  ·rw[qCh hok hC]at hr
   by_cases hcl:0<cl.length
   ·rw[if_pos hcl]at hr
    obtain⟨rfl,rfl⟩:=List.cons.inj hr;have hl:=hok.cll.resolve_left (List.length_pos_iff.1 hcl);have h02:(qE k).1=0\/(qE k).1=2:=by
     by_cases h0:(qE k).1=0
     ·exact .inl h0
     ·by_cases h2:(qE k).1=2
      ·exact .inr h2
      ·exact absurd (hok.cl0 h0 h2) (List.length_pos_iff.1 hcl)
    have hcc:=qFj hk;refine CallT.mono (qCi hD h1 ?_) ?_
    ·rw[mE,hl,hh.cb_]
     rcases h02 with h0|h2
     ·refine .inl ⟨by rw[h0];rfl,?_⟩
      have:=hcc.1 h0;omega
     ·refine .inr ⟨by rw[h2];rfl,?_⟩
      have:=hcc.2 h2;omega
    ·rintro v w2 ⟨rfl,F,n2,tmp,tr,crc',hD'⟩
     exact⟨rfl,fr F,_,_,hD',.inr (.inr (.inr ⟨rfl,⟨hh.W_,hh.H_,hh.D_,hh.cb_,hh.lace_⟩,fun e=>absurd e hC,fun _ =>h02,rfl⟩))⟩
   ·rw[if_neg hcl]at hr
    cases hr
 ·by_cases ha:zG pal=true
  ·rw[if_pos ha]at hr
   obtain⟨rfl,rfl⟩:=List.cons.inj hr;obtain⟨q1,q2,q3⟩:=hok.pal3 hC;have hal:(xM pal).length=pal.length:=by simp[xM]
   obtain⟨g,hpal,hdg,hrow,hcl,hn256⟩:=hP;refine CallT.mono (Dst.goodTRNS (al:=xM pal) hD h2 (by rw[hh.cb_];have:=hcb.2.1 hC;omega) ⟨g,hpal,hdg,hrow,hcl,hn256⟩ (mN _ _) oQ oQ) ?_;rintro v w2 ⟨rfl,hF,tmp,crc',pl,hD',_,hP'⟩;have F:=hF g (by rw[hpal]);exact⟨rfl,F0.trans' F (fun x hx hlt=>by simp at hx⊢;omega),_,_,hD',.inr (.inr (.inr ⟨rfl,⟨hh.W_,hh.H_,hh.D_,hh.cb_,hh.lace_⟩,fun _ =>⟨_,_,hP'⟩,(fun h=>by rw[hu]at h;cases h),rfl⟩))⟩
  ·rw[if_neg ha]at hr
   cases hr
 ·cases hr
end
section
variable{w w0 w1 w2:wQ}{rb db kb crc k W H:Nat}{L:Bool}{p q:pQ}{E:Er}{pal:List Px}{cl:List Nat}{d:Dec}
structure Stp (w0 w1:wQ) (E:Er) (db rb kb:Nat):Prop where
 F0:Fr [rb] w0 w1
 hkb:hn w0<=kb
 errs:Errs w1 E
 lace:LaceAt w1 E.n0
 lo:E.n0<=rb
 ord:kb<db
theorem Stp.fr(h:Stp w0 w1 E db rb kb)(f:Fr [rb,kb,db] w1 w2):Fr [rb] w0 w2:=h.F0.trans' f (fun x hx hlt=>by have:=h.hkb;have:=h.ord;simp at hx⊢;omega)
theorem wT{c:Ch}{b:List Ch}{t:bQ}:(chs b++t).length<(chs (c::b)++t).length:=by
 rw[qZ];simp only[List.length_append];have:4<=(qV c.1 c.2).length:=by unfold qV;simp only[List.length_append,xG];omega
 omega
theorem gP{l c:Nat}{a r:List Ch}{bad:bQ}{code:Int}{file:bQ}(ef:file=sigL++(chs a++bad))(hx:Has w q (bv file))(hl:l=file.length)(hlb:l<1099511627776)(hV:Env w E)
  (hfo:zK W H (qE k).2 (qE k).1 L pal cl=a++r)(hk:k<15)(hW:1<=W/\W<=20)(hH:1<=H/\H<=20)(hok:yW (qE k).2 (qE k).1 pal cl)(G2:Dec ->Nat ->bQ ->Prop)
  (hbad:∀{w0 w1:wQ} {db rb kb:Nat} {p:pQ} {d:Dec} {crc:Nat},Stp w0 w1 E db rb kb ->Dst w1 db rb kb p d crc bad ->RightAt w1 db k W H L pal cl d r ->
   CallT Pg 60 #[.pointer (some ⟨db,0,none⟩),.bool false] w1 fun v w2=>Fr [rb] w0 w2/\(Bad E (·=code) v\/(v= .nilIface/\∃d' crc' rs',Dst w2 db rb kb p d' crc' rs'/\rs'.length<bad.length/\G2 d' crc' rs')))
  (after:∀{w0 w1:wQ} {db rb kb:Nat} {p:pQ} {d:Dec} {crc:Nat} {rs:bQ},Stp w0 w1 E db rb kb ->Dst w1 db rb kb p d crc rs ->G2 d crc rs ->
   d.stage≠5/\CallT Pg 60 #[.pointer (some ⟨db,0,none⟩),.bool false] w1 fun v w2=>Fr [rb] w0 w2/\Bad E (·=code) v):
  CallT Pg 29 #[.slice q l c,.int .i64 code] w fun v w'=>v= .bool true/\Fr [] w w':=by
 subst ef;refine qAs (B:=fun e=>ErrK e/\bR e=code) hx hl hlb hV.tab hV.errs hV.lo hV.lace hV.ety (fun e h=>h) fun w2 rb p F2 hr hT2 hE2 hlo2 hrb hp hL2 _ => ?_;refine c69t (C:=(·=code)) hr hT2 hE2 hlo2 hrb hp (by simp[yB]) (kN _) (fun w' d crc rs=>(∃b,rs=chs b++bad/\RightAt w' (hn w2+1) k W H L pal cl d (b++r))\/G2 d crc rs) ?_ ?_
 ·intro w6 tmp
  rw[gU];exact .inl ⟨a,rfl,.inl ⟨rfl,rfl,rfl,hfo.symm⟩⟩
 ·intro w1 d crc rs F1 n1 E1 hD hG
  have hlow:=hE2.low;have hA:Stp w2 w1 E (hn w2+1) rb (hn w2):=⟨F1,Nat.le_refl _,E1,hL2.fr F1 oQ (by simp;omega),hlo2,oQ⟩;rcases hG with⟨b,rfl,hR⟩|hG
  ·have h5:d.stage≠5:=by rcases hR with h|h|h|h<;>omega
   refine⟨h5,?_⟩
   cases b with
   |nil=>
    refine CallT.mono (hbad hA hD hR) ?_;rintro v w3 ⟨F,hb|⟨rfl,d',crc',rs',hD',hlt,hg⟩⟩
    ·exact⟨F,.inr hb⟩
    ·exact⟨F,.inl ⟨rfl,d',crc',rs',hD',hlt,.inr hg⟩⟩
   |cons ch b=>
    have hD':=hD;rw[qZ,List.append_assoc]at hD';refine CallT.mono (RightAt.step hR hD' hk hW hH hok F1 (Nat.le_refl _)) ?_;rintro v w3 ⟨rfl,F,d',crc',hD2,hR2⟩;exact⟨F,.inl ⟨rfl,d',crc',_,hD2,wT,.inl ⟨b,rfl,hR2⟩⟩⟩
  ·obtain⟨h5,hc⟩:=after hA hD hG
   refine⟨h5,CallT.mono hc ?_⟩;rintro v w3 ⟨F,hb⟩;exact⟨F,.inr hb⟩
theorem uS{nm dd rest:bQ}(hA:Stp w0 w1 E db rb kb)(hD:Dst w1 db rb kb p d crc (qV nm dd++rest))(hnl:nm.length=4)(hdd:dd.length<4294967296)(hn:zT d nm= .refuse){C:Int ->Prop}(hC:C 1):
  CallT Pg 60 #[.pointer (some ⟨db,0,none⟩),.bool false] w1 fun v w2=>Fr [rb] w0 w2/\Bad E C v:=by
 obtain⟨h1,h2,h3,h4⟩:=yA (nm:=nm) (d:=dd) (rest:=rest) hnl hdd;refine hD.c60 oQ fun w3 tmp s F3 n3 D3=> ?_;rw[h2,hn];dsimp only;intro _ v hv;exact⟨hA.fr F3,hv.bad hC⟩
end
section
variable{w w' w0:wQ}{E:Er}{Q Q':Nat ->Prop}
theorem c30n{b o l c:Nat}{cs:List Ch}(hx:Has w (some ⟨b,o,none⟩) (bv (qU cs)))(hl:l=(qU cs).length)(hb:l<1099511627776)(hlc:l<=c)(hok:kA cs):
  CallT Pg 30 #[.slice (some ⟨b,o,none⟩) l c] w fun v w'=>∃vs,PcHas (·=b) w' vs cs/\RetR 53 2 w cs.length vs v w':=by
 apply call30;unfold wp30 wIq iQq;rw[zI];have hblt:b<hn w:=by obtain⟨_,T,arr,h1,_⟩:=hx;exact zR h1
 refine qP (fun z w'=>Fr [] w w'/\∃a r vs,cs=a++r/\z.2.1=((8+(chs a).length:Nat):Int)/\z.1.len=a.length/\PcHas (·=b) w' vs a/\Own w' (hn w) 53 2 z.1.a z.1.len z.1.cap vs)
  (fun z _ =>l+1 -z.2.1.toNat) ⟨Fr.alloc _ _ _,[],cs,[],rfl,by simp[chs],rfl,trivial,Own.new (w:=w) (e:=53) (size:=2) (cs:= #[]) (l:=0) (Nat.le_refl _) sQ⟩ ?_
 rintro⟨⟨q,n,m⟩,k,⟨⟩⟩ w1 ⟨hf,a,r,vs,rfl,rfl,rfl,hpc,ho⟩;simp only at ho;have hlen:l=8+(chs a).length+(chs r).length:=by rw[hl];simp[qU,sigL,xU];omega
 have ha:=yN (rC hok);have hr:=yN (mM hok);refine qG (fun h=> ?_) (fun h=> ?_)
 ·simp only at h
  rw[qA oQ oQ]at h
  cases r with
  |nil=>simp only[vJ,List.length_nil]at hlen;omega
  |cons ch r=>
   obtain⟨h4,hd⟩:=hok ch sQ;have hcl:=xA (data:=ch.2) h4;simp only[qZ,List.length_append]at hlen;dsimp only;refine CallT.mono (c46 (hx.fr0 hf) hl oQ oQ oQ) ?_;rintro _ _ ⟨rfl,rfl⟩;rw[Int.toNat_natCast,bX hd];refine⟨_,rfl,?_⟩;rw[zY];have hf2:=hf.drewR.drewR;have hx2:=hx.fr0 hf2;have e0:bv (qU (a++ch::r))=bv (sigL++chs a++xR ch.2.length)++(bv ch.1++bv (ch.2++xR (jJ (ch.1++ch.2))++chs r)):=by
    rw[lI,<-bv_append,<-bv_append];simp[qV]
   have e1:bv (qU (a++ch::r))=bv (sigL++chs a++xR ch.2.length++ch.1)++(bv ch.2++bv (xR (jJ (ch.1++ch.2))++chs r)):=by
    rw[lI,<-bv_append,<-bv_append];simp[qV]
   have hx3:=hx2;rw[e0]at hx2;rw[e1]at hx3;have g0:=Has.sub hx2;have g1:=Has.sub hx3;simp only[bv_length,List.length_append,xG,h4]at g0 g1;have es:sigL.length=8:=rfl;simp only[es]at g0 g1;simp (disch:=omega) only[qA];have t1:((((8+(chs a).length:Nat):Int)+4).toNat)=8+(chs a).length+4:=oQ;have t2:((((8+(chs a).length:Nat):Int)+8).toNat)=8+(chs a).length+4+4:=oQ;have t3:((((8+(chs a).length:Nat):Int)+8+(ch.2.length:Int)).toNat)=8+(chs a).length+4+4+ch.2.length:=oQ;simp only[t1,t2,t3];rw[slAdd_one _ _ _ _ oQ,slAdd_one _ _ _ _ oQ];refine⟨⟨oQ,oQ⟩,⟨oQ,oQ⟩,⟨oQ,oQ⟩,⟨oQ,oQ⟩,?_⟩;refine rX (xs:=ch.1) g0 oQ ?_;refine tD ok50 hf2 ((ho.fr0 (Fr.drew _ _)).fr0 (Fr.drew _ _)) sQ (by simp[Value.oneCell']) oQ ?_;intro q' m' w3 hf3 hf3' ho3;have hq:∀b',b'=b ->b'∉xD q:=by
    intro b' e hmem;have:=ho.blk _ hmem;omega
   refine⟨⟨hf3,a++[ch],r,_,sQ,?_,sQ,?_,ho3⟩,oQ⟩
   ·simp only[xU,qZ,vJ,List.length_append,List.append_nil,hcl];omega
   ·refine PcHas.snoc (g1.fr hf3' ?_) oQ sQ (by intro a ha;cases ha;rfl) (((hpc.fr (Fr.drew [] _) sQ).fr (Fr.drew [] _) sQ).fr hf3' hq)
    intro a' ha';cases ha';exact hq _ rfl
 ·simp only at h
  rw[qA oQ oQ]at h
  cases r with
  |cons ch r=>
   exfalso
   obtain⟨h4,hd⟩:=hok ch sQ;have hcl:=xA (data:=ch.2) h4;simp only[qZ,List.length_append]at hlen;omega
  |nil=>exact⟨vs,by simpa using hpc,hf,q,m,sQ,by simpa using ho⟩
theorem PcHas.mono(h:∀b,Q b ->Q' b):∀{vs:List Value} {cs:List Ch},PcHas Q w vs cs ->PcHas Q' w vs cs
 |[],[],_ =>trivial
 | .string _ :: .slice _ _ _ ::_,_ ::_,⟨h1,h2,h3,h4,h5,h6⟩=>⟨h1,h2,h3,h4,fun a ha=>h _ (h5 a ha),PcHas.mono h h6⟩
theorem PcHas.app:∀{vs us:List Value} {cs ds:List Ch},PcHas Q w vs cs ->PcHas Q w us ds ->PcHas Q w (vs++us) (cs++ds)
 |[],_,[],_,_,h=>h
 | .string _ :: .slice _ _ _ ::_,_,_ ::_,_,⟨h1,h2,h3,h4,h5,h6⟩,h=>⟨h1,h2,h3,h4,h5,PcHas.app h6 h⟩
structure Made (k W H:Nat) (L:Bool) (pal:List Px) (cl:List Nat) (fl xs zs d0:bQ) (dr:List (bQ)):Prop where
 hk:k<15
 hW:1<=W/\W<=20
 hH:1<=H/\H<=20
 ok:yW (qE k).2 (qE k).1 pal cl
 rows:RowsOf (mH W H (qE k).2 (qE k).1 L) (gF fl) xs
 zl:tE xs zs
 flat:(d0::dr).flatten=zs
 ne:∀x∈d0::dr,x≠[]
 zlen:zs.length<=2097152
 xlen:xs.length<32768
def xV(k W H:Nat)(L:Bool)(pal:List Px)(cl:List Nat)(d0:bQ)(dr:List (bQ)):List Ch:=zK W H (qE k).2 (qE k).1 L pal cl++xZ (d0::dr)++[(xW,[])]
section
variable{k W H:Nat}{L:Bool}{pal:List Px}{cl:List Nat}{fl xs zs d0:bQ}{dr:List (bQ)}
theorem Made.okc(M:Made k W H L pal cl fl xs zs d0 dr):kA (xV k W H L pal cl d0 dr)/\(qU (xV k W H L pal cl d0 dr)).length<1099511627776:=by
 have hzp:0<zs.length:=by
  obtain⟨_,_,_,_,hz⟩:=M.zl;rw[hz];simp
 obtain⟨_,h1,h2,_⟩:=nJ (W:=W) (H:=H) (L:=L) M.hk M.ok hzp M.zlen M.flat M.ne;exact⟨h1,h2⟩
theorem Made.whole{q:pQ}{l c:Nat}{file:bQ}(M:Made k W H L pal cl fl xs zs d0 dr)(hV:Env w E)(hf:file=qU (xV k W H L pal cl d0 dr))(hx:Has w q (bv file))(hl:l=file.length):CallT Pg 28 #[.slice q l c] w fun v w'=>v= .bool true/\Fr [] w w':=
 qCy hf hx hl (by rw[hl,hf];exact M.okc.2) hV.tab hV.errs hV.lo hV.lace hV.ety M.hk M.hW M.hH M.ok M.rows M.zl M.flat M.ne M.zlen M.xlen
end
theorem nU{k W H:Nat}{L:Bool}{pal:List Px}{cl:List Nat}{v:Value}(hk:k<15)(hW:1<=W/\W<=20)(hH:1<=H/\H<=20)(hok:yW (qE k).2 (qE k).1 pal cl)(hF:oR w0 W H (qE k).2 (qE k).1 L pal cl v w):
  ∃fl xs zs d0 dr,Made k W H L pal cl fl xs zs d0 dr/\dL w0 (qU (xV k W H L pal cl d0 dr)) v w:=by
 obtain⟨fs,xs,zs,ds,_,hrows,hZ,hds,hne,hzl,hR⟩:=hF;have hD16:(qE k).2<=16:=by have:=(vO hk).1;omega
 cases ds with
 |nil=>
  obtain⟨bl,out,_,_,hz⟩:=hZ;rw[hz]at hds;simp at hds
 |cons d0 dr=>exact⟨fs,xs,zs,d0,dr,⟨hk,hW,hH,hok,hrows,hZ,hds,hne,hzl,aS hrows hW.2 hH.2 hD16⟩,hR⟩
def Pcs(w0 w:wQ)(p:pQ)(l c:Nat)(cs:List Ch):Prop:=∃b vs,Own w (hn w0) 53 2 p l c vs/\PcHas (·=b) w vs cs/\l=cs.length/\hn w0<=b/\b<hn w/\∀x∈xD p,b<x
theorem qDn{p:pQ}{base l c:Nat}{cs:List Ch}(h:Own w base 5 1 p l c (bv (qU cs)))(hl:l=(qU cs).length):∃b,p=some ⟨b,0,none⟩/\l<=c/\base<=b/\b<hn w:=by
 obtain⟨b,rfl,h1⟩:=pW h (by rw[hl];simp[qU,yB];omega);have:=h.at rfl;exact⟨b,rfl,h1,this.2.2.1,this.2.2.2⟩
theorem qBz{k W H:Nat}{L:Bool}{pal:List Px}{cl:List Nat}{fl xs zs d0:bQ}{dr:List (bQ)}{p:pQ}{l c:Nat}(M:Made k W H L pal cl fl xs zs d0 dr)(F:Fr [] w0 w)(h:Own w (hn w0) 5 1 p l c (bv (qU (xV k W H L pal cl d0 dr))))(hl:l=(qU (xV k W H L pal cl d0 dr)).length)
  {K:pQ ->Nat ->Nat ->World ->Prop}(hK:∀p l c w',Fr [] w0 w' ->Fr [] w w' ->Pcs w0 w' p l c (xV k W H L pal cl d0 dr) ->K p l c w'):
  CallT Pg 30 #[.slice p l c] w fun v w'=>Exists fun p':pQ=>Exists fun l':Nat=>Exists fun c':Nat=>And (v= .slice p' l' c') (K p' l' c' w'):=by
 obtain⟨b,rfl,hlc,hb0,hb1⟩:=qDn h hl;refine CallT.mono (c30n h.has hl (by rw[hl];exact M.okc.2) hlc M.okc.1) ?_;rintro v w' ⟨vs,hpc,f,q,c',rfl,ho⟩;refine⟨_,_,_,rfl,hK _ _ _ _ (F.trans f) f ⟨b,vs,ho.base_le F.size,hpc,rfl,hb0,Nat.lt_of_lt_of_le hb1 f.size,fun x hx=> ?_⟩⟩;have:=(ho.blk x hx).1;omega
theorem Pcs.glue{p:pQ}{l c:Nat}{cs:List Ch}(h:Pcs w0 w p l c cs)(hok:kA cs)(hb:(qU cs).length<1099511627776):CallT Pg 31 #[.slice p l c] w (dL w (qU cs)):=by
 obtain⟨b,vs,ho,hpc,hl,_,hb1,_⟩:=h;exact c31 ho.has hpc (fun x hx=>by have:x=b:=hx;omega) hl hb hok
theorem uA{k W H:Nat}{L:Bool}{pal:List Px}{cl:List Nat}{fl xs zs d0:bQ}{dr:List (bQ)}{p:pQ}{l c:Nat}(M:Made k W H L pal cl fl xs zs d0 dr)(hV:Env w0 E)(F:Fr [] w0 w)(h:Pcs w0 w p l c (xV k W H L pal cl d0 dr))
  {K:Bool ->World ->Prop}(hK:∀w',Fr [] w0 w' ->Fr [] w w' ->K true w'):
  CallT Pg 31 #[.slice p l c] w fun v w1=>Exists fun p':pQ=>Exists fun l':Nat=>Exists fun c':Nat=>And (v= .slice p' l' c') (CallT Pg 28 #[.slice p' l' c'] w1 fun v' w2=>Exists fun b:Bool=>And (v'= .bool b) (K b w2)):=by
 refine CallT.mono (h.glue M.okc.1 M.okc.2) ?_;rintro v w1 ⟨f,q,c',rfl,ho⟩;refine⟨_,_,_,rfl,CallT.mono (M.whole (hV.fr0 (F.trans f)) rfl ho.has rfl) ?_⟩;rintro v w2 ⟨rfl,f2⟩;exact⟨_,rfl,hK w2 ((F.trans f).trans f2) (f.trans f2)⟩
theorem lN{p:pQ}{l c:Nat}{vs:List Value}{cs:List Ch}{code:Int}(hV:Env w0 E)(F:Fr [] w0 w)(hp:Has w p vs)(hpc:PcHas Q w vs cs)(hQ:∀b,Q b ->b<hn w)(hl:l=cs.length)(hok:kA cs)(hb:(qU cs).length<1099511627776)
  (ht:∀{w1:wQ} {q:pQ} {c:Nat},Env w1 E ->Has w1 q (bv (qU cs)) ->CallT Pg 29 #[.slice q (qU cs).length c,.int .i64 code] w1 fun v w'=>v= .bool true/\Fr [] w1 w')
  {K:Bool ->World ->Prop}(hK:∀w',Fr [] w0 w' ->K true w'):
  CallT Pg 31 #[.slice p l c] w fun v w1=>Exists fun p':pQ=>Exists fun l':Nat=>Exists fun c':Nat=>And (v= .slice p' l' c') (CallT Pg 29 #[.slice p' l' c',.int .i64 code] w1 fun v' w2=>Exists fun b:Bool=>And (v'= .bool b) (K b w2)):=by
 refine CallT.mono (c31 hp hpc hQ hl hb hok) ?_;rintro v w1 ⟨f,q,c',rfl,ho⟩;refine⟨_,_,_,rfl,CallT.mono (ht (hV.fr0 (F.trans f)) ho.has) ?_⟩;rintro v w2 ⟨rfl,f2⟩;exact⟨_,rfl,hK w2 ((F.trans f).trans f2)⟩
theorem rA{p:pQ}{l c:Nat}{R:vPq}{X:World ->Prop}(hR:R (.bool true) w)(hX:l<=1000 ->X w):
  CallT Pg 22 #[.slice p l c] w fun v w2=>Exists fun b:Bool=>And (v= .bool b) (IfC (!b) (R (.bool true) w2) (X w2)):=by
 refine CallT.mono c22 ?_;rintro v w2 ⟨rfl,rfl⟩;refine⟨_,rfl,?_⟩
 by_cases h:l<=1000
 ·rw[decide_eq_true h];exact hX h
 ·rw[decide_eq_false h];exact hR
theorem gH{n:Nat}(hn32:n<4294967296){p:pQ}{l c:Nat}{ss:List Nat}(hx:HasW w p (ss.map fun(s:Nat)=> .int .u16 (s:Int)))(hl:l=ss.length)(hb:l<=1000){K:pQ ->Nat ->Nat ->World ->Prop}
  (hK:∀{W H:Nat} {L:Bool} {pal:List Px} {cl:List Nat} {fl xs zs d0:bQ} {dr:List (bQ)},Made (n%15) W H L pal cl fl xs zs d0 dr ->∀p l c w',Fr [] w w' ->Pcs w w' p l c (xV (n%15) W H L pal cl d0 dr) ->K p l c w'):
  CallT Pg 27 #[.int .u32 n,.slice p l c] w fun v w1=>Exists fun p':pQ=>Exists fun l':Nat=>Exists fun c':Nat=>And (v= .slice p' l' c') (CallT Pg 30 #[.slice p' l' c'] w1 fun v' w2=>Exists fun p2:pQ=>Exists fun l2:Nat=>Exists fun c2:Nat=>And (v'= .slice p2 l2 c2) (K p2 l2 c2 w2)):=by
 refine CallT.mono (c27 hn32 hx hl hb) ?_;rintro v w1 ⟨W,H,L,pal,cl,hW,hH,hok,hF⟩;obtain⟨fl,xs,zs,d0,dr,M,f,q,c',rfl,ho⟩:=nU oQ hW hH hok hF;exact⟨_,_,_,rfl,qBz M f ho rfl fun p l c w' F _ h=>hK M p l c w' F h⟩
end
section
variable{w w' w0:wQ}{E:Er}{k W H:Nat}{L:Bool}{pal:List Px}{cl:List Nat}{fl xs zs d0:bQ}{dr:List (bQ)}{p q:pQ}{l c c':Nat}{cs:List Ch}{hd dd:bQ}{nm:bQ}
theorem Made.len(M:Made k W H L pal cl fl xs zs d0 dr):(qU (xV k W H L pal cl d0 dr)).length<1000000000:=by
 have hpl:pal.length<=9:=by
  by_cases h:(qE k).1=3
  ·exact(M.ok.pal3 h).2.1
  ·rw[M.ok.paln h];simp
 have hcll:cl.length<=4:=by
  have:=tF (qE k).1;rcases M.ok.cll with h|h
  ·rw[h];simp
  ·omega
 have hal:(xM pal).length=pal.length:=by simp[xM]
 have hsl:=vP pal;have hcL:=mE cl;have hdat:∀ds:List (bQ),(∀x∈ds,x≠[]) ->(chs (xZ ds)).length<=13*ds.flatten.length:=by
  intro ds
  induction ds with
  |nil=>intro _;simp[xZ,chs]
  |cons d r ih=>
   intro hne;have:=ih (fun x hx=>hne x (List.mem_cons_of_mem _ hx));have hd:1<=d.length:=List.length_pos_iff.2 (hne d sQ);have e:xZ (d::r)=(nIDAT,d)::xZ r:=rfl;rw[e,qZ,List.length_append,xA rfl,List.flatten_cons,List.length_append];dsimp only;omega
 have h1:=hdat _ M.ne;rw[M.flat]at h1;have hz:=M.zlen;unfold xV;rw[qU,List.length_append,xU,xU,List.length_append,List.length_append,zK,qZ,xU,xU];simp only[List.length_append];have e0:(qV nIHDR (xT W H (qE k).2 (qE k).1 L)).length=12+13:=xA rfl;have e1:(chs (if 0<pal.length then [(xX,xL pal)]else [])).length<=12+27:=by
  split
  ·rw[qZ,vJ,List.append_nil,xA rfl];dsimp only;omega
  ·simp[chs]
 have e2:(chs (if zG pal=true then [(xJ,xM pal)]else [])).length<=12+9:=by
  split
  ·rw[qZ,vJ,List.append_nil,xA rfl];dsimp only;omega
  ·simp[chs]
 have e3:(chs (if 0<cl.length then [(xJ,zX cl)]else [])).length<=12+8:=by
  split
  ·rw[qZ,vJ,List.append_nil,xA rfl];dsimp only;omega
  ·simp[chs]
 have e4:(chs [(xW,[])]).length=12:=rfl;rw[yB];omega
end
section
variable{w w' w0:wQ}{E:Er}{k W H:Nat}{L:Bool}{pal:List Px}{cl:List Nat}{fl xs zs d0:bQ}{dr:List (bQ)}{p q:pQ}{l c c':Nat}{cs:List Ch}{hd dd:bQ}{nm:bQ}
theorem Pcs.fr0(h:Pcs w0 w p l c cs)(f:Fr [] w w'):Pcs w0 w' p l c cs:=by
 obtain⟨b,vs,ho,hpc,r⟩:=h;exact⟨b,vs,ho.fr0 f,hpc.fr f sQ,r.1,r.2.1,Nat.lt_of_lt_of_le r.2.2.1 f.size,r.2.2.2⟩
end
section
variable{w w' w0:wQ}
end
section
variable{w w' w0 wB:wQ}{E:Er}{k W H:Nat}{L:Bool}{pal:List Px}{cl:List Nat}{fl xs zs d0:bQ}{dr:List (bQ)}{p q:pQ}{l c c':Nat}{cs ds:List Ch}{hd dd:bQ}{nm:bQ}{s:Sl}
theorem mP{i:Nat}{ch:Ch}(h:Pcs w0 wB p l c cs)(FB:Fr [] wB w)(hi:cs[i]? =some ch){K:ByteArray ->Nat ->World ->Prop}
  (hK:∀q c' r w',Fr [] w w' ->hp w' r=Row 53 #[.string ⟨ch.1.toArray⟩,.slice q ch.2.length c'] ->Has w' q (bv ch.2) ->(q=none ->c'=0) ->(∀x∈xD q,x<hn wB/\hn w0<=x) ->hn w<=r ->K ⟨ch.1.toArray⟩ r w'):
  And (0<=(i:Int)/\(i:Int)<(l:Int)) (qN p fun a=>LdS w (qI a (i:Int).toNat 2) fun s=>qS w ⟨(qI a (i:Int).toNat 2).block,(qI a (i:Int).toNat 2).off+1,none⟩ fun p2 l2 c2=>qK w (.cells (zc Pg 53) 53) fun r w1=>qB w1 ⟨r,0,none⟩ (.string s) fun w2=>qB w2 ⟨r,0+1,none⟩ (.slice p2 l2 c2) fun w3=>LdS w3 ⟨r,0,none⟩ fun s'=>K s' r w3):=by
 obtain⟨b,vs,ho,hpc,hl,hb0,hb1,hb2⟩:=h;have ho:=ho.fr0 FB;have hpc:=hpc.fr FB sQ;have hil:i<cs.length:=(List.getElem?_eq_some_iff.1 hi).1;refine⟨⟨oQ,oQ⟩,?_⟩;obtain⟨q,m,c2,e1,e2,g1,g2,g3,g4⟩:=hpc.at hi;obtain⟨g,o,rfl,k1,k2⟩:=Has.at2 ho.has e1 e2;rw[PtrC_some,zE,Int.toNat_natCast,vU];dsimp only;rw[k1,RdS_some,yT,k2,RdSl_some];refine qF fun w1 h1 f1 n1=> ?_;rw[zc53]at h1;refine qD h1 sQ fun w2 h2 f2 n2=> ?_;refine qD h2 sQ fun w3 h3 f3 n3=> ?_;have h3':hp w3 (hn w)=Row 53 #[.string ⟨ch.1.toArray⟩,.slice q ch.2.length c2]:=by rw[<-g2];simpa using h3
 have F:Fr [] w w3:=(f1.new1 f2 (Nat.le_refl _)).new1 f3 (Nat.le_refl _);refine rY h3' rfl (hK q c2 _ w3 F h3' (g1.fr0 F) g3 (fun x hx=> ?_) (Nat.le_refl _))
 cases q with
 |none=>simp[xD]at hx
 |some a=>
  have:a.block=b:=g4 a rfl;simp[xD]at hx;omega
def Grow(wB w:wQ)(s:Sl)(ds:List Ch):Prop:=Fr [] wB w/\∃vs,Own w (hn wB) 53 2 s.a s.len s.cap vs/\PcHas (fun x=>x<hn w/\x∉xD s.a) w vs ds/\s.len=ds.length
theorem Grow.fr0(h:Grow wB w s ds)(f:Fr [] w w'):Grow wB w' s ds:=by
 obtain⟨F,vs,ho,hpc,hl⟩:=h;exact⟨F.trans f,vs,ho.fr0 f,(hpc.fr f sQ).mono (fun x hx=>⟨Nat.lt_of_lt_of_le hx.1 f.size,hx.2⟩),hl⟩
theorem Grow.start{r:Nat}(h:hp w r=Row 53 #[])(F:Fr [] wB w)(hr:hn wB<=r):Grow wB w ⟨some ⟨r,0,none⟩,0,0⟩ []:=⟨F,[],Own.of_row (arr:= #[]) h hr rfl,trivial,rfl⟩
theorem Grow.add{m:Nat}(h:Grow wB w s ds)(hx:Has w q (bv dd))(hm:m=dd.length)(hc:q=none ->c'=0)(hblk:∀x∈xD q,x<hn w/\x∉xD s.a)(hbig:ds.length<=1000000000){K:pQ ->Nat ->Nat ->World ->Prop}
  (hK:∀s' w',Grow wB w' s' (ds++[(nm,dd)]) ->Fr (xD s.a) w w' ->(∀x∈xD s'.a,x∈xD s.a\/hn w<=x) ->K s'.a s'.len s'.cap w'):
  qK w (.cells #[.string ⟨nm.toArray⟩,.slice q m c'] 53) fun r w1=>zQ Pg w1 #[50,50] 50 (.slice s.a s.len s.cap) (.slice (some ⟨r,0,none⟩) 1 1) K:=by
 obtain⟨F,vs,ho,hpc,hl⟩:=h;refine mX ok50 F ho (cs:= #[.string ⟨nm.toArray⟩,.slice q m c']) (m:=1) sQ (by simp[Value.oneCell']) oQ ?_;intro p' c'' w' F' f' ho' hm';refine hK ⟨p',s.len+1,c''⟩ w' ⟨F',_,ho',?_,by simp[hl]⟩ f' hm';have hsz:=f'.size;have step:∀x,(x<hn w/\x∉xD s.a) ->(x<hn w'/\x∉xD p'):=fun x hx=>⟨oQ,fun hx'=>(hm' x hx').elim hx.2 (fun h=>by omega)⟩;have h1:=(hpc.fr f' (fun x hx=>hx.2)).mono step;refine PcHas.snoc (ch:=(nm,dd)) (hx.fr f' (fun a ha hx'=>(hblk a.block (by subst ha;simp[xD])).2 hx')) hm hc (fun a ha=>step _ (hblk a.block (by subst ha;simp[xD]))) h1
theorem Grow.addAt{r:Nat}{c':Nat}(h:Grow wB w s ds)(hr:hp w r=Row 53 #[.string ⟨nm.toArray⟩,.slice q dd.length c'])(hx:Has w q (bv dd))(hc:q=none ->c'=0)(hblk:∀x∈xD q,x<hn w/\x∉xD s.a)(hbig:ds.length<=1000000000){K:pQ ->Nat ->Nat ->World ->Prop}
  (hK:∀s' w',Grow wB w' s' (ds++[(nm,dd)]) ->Fr (xD s.a) w w' ->(∀x∈xD s'.a,x∈xD s.a\/hn w<=x) ->K s'.a s'.len s'.cap w'):
  LdS w ⟨r,0,none⟩ fun n=>qS w ⟨r,0+1,none⟩ fun p1 l1 c1=>qK w (.cells #[.string n,.slice p1 l1 c1] 53) fun r1 w1=>zQ Pg w1 #[50,50] 50 (.slice s.a s.len s.cap) (.slice (some ⟨r1,0,none⟩) 1 1) K:=
 rY hr rfl (qL hr rfl (h.add hx rfl hc hblk hbig hK))
theorem Grow.blk(h:Grow wB w s ds):∀x∈xD s.a,hn wB<=x/\x<hn w:=by
 obtain⟨_,vs,ho,_⟩:=h;exact ho.blk
theorem Grow.told{w0:wQ}{code:Int}(h:Grow wB w s ds)(hV:Env w0 E)(F:Fr [] w0 w)(hok:kA ds)(hb:(qU ds).length<1099511627776)
  (ht:∀{w1:wQ} {q:pQ} {c:Nat},Env w1 E ->Has w1 q (bv (qU ds)) ->CallT Pg 29 #[.slice q (qU ds).length c,.int .i64 code] w1 fun v w'=>v= .bool true/\Fr [] w1 w')
  {K:Bool ->World ->Prop}(hK:∀w',Fr [] w0 w' ->K true w'):
  CallT Pg 31 #[.slice s.a s.len s.cap] w fun v w1=>Exists fun p':pQ=>Exists fun l':Nat=>Exists fun c':Nat=>And (v= .slice p' l' c') (CallT Pg 29 #[.slice p' l' c',.int .i64 code] w1 fun v' w2=>Exists fun b:Bool=>And (v'= .bool b) (K b w2)):=by
 obtain⟨_,vs,ho,hpc,hl⟩:=h;exact lN hV F ho.has hpc (fun x hx=>hx.1) hl hok hb ht hK
end
section
variable{w w' w0 wB:wQ}{E:Er}{k W H:Nat}{L:Bool}{pal:List Px}{cl:List Nat}{fl xs zs d0:bQ}{dr:List (bQ)}{p q:pQ}{l c c':Nat}{cs ds es:List Ch}{hd dd:bQ}{nm:bQ}{s:Sl}{db rb kb crc:Nat}{d:Dec}{rs:bQ}
theorem PcHas.one{Q:Nat ->Prop}:∀{vs:List Value} {cs:List Ch},PcHas Q w vs cs ->∀u∈vs,u.oneCell'=true
 |[],[],_ =>by simp
 | .string _ :: .slice _ _ _ ::_,_ ::_,⟨_,_,_,_,_,h6⟩=>by
  intro u hu;simp only[List.mem_cons]at hu;rcases hu with rfl|rfl|hu
  ·rfl
  ·rfl
  ·exact PcHas.one h6 u hu
theorem Grow.addList{Q:Nat ->Prop}{m e:Nat}{us:List Value}(h:Grow wB w s ds)(hx:Has w q us)(hpc:PcHas Q w us es)(hm:m=es.length)(hQ:∀x,Q x ->x<hn w/\x∉xD s.a)(hc:q=none ->e=0)(hbig:ds.length+es.length<=1000000000){K:pQ ->Nat ->Nat ->World ->Prop}
  (hK:∀s' w',Grow wB w' s' (ds++es) ->Fr (xD s.a) w w' ->(∀x∈xD s'.a,x∈xD s.a\/hn w<=x) ->K s'.a s'.len s'.cap w'):
  zQ Pg w #[50,50] 50 (.slice s.a s.len s.cap) (.slice q m e) K:=by
 obtain⟨F,vs,ho,hpc0,hl⟩:=h;have hul:=hpc.len;refine vZ ok50 F ho hx oQ hpc.one oQ hc ?_;intro p' c'' w' F' f' ho' hm';refine hK ⟨p',s.len+m,c''⟩ w' ⟨F',_,ho',?_,by simp[hl,hm]⟩ f' hm';have hsz:=f'.size;have step:∀x,(x<hn w/\x∉xD s.a) ->(x<hn w'/\x∉xD p'):=fun x hx=>⟨oQ,fun hx'=>(hm' x hx').elim hx.2 (fun h=>by omega)⟩;exact((hpc0.fr f' (fun x hx=>hx.2)).mono step).app ((hpc.fr f' (fun x hx=>(hQ x hx).2)).mono (fun x hx=>step x (hQ x hx)))
end
section
variable{w w' w0 wB:wQ}{E:Er}{k W H:Nat}{L:Bool}{pal:List Px}{cl:List Nat}{fl xs zs d0:bQ}{dr:List (bQ)}{p q:pQ}{l c c':Nat}{cs ds es r:List Ch}{hd dd:bQ}{nm:bQ}{s:Sl}{db rb kb crc:Nat}{d:Dec}{rs:bQ}
theorem rK{b i:Nat}{n:ByteArray}{K:ByteArray ->Prop}(h:atR (hp w b) i=some (.string n))(hK:K n):LdS w ⟨b,i,none⟩ K:=by rw[vU,h,RdS_some];exact hK
theorem Made.cs_len(M:Made k W H L pal cl fl xs zs d0 dr):(xV k W H L pal cl d0 dr).length<=100000000:=by
 have:=yN M.okc.1;have:=M.len;unfold qU at this;rw[List.length_append]at this;omega
end
section
variable{w w' w0 wB:wQ}{E:Er}{k W H D C:Nat}{L:Bool}{pal:List Px}{cl:List Nat}{fl xs zs d0:bQ}{dr:List (bQ)}{p q:pQ}{l c c':Nat}{cs ds es r:List Ch}{hd dd:bQ}{nm:bQ}{s:Sl}{db rb kb crc:Nat}{d:Dec}{rs:bQ}
theorem RightAt.plte{x:bQ}{r':List Ch}(h:RightAt w db k W H L pal cl d ((xX,x)::r')):jG d k W H L/\d.stage=1:=by
 rcases h with⟨_,_,_,e⟩|⟨h1,_,hh,_⟩|⟨h2,_,_,hh,_,e⟩|⟨h3,hh,_,_,e⟩
 ·rw[vY]at e
  exact absurd (congrArg Prod.fst (List.cons.inj e).1) (show¬xX=nIHDR by decide)
 ·exact⟨hh,h1⟩
 ·split at e
  ·exact absurd (congrArg Prod.fst (List.cons.inj e).1) (show¬xX=xJ by decide)
  ·cases e
 ·cases e
end
section
variable{w w' w0 wB:wQ}{E:Er}{k W H D C:Nat}{L:Bool}{pal:List Px}{cl:List Nat}{fl xs zs d0:bQ}{dr:List (bQ)}{p q:pQ}{l c c':Nat}{cs ds es r:List Ch}{hd dd:bQ}{nm:bQ}{s:Sl}{db rb kb crc:Nat}{d:Dec}{rs:bQ}
end
section
variable{w w' w0 w1 wB:wQ}{E:Er}{k W H D C:Nat}{L:Bool}{pal:List Px}{cl:List Nat}{fl xs zs d0:bQ}{dr:List (bQ)}{p q:pQ}{l c c':Nat}{cs ds es r:List Ch}{hd dd:bQ}{nm:bQ}{s:Sl}{db rb kb crc:Nat}{d:Dec}{rs:bQ}
theorem qFq{tail:bQ}(M:Made k W H L pal cl fl xs zs d0 dr)(hA:Stp w0 w1 E db rb kb)(hR:RightAt w1 db k W H L pal cl d [])(hD:Dst w1 db rb kb p d crc (chs (xZ (d0::dr))++tail)):
  CallT Pg 60 #[.pointer (some ⟨db,0,none⟩),.bool false] w1 fun v w2=>Fr [rb] w0 w2/\v= .nilIface/\∃d' crc',Dst w2 db rb kb p d' crc' tail/\d'.stage=4:=by
 obtain⟨hh,hs,hp3,hut⟩:=hR.ready M.ok;refine CallT.mono (iK hD M.hk M.hW M.hH hA.errs hA.lo hA.lace hh hs hp3 hut M.rows M.zl M.flat M.ne M.zlen M.xlen) ?_;rintro v w2 ⟨rfl,F,nn,dd,crc',h4,hD',_⟩;exact⟨hA.fr F,rfl,dd,crc',hD',h4⟩
theorem qCa:0<(chs (xZ (d0::dr))).length:=by
 rw[show xZ (d0::dr)=(nIDAT,d0)::xZ dr from rfl,qZ,List.length_append,xA rfl];omega
theorem qEj{l c:Nat}{nm dd rest file:bQ}(M:Made k W H L pal cl fl xs zs d0 dr)(ef:file=qU (zK W H (qE k).2 (qE k).1 L pal cl++xZ (d0::dr))++(qV nm dd++rest))(hx:Has w q (bv file))(hl:l=file.length)(hlb:l<1099511627776)(hV:Env w E)(hnl:nm.length=4)(hdd:dd.length<4294967296)(hn:∀d:Dec,d.stage=4 ->zT d nm= .refuse):
  CallT Pg 29 #[.slice q l c,.int .i64 1] w fun v w'=>v= .bool true/\Fr [] w w':=by
 refine gP (a:=zK W H (qE k).2 (qE k).1 L pal cl) (r:=[]) (bad:=chs (xZ (d0::dr))++(qV nm dd++rest)) (by rw[ef,qU,xU];simp) hx hl hlb hV (by rw[List.append_nil]) M.hk M.hW M.hH M.ok (fun d _ rs=>d.stage=4/\rs=qV nm dd++rest) (fun{w0 w1 db rb kb p d crc} hA hD hR=> ?_) (fun{w0 w1 db rb kb p d crc rs} hA hD hG=> ?_)
 ·refine CallT.mono (qFq M hA hR hD) ?_
  rintro v w2 ⟨F,rfl,d',crc',hD',h4⟩;exact⟨F,.inr ⟨rfl,d',crc',_,hD',by have:=qCa (d0:=d0) (dr:=dr);simp only[List.length_append];omega,h4,rfl⟩⟩
 ·obtain⟨h4,rfl⟩:=hG
  exact⟨oQ,uS (C:=(·=1)) hA hD hnl hdd (hn d h4) rfl⟩
def yG(t:Nat)(ch:Ch)(rest:List Ch):List Ch:=if ch.1=xX then(if t=1 then [ch,ch]else [])else if t=2/\ch.1=nIDAT/\(rest.head?.map Prod.fst)≠some nIDAT then [ch,(xX,[1,2,3])]else [ch]
def yL(t:Nat):List Ch ->List Ch
 |[]=>[]
 |ch::r=>yG t ch r++yL t r
theorem qAi(t:Nat)(ch:Ch)(rest:List Ch):(yG t ch rest).length<=2:=by
 unfold yG
 split
 ·split<;>simp
 ·split<;>simp
theorem cE{t:Nat}:∀{a b:List Ch},(∀x∈a,x.1≠xX/\x.1≠nIDAT) ->yL t (a++b)=a++yL t b
 |[],b,_ =>rfl
 |x::a,b,h=>by
  have hx:=h x sQ;show yG t x (a++b)++yL t (a++b)=_;rw[cE (fun y hy=>h y (by simp[hy]))];unfold yG;rw[if_neg hx.1,if_neg (fun hc=>hx.2 hc.2.1)]
  rfl
theorem iV{t:Nat}(ht:t≠2):∀(dr:List (bQ)) (b:List Ch),yL t (xZ dr++b)=xZ dr++yL t b
 |[],b=>rfl
 |d::dr,b=>by
  show yG t (nIDAT,d) (xZ dr++b)++yL t (xZ dr++b)=_;rw[iV ht dr b];unfold yG;rw[if_neg (show¬nIDAT=xX by decide),if_neg (fun hc=>ht hc.1)]
  rfl
theorem cD:∀(dr:List (bQ)) (d0:bQ),yL 2 (xZ (d0::dr)++[(xW,[])])=xZ (d0::dr)++[(xX,[1,2,3]),(xW,[])]
 |[],d0=>by
  show yG 2 (nIDAT,d0) [(xW,[])]++(yG 2 (xW,[]) []++[])=_;unfold yG;rw[if_neg (show¬nIDAT=xX by decide),if_pos ⟨rfl,rfl,by simp;decide⟩,if_neg (show¬xW=xX by decide),if_neg (fun hc=>absurd hc.2.1 (show¬xW=nIDAT by decide))]
  rfl
 |d::dr,d0=>by
  show yG 2 (nIDAT,d0) (xZ (d::dr)++[(xW,[])])++yL 2 (xZ (d::dr)++[(xW,[])])=_;rw[cD dr d];unfold yG;rw[if_neg (show¬nIDAT=xX by decide),if_neg (fun hc=>absurd rfl hc.2.2)]
  rfl
theorem qEp{t:Nat}:yL t [(xW,[])]=[(xW,[])]:=by
 show yG t (xW,[]) []++[]=_;unfold yG;rw[if_neg (show¬xW=xX by decide),if_neg (fun hc=>absurd hc.2.1 (show¬xW=nIDAT by decide))]
 rfl
theorem iU{t:Nat}:∀{cs:List Ch},(chs (yL t cs)).length<=2*(chs cs).length+15*cs.length
 |[]=>by simp[yL,chs]
 |c::cs=>by
  have:=iU (t:=t) (cs:=cs);show(chs (yG t c cs++yL t cs)).length<=_;rw[xU,List.length_append,qZ,List.length_append,List.length_cons];have h1:(chs (yG t c cs)).length<=2*(qV c.1 c.2).length+15:=by
   have e:(chs [(xX,[1,2,3])]).length=15:=rfl;unfold yG
   split
   ·split
    ·rw[qZ,qZ,vJ,List.append_nil,List.length_append];omega
    ·simp[chs]
   ·split
    ·rw[qZ,List.length_append,e];omega
    ·rw[qZ,vJ,List.append_nil];omega
  omega
theorem wD{t:Nat}:∀{cs:List Ch},kA cs ->kA (yL t cs)
 |[],_ =>by intro x hx;simp[yL]at hx
 |c::cs,h=>by
  have ih:=wD (t:=t) (cs:=cs) (fun x hx=>h x (List.mem_cons_of_mem _ hx));have hc:=h c sQ;intro x hx;have hx:x∈yG t c cs++yL t cs:=hx;rcases List.mem_append.1 hx with hx|hx
  ·unfold yG at hx
   split at hx
   ·split at hx
    ·simp at hx;subst hx;exact hc
    ·simp at hx
   ·split at hx
    ·simp at hx
     rcases hx with rfl|rfl
     ·exact hc
     ·exact⟨rfl,dQ⟩
    ·simp at hx;subst hx;exact hc
  ·exact ih x hx
theorem toldP{t c:Nat}(M:Made k W H L pal cl fl xs zs d0 dr)(ht:t<3)(hC:t≠2 ->(qE k).1=3)(hC2:t=2 ->(qE k).1=2)(hV:Env w E)(hx:Has w q (bv (qU (yL t (xV k W H L pal cl d0 dr)))))(hlt:(qU (yL t (xV k W H L pal cl d0 dr))).length<1099511627776):
  CallT Pg 29 #[.slice q (qU (yL t (xV k W H L pal cl d0 dr))).length c,.int .i64 1] w fun v w'=>v= .bool true/\Fr [] w w':=by
 have hk:=M.hk;have hcb:=jT hk;obtain⟨hokc,_⟩:=M.okc;have eH:∀rest,yG t (nIHDR,xT W H (qE k).2 (qE k).1 L) rest=[(nIHDR,xT W H (qE k).2 (qE k).1 L)]:=fun rest=>by
  unfold yG;rw[if_neg (show¬nIHDR=xX by decide),if_neg (fun hc=>absurd hc.2.1 (show¬nIHDR=nIDAT by decide))]
 have eM:xV k W H L pal cl d0 dr=(nIHDR,xT W H (qE k).2 (qE k).1 L)::(uV pal cl++(xZ (d0::dr)++[(xW,[])])):=by
  unfold xV;rw[vY];simp
 have eW:yL t (xV k W H L pal cl d0 dr)=(nIHDR,xT W H (qE k).2 (qE k).1 L)::yL t (uV pal cl++(xZ (d0::dr)++[(xW,[])])):=by
  rw[eM];show yG t _ _ ++_ =_;rw[eH]
  rfl
 by_cases h2:t=2
 ·subst h2
  have hC':=hC2 rfl;have e:yL 2 (xV k W H L pal cl d0 dr)=zK W H (qE k).2 (qE k).1 L pal cl++xZ (d0::dr)++[(xX,[1,2,3]),(xW,[])]:=by
   rw[eW,cE (fun x hx=> ?_),cD,vY]
   ·simp
   ·rw[qCh M.ok oQ]at hx
    split at hx
    ·simp at hx;subst hx;exact⟨show¬xJ=xX by decide,show¬xJ=nIDAT by decide⟩
    ·simp at hx
  rw[e]at hx hlt⊢;refine qEj M (nm:=xX) (dd:=[1,2,3]) (rest:=chs [(xW,[])]) (by rw[qU,xU,qU,qZ];simp) hx rfl hlt hV rfl dQ fun d h4=> ?_;unfold zT;rw[if_neg dQ,if_pos rfl,if_pos oQ]
 ·have hC3:=hC h2
  have hfT:=dW M.ok hC3;have eT:yL t (uV pal cl++(xZ (d0::dr)++[(xW,[])]))=(if t=1 then [(xX,xL pal),(xX,xL pal)]else [])++((if zG pal then [(xJ,xM pal)]else [])++(xZ (d0::dr)++[(xW,[])])):=by
   rw[hfT,List.cons_append];show yG t (xX,xL pal) _ ++yL t _ =_;rw[cE (fun x hx=> ?_),iV h2,qEp]
   ·unfold yG
    rw[if_pos rfl]
   ·split at hx
    ·simp at hx;subst hx;exact⟨show¬xJ=xX by decide,show¬xJ=nIDAT by decide⟩
    ·simp at hx
  rw[eW,eT]at hx hlt⊢
  by_cases h1:t=1
  ·rw[if_pos h1]at hx hlt⊢
   refine gP (a:=[(nIHDR,xT W H (qE k).2 (qE k).1 L),(xX,xL pal)]) (r:=if zG pal then [(xJ,xM pal)]else []) (bad:=qV xX (xL pal)++chs ((if zG pal then [(xJ,xM pal)]else [])++(xZ (d0::dr)++[(xW,[])]))) (by simp[qU,chs]) hx rfl hlt hV (by rw[vY,hfT];rfl) M.hk M.hW M.hH M.ok (fun _ _ _ =>False) (fun{w0 w1 db rb kb p d crc} hA hD hR=> ?_) (fun _ _ h=>h.elim);have hs1:d.stage≠1:=by
    rcases hR with⟨h,_⟩|⟨h,_,_,e⟩|⟨h,_⟩|⟨h,_⟩
    ·omega
    ·rw[hfT]at e
     split at e
     ·exact absurd (congrArg Prod.fst (List.cons.inj e).1) (show¬xJ=xX by decide)
     ·cases e
    ·omega
    ·omega
   refine CallT.mono (uS (C:=(·=1)) hA hD rfl ?_ ?_ rfl) fun v w2 h=>⟨h.1,.inl h.2⟩
   ·have:=vP pal;have:=(M.ok.pal3 hC3).2.1;omega
   ·unfold zT
    rw[if_neg dQ,if_pos rfl,if_pos hs1]
  ·rw[if_neg h1,List.nil_append]at hx hlt⊢
   obtain⟨nm,dd,rest,er,hnm⟩:∃nm dd rest,(if zG pal then [(xJ,xM pal)]else [])++(xZ (d0::dr)++[(xW,[])])=(nm,dd)::rest/\(nm=xJ\/nm=nIDAT):=by
    split
    ·exact⟨_,_,_,rfl,.inl rfl⟩
    ·exact⟨_,_,_,rfl,.inr rfl⟩
   have hdd:dd.length<4294967296:=by
    refine(hokc (nm,dd) ?_).2;have:(nm,dd)∈(if zG pal then [(xJ,xM pal)]else [])++(xZ (d0::dr)++[(xW,[])]):=by rw[er];simp
    rw[eM,hfT,List.cons_append];exact List.mem_cons_of_mem _ (List.mem_cons_of_mem _ this)
   rw[er]at hx hlt⊢;refine gP (a:=[(nIHDR,xT W H (qE k).2 (qE k).1 L)]) (r:=uV pal cl) (bad:=qV nm dd++chs rest) (by simp[qU,chs]) hx rfl hlt hV rfl M.hk M.hW M.hH M.ok (fun _ _ _ =>False) (fun{w0 w1 db rb kb p d crc} hA hD hR=> ?_) (fun _ _ h=>h.elim);rw[hfT]at hR;obtain⟨hh,hs1⟩:=hR.plte;have hc7:=hcb.2.1 hC3;have hcbe:=hh.cb_;refine CallT.mono (uS (C:=(·=1)) hA hD (by rcases hnm with rfl|rfl<;>rfl) hdd ?_ rfl) fun v w2 h=>⟨h.1,.inl h.2⟩;unfold zT;rcases hnm with rfl|rfl
   ·rw[if_neg dQ,if_neg dQ,if_pos rfl,if_pos oQ,if_pos oQ]
   ·rw[if_neg dQ,if_neg dQ,if_neg dQ,if_pos rfl,if_neg oQ,if_pos oQ]
end
def wp14(x0:Int)(x1:pQ)(x1l:Nat)(x1c:Nat)(x2:Int)(R:vPq)(w:wQ):Prop:=IfC (decide ((x1l:Int)>(2147483647:Int))) (R (.bool true) w) (xK (fun(bp:(Unit)) (o:wQ)=>zH 4 (xK (fun(G:(Int×Unit)) (H:wQ)=>zH 15 (CallT Pg 27 #[.int .u32 (wrap .u32 ((wrap .u32 (x0 -(Int.tmod x0 15)))+G.1)),.slice x1 x1l x1c] H fun I J=>∃p q r,And (I= .slice p q r) (CallT Pg 30 #[.slice p q r] J fun K L=>∃h g s,And (K= .slice h g s) (qK L (.cells #[] 53) fun M N=>xE (fun(O:(Sl×Int×Unit) ->World ->Prop)=>O ((⟨some ⟨M,0,none⟩,0,0⟩:Sl),(0:Int),()) N) (fun b i e=>IfC (decide (b.2.1<(g:Int))) (And (0<=b.2.1/\b.2.1<(g:Int)) (qN h fun m=>LdS i (qI m b.2.1.toNat 2) fun P=>qS i ⟨(qI m b.2.1.toNat 2).block,(qI m b.2.1.toNat 2).off+1,none⟩ fun Q S T=>qK i (.cells (zc Pg 53) 53) fun c U=>qB U ⟨c,0,none⟩ (.string P) fun V=>qB V ⟨c,0+1,none⟩ (.slice Q S T) fun d=>LdS d ⟨c,0,none⟩ fun X=>IfC (yI X ⟨#[80,76,84,69]⟩) (zH 3 (IfC ((Int.tmod x2 3)==1) (LdS d ⟨c,0,none⟩ fun Y=>qS d ⟨c,0+1,none⟩ fun Z aa ab=>LdS d ⟨c,0,none⟩ fun ac=>qS d ⟨c,0+1,none⟩ fun ad ae af=>qK d (.cells #[.string Y,.slice Z aa ab,.string ac,.slice ad ae af] 53) fun ag ah=>zQ Pg ah #[50,50] 50 (.slice b.1.a b.1.len b.1.cap) (.slice (some ⟨ag,0,none⟩) 2 2) fun ai aj ak al=>e ((⟨ai,aj,ak⟩:Sl),wIq (b.2.1+1),()) al) (e ((⟨b.1.a,b.1.len,b.1.cap⟩:Sl),wIq (b.2.1+1),()) d))) (LdS d ⟨c,0,none⟩ fun am=>qS d ⟨c,0+1,none⟩ fun ao ap aq=>qK d (.cells #[.string am,.slice ao ap aq] 53) fun ar au=>zQ Pg au #[50,50] 50 (.slice b.1.a b.1.len b.1.cap) (.slice (some ⟨ar,0,none⟩) 1 1) fun j k l f=>zH 3 (IfC ((Int.tmod x2 3)==2) (LdS f ⟨c,0,none⟩ fun av=>IfC (yI av ⟨#[73,68,65,84]⟩) (And (0<=wIq (b.2.1+1)/\wIq (b.2.1+1)<(g:Int)) (qN h fun aw=>LdS f (qI aw ((wIq (b.2.1+1)).toNat) 2) fun ax=>IfC (!(yI ax ⟨#[73,68,65,84]⟩)) (qK f (.cells #[.int .u8 1,.int .u8 2,.int .u8 3] 5) fun ay az=>qK az (.cells #[.string ⟨#[80,76,84,69]⟩,.slice (some ⟨ay,0,none⟩) 3 3] 53) fun ba bb=>zQ Pg bb #[50,50] 50 (.slice j k l) (.slice (some ⟨ba,0,none⟩) 1 1) fun bc bd be bf=>e ((⟨bc,bd,be⟩:Sl),wIq (b.2.1+1),()) bf) (e ((⟨j,k,l⟩:Sl),wIq (b.2.1+1),()) f))) (e ((⟨j,k,l⟩:Sl),wIq (b.2.1+1),()) f)) (e ((⟨j,k,l⟩:Sl),wIq (b.2.1+1),()) f))))) (CallT Pg 31 #[.slice h g s] i fun bg bh=>∃t u v,And (bg= .slice t u v) (CallT Pg 28 #[.slice t u v] bh fun bi y=>∃z,And (bi= .bool z) (IfC z (CallT Pg 31 #[.slice b.1.a b.1.len b.1.cap] y fun bj bk=>∃A B C,And (bj= .slice A B C) (CallT Pg 29 #[.slice A B C,iQq 1] bk fun bl bm=>∃D,And (bl= .bool D) (R (.bool D) bm))) (R (.bool false) y))))))))) (fun E=>zH 3 (IfC ((Int.tmod x2 3)==2) (zH 2 (E (wrap .u32 ((5:Int)+(Int.tmod x0 2)),()) o)) (E (wrap .u32 ((7:Int)+(Int.tmod x0 4)),()) o))))) (fun bn=>CallT Pg 22 #[.slice x1 x1l x1c] w fun bo n=>∃F,And (bo= .bool F) (IfC (!F) (R (.bool true) n) (IfC (decide (x0>(2147483648:Int))) (R (.bool true) n) (bn (()) n)))))
theorem call14{x0:Int}{x1:pQ}{x1l:Nat}{x1c:Nat}{x2:Int}{R:vPq}{w:wQ}(h:wp14 x0 x1 x1l x1c x2 R w):CallT Pg 14 #[.int .u32 x0,.slice x1 x1l x1c,.int .u8 x2] w R:=cVq [(10,[],[0,1,2]),(20,[(7,.i .u32)],[0,1,2]),(34,[(9,.sl),(43,.i .i64)],[2,6,8,41,42])] Tryz.func14 h
section
variable{w w' w0 w1 wB:wQ}{E:Er}{k W H D C:Nat}{L:Bool}{pal:List Px}{cl:List Nat}{fl xs zs d0:bQ}{dr:List (bQ)}{p q:pQ}{l c c':Nat}{cs ds es r:List Ch}{hd dd:bQ}{nm:bQ}{s:Sl}{db rb kb crc:Nat}{d:Dec}{rs:bQ}
theorem qEd{i:Nat}{ch:Ch}(h:Pcs w0 wB p l c cs)(FB:Fr [] wB w)(hi:cs[i]? =some ch){K:ByteArray ->Prop}(hK:K ⟨ch.1.toArray⟩):And (0<=(i:Int)/\(i:Int)<(l:Int)) (qN p fun a=>LdS w (qI a (i:Int).toNat 2) K):=by
 obtain⟨b,vs,ho,hpc,hl,hb0,hb1,hb2⟩:=h;have ho:=ho.fr0 FB;have hpc:=hpc.fr FB sQ;have hil:i<cs.length:=(List.getElem?_eq_some_iff.1 hi).1;refine⟨⟨oQ,oQ⟩,?_⟩;obtain⟨q,m,c2,e1,e2,g1,g2,g3,g4⟩:=hpc.at hi;obtain⟨g,o,rfl,k1,k2⟩:=Has.at2 ho.has e1 e2;rw[PtrC_some,zE,Int.toNat_natCast];exact rK k1 hK
theorem qJi:(xV k W H L pal cl d0 dr)[(xV k W H L pal cl d0 dr).length -1]? =some (xW,[]):=by
 unfold xV;rw[List.length_append,List.length_singleton,Nat.add_sub_cancel,List.getElem?_append_right (Nat.le_refl _),Nat.sub_self]
 rfl
theorem c14{n m:Nat}(hn32:n<4294967296)(hm:m<256){ss:List Nat}(hx:HasW w p (ss.map fun(s:Nat)=> .int .u16 (s:Int)))(hl:l=ss.length)(hV:Env w E):CallT Pg 14 #[.int .u32 n,.slice p l c,.int .u8 m] w fun v w'=>v= .bool true/\Fr [] w w':=by
 apply call14;unfold wp14 wIq iQq;refine qG (fun _ =>⟨rfl,Fr.refl _ _⟩) (fun _ => ?_);have e3:Int.tmod (m:Int) (3:Int)=((m%3:Nat):Int):=xQ m 3;rw[e3];have ht:m%3<3:=Nat.mod_lt _ dQ;generalize m%3=t at*;refine qJ (fun _ w'=>w'=w/\l<=1000/\n<=2147483648) ?_ ?_
 ·rintro⟨⟩ w' ⟨rfl,hb,hn31⟩
  refine xF dQ (qJ (fun z w''=>w''=w'/\∃kd:Nat,z.1=kd/\(t=2 ->5<=kd/\kd<=6)/\(t≠2 ->7<=kd/\kd<=10)) ?_ ?_)
  ·rintro⟨_,⟨⟩⟩ w'' ⟨rfl,kd,rfl,hk2,hk3⟩
   dsimp only;refine xF dQ ?_;have hkd:kd<=10:=by
    by_cases h:t=2
    ·have:=hk2 h;omega
    ·exact(hk3 h).2
   obtain⟨n',en,hn',hk⟩:∃n':Nat,wrap .u32 ((wrap .u32 ((n:Int) -(Int.tmod (n:Int) (15:Int))))+(kd:Int))=n'/\n'<4294967296/\n'%15=kd:=by
    rw[show Int.tmod (n:Int) 15=((n%15:Nat):Int)from xQ n 15];refine⟨n -n%15+kd,?_,oQ,oQ⟩;rw[xI (n:=(n:Int) -_) oQ oQ,xI oQ oQ];omega
   rw[en];refine gH hn' hx hl hb fun{W H L pal cl fl xs zs d0 dr} M p1 l1 c1 w1 F1 h1=> ?_;rw[hk]at M h1;have hC3:t≠2 ->(qE kd).1=3:=fun h=>by
    have:=hk3 h;obtain rfl|rfl|rfl|rfl:=(by omega:kd=7\/kd=8\/kd=9\/kd=10)<;>rfl
   have hC2:t=2 ->(qE kd).1=2:=fun h=>by
    have:=hk2 h;obtain rfl|rfl:=(by omega:kd=5\/kd=6)<;>rfl
   have hml:=M.cs_len;have hl1:l1=(xV kd W H L pal cl d0 dr).length:=by obtain⟨b,vs,_,_,h,_⟩:=h1;exact h
   have hlast:=qJi (k:=kd) (W:=W) (H:=H) (L:=L) (pal:=pal) (cl:=cl) (d0:=d0) (dr:=dr);have hokf:=wD (t:=t) M.okc.1;have hlt:(qU (yL t (xV kd W H L pal cl d0 dr))).length<1099511627776:=by
    have:=M.len;have:=iU (t:=t) (cs:=xV kd W H L pal cl d0 dr);unfold qU at*;rw[List.length_append]at*;omega
   have told:∀{w7:wQ} {q:pQ} {c:Nat},Env w7 E ->Has w7 q (bv (qU (yL t (xV kd W H L pal cl d0 dr)))) ->CallT Pg 29 #[.slice q (qU (yL t (xV kd W H L pal cl d0 dr))).length c,.int .i64 1] w7 fun v w'=>v= .bool true/\Fr [] w7 w':=fun hV7 hx7=>toldP M ht hC3 hC2 hV7 hx7 hlt;generalize hcs:xV kd W H L pal cl d0 dr=cs at*;refine qF fun w2 h2 f2 n2=> ?_;refine qP (fun z w'=>∃(i:Nat) (done:List Ch),z.2.1=i/\i<=cs.length/\Grow w1 w' z.1 done/\done++yL t (cs.drop i)=yL t cs/\done.length<=2*i) (fun z _ =>cs.length -z.2.1.toNat) ⟨0,[],rfl,oQ,Grow.start h2 f2 (Nat.le_refl _),rfl,sQ⟩ ?_;rintro⟨⟨sa,sl,sc⟩,_,⟨⟩⟩ w5 ⟨i,done,rfl,hi,hG,hdone,hdl⟩;dsimp only at hG⊢;have F5:=hG.1;refine qG (fun hlt'=> ?_) (fun hge=> ?_)
   ·obtain⟨ch,hch⟩:∃ch,cs[i]? =some ch:=⟨_,List.getElem?_eq_getElem oQ⟩
    refine mP h1 F5 hch fun q c' r w6 f6 hr hq hqc hqb hrn=> ?_;have hG6:=hG.fr0 f6;rw[show yI ⟨ch.1.toArray⟩ ⟨#[80,76,84,69]⟩=(ch.1==xX)from yR _ xX];have hdr:cs.drop i=ch::cs.drop (i+1):=by
     rw[List.drop_eq_getElem_cons oQ]
     congr 1
     exact(List.getElem?_eq_some_iff.1 hch).2
    have eW:yL t (cs.drop i)=yG t ch (cs.drop (i+1))++yL t (cs.drop (i+1)):=by rw[hdr];rfl
    rw[eW,<-List.append_assoc]at hdone;have hpl:=qAi t ch (cs.drop (i+1));have ek:wrap .i64 ((i:Int)+1)=((i+1:Nat):Int):=by rw[qA oQ oQ];omega
    rw[ek];have hblk:∀x∈xD q,x<hn w6/\x∉xD sa:=fun x hx=>⟨Nat.lt_of_lt_of_le (hqb x hx).1 hG6.1.size,fun hx'=>by have:=(hG6.blk x hx').1;have:=(hqb x hx).1;omega⟩;have fin:∀(s':Sl) (w':wQ) (pc:List Ch),yG t ch (cs.drop (i+1))=pc ->Grow w1 w' s' (done++pc) ->(∃(j:Nat) (done':List Ch),((i+1:Nat):Int)=j/\j<=cs.length/\Grow w1 w' s' done'/\done'++yL t (cs.drop j)=yL t cs/\done'.length<=2*j)/\cs.length -(((i+1:Nat):Int)).toNat<cs.length -(i:Int).toNat:=by
     rintro s' w' pc rfl hG';exact⟨⟨i+1,_,rfl,oQ,hG',hdone,by rw[List.length_append];omega⟩,oQ⟩
    refine qT (fun hpe=> ?_) (fun hpe=> ?_)
    ·have e:ch.1=xX:=eq_of_beq hpe
     refine xF dQ (qQ (fun h1'=> ?_) (fun h1'=> ?_))
     ·have h1t:t=1:=oQ
      refine rY hr rfl (qL hr rfl (rY hr rfl (qL hr rfl ?_)));refine qF fun w7 h7 f7 n7=> ?_;have hq7:=hq.fr0 f7;have hG7:=hG6.fr0 f7;refine hG7.addList (Q:=fun x=>x∈xD q) (es:=[ch,ch]) (Has.of_row h7) ⟨rfl,hq7,rfl,hqc,fun a ha=>by rw[ha];simp[xD],rfl,hq7,rfl,hqc,fun a ha=>by rw[ha];simp[xD],trivial⟩ rfl (fun x hx=>⟨by have:=hblk x hx;omega,(hblk x hx).2⟩) (fun e=>by cases e) (by simp;omega) fun s8 w8 hG8 f8 _ =>fin s8 w8 [ch,ch] (by unfold yG;rw[if_pos e,if_pos h1t]) hG8
     ·exact fin ⟨sa,sl,sc⟩ w6 [] (by unfold yG;rw[if_pos e,if_neg oQ]) (by rw[List.append_nil];exact hG6)
    ·have e:¬ch.1=xX:=by intro e;rw[e]at hpe;exact absurd hpe dQ
     refine hG6.addAt (nm:=ch.1) (dd:=ch.2) hr hq hqc hblk oQ fun s7 w7 hG7 f7 _ => ?_;have one:¬(t=2/\ch.1=nIDAT/\((cs.drop (i+1)).head?.map Prod.fst)≠some nIDAT) ->(∃(j:Nat) (done':List Ch),((i+1:Nat):Int)=j/\j<=cs.length/\Grow w1 w7 s7 done'/\done'++yL t (cs.drop j)=yL t cs/\done'.length<=2*j)/\cs.length -(((i+1:Nat):Int)).toNat<cs.length -(i:Int).toNat:=fun hno=>fin s7 w7 [ch] (by unfold yG;rw[if_neg e,if_neg hno]) hG7;refine xF dQ (qQ (fun h2'=> ?_) (fun h2'=>one (fun hc=>by omega)));have h2t:t=2:=oQ;have hr7:=f7.row hr (fun hx'=>by have:=(hG.blk _ hx').2;omega);refine rY hr7 rfl ?_;rw[show yI ⟨ch.1.toArray⟩ ⟨#[73,68,65,84]⟩=(ch.1==nIDAT)from yR _ nIDAT];refine qT (fun hid=> ?_) (fun hid=>one (fun hc=>by rw[hc.2.1]at hid;exact absurd hid dQ));have e2:ch.1=nIDAT:=eq_of_beq hid;have hi1:i+1<cs.length:=by
      rcases Nat.lt_or_ge (i+1) cs.length with h|h
      ·exact h
      ·have:i=cs.length -1:=oQ
       rw[this,hlast]at hch;obtain rfl:=Option.some.inj hch;exact absurd e2 (show¬xW=nIDAT by decide)
     obtain⟨nx,hnx⟩:∃nx,cs[i+1]? =some nx:=⟨_,List.getElem?_eq_getElem hi1⟩;have hhd:(cs.drop (i+1)).head? =some nx:=by rw[List.head?_drop];exact hnx
     refine qEd h1 hG7.1 hnx ?_;rw[show yI ⟨nx.1.toArray⟩ ⟨#[73,68,65,84]⟩=(nx.1==nIDAT)from yR _ nIDAT];refine qT (fun hni=> ?_) (fun hni=>one (fun hc=>hc.2.2 (by rw[hhd];simp at hni⊢;exact hni)));refine qF fun w8 h8 f8 n8=> ?_;have h123:Has w8 (some ⟨hn w7,0,none⟩) (bv [1,2,3]):=Has.of_row h8;refine Grow.add (nm:=xX) (dd:=[1,2,3]) (hG7.fr0 f8) h123 rfl (fun e=>by cases e) (fun x hx=> ?_) (by rw[List.length_append,List.length_singleton];omega) fun s9 w9 hG9 f9 _ =>fin s9 w9 [ch,(xX,[1,2,3])] ?_ (by simpa using hG9)
     ·simp[xD]at hx
      subst hx;refine⟨oQ,fun hx'=> ?_⟩;have:=(hG7.blk _ hx').2;omega
     ·unfold yG
      rw[if_neg e,if_pos ⟨h2t,e2,by rw[hhd];simp at hni⊢;exact hni⟩]
   ·obtain rfl:i=cs.length:=oQ
    rw[List.drop_length]at hdone;have hdone:done=yL t cs:=by rw[<-hdone];simp[yL]
    rw[hdone]at hG;subst hcs;refine uA M hV (F1.trans F5) (h1.fr0 F5) fun w6 F6 f6=>xC ?_;exact(hG.fr0 f6).told hV F6 hokf hlt told fun w7 F7=>⟨rfl,F7⟩
  ·intro J hJ
   refine xF dQ (qQ (fun h2=>xF dQ (hJ _ _ ⟨rfl,5+n%2,?_,fun _ =>by omega,fun h=>by omega⟩)) (fun h2=>hJ _ _ ⟨rfl,7+n%4,?_,fun h=>by omega,fun _ =>by omega⟩))
   ·rw[show Int.tmod (n:Int) 2=((n%2:Nat):Int)from xQ n 2,xI oQ oQ]
    omega
   ·rw[show Int.tmod (n:Int) 4=((n%4:Nat):Int)from xQ n 4,xI oQ oQ]
    omega
 ·intro J hJ
  refine rA (R:=fun v w'=>v= .bool true/\Fr [] w w') ⟨rfl,Fr.refl _ _⟩ fun hb=> ?_;exact qG (fun _ =>⟨rfl,Fr.refl _ _⟩) (fun h=>hJ _ _ ⟨rfl,hb,oQ⟩)
end
section
variable{w w' w0 w1 wB:wQ}{E:Er}{k W H D C:Nat}{L:Bool}{pal:List Px}{cl:List Nat}{fl xs zs d0:bQ}{dr:List (bQ)}{p q:pQ}{l c c':Nat}{cs ds es r:List Ch}{hd dd:bQ}{nm:bQ}{db rb kb crc:Nat}{d:Dec}{rs:bQ}
end
section
variable{w w' w0 w1 wB:wQ}{E:Er}{k W H D C:Nat}{L:Bool}{pal:List Px}{cl:List Nat}{fl xs zs d0:bQ}{dr:List (bQ)}{p q:pQ}{l c c':Nat}{cs ds es r:List Ch}{hd dd:bQ}{nm:bQ}{s:Sl}{db rb kb crc:Nat}{d:Dec}{rs:bQ}
end
section
variable{w w' w0 w1 wB:wQ}{E:Er}{k W H D C:Nat}{L:Bool}{pal:List Px}{cl:List Nat}{fl xs zs d0:bQ}{dr:List (bQ)}{p q:pQ}{l c c':Nat}{rb:Nat}
end
end Go.Proofs
