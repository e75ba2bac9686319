/- Contracts of the law and of what it walks -/
import Derived.Test.YtklagmhonmbdgaaGreatDoorK4
set_option maxRecDepth 1000000
set_option linter.unusedVariables false
set_option linter.unusedSimpArgs false
set_option maxHeartbeats 4000000
namespace Go.Proofs
open Go Go.V
open Go.IntKind (wrap)
section
variable{w w' w0:wQ}{rb db kb crc k W H:Nat}{L:Bool}{p:pQ}{E:Er}{pal:List Px}{cl:List Nat}{d:Dec}
structure Env (w:wQ) (E:Er):Prop where
 tab:Tab w
 errs:Errs w E
 lo:E.n0<=hn w
 lace:LaceAt w E.n0
 ety:ETyp w
theorem Env.fr0(h:Env w E)(f:Fr [] w w'):Env w' E:=⟨h.tab.fr f sQ,h.errs.fr f sQ,Nat.le_trans h.lo f.size,h.lace.fr f (by have:=h.errs.low;omega) sQ,h.ety.fr0 f⟩
def Bad(E:Er)(C:Int ->Prop)(v:Value):Prop:=ErrF E v/\∀e',outE E v e' ->ErrK e'/\C (bR e')
theorem Bad.of125{s:ByteArray}{C:Int ->Prop}(hC:C 1):Bad E C (.iface 125 (.string s)):=by
 refine⟨.inr (.inr ⟨125,s,dQ,rfl⟩),fun e' he=> ?_⟩;rcases he with⟨h,_⟩|⟨_,rfl⟩
 ·simp[zD]at h
 ·exact⟨.inl ⟨s,rfl⟩,hC⟩
theorem Refuse.bad{v:Value}(h:Refuse 125 v){C:Int ->Prop}(hC:C 1):Bad E C v:=by obtain⟨s,rfl,_⟩:=h;exact Bad.of125 hC
theorem c69t{xs:bQ}{C:Int ->Prop}(hr:RdAt w rb p xs)(hT:Tab w)(hE:Errs w E)(hlo:E.n0<=rb)(hrb:3<rb/\rb<hn w)(hp:∀a,p=some a ->3<a.block/\a.block<rb)(h8:8<=xs.length)(hsig:xs.take 8=sigL)(G:World ->Dec ->Nat ->bQ ->Prop)
  (start:∀w6 tmp,G w6 {wV (.iface 85 (.pointer (some ⟨rb,0,none⟩))) (hn w)with tmp:=tmp} 0 (xs.drop 8))
  (step:∀w1 d crc rs,Fr [rb] w w1 ->hn w+2<=hn w1 ->Errs w1 E ->Dst w1 (hn w+1) rb (hn w) p d crc rs ->G w1 d crc rs ->d.stage≠5/\CallT Pg 60 #[.pointer (some ⟨hn w+1,0,none⟩),.bool false] w1 fun v w2=>Fr [rb] w w2/\((v= .nilIface/\∃d' crc' rs',Dst w2 (hn w+1) rb (hn w) p d' crc' rs'/\rs'.length<rs.length/\G w2 d' crc' rs')\/Bad E C v)):
  CallT Pg 69 #[.iface 85 (.pointer (some ⟨rb,0,none⟩))] w fun v w'=>Fr [rb] w w'/\∃e,v= .tuple #[.nilIface,e]/\(ErrK e/\C (bR e)):=by
 have hlow:=hE.low;refine c69 hr hT hE hlo hrb hp h8 (fun w'=>Fr [rb] w w'/\hn w+2<=hn w'/\∃d crc rs,Dst w' (hn w+1) rb (hn w) p d crc rs/\G w' d crc rs) (fun w'=>left w' rb) ?_ ?_ ?_
 ·intro w6 tmp _ F6 n6 D6
  exact⟨F6,n6,_,_,_,D6,start w6 tmp⟩
 ·intro w6 s hs
  exact absurd hsig hs
 ·rintro w1 ⟨F1,n1,d,crc,rs,hD,hG⟩
  obtain⟨h5,hc⟩:=step w1 d crc rs F1 n1 (hE.fr F1 (by simp;omega)) hD hG;refine⟨d,crc,rs,hD,fun h=>absurd h h5,fun _ =>CallT.mono hc ?_⟩;rintro v w2 ⟨F2,⟨rfl,d',crc',rs',hD',hlt,hG'⟩|⟨hb,ho⟩⟩
  ·refine .inl ⟨rfl,⟨F2,by have:=zR hD'.dec;omega,_,_,_,hD',hG'⟩,?_⟩
   rw[hD.at_.left_eq,hD'.at_.left_eq];exact hlt
  ·refine .inr ⟨hb,hE.fr F2 (by simp;omega),fun e' he=>⟨F2,e',rfl,ho e' he⟩⟩
def uV(pal:List Px)(cl:List Nat):List Ch:=(if 0<pal.length then [(xX,xL pal)]else [])++((if zG pal then [(xJ,xM pal)]else [])++(if 0<cl.length then [(xJ,zX cl)]else []))
theorem vY{D C:Nat}:zK W H D C L pal cl=(nIHDR,xT W H D C L)::uV pal cl:=rfl
theorem dW{D C:Nat}(hok:yW D C pal cl)(hC:C=3):uV pal cl=(xX,xL pal)::(if zG pal then [(xJ,xM pal)]else []):=by
 obtain⟨q1,q2,q3⟩:=hok.pal3 hC;have hcl:=hok.cl0 oQ oQ;subst hcl;unfold uV;rw[if_pos (by omega:0<pal.length),show(if 0<([]:List Nat).length then [(xJ,zX [])]else [])=([]:List Ch)from rfl,List.append_nil,List.singleton_append]
theorem qCh{D C:Nat}(hok:yW D C pal cl)(hC:C≠3):uV pal cl=if 0<cl.length then [(xJ,zX cl)]else []:=by
 have hpn:=hok.paln hC;subst hpn
 rfl
def RightAt(w:wQ)(db k W H:Nat)(L:Bool)(pal:List Px)(cl:List Nat)(d:Dec)(r:List Ch):Prop:=
 (d.stage=0/\d.useT=false/\d.cb=0/\r=zK W H (qE k).2 (qE k).1 L pal cl)\/
 (d.stage=1/\d.useT=false/\jG d k W H L/\r=uV pal cl)\/
 (d.stage=2/\(qE k).1=3/\d.useT=false/\jG d k W H L/\kH w db d.pal pal.length (kK (xL pal) pal.length)/\r=if zG pal then [(xJ,xM pal)]else [])\/
 (d.stage=3/\jG d k W H L/\((qE k).1=3 ->∃n cs,kH w db d.pal n cs)/\(d.useT=true ->(qE k).1=0\/(qE k).1=2)/\r=[])
theorem RightAt.ready(h:RightAt w db k W H L pal cl d [])(hok:yW (qE k).2 (qE k).1 pal cl):jG d k W H L/\(1<=d.stage/\d.stage<=3)/\((qE k).1=3 ->d.stage≠1/\∃n cs,kH w db d.pal n cs)/\(d.useT=true ->(qE k).1=0\/(qE k).1=2):=by
 rcases h with⟨_,_,_,hr⟩|⟨h1,hu,hh,hr⟩|⟨h2,hC,hu,hh,hP,hr⟩|⟨h3,hh,hP,hu,_⟩
 ·exact absurd hr.symm (by simp[vY])
 ·refine⟨hh,oQ,fun hC=> ?_,fun e=>by rw[hu]at e;cases e⟩
  rw[dW hok hC]at hr
  cases hr
 ·exact⟨hh,oQ,fun _ =>⟨oQ,_,_,hP⟩,fun e=>by rw[hu]at e;cases e⟩
 ·exact⟨hh,oQ,fun e=>⟨oQ,hP e⟩,hu⟩
theorem RightAt.step{c:Ch}{r:List Ch}{tail:bQ}(h:RightAt w db k W H L pal cl d (c::r))(hD:Dst w db rb kb p d crc (qV c.1 c.2++tail))(hk:k<15)(hW:1<=W/\W<=20)(hH:1<=H/\H<=20)(hok:yW (qE k).2 (qE k).1 pal cl)(F0:Fr [rb] w0 w)(hkb:hn w0<=kb):
  CallT Pg 60 #[.pointer (some ⟨db,0,none⟩),.bool false] w fun v w'=>v= .nilIface/\Fr [rb] w0 w'/\∃d' crc',Dst w' db rb kb p d' crc' tail/\RightAt w' db k W H L pal cl d' r:=by
 have hne:=hD.ne;have hcb:=jT hk;have fr:∀{w':wQ},Fr [rb,kb,db] w w' ->Fr [rb] w0 w':=fun f=>F0.trans' f (fun x hx hlt=>by simp at hx⊢;omega);rcases h with⟨h0,hu,_,hr⟩|⟨h1,hu,hh,hr⟩|⟨h2,hC,hu,hh,hP,hr⟩|⟨_,_,_,_,hr⟩
 ·rw[vY]at hr
  obtain⟨rfl,rfl⟩:=List.cons.inj hr;refine CallT.mono (Dst.goodIHDR hD h0 oQ oQ hk) ?_;rintro v w2 ⟨rfl,F,tmp,crc',hD'⟩;exact⟨rfl,fr F,_,_,hD',.inr (.inl ⟨rfl,hu,⟨rfl,rfl,rfl,rfl,rfl⟩,rfl⟩)⟩
 ·by_cases hC:(qE k).1=3
  ·rw[dW hok hC]at hr
   obtain⟨rfl,rfl⟩:=List.cons.inj hr;obtain⟨q1,q2,q3⟩:=hok.pal3 hC;refine CallT.mono (Dst.goodPLTE hD h1 hh.D_ (vO hk).1 (by rw[hh.cb_];have:=hcb.2.1 hC;omega) oQ oQ q3) ?_;rintro v w2 ⟨rfl,F,tmp,crc',pl,hD',hP⟩;exact⟨rfl,fr F,_,_,hD',.inr (.inr (.inl ⟨rfl,hC,hu,⟨hh.W_,hh.H_,hh.D_,hh.cb_,hh.lace_⟩,hP,rfl⟩))⟩
  ·rw[qCh hok hC]at hr
   by_cases hcl:0<cl.length
   ·rw[if_pos hcl]at hr
    obtain⟨rfl,rfl⟩:=List.cons.inj hr;have hl:=hok.cll.resolve_left (List.length_pos_iff.1 hcl);have h02:(qE k).1=0\/(qE k).1=2:=by
     by_cases h0:(qE k).1=0
     ·exact .inl h0
     ·by_cases h2:(qE k).1=2
      ·exact .inr h2
      ·exact absurd (hok.cl0 h0 h2) (List.length_pos_iff.1 hcl)
    have hcc:=qFj hk;refine CallT.mono (qCi hD h1 ?_) ?_
    ·rw[mE,hl,hh.cb_]
     rcases h02 with h0|h2
     ·refine .inl ⟨by rw[h0];rfl,?_⟩
      have:=hcc.1 h0;omega
     ·refine .inr ⟨by rw[h2];rfl,?_⟩
      have:=hcc.2 h2;omega
    ·rintro v w2 ⟨rfl,F,n2,tmp,tr,crc',hD'⟩
     exact⟨rfl,fr F,_,_,hD',.inr (.inr (.inr ⟨rfl,⟨hh.W_,hh.H_,hh.D_,hh.cb_,hh.lace_⟩,fun e=>absurd e hC,fun _ =>h02,rfl⟩))⟩
   ·rw[if_neg hcl]at hr
    cases hr
 ·by_cases ha:zG pal=true
  ·rw[if_pos ha]at hr
   obtain⟨rfl,rfl⟩:=List.cons.inj hr;obtain⟨q1,q2,q3⟩:=hok.pal3 hC;have hal:(xM pal).length=pal.length:=by simp[xM]
   obtain⟨g,hpal,hdg,hrow,hcl,hn256⟩:=hP;refine CallT.mono (Dst.goodTRNS (al:=xM pal) hD h2 (by rw[hh.cb_];have:=hcb.2.1 hC;omega) ⟨g,hpal,hdg,hrow,hcl,hn256⟩ (mN _ _) oQ oQ) ?_;rintro v w2 ⟨rfl,hF,tmp,crc',pl,hD',_,hP'⟩;have F:=hF g (by rw[hpal]);exact⟨rfl,F0.trans' F (fun x hx hlt=>by simp at hx⊢;omega),_,_,hD',.inr (.inr (.inr ⟨rfl,⟨hh.W_,hh.H_,hh.D_,hh.cb_,hh.lace_⟩,fun _ =>⟨_,_,hP'⟩,(fun h=>by rw[hu]at h;cases h),rfl⟩))⟩
  ·rw[if_neg ha]at hr
   cases hr
 ·cases hr
end
section
variable{w w0 w1 w2:wQ}{rb db kb crc k W H:Nat}{L:Bool}{p q:pQ}{E:Er}{pal:List Px}{cl:List Nat}{d:Dec}
structure Stp (w0 w1:wQ) (E:Er) (db rb kb:Nat):Prop where
 F0:Fr [rb] w0 w1
 hkb:hn w0<=kb
 errs:Errs w1 E
 lace:LaceAt w1 E.n0
 lo:E.n0<=rb
 ord:kb<db
theorem Stp.fr(h:Stp w0 w1 E db rb kb)(f:Fr [rb,kb,db] w1 w2):Fr [rb] w0 w2:=h.F0.trans' f (fun x hx hlt=>by have:=h.hkb;have:=h.ord;simp at hx⊢;omega)
theorem wT{c:Ch}{b:List Ch}{t:bQ}:(chs b++t).length<(chs (c::b)++t).length:=by
 rw[qZ];simp only[List.length_append];have:4<=(qV c.1 c.2).length:=by unfold qV;simp only[List.length_append,xG];omega
 omega
theorem gP{l c:Nat}{a r:List Ch}{bad:bQ}{code:Int}{file:bQ}(ef:file=sigL++(chs a++bad))(hx:Has w q (bv file))(hl:l=file.length)(hlb:l<1099511627776)(hV:Env w E)
  (hfo:zK W H (qE k).2 (qE k).1 L pal cl=a++r)(hk:k<15)(hW:1<=W/\W<=20)(hH:1<=H/\H<=20)(hok:yW (qE k).2 (qE k).1 pal cl)(G2:Dec ->Nat ->bQ ->Prop)
  (hbad:∀{w0 w1:wQ} {db rb kb:Nat} {p:pQ} {d:Dec} {crc:Nat},Stp w0 w1 E db rb kb ->Dst w1 db rb kb p d crc bad ->RightAt w1 db k W H L pal cl d r ->
   CallT Pg 60 #[.pointer (some ⟨db,0,none⟩),.bool false] w1 fun v w2=>Fr [rb] w0 w2/\(Bad E (·=code) v\/(v= .nilIface/\∃d' crc' rs',Dst w2 db rb kb p d' crc' rs'/\rs'.length<bad.length/\G2 d' crc' rs')))
  (after:∀{w0 w1:wQ} {db rb kb:Nat} {p:pQ} {d:Dec} {crc:Nat} {rs:bQ},Stp w0 w1 E db rb kb ->Dst w1 db rb kb p d crc rs ->G2 d crc rs ->
   d.stage≠5/\CallT Pg 60 #[.pointer (some ⟨db,0,none⟩),.bool false] w1 fun v w2=>Fr [rb] w0 w2/\Bad E (·=code) v):
  CallT Pg 29 #[.slice q l c,.int .i64 code] w fun v w'=>v= .bool true/\Fr [] w w':=by
 subst ef;refine qAs (B:=fun e=>ErrK e/\bR e=code) hx hl hlb hV.tab hV.errs hV.lo hV.lace hV.ety (fun e h=>h) fun w2 rb p F2 hr hT2 hE2 hlo2 hrb hp hL2 _ => ?_;refine c69t (C:=(·=code)) hr hT2 hE2 hlo2 hrb hp (by simp[yB]) (kN _) (fun w' d crc rs=>(∃b,rs=chs b++bad/\RightAt w' (hn w2+1) k W H L pal cl d (b++r))\/G2 d crc rs) ?_ ?_
 ·intro w6 tmp
  rw[gU];exact .inl ⟨a,rfl,.inl ⟨rfl,rfl,rfl,hfo.symm⟩⟩
 ·intro w1 d crc rs F1 n1 E1 hD hG
  have hlow:=hE2.low;have hA:Stp w2 w1 E (hn w2+1) rb (hn w2):=⟨F1,Nat.le_refl _,E1,hL2.fr F1 oQ (by simp;omega),hlo2,oQ⟩;rcases hG with⟨b,rfl,hR⟩|hG
  ·have h5:d.stage≠5:=by rcases hR with h|h|h|h<;>omega
   refine⟨h5,?_⟩
   cases b with
   |nil=>
    refine CallT.mono (hbad hA hD hR) ?_;rintro v w3 ⟨F,hb|⟨rfl,d',crc',rs',hD',hlt,hg⟩⟩
    ·exact⟨F,.inr hb⟩
    ·exact⟨F,.inl ⟨rfl,d',crc',rs',hD',hlt,.inr hg⟩⟩
   |cons ch b=>
    have hD':=hD;rw[qZ,List.append_assoc]at hD';refine CallT.mono (RightAt.step hR hD' hk hW hH hok F1 (Nat.le_refl _)) ?_;rintro v w3 ⟨rfl,F,d',crc',hD2,hR2⟩;exact⟨F,.inl ⟨rfl,d',crc',_,hD2,wT,.inl ⟨b,rfl,hR2⟩⟩⟩
  ·obtain⟨h5,hc⟩:=after hA hD hG
   refine⟨h5,CallT.mono hc ?_⟩;rintro v w3 ⟨F,hb⟩;exact⟨F,.inr hb⟩
theorem uS{nm dd rest:bQ}(hA:Stp w0 w1 E db rb kb)(hD:Dst w1 db rb kb p d crc (qV nm dd++rest))(hnl:nm.length=4)(hdd:dd.length<4294967296)(hn:zT d nm= .refuse){C:Int ->Prop}(hC:C 1):
  CallT Pg 60 #[.pointer (some ⟨db,0,none⟩),.bool false] w1 fun v w2=>Fr [rb] w0 w2/\Bad E C v:=by
 obtain⟨h1,h2,h3,h4⟩:=yA (nm:=nm) (d:=dd) (rest:=rest) hnl hdd;refine hD.c60 oQ fun w3 tmp s F3 n3 D3=> ?_;rw[h2,hn];dsimp only;intro _ v hv;exact⟨hA.fr F3,hv.bad hC⟩
end
section
variable{w w' w0:wQ}{E:Er}{Q Q':Nat ->Prop}
theorem c30n{b o l c:Nat}{cs:List Ch}(hx:Has w (some ⟨b,o,none⟩) (bv (qU cs)))(hl:l=(qU cs).length)(hb:l<1099511627776)(hlc:l<=c)(hok:kA cs):
  CallT Pg 30 #[.slice (some ⟨b,o,none⟩) l c] w fun v w'=>∃vs,PcHas (·=b) w' vs cs/\RetR 53 2 w cs.length vs v w':=by
 apply call30;unfold wp30 wIq iQq;rw[zI];have hblt:b<hn w:=by obtain⟨_,T,arr,h1,_⟩:=hx;exact zR h1
 refine qP (fun z w'=>Fr [] w w'/\∃a r vs,cs=a++r/\z.2.1=((8+(chs a).length:Nat):Int)/\z.1.len=a.length/\PcHas (·=b) w' vs a/\Own w' (hn w) 53 2 z.1.a z.1.len z.1.cap vs)
  (fun z _ =>l+1 -z.2.1.toNat) ⟨Fr.alloc _ _ _,[],cs,[],rfl,by simp[chs],rfl,trivial,Own.new (w:=w) (e:=53) (size:=2) (cs:= #[]) (l:=0) (Nat.le_refl _) sQ⟩ ?_
 rintro⟨⟨q,n,m⟩,k,⟨⟩⟩ w1 ⟨hf,a,r,vs,rfl,rfl,rfl,hpc,ho⟩;simp only at ho;have hlen:l=8+(chs a).length+(chs r).length:=by rw[hl];simp[qU,sigL,xU];omega
 have ha:=yN (rC hok);have hr:=yN (mM hok);refine qG (fun h=> ?_) (fun h=> ?_)
 ·simp only at h
  rw[qA oQ oQ]at h
  cases r with
  |nil=>simp only[vJ,List.length_nil]at hlen;omega
  |cons ch r=>
   obtain⟨h4,hd⟩:=hok ch sQ;have hcl:=xA (data:=ch.2) h4;simp only[qZ,List.length_append]at hlen;dsimp only;refine CallT.mono (c46 (hx.fr0 hf) hl oQ oQ oQ) ?_;rintro _ _ ⟨rfl,rfl⟩;rw[Int.toNat_natCast,bX hd];refine⟨_,rfl,?_⟩;rw[zY];have hf2:=hf.drewR.drewR;have hx2:=hx.fr0 hf2;have e0:bv (qU (a++ch::r))=bv (sigL++chs a++xR ch.2.length)++(bv ch.1++bv (ch.2++xR (jJ (ch.1++ch.2))++chs r)):=by
    rw[lI,<-bv_append,<-bv_append];simp[qV]
   have e1:bv (qU (a++ch::r))=bv (sigL++chs a++xR ch.2.length++ch.1)++(bv ch.2++bv (xR (jJ (ch.1++ch.2))++chs r)):=by
    rw[lI,<-bv_append,<-bv_append];simp[qV]
   have hx3:=hx2;rw[e0]at hx2;rw[e1]at hx3;have g0:=Has.sub hx2;have g1:=Has.sub hx3;simp only[bv_length,List.length_append,xG,h4]at g0 g1;have es:sigL.length=8:=rfl;simp only[es]at g0 g1;simp (disch:=omega) only[qA];have t1:((((8+(chs a).length:Nat):Int)+4).toNat)=8+(chs a).length+4:=oQ;have t2:((((8+(chs a).length:Nat):Int)+8).toNat)=8+(chs a).length+4+4:=oQ;have t3:((((8+(chs a).length:Nat):Int)+8+(ch.2.length:Int)).toNat)=8+(chs a).length+4+4+ch.2.length:=oQ;simp only[t1,t2,t3];rw[slAdd_one _ _ _ _ oQ,slAdd_one _ _ _ _ oQ];refine⟨⟨oQ,oQ⟩,⟨oQ,oQ⟩,⟨oQ,oQ⟩,⟨oQ,oQ⟩,?_⟩;refine rX (xs:=ch.1) g0 oQ ?_;refine tD ok50 hf2 ((ho.fr0 (Fr.drew _ _)).fr0 (Fr.drew _ _)) sQ (by simp[Value.oneCell']) oQ ?_;intro q' m' w3 hf3 hf3' ho3;have hq:∀b',b'=b ->b'∉xD q:=by
    intro b' e hmem;have:=ho.blk _ hmem;omega
   refine⟨⟨hf3,a++[ch],r,_,sQ,?_,sQ,?_,ho3⟩,oQ⟩
   ·simp only[xU,qZ,vJ,List.length_append,List.append_nil,hcl];omega
   ·refine PcHas.snoc (g1.fr hf3' ?_) oQ sQ (by intro a ha;cases ha;rfl) (((hpc.fr (Fr.drew [] _) sQ).fr (Fr.drew [] _) sQ).fr hf3' hq)
    intro a' ha';cases ha';exact hq _ rfl
 ·simp only at h
  rw[qA oQ oQ]at h
  cases r with
  |cons ch r=>
   exfalso
   obtain⟨h4,hd⟩:=hok ch sQ;have hcl:=xA (data:=ch.2) h4;simp only[qZ,List.length_append]at hlen;omega
  |nil=>exact⟨vs,by simpa using hpc,hf,q,m,sQ,by simpa using ho⟩
theorem PcHas.mono(h:∀b,Q b ->Q' b):∀{vs:List Value} {cs:List Ch},PcHas Q w vs cs ->PcHas Q' w vs cs
 |[],[],_ =>trivial
 | .string _ :: .slice _ _ _ ::_,_ ::_,⟨h1,h2,h3,h4,h5,h6⟩=>⟨h1,h2,h3,h4,fun a ha=>h _ (h5 a ha),PcHas.mono h h6⟩
theorem PcHas.app:∀{vs us:List Value} {cs ds:List Ch},PcHas Q w vs cs ->PcHas Q w us ds ->PcHas Q w (vs++us) (cs++ds)
 |[],_,[],_,_,h=>h
 | .string _ :: .slice _ _ _ ::_,_,_ ::_,_,⟨h1,h2,h3,h4,h5,h6⟩,h=>⟨h1,h2,h3,h4,h5,PcHas.app h6 h⟩
theorem PcHas.drop:∀{n:Nat} {vs:List Value} {cs:List Ch},PcHas Q w vs cs ->PcHas Q w (vs.drop (n*2)) (cs.drop n)
 |0,vs,cs,h=>by simpa using h
 |n+1,[],[],h=>by simpa using h
 |n+1,.string _ :: .slice _ _ _ ::r,_ ::cs,⟨_,_,_,_,_,h6⟩=>by
  have:=PcHas.drop (n:=n) h6;rw[show(n+1)*2=n*2+1+1 by omega]
  simpa using this
theorem PcHas.take:∀{n:Nat} {vs:List Value} {cs:List Ch},PcHas Q w vs cs ->PcHas Q w (vs.take (n*2)) (cs.take n)
 |0,vs,cs,h=>by simp[PcHas]
 |n+1,[],[],h=>by simp[PcHas]
 |n+1,.string _ :: .slice _ _ _ ::r,_ ::cs,⟨h1,h2,h3,h4,h5,h6⟩=>by
  have:=PcHas.take (n:=n) h6;rw[show(n+1)*2=n*2+1+1 by omega];simp only[List.take_succ_cons];exact⟨h1,h2,h3,h4,h5,this⟩
theorem Own.from{base e size n l c:Nat}{p:pQ}{vs:List Value}(h:Own w base e size p l c vs)(hn:n<l):Has w (qR p c n size) (vs.drop (n*size)):=by
 obtain⟨hl,⟨_,h0,_⟩|⟨g,arr,rfl,hb,hg,hlc,hsz,hx⟩⟩:=h
 ·omega
 ·unfold qR
  rw[if_neg oQ];show Has w (some ((⟨g,0,none⟩:Addr).add (n*size))) _;rw[yP,Nat.zero_add];refine⟨rfl,e,arr,hg,fun j v hj=> ?_⟩;rw[List.getElem?_drop]at hj;exact hx _ _ hj
theorem Has.takes{p:pQ}{n:Nat}{vs:List Value}(h:Has w p vs):Has w p (vs.take n):=by
 cases p with
 |none=>have:vs=[]:=h;subst this;simp[Has]
 |some a=>
  obtain⟨h0,T,arr,h1,h2⟩:=h;refine⟨h0,T,arr,h1,fun j v hj=> ?_⟩;rw[List.getElem?_take]at hj
  split at hj
  ·exact h2 j v hj
  ·cases hj
structure Made (k W H:Nat) (L:Bool) (pal:List Px) (cl:List Nat) (fl xs zs d0:bQ) (dr:List (bQ)):Prop where
 hk:k<15
 hW:1<=W/\W<=20
 hH:1<=H/\H<=20
 ok:yW (qE k).2 (qE k).1 pal cl
 rows:RowsOf (mH W H (qE k).2 (qE k).1 L) (gF fl) xs
 zl:tE xs zs
 flat:(d0::dr).flatten=zs
 ne:∀x∈d0::dr,x≠[]
 zlen:zs.length<=2097152
 xlen:xs.length<32768
def xV(k W H:Nat)(L:Bool)(pal:List Px)(cl:List Nat)(d0:bQ)(dr:List (bQ)):List Ch:=zK W H (qE k).2 (qE k).1 L pal cl++xZ (d0::dr)++[(xW,[])]
section
variable{k W H:Nat}{L:Bool}{pal:List Px}{cl:List Nat}{fl xs zs d0:bQ}{dr:List (bQ)}
theorem Made.okc(M:Made k W H L pal cl fl xs zs d0 dr):kA (xV k W H L pal cl d0 dr)/\(qU (xV k W H L pal cl d0 dr)).length<1099511627776:=by
 have hzp:0<zs.length:=by
  obtain⟨_,_,_,_,hz⟩:=M.zl;rw[hz];simp
 obtain⟨_,h1,h2,_⟩:=nJ (W:=W) (H:=H) (L:=L) M.hk M.ok hzp M.zlen M.flat M.ne;exact⟨h1,h2⟩
theorem Made.whole{q:pQ}{l c:Nat}{file:bQ}(M:Made k W H L pal cl fl xs zs d0 dr)(hV:Env w E)(hf:file=qU (xV k W H L pal cl d0 dr))(hx:Has w q (bv file))(hl:l=file.length):CallT Pg 28 #[.slice q l c] w fun v w'=>v= .bool true/\Fr [] w w':=
 qCy hf hx hl (by rw[hl,hf];exact M.okc.2) hV.tab hV.errs hV.lo hV.lace hV.ety M.hk M.hW M.hH M.ok M.rows M.zl M.flat M.ne M.zlen M.xlen
end
theorem nU{k W H:Nat}{L:Bool}{pal:List Px}{cl:List Nat}{v:Value}(hk:k<15)(hW:1<=W/\W<=20)(hH:1<=H/\H<=20)(hok:yW (qE k).2 (qE k).1 pal cl)(hF:oR w0 W H (qE k).2 (qE k).1 L pal cl v w):
  ∃fl xs zs d0 dr,Made k W H L pal cl fl xs zs d0 dr/\dL w0 (qU (xV k W H L pal cl d0 dr)) v w:=by
 obtain⟨fs,xs,zs,ds,_,hrows,hZ,hds,hne,hzl,hR⟩:=hF;have hD16:(qE k).2<=16:=by have:=(vO hk).1;omega
 cases ds with
 |nil=>
  obtain⟨bl,out,_,_,hz⟩:=hZ;rw[hz]at hds;simp at hds
 |cons d0 dr=>exact⟨fs,xs,zs,d0,dr,⟨hk,hW,hH,hok,hrows,hZ,hds,hne,hzl,aS hrows hW.2 hH.2 hD16⟩,hR⟩
def Pcs(w0 w:wQ)(p:pQ)(l c:Nat)(cs:List Ch):Prop:=∃b vs,Own w (hn w0) 53 2 p l c vs/\PcHas (·=b) w vs cs/\l=cs.length/\hn w0<=b/\b<hn w/\∀x∈xD p,b<x
theorem qDn{p:pQ}{base l c:Nat}{cs:List Ch}(h:Own w base 5 1 p l c (bv (qU cs)))(hl:l=(qU cs).length):∃b,p=some ⟨b,0,none⟩/\l<=c/\base<=b/\b<hn w:=by
 obtain⟨b,rfl,h1⟩:=pW h (by rw[hl];simp[qU,yB];omega);have:=h.at rfl;exact⟨b,rfl,h1,this.2.2.1,this.2.2.2⟩
theorem qBz{k W H:Nat}{L:Bool}{pal:List Px}{cl:List Nat}{fl xs zs d0:bQ}{dr:List (bQ)}{p:pQ}{l c:Nat}(M:Made k W H L pal cl fl xs zs d0 dr)(F:Fr [] w0 w)(h:Own w (hn w0) 5 1 p l c (bv (qU (xV k W H L pal cl d0 dr))))(hl:l=(qU (xV k W H L pal cl d0 dr)).length)
  {K:pQ ->Nat ->Nat ->World ->Prop}(hK:∀p l c w',Fr [] w0 w' ->Fr [] w w' ->Pcs w0 w' p l c (xV k W H L pal cl d0 dr) ->K p l c w'):
  CallT Pg 30 #[.slice p l c] w fun v w'=>Exists fun p':pQ=>Exists fun l':Nat=>Exists fun c':Nat=>And (v= .slice p' l' c') (K p' l' c' w'):=by
 obtain⟨b,rfl,hlc,hb0,hb1⟩:=qDn h hl;refine CallT.mono (c30n h.has hl (by rw[hl];exact M.okc.2) hlc M.okc.1) ?_;rintro v w' ⟨vs,hpc,f,q,c',rfl,ho⟩;refine⟨_,_,_,rfl,hK _ _ _ _ (F.trans f) f ⟨b,vs,ho.base_le F.size,hpc,rfl,hb0,Nat.lt_of_lt_of_le hb1 f.size,fun x hx=> ?_⟩⟩;have:=(ho.blk x hx).1;omega
theorem Pcs.glue{p:pQ}{l c:Nat}{cs:List Ch}(h:Pcs w0 w p l c cs)(hok:kA cs)(hb:(qU cs).length<1099511627776):CallT Pg 31 #[.slice p l c] w (dL w (qU cs)):=by
 obtain⟨b,vs,ho,hpc,hl,_,hb1,_⟩:=h;exact c31 ho.has hpc (fun x hx=>by have:x=b:=hx;omega) hl hb hok
theorem uA{k W H:Nat}{L:Bool}{pal:List Px}{cl:List Nat}{fl xs zs d0:bQ}{dr:List (bQ)}{p:pQ}{l c:Nat}(M:Made k W H L pal cl fl xs zs d0 dr)(hV:Env w0 E)(F:Fr [] w0 w)(h:Pcs w0 w p l c (xV k W H L pal cl d0 dr))
  {K:Bool ->World ->Prop}(hK:∀w',Fr [] w0 w' ->Fr [] w w' ->K true w'):
  CallT Pg 31 #[.slice p l c] w fun v w1=>Exists fun p':pQ=>Exists fun l':Nat=>Exists fun c':Nat=>And (v= .slice p' l' c') (CallT Pg 28 #[.slice p' l' c'] w1 fun v' w2=>Exists fun b:Bool=>And (v'= .bool b) (K b w2)):=by
 refine CallT.mono (h.glue M.okc.1 M.okc.2) ?_;rintro v w1 ⟨f,q,c',rfl,ho⟩;refine⟨_,_,_,rfl,CallT.mono (M.whole (hV.fr0 (F.trans f)) rfl ho.has rfl) ?_⟩;rintro v w2 ⟨rfl,f2⟩;exact⟨_,rfl,hK w2 ((F.trans f).trans f2) (f.trans f2)⟩
theorem lN{p:pQ}{l c:Nat}{vs:List Value}{cs:List Ch}{code:Int}(hV:Env w0 E)(F:Fr [] w0 w)(hp:Has w p vs)(hpc:PcHas Q w vs cs)(hQ:∀b,Q b ->b<hn w)(hl:l=cs.length)(hok:kA cs)(hb:(qU cs).length<1099511627776)
  (ht:∀{w1:wQ} {q:pQ} {c:Nat},Env w1 E ->Has w1 q (bv (qU cs)) ->CallT Pg 29 #[.slice q (qU cs).length c,.int .i64 code] w1 fun v w'=>v= .bool true/\Fr [] w1 w')
  {K:Bool ->World ->Prop}(hK:∀w',Fr [] w0 w' ->K true w'):
  CallT Pg 31 #[.slice p l c] w fun v w1=>Exists fun p':pQ=>Exists fun l':Nat=>Exists fun c':Nat=>And (v= .slice p' l' c') (CallT Pg 29 #[.slice p' l' c',.int .i64 code] w1 fun v' w2=>Exists fun b:Bool=>And (v'= .bool b) (K b w2)):=by
 refine CallT.mono (c31 hp hpc hQ hl hb hok) ?_;rintro v w1 ⟨f,q,c',rfl,ho⟩;refine⟨_,_,_,rfl,CallT.mono (ht (hV.fr0 (F.trans f)) ho.has) ?_⟩;rintro v w2 ⟨rfl,f2⟩;exact⟨_,rfl,hK w2 ((F.trans f).trans f2)⟩
theorem kZ{p:pQ}{l c:Nat}{R:vPq}{X:World ->Prop}(hR:R (.bool true) w)(hX:l<=1000 ->X w):
  IfC (decide ((l:Int)>(2147483647:Int))) (R (.bool true) w) (CallT Pg 22 #[.slice p l c] w fun v w2=>Exists fun b:Bool=>And (v= .bool b) (IfC (!b) (R (.bool true) w2) (X w2))):=by
 refine qG (fun _ =>hR) (fun _ =>CallT.mono c22 ?_);rintro v w2 ⟨rfl,rfl⟩;refine⟨_,rfl,?_⟩
 by_cases h:l<=1000
 ·rw[decide_eq_true h];exact hX h
 ·rw[decide_eq_false h];exact hR
theorem gH{n:Nat}(hn32:n<4294967296){p:pQ}{l c:Nat}{ss:List Nat}(hx:HasW w p (ss.map fun(s:Nat)=> .int .u16 (s:Int)))(hl:l=ss.length)(hb:l<=1000){K:pQ ->Nat ->Nat ->World ->Prop}
  (hK:∀{W H:Nat} {L:Bool} {pal:List Px} {cl:List Nat} {fl xs zs d0:bQ} {dr:List (bQ)},Made (n%15) W H L pal cl fl xs zs d0 dr ->∀p l c w',Fr [] w w' ->Pcs w w' p l c (xV (n%15) W H L pal cl d0 dr) ->K p l c w'):
  CallT Pg 27 #[.int .u32 n,.slice p l c] w fun v w1=>Exists fun p':pQ=>Exists fun l':Nat=>Exists fun c':Nat=>And (v= .slice p' l' c') (CallT Pg 30 #[.slice p' l' c'] w1 fun v' w2=>Exists fun p2:pQ=>Exists fun l2:Nat=>Exists fun c2:Nat=>And (v'= .slice p2 l2 c2) (K p2 l2 c2 w2)):=by
 refine CallT.mono (c27 hn32 hx hl hb) ?_;rintro v w1 ⟨W,H,L,pal,cl,hW,hH,hok,hF⟩;obtain⟨fl,xs,zs,d0,dr,M,f,q,c',rfl,ho⟩:=nU oQ hW hH hok hF;exact⟨_,_,_,rfl,qBz M f ho rfl fun p l c w' F _ h=>hK M p l c w' F h⟩
end
section
variable{w w' w0:wQ}{E:Er}{k W H:Nat}{L:Bool}{pal:List Px}{cl:List Nat}{fl xs zs d0:bQ}{dr:List (bQ)}{p q:pQ}{l c c':Nat}{cs:List Ch}{hd dd:bQ}{nm:bQ}
theorem Made.len(M:Made k W H L pal cl fl xs zs d0 dr):(qU (xV k W H L pal cl d0 dr)).length<1000000000:=by
 have hpl:pal.length<=9:=by
  by_cases h:(qE k).1=3
  ·exact(M.ok.pal3 h).2.1
  ·rw[M.ok.paln h];simp
 have hcll:cl.length<=4:=by
  have:=tF (qE k).1;rcases M.ok.cll with h|h
  ·rw[h];simp
  ·omega
 have hal:(xM pal).length=pal.length:=by simp[xM]
 have hsl:=vP pal;have hcL:=mE cl;have hdat:∀ds:List (bQ),(∀x∈ds,x≠[]) ->(chs (xZ ds)).length<=13*ds.flatten.length:=by
  intro ds
  induction ds with
  |nil=>intro _;simp[xZ,chs]
  |cons d r ih=>
   intro hne;have:=ih (fun x hx=>hne x (List.mem_cons_of_mem _ hx));have hd:1<=d.length:=List.length_pos_iff.2 (hne d sQ);have e:xZ (d::r)=(nIDAT,d)::xZ r:=rfl;rw[e,qZ,List.length_append,xA rfl,List.flatten_cons,List.length_append];dsimp only;omega
 have h1:=hdat _ M.ne;rw[M.flat]at h1;have hz:=M.zlen;unfold xV;rw[qU,List.length_append,xU,xU,List.length_append,List.length_append,zK,qZ,xU,xU];simp only[List.length_append];have e0:(qV nIHDR (xT W H (qE k).2 (qE k).1 L)).length=12+13:=xA rfl;have e1:(chs (if 0<pal.length then [(xX,xL pal)]else [])).length<=12+27:=by
  split
  ·rw[qZ,vJ,List.append_nil,xA rfl];dsimp only;omega
  ·simp[chs]
 have e2:(chs (if zG pal=true then [(xJ,xM pal)]else [])).length<=12+9:=by
  split
  ·rw[qZ,vJ,List.append_nil,xA rfl];dsimp only;omega
  ·simp[chs]
 have e3:(chs (if 0<cl.length then [(xJ,zX cl)]else [])).length<=12+8:=by
  split
  ·rw[qZ,vJ,List.append_nil,xA rfl];dsimp only;omega
  ·simp[chs]
 have e4:(chs [(xW,[])]).length=12:=rfl;rw[yB];omega
theorem rE{base e l c:Nat}{p:pQ}{vs:List Value}(h:Own w base e 2 p l c vs)(hl:0<l):∃b,p=some ⟨b,0,none⟩/\l<=c:=by
 rcases h with⟨_,⟨rfl,rfl,_⟩|⟨g,arr,rfl,_,_,hlc,_⟩⟩
 ·omega
 ·exact⟨g,rfl,hlc⟩
theorem lO:(xV k W H L pal cl d0 dr)[0]? =some (nIHDR,xT W H (qE k).2 (qE k).1 L):=rfl
end
section
variable{w w' w0:wQ}{E:Er}{k W H:Nat}{L:Bool}{pal:List Px}{cl:List Nat}{fl xs zs d0:bQ}{dr:List (bQ)}{p q:pQ}{l c c':Nat}{cs:List Ch}{hd dd:bQ}{nm:bQ}
theorem Pcs.fr0(h:Pcs w0 w p l c cs)(f:Fr [] w w'):Pcs w0 w' p l c cs:=by
 obtain⟨b,vs,ho,hpc,r⟩:=h;exact⟨b,vs,ho.fr0 f,hpc.fr f sQ,r.1,r.2.1,Nat.lt_of_lt_of_le r.2.2.1 f.size,r.2.2.2⟩
theorem mI:3<=(xV k W H L pal cl d0 dr).length:=by simp[xV,zK,xZ];omega
end
section
variable{w w' w0:wQ}
end
section
variable{w w' w0 wB:wQ}{E:Er}{k W H:Nat}{L:Bool}{pal:List Px}{cl:List Nat}{fl xs zs d0:bQ}{dr:List (bQ)}{p q:pQ}{l c c':Nat}{cs ds:List Ch}{hd dd:bQ}{nm:bQ}{s:Sl}
def Grow(wB w:wQ)(s:Sl)(ds:List Ch):Prop:=Fr [] wB w/\∃vs,Own w (hn wB) 53 2 s.a s.len s.cap vs/\PcHas (fun x=>x<hn w/\x∉xD s.a) w vs ds/\s.len=ds.length
theorem Grow.fr0(h:Grow wB w s ds)(f:Fr [] w w'):Grow wB w' s ds:=by
 obtain⟨F,vs,ho,hpc,hl⟩:=h;exact⟨F.trans f,vs,ho.fr0 f,(hpc.fr f sQ).mono (fun x hx=>⟨Nat.lt_of_lt_of_le hx.1 f.size,hx.2⟩),hl⟩
theorem Grow.start{r:Nat}(h:hp w r=Row 53 #[])(F:Fr [] wB w)(hr:hn wB<=r):Grow wB w ⟨some ⟨r,0,none⟩,0,0⟩ []:=⟨F,[],Own.of_row (arr:= #[]) h hr rfl,trivial,rfl⟩
theorem Grow.blk(h:Grow wB w s ds):∀x∈xD s.a,hn wB<=x/\x<hn w:=by
 obtain⟨_,vs,ho,_⟩:=h;exact ho.blk
theorem Grow.told{w0:wQ}{code:Int}(h:Grow wB w s ds)(hV:Env w0 E)(F:Fr [] w0 w)(hok:kA ds)(hb:(qU ds).length<1099511627776)
  (ht:∀{w1:wQ} {q:pQ} {c:Nat},Env w1 E ->Has w1 q (bv (qU ds)) ->CallT Pg 29 #[.slice q (qU ds).length c,.int .i64 code] w1 fun v w'=>v= .bool true/\Fr [] w1 w')
  {K:Bool ->World ->Prop}(hK:∀w',Fr [] w0 w' ->K true w'):
  CallT Pg 31 #[.slice s.a s.len s.cap] w fun v w1=>Exists fun p':pQ=>Exists fun l':Nat=>Exists fun c':Nat=>And (v= .slice p' l' c') (CallT Pg 29 #[.slice p' l' c',.int .i64 code] w1 fun v' w2=>Exists fun b:Bool=>And (v'= .bool b) (K b w2)):=by
 obtain⟨_,vs,ho,hpc,hl⟩:=h;exact lN hV F ho.has hpc (fun x hx=>hx.1) hl hok hb ht hK
end
section
variable{w w' w0 wB:wQ}{E:Er}{k W H:Nat}{L:Bool}{pal:List Px}{cl:List Nat}{fl xs zs d0:bQ}{dr:List (bQ)}{p q:pQ}{l c c':Nat}{cs ds es:List Ch}{hd dd:bQ}{nm:bQ}{s:Sl}{db rb kb crc:Nat}{d:Dec}{rs:bQ}
theorem PcHas.one{Q:Nat ->Prop}:∀{vs:List Value} {cs:List Ch},PcHas Q w vs cs ->∀u∈vs,u.oneCell'=true
 |[],[],_ =>by simp
 | .string _ :: .slice _ _ _ ::_,_ ::_,⟨_,_,_,_,_,h6⟩=>by
  intro u hu;simp only[List.mem_cons]at hu;rcases hu with rfl|rfl|hu
  ·rfl
  ·rfl
  ·exact PcHas.one h6 u hu
theorem Grow.addList{Q:Nat ->Prop}{m e:Nat}{us:List Value}(h:Grow wB w s ds)(hx:Has w q us)(hpc:PcHas Q w us es)(hm:m=es.length)(hQ:∀x,Q x ->x<hn w/\x∉xD s.a)(hc:q=none ->e=0)(hbig:ds.length+es.length<=1000000000){K:pQ ->Nat ->Nat ->World ->Prop}
  (hK:∀s' w',Grow wB w' s' (ds++es) ->Fr (xD s.a) w w' ->(∀x∈xD s'.a,x∈xD s.a\/hn w<=x) ->K s'.a s'.len s'.cap w'):
  zQ Pg w #[50,50] 50 (.slice s.a s.len s.cap) (.slice q m e) K:=by
 obtain⟨F,vs,ho,hpc0,hl⟩:=h;have hul:=hpc.len;refine vZ ok50 F ho hx oQ hpc.one oQ hc ?_;intro p' c'' w' F' f' ho' hm';refine hK ⟨p',s.len+m,c''⟩ w' ⟨F',_,ho',?_,by simp[hl,hm]⟩ f' hm';have hsz:=f'.size;have step:∀x,(x<hn w/\x∉xD s.a) ->(x<hn w'/\x∉xD p'):=fun x hx=>⟨oQ,fun hx'=>(hm' x hx').elim hx.2 (fun h=>by omega)⟩;exact((hpc0.fr f' (fun x hx=>hx.2)).mono step).app ((hpc.fr f' (fun x hx=>(hQ x hx).2)).mono (fun x hx=>step x (hQ x hx)))
end
section
variable{w w' w0 wB:wQ}{E:Er}{k W H:Nat}{L:Bool}{pal:List Px}{cl:List Nat}{fl xs zs d0:bQ}{dr:List (bQ)}{p q:pQ}{l c c':Nat}{cs ds es r:List Ch}{hd dd:bQ}{nm:bQ}{s:Sl}{db rb kb crc:Nat}{d:Dec}{rs:bQ}
theorem RightAt.headed(h:RightAt w db k W H L pal cl d r)(hr:r.length<=(uV pal cl).length):jG d k W H L/\1<=d.stage/\d.stage<=3:=by
 rcases h with⟨_,_,_,e⟩|⟨h1,_,hh,_⟩|⟨h2,_,_,hh,_⟩|⟨h3,hh,_⟩
 ·rw[e,vY,List.length_cons]at hr
  omega
 ·exact⟨hh,oQ⟩
 ·exact⟨hh,oQ⟩
 ·exact⟨hh,oQ⟩
theorem qGo{ch:Ch}(h:Pcs w0 wB p l c cs)(hi:cs[0]? =some ch):∃g q c',p=some ⟨g,0,none⟩/\l<=c/\g<hn wB/\(∀w,Fr [] wB w ->atR (hp w g) 0=some (.string ⟨ch.1.toArray⟩)/\atR (hp w g) 1=some (.slice q ch.2.length c')/\Has w q (bv ch.2))/\(q=none ->c'=0)/\(∀x∈xD q,x<hn wB):=by
 obtain⟨b,vs,ho,hpc,hl,hb0,hb1,hb2⟩:=h;have hil:0<cs.length:=(List.getElem?_eq_some_iff.1 hi).1;obtain⟨q,m,c2,e1,e2,g1,g2,g3,g4⟩:=hpc.at hi;obtain⟨g,rfl,hlc⟩:=rE ho oQ;obtain⟨g',o,e,k1,k2⟩:=Has.at2 ho.has e1 e2;obtain⟨rfl,rfl⟩:g'=g/\o=0:=by cases e;exact⟨rfl,rfl⟩
 subst g2;have hg:=(ho.blk g' (by simp[xD])).2;refine⟨g',q,c2,rfl,hlc,hg,fun w f=>⟨?_,?_,g1.fr0 f⟩,g3,fun x hx=> ?_⟩
 ·rw[f.hp0 hg];exact k1
 ·rw[f.hp0 hg];exact k2
 ·cases q with
  |none=>simp[xD]at hx
  |some a=>
   have:a.block=b:=g4 a rfl;simp[xD]at hx;omega
theorem rK{b i:Nat}{n:ByteArray}{K:ByteArray ->Prop}(h:atR (hp w b) i=some (.string n))(hK:K n):LdS w ⟨b,i,none⟩ K:=by rw[vU,h,RdS_some];exact hK
theorem tZ{b i:Nat}{q:pQ}{l c:Nat}{K:pQ ->Nat ->Nat ->Prop}(h:atR (hp w b) i=some (.slice q l c))(hK:K q l c):qS w ⟨b,i,none⟩ K:=by rw[yT,h,RdSl_some];exact hK
theorem Made.cs_len(M:Made k W H L pal cl fl xs zs d0 dr):(xV k W H L pal cl d0 dr).length<=100000000:=by
 have:=yN M.okc.1;have:=M.len;unfold qU at this;rw[List.length_append]at this;omega
theorem Pcs.tail{n:Nat}{w1:wQ}(h:Pcs w0 wB p l c cs)(F:Fr [] wB w1)(hnl:n<l):∃us b,Has w1 (qR p c n 2) us/\PcHas (·=b) w1 us (cs.drop n)/\b<hn wB/\l -n=(cs.drop n).length/\qR p c n 2≠none:=by
 obtain⟨b,vs,ho,hpc,hl,hb0,hb1,hb2⟩:=h;refine⟨vs.drop (n*2),b,Own.from (ho.fr0 F) hnl,(hpc.fr F sQ).drop,hb1,by simp;omega,?_⟩;obtain⟨g,rfl,_⟩:=rE ho oQ;unfold qR
 split<;>simp
end
section
variable{w w' w0 wB:wQ}{E:Er}{k W H D C:Nat}{L:Bool}{pal:List Px}{cl:List Nat}{fl xs zs d0:bQ}{dr:List (bQ)}{p q:pQ}{l c c':Nat}{cs ds es r:List Ch}{hd dd:bQ}{nm:bQ}{s:Sl}{db rb kb crc:Nat}{d:Dec}{rs:bQ}
end
section
variable{w w' w0 wB:wQ}{E:Er}{k W H D C:Nat}{L:Bool}{pal:List Px}{cl:List Nat}{fl xs zs d0:bQ}{dr:List (bQ)}{p q:pQ}{l c c':Nat}{cs ds es r:List Ch}{hd dd:bQ}{nm:bQ}{s:Sl}{db rb kb crc:Nat}{d:Dec}{rs:bQ}
end
section
variable{w w' w0 w1 wB:wQ}{E:Er}{k W H D C:Nat}{L:Bool}{pal:List Px}{cl:List Nat}{fl xs zs d0:bQ}{dr:List (bQ)}{p q:pQ}{l c c':Nat}{cs ds es r:List Ch}{hd dd:bQ}{nm:bQ}{s:Sl}{db rb kb crc:Nat}{d:Dec}{rs:bQ}
theorem qCa:0<(chs (xZ (d0::dr))).length:=by
 rw[show xZ (d0::dr)=(nIDAT,d0)::xZ dr from rfl,qZ,List.length_append,xA rfl];omega
end
section
variable{w w' w0 w1 wB:wQ}{E:Er}{k W H D C:Nat}{L:Bool}{pal:List Px}{cl:List Nat}{fl xs zs d0:bQ}{dr:List (bQ)}{p q:pQ}{l c c':Nat}{cs ds es r:List Ch}{hd dd:bQ}{nm:bQ}{s:Sl}{db rb kb crc:Nat}{d:Dec}{rs:bQ}
end
section
variable{w w' w0 w1 wB:wQ}{E:Er}{k W H D C:Nat}{L:Bool}{pal:List Px}{cl:List Nat}{fl xs zs d0:bQ}{dr:List (bQ)}{p q:pQ}{l c c':Nat}{cs ds es r:List Ch}{hd dd:bQ}{nm:bQ}{db rb kb crc:Nat}{d:Dec}{rs:bQ}
theorem qGq{t:Option Bool}{s:Nat×Nat×bQ}{e0 rest ys:bQ}(hk:k<15)(hW:1<=W/\W<=20)(hH:1<=H/\H<=20)(hok:yW (qE k).2 (qE k).1 pal cl)(hA:Stp w0 w1 E db rb kb)(hR:RightAt w1 db k W H L pal cl d [])(hD:Dst w1 db rb kb p d crc (qV nIDAT e0++rest))(he0:e0.length<4294967296)
  (hF:Flow e0.length (yV 0 nIDAT) (e0++(xR (jJ (nIDAT++e0))++rest)) ys s)(hAt:cQ s)(hpre:ys<+:zs)(hor:ys=zs\/∃b,t=some b/\oN b s)(hs0:t=none ->s.1=0)(hZ:tE xs zs)(hxl:xs.length<32768):
  CallT Pg 60 #[.pointer (some ⟨db,0,none⟩),.bool false] w1 fun v w2=>Fr [rb] w0 w2/\
   ((v= .nilIface/\∃dd crc' rs',Dst w2 db rb kb p dd crc' (rs'.drop 4)/\dd.stage=4/\Flow 0 crc' rs' [] s/\4<=rs'.length/\be4 rs' 0=crc'/\(t=none ->GoodRows (if L then 1 else 0) W H (chN (qE k).1*(qE k).2) xs))\/
    (ErrD E v/\(t≠some false ->(∀crc rs,Flow 0 crc rs [] s ->4<=rs.length) ->∃sv,v= .iface 125 (.string sv))/\(t=none ->(∀crc rs,Flow 0 crc rs [] s ->4<=rs.length/\be4 rs 0=crc) ->¬GoodRows (if L then 1 else 0) W H (chN (qE k).1*(qE k).2) xs))):=by
 obtain⟨hh,hs,hp3,hut⟩:=hR.ready hok;obtain⟨bl,out,hS,hP,hzs⟩:=hZ;obtain⟨pt,IT,bpp,cp,hPK,hIT⟩:=pk_of hk d.useT hut;have hcb:=jT hk;have hd:Hd d (cbN (qE k).1 (qE k).2) (qE k).2 W H d.useT IT:=by
  refine⟨hh.W_,hh.H_,hh.D_,hh.cb_,rfl,fun e=> ?_,hW,hH⟩;obtain⟨_,n,cs,g,hpal,_,_,_,hn256⟩:=hp3 (hIT.1 e);rw[hpal];exact⟨rfl,hn256⟩
 obtain⟨h1,h2,h3,h4⟩:=yA (nm:=nIDAT) (d:=e0) (rest:=rest) rfl he0;have hsp:d.stage=1 ->¬(7<=d.cb/\d.cb<=10):=fun e hc=>by
  have:=hh.cb_;exact(hp3 (hcb.2.2 oQ)).1 e
 refine hD.c60 oQ fun w3 tmp s' F1 n1 D1=> ?_;rw[h2];have hnx:zT d nIDAT= .idat:=by
  unfold zT;rw[if_neg dQ,if_neg dQ,if_neg dQ,if_pos rfl,if_neg oQ,if_neg (fun hc=>hsp hc.1 hc.2),if_neg oQ]
 rw[hnx];dsimp only;intro hs4;subst hs4;rw[if_neg dQ,h1];rw[h2,h3]at D1;have hne':=hD.ne;have hlow:=hA.errs.low;have hlo:=hA.lo;have hd1:Hd {d with tmp:=tmp,stage:=4} (cbN (qE k).1 (qE k).2) (qE k).2 W H d.useT IT:=⟨hd.W_,hd.H_,hd.D_,hd.cb_,hd.u_,hd.pal,hd.lW,hd.lH⟩;have hlace:d.lace=0\/d.lace=1:=by rw[hh.lace_];cases L<;>simp
 refine CallT.mono (D1.c79 (t:=t) (s:=s) (ys:=ys) hPK (hA.errs.fr F1 (by simp;omega)) hlo he0 hF hAt (by rw[<-hzs];exact hpre) (by rw[<-hzs];exact hor) hxl hS hP (hA.lace.fr F1 oQ (by simp;omega)) hd1 hlace hs0) ?_;rintro v w2 ⟨F2,n2,⟨ib,pb,ex,dd,crc',rs',rfl,hI,hQ,l1,l2,hsd,hD',hFl,c1,c2,hG⟩|⟨he,hf,hg⟩⟩
 ·refine⟨hA.fr (F1.trans F2),.inl ⟨rfl,dd,crc',rs',hD',?_,hFl,c1,c2,fun e=> ?_⟩⟩
  ·obtain⟨a,b,rfl⟩:=hsd
   rfl
  ·have:=hG e
   rw[show({d with tmp:=tmp,stage:=4}:Dec).lace=d.lace from rfl,hh.lace_]at this;exact this
 ·refine⟨hA.fr (F1.trans F2),.inr ⟨he,hf,fun e hall=> ?_⟩⟩
  have:=hg e hall;rw[show({d with tmp:=tmp,stage:=4}:Dec).lace=d.lace from rfl,hh.lace_]at this;exact this
theorem wO{v:Value}{C:Int ->Prop}(h:∃sv,v= .iface 125 (.string sv))(hC:C 1):Bad E C v:=by obtain⟨sv,rfl⟩:=h;exact Bad.of125 hC
theorem qFa{e0 nm dd rest:bQ}{er es:List (bQ)}(M:Made k W H L pal cl fl xs zs d0 dr)(hds:e0::er++es=d0::dr)(hA:Stp w0 w1 E db rb kb)(hR:RightAt w1 db k W H L pal cl d [])(hD:Dst w1 db rb kb p d crc (chs (xZ (e0::er))++(qV nm dd++rest)))(hnl:nm.length=4)(hnm:nm≠nIDAT)(hdd:dd.length<4294967296){C:Int ->Prop}(hC:C 1):
  CallT Pg 60 #[.pointer (some ⟨db,0,none⟩),.bool false] w1 fun v w2=>Fr [rb] w0 w2/\(Bad E C v\/(v= .nilIface/\∃d' crc',Dst w2 db rb kb p d' crc' (qV nm dd++rest)/\d'.stage=4)):=by
 have hlen:∀x∈e0::er,x≠[]/\x.length<4294967296:=by
  intro x hx;have hx':x∈d0::dr:=by rw[<-hds];simp at hx⊢;rcases hx with h|h<;>simp[h]
  refine⟨M.ne x hx',?_⟩;have h1:x.length<=(d0::dr).flatten.length:=aI hx';have h2:=M.zlen;rw[M.flat]at h1;omega
 obtain⟨cl',hcl,hF⟩:=qCg (tail:=qV nm dd++rest) hlen;obtain⟨a1,a2,a3,a4⟩:=yA (nm:=nm) (d:=dd) (rest:=rest) hnl hdd;have hb4:be4 (xR cl'++(qV nm dd++rest)) 0=cl':=by rw[vF (by rw[xG];omega),vA hcl]
 have ech:chs (xZ (e0::er))++(qV nm dd++rest)=qV nIDAT e0++(chs (xZ er)++(qV nm dd++rest)):=by
  rw[show xZ (e0::er)=(nIDAT,e0)::xZ er from rfl,qZ,List.append_assoc]
 rw[ech]at hD;refine CallT.mono (qGq (t:=some true) (s:=(0,cl',xR cl'++(qV nm dd++rest))) (ys:=e0++er.flatten) M.hk M.hW M.hH M.ok hA hR hD (hlen e0 sQ).2 hF (.inl rfl) ?_ (.inr ⟨true,rfl,.inr ⟨rfl,.inr (.inr (.inr ⟨rfl,?_,hb4,?_⟩))⟩⟩) (fun e=>by cases e) M.zl M.xlen) ?_
 ·rw[<-M.flat,<-hds]
  exact⟨es.flatten,sQ⟩
 ·rw[List.length_append,xG]
  omega
 ·show((xR cl'++(qV nm dd++rest)).drop 8).take 4≠nIDAT
  rw[show(8:Nat)=4+4 from rfl,<-List.drop_drop,show(xR cl'++(qV nm dd++rest)).drop 4=qV nm dd++rest from rfl,a2];exact hnm
 ·rintro v w2 ⟨F,⟨rfl,dd',crc',rs',hD',h4,hFl,_⟩|⟨he,hf,_⟩⟩
  ·obtain⟨rfl,rfl⟩:=lJ hFl
   exact⟨F,.inr ⟨rfl,dd',_,hD',h4⟩⟩
  ·refine⟨F,.inl (wO (hf dQ fun crc rs hFl=> ?_) hC)⟩
   obtain⟨rfl,rfl⟩:=lJ hFl;rw[List.length_append,xG];omega
theorem qKd{l c n:Nat}{hd:bQ}(M:Made k W H L pal cl fl xs zs d0 dr)(hn1:1<=n)(hn2:n<(xV k W H L pal cl d0 dr).length)(hdl:hd.length<1000000)(hV:Env w E)(hx:Has w q (bv (qU ((xV k W H L pal cl d0 dr).take n++(nIHDR,hd)::(xV k W H L pal cl d0 dr).drop n))))(hl:l=(qU ((xV k W H L pal cl d0 dr).take n++(nIHDR,hd)::(xV k W H L pal cl d0 dr).drop n)).length)(hlb:l<1099511627776):
  CallT Pg 29 #[.slice q l c,.int .i64 1] w fun v w'=>v= .bool true/\Fr [] w w':=by
 have hlf:(zK W H (qE k).2 (qE k).1 L pal cl).length=(uV pal cl).length+1:=by rw[vY,List.length_cons]
 have hld:(xZ (d0::dr)).length=dr.length+1:=by simp[xZ]
 have eM:xV k W H L pal cl d0 dr=zK W H (qE k).2 (qE k).1 L pal cl++(xZ (d0::dr)++[(xW,[])]):=by unfold xV;rw[List.append_assoc]
 have hlm:(xV k W H L pal cl d0 dr).length=(uV pal cl).length+dr.length+3:=by rw[eM,List.length_append,List.length_append,hlf,hld,List.length_singleton];omega
 have hdl':hd.length<4294967296:=oQ;generalize hfo:zK W H (qE k).2 (qE k).1 L pal cl=fo at*
 by_cases h1:n<=fo.length
 ·have et:(xV k W H L pal cl d0 dr).take n=fo.take n:=by rw[eM,List.take_append_of_le_length h1]
  refine gP (a:=fo.take n) (r:=fo.drop n) (bad:=qV nIHDR hd++chs ((xV k W H L pal cl d0 dr).drop n)) (by rw[et,qU,xU,qZ]) hx hl hlb hV (by rw[hfo,List.take_append_drop]) M.hk M.hW M.hH M.ok (fun _ _ _ =>False) (fun{w0 w1 db rb kb p d crc} hA hD hR=> ?_) (fun _ _ h=>h.elim);obtain⟨_,hs⟩:=hR.headed (by rw[List.length_drop];omega);refine CallT.mono (uS (C:=(·=1)) hA hD rfl hdl' ?_ rfl) fun v w2 h=>⟨h.1,.inl h.2⟩;unfold zT;rw[if_pos rfl,if_pos oQ]
 ·obtain⟨j,rfl⟩:∃j,n=fo.length+j:=⟨n -fo.length,oQ⟩
  have hj1:1<=j:=oQ;have hj2:j<=dr.length+1:=oQ;have hdat:xZ (d0::dr)=xZ ((d0::dr).take j)++xZ ((d0::dr).drop j):=by rw[xZ,xZ,xZ,<-List.map_append,List.take_append_drop]
  have hltk:(xZ ((d0::dr).take j)).length=j:=by simp[xZ];omega
  have et:(xV k W H L pal cl d0 dr).take (fo.length+j)=fo++xZ ((d0::dr).take j):=by
   rw[eM,List.take_length_add_append,hdat,List.append_assoc,List.take_append_of_le_length oQ,List.take_of_length_le oQ]
  have ed:(xV k W H L pal cl d0 dr).drop (fo.length+j)=xZ ((d0::dr).drop j)++[(xW,[])]:=by
   rw[eM,List.drop_length_add_append,hdat,List.append_assoc,List.drop_append_of_le_length oQ,List.drop_of_length_le oQ,List.nil_append]
  rw[et,ed]at hx hl;obtain⟨e0,er,hee⟩:∃e0 er,(d0::dr).take j=e0::er:=by
   obtain⟨i,rfl⟩:∃i,j=i+1:=⟨j -1,oQ⟩;exact⟨_,_,List.take_succ_cons⟩
  have hds:e0::er++(d0::dr).drop j=d0::dr:=by rw[<-hee,List.take_append_drop]
  rw[hee]at hx hl;refine gP (a:=fo) (r:=[]) (bad:=chs (xZ (e0::er))++(qV nIHDR hd++chs (xZ ((d0::dr).drop j)++[(xW,[])]))) (by rw[qU,xU,xU,qZ];simp) hx hl hlb hV (by rw[hfo,List.append_nil]) M.hk M.hW M.hH M.ok (fun d _ rs=>d.stage=4/\rs=qV nIHDR hd++chs (xZ ((d0::dr).drop j)++[(xW,[])])) (fun{w0 w1 db rb kb p d crc} hA hD hR=> ?_) (fun{w0 w1 db rb kb p d crc rs} hA hD hG=> ?_)
  ·refine CallT.mono (qFa M hds hA hR hD rfl dQ hdl' (C:=(·=1)) rfl) ?_
   rintro v w2 ⟨F,hb|⟨rfl,d',crc',hD',h4⟩⟩
   ·exact⟨F,.inl hb⟩
   ·exact⟨F,.inr ⟨rfl,d',crc',_,hD',by have:=qCa (d0:=e0) (dr:=er);simp only[List.length_append];omega,h4,rfl⟩⟩
  ·obtain⟨h4,rfl⟩:=hG
   refine⟨oQ,uS (C:=(·=1)) hA hD rfl hdl' ?_ rfl⟩;unfold zT;rw[if_pos rfl,if_pos oQ]
end
def wp19(x0:Int)(x1:pQ)(x1l:Nat)(x1c:Nat)(x2:Int)(R:vPq)(w:wQ):Prop:=IfC (decide ((x1l:Int)>(2147483647:Int))) (R (.bool true) w) (CallT Pg 22 #[.slice x1 x1l x1c] w fun Z o=>∃p,And (Z= .bool p) (IfC (!p) (R (.bool true) o) (CallT Pg 27 #[.int .u32 x0,.slice x1 x1l x1c] o fun aa ab=>∃q r s,And (aa= .slice q r s) (CallT Pg 30 #[.slice q r s] ab fun ac ad=>∃d a b,And (ac= .slice d a b) (zH (wIq ((a:Int) -1)) (qO ad fun i=>And (0<=wIq ((1:Int)+(Int.tmod (wIq x2) (wIq ((a:Int) -1))))/\wIq ((1:Int)+(Int.tmod (wIq x2) (wIq ((a:Int) -1))))<=(b:Int)) (And (0<=(0:Int)/\(0:Int)<(a:Int)) (qN d fun c=>And (0<=wIq ((1:Int)+(Int.tmod (wIq x2) (wIq ((a:Int) -1))))/\wIq ((1:Int)+(Int.tmod (wIq x2) (wIq ((a:Int) -1))))<=(a:Int)) (LdS i c fun e=>qS i (aQq c 1) fun f g h=>And (qK i (.cells #[] 53) fun t j=>LdS j c fun ae=>qS j (aQq c 1) fun af ag ah=>And ((.agg #[.string ae,.slice af ag ah]:Value)= .agg #[.string e,.slice f g h]) (And (zQ Pg j #[50,50] 50 (.slice (some ⟨t,0,none⟩) 0 0) (.slice d ((wIq ((1:Int)+(Int.tmod (wIq x2) (wIq ((a:Int) -1))))).toNat) b) fun ai aj ak k=>LdS k c fun al=>qS k (aQq c 1) fun am ao ap=>And ((.agg #[.string al,.slice am ao ap]:Value)= .agg #[.string e,.slice f g h]) (qK k (.cells #[.string e,.slice f g h] 53) fun aq ar=>zQ Pg ar #[50,50] 50 (.slice ai aj ak) (.slice (some ⟨aq,0,none⟩) 1 1) fun au av aw ax=>zQ Pg ax #[50,50] 50 (.slice au av aw) (.slice (qR d b ((wIq ((1:Int)+(Int.tmod (wIq x2) (wIq ((a:Int) -1))))).toNat) 2) (a -((wIq ((1:Int)+(Int.tmod (wIq x2) (wIq ((a:Int) -1))))).toNat)) (b -((wIq ((1:Int)+(Int.tmod (wIq x2) (wIq ((a:Int) -1))))).toNat))) fun ay az ba bb=>CallT Pg 31 #[.slice d a b] bb fun bc bd=>∃u v y,And (bc= .slice u v y) (CallT Pg 28 #[.slice u v y] bd fun be z=>∃A,And (be= .bool A) (IfC A (CallT Pg 31 #[.slice ay az ba] z fun bf bg=>∃B C D,And (bf= .slice B C D) (CallT Pg 29 #[.slice B C D,iQq 1] bg fun bh bi=>∃E,And (bh= .bool E) (R (.bool E) bi))) (R (.bool false) z))))) (qK j (.cells #[.string e,.slice f g h] 53) fun bj bk=>zQ Pg bk #[50,50] 50 (.slice (some ⟨t,0,none⟩) 0 0) (.slice d ((wIq ((1:Int)+(Int.tmod (wIq x2) (wIq ((a:Int) -1))))).toNat) b) fun bl bm bn l=>LdS l c fun bo=>qS l (aQq c 1) fun bp bq br=>And ((.agg #[.string bo,.slice bp bq br]:Value)= .agg #[.string e,.slice f g h]) (zQ Pg l #[50,50] 50 (.slice bl bm bn) (.slice (some ⟨bj,0,none⟩) 1 1) fun bs bt bu bv=>zQ Pg bv #[50,50] 50 (.slice bs bt bu) (.slice (qR d b ((wIq ((1:Int)+(Int.tmod (wIq x2) (wIq ((a:Int) -1))))).toNat) 2) (a -((wIq ((1:Int)+(Int.tmod (wIq x2) (wIq ((a:Int) -1))))).toNat)) (b -((wIq ((1:Int)+(Int.tmod (wIq x2) (wIq ((a:Int) -1))))).toNat))) fun bw bx bz ca=>CallT Pg 31 #[.slice d a b] ca fun cb cc=>∃F G H,And (cb= .slice F G H) (CallT Pg 28 #[.slice F G H] cc fun cd I=>∃J,And (cd= .bool J) (IfC J (CallT Pg 31 #[.slice bw bx bz] I fun ce cf=>∃K L M,And (ce= .slice K L M) (CallT Pg 29 #[.slice K L M,iQq 1] cf fun cg ch=>∃N,And (cg= .bool N) (R (.bool N) ch))) (R (.bool false) I))))))) (qK i (.cells #[.string e,.slice f g h] 53) fun ci cj=>qK cj (.cells #[] 53) fun ck m=>LdS m c fun cl=>qS m (aQq c 1) fun cm cn co=>And ((.agg #[.string cl,.slice cm cn co]:Value)= .agg #[.string e,.slice f g h]) (zQ Pg m #[50,50] 50 (.slice (some ⟨ck,0,none⟩) 0 0) (.slice d ((wIq ((1:Int)+(Int.tmod (wIq x2) (wIq ((a:Int) -1))))).toNat) b) fun cp cq cr n=>LdS n c fun cs=>qS n (aQq c 1) fun ct cu cv=>And ((.agg #[.string cs,.slice ct cu cv]:Value)= .agg #[.string e,.slice f g h]) (zQ Pg n #[50,50] 50 (.slice cp cq cr) (.slice (some ⟨ci,0,none⟩) 1 1) fun cw cx cy cz=>zQ Pg cz #[50,50] 50 (.slice cw cx cy) (.slice (qR d b ((wIq ((1:Int)+(Int.tmod (wIq x2) (wIq ((a:Int) -1))))).toNat) 2) (a -((wIq ((1:Int)+(Int.tmod (wIq x2) (wIq ((a:Int) -1))))).toNat)) (b -((wIq ((1:Int)+(Int.tmod (wIq x2) (wIq ((a:Int) -1))))).toNat))) fun da db dc dd=>CallT Pg 31 #[.slice d a b] dd fun de df=>∃O P Q,And (de= .slice O P Q) (CallT Pg 28 #[.slice O P Q] df fun dg S=>∃T,And (dg= .bool T) (IfC T (CallT Pg 31 #[.slice da db dc] S fun dh di=>∃U V X,And (dh= .slice U V X) (CallT Pg 29 #[.slice U V X,iQq 1] di fun dj dk=>∃Y,And (dj= .bool Y) (R (.bool Y) dk))) (R (.bool false) S)))))))))))))))
theorem call19{x0:Int}{x1:pQ}{x1l:Nat}{x1c:Nat}{x2:Int}{R:vPq}{w:wQ}(h:wp19 x0 x1 x1l x1c x2 R w):CallT Pg 19 #[.int .u32 x0,.slice x1 x1l x1c,.int .u8 x2] w R:=cVq [] Tryz.func19 h
section
variable{w w' w0 w1 wB:wQ}{E:Er}{k W H D C:Nat}{L:Bool}{pal:List Px}{cl:List Nat}{fl xs zs d0:bQ}{dr:List (bQ)}{p q:pQ}{l c c':Nat}{cs ds es r:List Ch}{hd dd:bQ}{nm:bQ}{s:Sl}{db rb kb crc:Nat}{d:Dec}{rs:bQ}
theorem Pcs.head{n:Nat}{w1:wQ}(h:Pcs w0 wB p l c cs)(F:Fr [] wB w1)(hnl:n<=l):∃us b,Has w1 p us/\PcHas (·=b) w1 us (cs.take n)/\b<hn wB/\n=(cs.take n).length:=by
 obtain⟨b,vs,ho,hpc,hl,hb0,hb1,hb2⟩:=h;exact⟨vs.take (n*2),b,Has.takes (ho.fr0 F).has,(hpc.fr F sQ).take,hb1,by simp;omega⟩
theorem c19{n m:Nat}(hn32:n<4294967296)(hm:m<256){ss:List Nat}(hx:HasW w p (ss.map fun(s:Nat)=> .int .u16 (s:Int)))(hl:l=ss.length)(hV:Env w E):CallT Pg 19 #[.int .u32 n,.slice p l c,.int .u8 m] w fun v w'=>v= .bool true/\Fr [] w w':=by
 apply call19;unfold wp19 aQq wIq iQq;refine kZ (R:=fun v w'=>v= .bool true/\Fr [] w w') ⟨rfl,Fr.refl _ _⟩ fun hb=> ?_;refine gH hn32 hx hl hb fun{W H L pal cl fl xs zs d0 dr} M p1 l1 c1 w1 F1 h1=> ?_;have hml:=M.cs_len;have hm3:=mI (k:=n%15) (W:=W) (H:=H) (L:=L) (pal:=pal) (cl:=cl) (d0:=d0) (dr:=dr);have hl1:l1=(xV (n%15) W H L pal cl d0 dr).length:=by obtain⟨b,vs,_,_,h,_⟩:=h1;exact h
 have hdl:(xT W H (qE (n%15)).2 (qE (n%15)).1 L).length=13:=rfl;have hc0:=lO (k:=n%15) (W:=W) (H:=H) (L:=L) (pal:=pal) (cl:=cl) (d0:=d0) (dr:=dr);obtain⟨g,q,c2,rfl,hlc,hg,hat,hqc,hqb⟩:=qGo h1 hc0;obtain⟨hok,_⟩:=M.okc;have hlen:=M.len;have e1:wrap .i64 ((l1:Int) -(1:Int))=((l1 -1:Nat):Int):=by rw[qA oQ oQ];omega
 have e2:wrap .i64 (m:Int)=(m:Int):=qA oQ oQ;obtain⟨t,et,ht1,ht2⟩:∃t:Nat,wrap .i64 ((1:Int)+(Int.tmod (wrap .i64 (m:Int)) (wrap .i64 ((l1:Int) -(1:Int)))))=t/\1<=t/\t<l1:=by
  refine⟨1+m%(l1 -1),?_,oQ,by have:=Nat.mod_lt m (show 0<l1 -1 by omega);omega⟩;rw[e1,e2,show Int.tmod (m:Int) ((l1 -1:Nat):Int)=((m%(l1 -1):Nat):Int)from xQ m (l1 -1)];have:=Nat.mod_lt m (show 0<l1 -1 by omega);rw[qA oQ oQ];omega
 rw[et];rw[e1];have htold:=fun(w7:wQ) (q:pQ) (c l:Nat)=>qKd (w:=w7) (E:=E) (q:=q) (c:=c) (l:=l) (n:=t) (hd:=xT W H (qE (n%15)).2 (qE (n%15)).1 L) M ht1 oQ oQ;have hokd:kA ((xV (n%15) W H L pal cl d0 dr).take t++(nIHDR,xT W H (qE (n%15)).2 (qE (n%15)).1 L)::(xV (n%15) W H L pal cl d0 dr).drop t):=by
  intro x hx;simp only[List.mem_append,List.mem_cons]at hx;rcases hx with hx|rfl|hx
  ·exact hok x (List.mem_of_mem_take hx)
  ·exact⟨rfl,by show 13<_;decide⟩
  ·exact hok x (List.mem_of_mem_drop hx)
 have hltd:(qU ((xV (n%15) W H L pal cl d0 dr).take t++(nIHDR,xT W H (qE (n%15)).2 (qE (n%15)).1 L)::(xV (n%15) W H L pal cl d0 dr).drop t)).length<1099511627776:=by
  have e:chs (xV (n%15) W H L pal cl d0 dr)=chs ((xV (n%15) W H L pal cl d0 dr).take t)++chs ((xV (n%15) W H L pal cl d0 dr).drop t):=by rw[<-xU,List.take_append_drop]
  unfold qU at hlen⊢;rw[e]at hlen;rw[xU,qZ];simp only[List.length_append]at hlen⊢;rw[xA (nm:=nIHDR) rfl];omega
 generalize hhd:xT W H (qE (n%15)).2 (qE (n%15)).1 L=hd0 at*;refine xF oQ (qH fun w2 f2 n2=>⟨⟨oQ,oQ⟩,⟨oQ,oQ⟩,?_⟩);rw[PtrC_some];refine⟨⟨oQ,oQ⟩,?_⟩;dsimp only;rw[Int.toNat_natCast];have fin:∀(s:Sl) (w4:wQ),Grow w1 w4 s ((xV (n%15) W H L pal cl d0 dr).take t++(nIHDR,hd0)::(xV (n%15) W H L pal cl d0 dr).drop t) ->
   CallT Pg 31 #[.slice (some ⟨g,0,none⟩) l1 c1] w4 fun v44 w45=>Exists fun p46:pQ=>Exists fun l47:Nat=>Exists fun c48:Nat=>And (v44= .slice p46 l47 c48) (CallT Pg 28 #[.slice p46 l47 c48] w45 fun v49 w50=>Exists fun b51:Bool=>And (v49= .bool b51) (IfC b51 (CallT Pg 31 #[.slice s.a s.len s.cap] w50 fun v52 w53=>Exists fun p54:pQ=>Exists fun l55:Nat=>Exists fun c56:Nat=>And (v52= .slice p54 l55 c56) (CallT Pg 29 #[.slice p54 l55 c56,.int .i64 (1:Int)] w53 fun v57 w58=>Exists fun b59:Bool=>And (v57= .bool b59) ((Value.bool b59= .bool true)/\Fr [] w w58))) ((Value.bool false= .bool true)/\Fr [] w w50))):=by
  intro s w4 hG;refine uA M hV (F1.trans hG.1) (h1.fr0 hG.1) fun w5 F5 f5=>xC ?_;exact(hG.fr0 f5).told hV F5 hokd hltd (fun{w7 q c} hV7 hx7=>htold w7 q c _ hV7 hx7 rfl hltd) fun w6 F6=>⟨rfl,F6⟩
 have tail:∀(s:Sl) (w4:wQ) (K:pQ ->Nat ->Nat ->World ->Prop),Grow w1 w4 s ((xV (n%15) W H L pal cl d0 dr).take t++[(nIHDR,hd0)]) ->(∀s' w5,Grow w1 w5 s' ((xV (n%15) W H L pal cl d0 dr).take t++(nIHDR,hd0)::(xV (n%15) W H L pal cl d0 dr).drop t) ->K s'.a s'.len s'.cap w5) ->
   zQ Pg w4 #[50,50] 50 (.slice s.a s.len s.cap) (.slice (qR (some ⟨g,0,none⟩) c1 t 2) (l1 -t) (c1 -t)) K:=by
  intro s w4 K hG hK;obtain⟨us,b,hus,hpus,hb1,hlus,hnn⟩:=h1.tail hG.1 ht2;refine hG.addList hus hpus hlus (fun x hx=> ?_) (fun e=>absurd e hnn) (by simp;omega) fun s' w5 hG5 _ _ =>hK s' w5 (by simpa using hG5);have hxb:x=b:=hx;refine⟨by have:=hG.1.size;omega,fun hx'=>by have:=(hG.blk x hx').1;omega⟩
 have first:∀(r:Nat) (w4:wQ) (K:pQ ->Nat ->Nat ->World ->Prop),Grow w1 w4 ⟨some ⟨r,0,none⟩,0,0⟩ [] ->(∀s' w5,Grow w1 w5 s' ((xV (n%15) W H L pal cl d0 dr).take t) ->Fr [r] w4 w5 ->(∀x∈xD s'.a,x=r\/hn w4<=x) ->K s'.a s'.len s'.cap w5) ->
   zQ Pg w4 #[50,50] 50 (.slice (some ⟨r,0,none⟩) 0 0) (.slice (some ⟨g,0,none⟩) t c1) K:=by
  intro r w4 K hG hK;obtain⟨us,b,hus,hpus,hb1,hlus⟩:=h1.head hG.1 (show t<=l1 by omega);refine hG.addList hus hpus hlus (fun x hx=> ?_) (fun e=>by cases e) (by simp;omega) fun s' w5 hG5 f5 hm5=>hK s' w5 (by simpa using hG5) (f5.mono (by simp[xD])) (fun x hx=>(hm5 x hx).imp (by simp[xD]) id);have hxb:x=b:=hx;refine⟨by have:=hG.1.size;omega,fun hx'=>by have:=(hG.blk x hx').1;omega⟩
 have mid:∀(s:Sl) (r:Nat) (w4:wQ) (K:pQ ->Nat ->Nat ->World ->Prop),Grow w1 w4 s ((xV (n%15) W H L pal cl d0 dr).take t) ->hp w4 r=Row 53 #[.string ⟨nIHDR.toArray⟩,.slice q hd0.length c2] ->(∀s' w5,Grow w1 w5 s' ((xV (n%15) W H L pal cl d0 dr).take t++[(nIHDR,hd0)]) ->K s'.a s'.len s'.cap w5) ->
   zQ Pg w4 #[50,50] 50 (.slice s.a s.len s.cap) (.slice (some ⟨r,0,none⟩) 1 1) K:=by
  intro s r w4 K hG hr hK;refine hG.addList (Q:=fun x=>x∈xD q) (es:=[(nIHDR,hd0)]) (Has.of_row hr) ⟨rfl,(hat w4 hG.1).2.2,rfl,hqc,fun a ha=>by rw[ha];simp[xD],trivial⟩ rfl (fun x hx=> ?_) (fun e=>by cases e) (by simp;omega) fun s' w5 hG5 _ _ =>hK s' w5 hG5;exact⟨by have:=hqb x hx;have:=hG.1.size;omega,fun hx'=>by have:=(hG.blk x hx').1;have:=hqb x hx;omega⟩
 have hs2:=f2.size;refine rK (hat w2 f2).1 (tZ (hat w2 f2).2.1 ⟨?_,?_⟩)
 ·refine qF fun w3 h3 f3 n3=> ?_
  have F3:=f2.trans f3;have hG3:Grow w1 w3 ⟨some ⟨hn w2,0,none⟩,0,0⟩ []:=Grow.start h3 F3 hs2;refine rK (hat w3 F3).1 (tZ (hat w3 F3).2.1 ⟨rfl,?_,?_⟩)
  ·refine first _ w3 _ hG3 fun s4 w4 hG4 f4 _ => ?_
   refine rK (hat w4 hG4.1).1 (tZ (hat w4 hG4.1).2.1 ⟨rfl,?_⟩);refine qF fun w5 h5 f5 n5=> ?_;exact mid s4 _ w5 _ (hG4.fr0 f5) h5 fun s6 w6 hG6=>tail s6 w6 _ hG6 fun s7 w7 hG7=>fin s7 w7 hG7
  ·refine qF fun w4 h4 f4 n4=> ?_
   refine first _ w4 _ (hG3.fr0 f4) fun s5 w5 hG5 f5 hm5=> ?_;refine rK (hat w5 hG5.1).1 (tZ (hat w5 hG5.1).2.1 ⟨rfl,?_⟩);exact mid s5 _ w5 _ hG5 (f5.row1 h4 oQ) fun s6 w6 hG6=>tail s6 w6 _ hG6 fun s7 w7 hG7=>fin s7 w7 hG7
 ·refine qF fun w3 h3 f3 n3=> ?_
  refine qF fun w4 h4 f4 n4=> ?_;have F4:=(f2.trans f3).trans f4;have hs3:=f3.size;have hG4:Grow w1 w4 ⟨some ⟨hn w3,0,none⟩,0,0⟩ []:=Grow.start h4 F4 oQ;refine rK (hat w4 F4).1 (tZ (hat w4 F4).2.1 ⟨rfl,?_⟩);refine first _ w4 _ hG4 fun s5 w5 hG5 f5 _ => ?_;refine rK (hat w5 hG5.1).1 (tZ (hat w5 hG5.1).2.1 ⟨rfl,?_⟩);exact mid s5 _ w5 _ hG5 (f5.row1 (f4.row0 h3) oQ) fun s6 w6 hG6=>tail s6 w6 _ hG6 fun s7 w7 hG7=>fin s7 w7 hG7
end
section
variable{w w' w0 w1 wB:wQ}{E:Er}{k W H D C:Nat}{L:Bool}{pal:List Px}{cl:List Nat}{fl xs zs d0:bQ}{dr:List (bQ)}{p q:pQ}{l c c':Nat}{rb:Nat}
end
end Go.Proofs
