/- Contracts of the law and of what it walks -/
import Derived.Test.YtklagmhonmbdgaaGreatDoorK4
set_option maxRecDepth 1000000
set_option linter.unusedVariables false
set_option linter.unusedSimpArgs false
set_option maxHeartbeats 4000000
namespace Go.Proofs
open Go Go.V
open Go.IntKind (wrap)
section
variable{w w' w0:wQ}{rb db kb crc k W H:Nat}{L:Bool}{p:pQ}{E:Er}{pal:List Px}{cl:List Nat}{d:Dec}
structure Env (w:wQ) (E:Er):Prop where
 tab:Tab w
 errs:Errs w E
 lo:E.n0<=hn w
 lace:LaceAt w E.n0
 ety:ETyp w
theorem Env.fr0(h:Env w E)(f:Fr [] w w'):Env w' E:=⟨h.tab.fr f sQ,h.errs.fr f sQ,Nat.le_trans h.lo f.size,h.lace.fr f (by have:=h.errs.low;omega) sQ,h.ety.fr0 f⟩
def Bad(E:Er)(C:Int ->Prop)(v:Value):Prop:=ErrF E v/\∀e',outE E v e' ->ErrK e'/\C (bR e')
theorem Bad.of125{s:ByteArray}{C:Int ->Prop}(hC:C 1):Bad E C (.iface 125 (.string s)):=by
 refine⟨.inr (.inr ⟨125,s,dQ,rfl⟩),fun e' he=> ?_⟩;rcases he with⟨h,_⟩|⟨_,rfl⟩
 ·simp[zD]at h
 ·exact⟨.inl ⟨s,rfl⟩,hC⟩
theorem Refuse.bad{v:Value}(h:Refuse 125 v){C:Int ->Prop}(hC:C 1):Bad E C v:=by obtain⟨s,rfl,_⟩:=h;exact Bad.of125 hC
theorem c69t{xs:bQ}{C:Int ->Prop}(hr:RdAt w rb p xs)(hT:Tab w)(hE:Errs w E)(hlo:E.n0<=rb)(hrb:3<rb/\rb<hn w)(hp:∀a,p=some a ->3<a.block/\a.block<rb)(h8:8<=xs.length)(hsig:xs.take 8=sigL)(G:World ->Dec ->Nat ->bQ ->Prop)
  (start:∀w6 tmp,G w6 {wV (.iface 85 (.pointer (some ⟨rb,0,none⟩))) (hn w)with tmp:=tmp} 0 (xs.drop 8))
  (step:∀w1 d crc rs,Fr [rb] w w1 ->hn w+2<=hn w1 ->Errs w1 E ->Dst w1 (hn w+1) rb (hn w) p d crc rs ->G w1 d crc rs ->d.stage≠5/\CallT Pg 60 #[.pointer (some ⟨hn w+1,0,none⟩),.bool false] w1 fun v w2=>Fr [rb] w w2/\((v= .nilIface/\∃d' crc' rs',Dst w2 (hn w+1) rb (hn w) p d' crc' rs'/\rs'.length<rs.length/\G w2 d' crc' rs')\/Bad E C v)):
  CallT Pg 69 #[.iface 85 (.pointer (some ⟨rb,0,none⟩))] w fun v w'=>Fr [rb] w w'/\∃e,v= .tuple #[.nilIface,e]/\(ErrK e/\C (bR e)):=by
 have hlow:=hE.low;refine c69 hr hT hE hlo hrb hp h8 (fun w'=>Fr [rb] w w'/\hn w+2<=hn w'/\∃d crc rs,Dst w' (hn w+1) rb (hn w) p d crc rs/\G w' d crc rs) (fun w'=>left w' rb) ?_ ?_ ?_
 ·intro w6 tmp _ F6 n6 D6
  exact⟨F6,n6,_,_,_,D6,start w6 tmp⟩
 ·intro w6 s hs
  exact absurd hsig hs
 ·rintro w1 ⟨F1,n1,d,crc,rs,hD,hG⟩
  obtain⟨h5,hc⟩:=step w1 d crc rs F1 n1 (hE.fr F1 (by simp;omega)) hD hG;refine⟨d,crc,rs,hD,fun h=>absurd h h5,fun _ =>CallT.mono hc ?_⟩;rintro v w2 ⟨F2,⟨rfl,d',crc',rs',hD',hlt,hG'⟩|⟨hb,ho⟩⟩
  ·refine .inl ⟨rfl,⟨F2,by have:=zR hD'.dec;omega,_,_,_,hD',hG'⟩,?_⟩
   rw[hD.at_.left_eq,hD'.at_.left_eq];exact hlt
  ·refine .inr ⟨hb,hE.fr F2 (by simp;omega),fun e' he=>⟨F2,e',rfl,ho e' he⟩⟩
def uV(pal:List Px)(cl:List Nat):List Ch:=(if 0<pal.length then [(xX,xL pal)]else [])++((if zG pal then [(xJ,xM pal)]else [])++(if 0<cl.length then [(xJ,zX cl)]else []))
theorem vY{D C:Nat}:zK W H D C L pal cl=(nIHDR,xT W H D C L)::uV pal cl:=rfl
theorem dW{D C:Nat}(hok:yW D C pal cl)(hC:C=3):uV pal cl=(xX,xL pal)::(if zG pal then [(xJ,xM pal)]else []):=by
 obtain⟨q1,q2,q3⟩:=hok.pal3 hC;have hcl:=hok.cl0 oQ oQ;subst hcl;unfold uV;rw[if_pos (by omega:0<pal.length),show(if 0<([]:List Nat).length then [(xJ,zX [])]else [])=([]:List Ch)from rfl,List.append_nil,List.singleton_append]
theorem qCh{D C:Nat}(hok:yW D C pal cl)(hC:C≠3):uV pal cl=if 0<cl.length then [(xJ,zX cl)]else []:=by
 have hpn:=hok.paln hC;subst hpn
 rfl
def RightAt(w:wQ)(db k W H:Nat)(L:Bool)(pal:List Px)(cl:List Nat)(d:Dec)(r:List Ch):Prop:=
 (d.stage=0/\d.useT=false/\d.cb=0/\r=zK W H (qE k).2 (qE k).1 L pal cl)\/
 (d.stage=1/\d.useT=false/\jG d k W H L/\r=uV pal cl)\/
 (d.stage=2/\(qE k).1=3/\d.useT=false/\jG d k W H L/\kH w db d.pal pal.length (kK (xL pal) pal.length)/\r=if zG pal then [(xJ,xM pal)]else [])\/
 (d.stage=3/\jG d k W H L/\((qE k).1=3 ->∃n cs,kH w db d.pal n cs)/\(d.useT=true ->(qE k).1=0\/(qE k).1=2)/\r=[])
theorem RightAt.step{c:Ch}{r:List Ch}{tail:bQ}(h:RightAt w db k W H L pal cl d (c::r))(hD:Dst w db rb kb p d crc (qV c.1 c.2++tail))(hk:k<15)(hW:1<=W/\W<=20)(hH:1<=H/\H<=20)(hok:yW (qE k).2 (qE k).1 pal cl)(F0:Fr [rb] w0 w)(hkb:hn w0<=kb):
  CallT Pg 60 #[.pointer (some ⟨db,0,none⟩),.bool false] w fun v w'=>v= .nilIface/\Fr [rb] w0 w'/\∃d' crc',Dst w' db rb kb p d' crc' tail/\RightAt w' db k W H L pal cl d' r:=by
 have hne:=hD.ne;have hcb:=jT hk;have fr:∀{w':wQ},Fr [rb,kb,db] w w' ->Fr [rb] w0 w':=fun f=>F0.trans' f (fun x hx hlt=>by simp at hx⊢;omega);rcases h with⟨h0,hu,_,hr⟩|⟨h1,hu,hh,hr⟩|⟨h2,hC,hu,hh,hP,hr⟩|⟨_,_,_,_,hr⟩
 ·rw[vY]at hr
  obtain⟨rfl,rfl⟩:=List.cons.inj hr;refine CallT.mono (Dst.goodIHDR hD h0 oQ oQ hk) ?_;rintro v w2 ⟨rfl,F,tmp,crc',hD'⟩;exact⟨rfl,fr F,_,_,hD',.inr (.inl ⟨rfl,hu,⟨rfl,rfl,rfl,rfl,rfl⟩,rfl⟩)⟩
 ·by_cases hC:(qE k).1=3
  ·rw[dW hok hC]at hr
   obtain⟨rfl,rfl⟩:=List.cons.inj hr;obtain⟨q1,q2,q3⟩:=hok.pal3 hC;refine CallT.mono (Dst.goodPLTE hD h1 hh.D_ (vO hk).1 (by rw[hh.cb_];have:=hcb.2.1 hC;omega) oQ oQ q3) ?_;rintro v w2 ⟨rfl,F,tmp,crc',pl,hD',hP⟩;exact⟨rfl,fr F,_,_,hD',.inr (.inr (.inl ⟨rfl,hC,hu,⟨hh.W_,hh.H_,hh.D_,hh.cb_,hh.lace_⟩,hP,rfl⟩))⟩
  ·rw[qCh hok hC]at hr
   by_cases hcl:0<cl.length
   ·rw[if_pos hcl]at hr
    obtain⟨rfl,rfl⟩:=List.cons.inj hr;have hl:=hok.cll.resolve_left (List.length_pos_iff.1 hcl);have h02:(qE k).1=0\/(qE k).1=2:=by
     by_cases h0:(qE k).1=0
     ·exact .inl h0
     ·by_cases h2:(qE k).1=2
      ·exact .inr h2
      ·exact absurd (hok.cl0 h0 h2) (List.length_pos_iff.1 hcl)
    have hcc:=qFj hk;refine CallT.mono (qCi hD h1 ?_) ?_
    ·rw[mE,hl,hh.cb_]
     rcases h02 with h0|h2
     ·refine .inl ⟨by rw[h0];rfl,?_⟩
      have:=hcc.1 h0;omega
     ·refine .inr ⟨by rw[h2];rfl,?_⟩
      have:=hcc.2 h2;omega
    ·rintro v w2 ⟨rfl,F,n2,tmp,tr,crc',hD'⟩
     exact⟨rfl,fr F,_,_,hD',.inr (.inr (.inr ⟨rfl,⟨hh.W_,hh.H_,hh.D_,hh.cb_,hh.lace_⟩,fun e=>absurd e hC,fun _ =>h02,rfl⟩))⟩
   ·rw[if_neg hcl]at hr
    cases hr
 ·by_cases ha:zG pal=true
  ·rw[if_pos ha]at hr
   obtain⟨rfl,rfl⟩:=List.cons.inj hr;obtain⟨q1,q2,q3⟩:=hok.pal3 hC;have hal:(xM pal).length=pal.length:=by simp[xM]
   obtain⟨g,hpal,hdg,hrow,hcl,hn256⟩:=hP;refine CallT.mono (Dst.goodTRNS (al:=xM pal) hD h2 (by rw[hh.cb_];have:=hcb.2.1 hC;omega) ⟨g,hpal,hdg,hrow,hcl,hn256⟩ (mN _ _) oQ oQ) ?_;rintro v w2 ⟨rfl,hF,tmp,crc',pl,hD',_,hP'⟩;have F:=hF g (by rw[hpal]);exact⟨rfl,F0.trans' F (fun x hx hlt=>by simp at hx⊢;omega),_,_,hD',.inr (.inr (.inr ⟨rfl,⟨hh.W_,hh.H_,hh.D_,hh.cb_,hh.lace_⟩,fun _ =>⟨_,_,hP'⟩,(fun h=>by rw[hu]at h;cases h),rfl⟩))⟩
  ·rw[if_neg ha]at hr
   cases hr
 ·cases hr
end
section
variable{w w0 w1 w2:wQ}{rb db kb crc k W H:Nat}{L:Bool}{p q:pQ}{E:Er}{pal:List Px}{cl:List Nat}{d:Dec}
structure Stp (w0 w1:wQ) (E:Er) (db rb kb:Nat):Prop where
 F0:Fr [rb] w0 w1
 hkb:hn w0<=kb
 errs:Errs w1 E
 lace:LaceAt w1 E.n0
 lo:E.n0<=rb
 ord:kb<db
theorem Stp.fr(h:Stp w0 w1 E db rb kb)(f:Fr [rb,kb,db] w1 w2):Fr [rb] w0 w2:=h.F0.trans' f (fun x hx hlt=>by have:=h.hkb;have:=h.ord;simp at hx⊢;omega)
theorem wT{c:Ch}{b:List Ch}{t:bQ}:(chs b++t).length<(chs (c::b)++t).length:=by
 rw[qZ];simp only[List.length_append];have:4<=(qV c.1 c.2).length:=by unfold qV;simp only[List.length_append,xG];omega
 omega
theorem gP{l c:Nat}{a r:List Ch}{bad:bQ}{code:Int}{file:bQ}(ef:file=sigL++(chs a++bad))(hx:Has w q (bv file))(hl:l=file.length)(hlb:l<1099511627776)(hV:Env w E)
  (hfo:zK W H (qE k).2 (qE k).1 L pal cl=a++r)(hk:k<15)(hW:1<=W/\W<=20)(hH:1<=H/\H<=20)(hok:yW (qE k).2 (qE k).1 pal cl)(G2:Dec ->Nat ->bQ ->Prop)
  (hbad:∀{w0 w1:wQ} {db rb kb:Nat} {p:pQ} {d:Dec} {crc:Nat},Stp w0 w1 E db rb kb ->Dst w1 db rb kb p d crc bad ->RightAt w1 db k W H L pal cl d r ->
   CallT Pg 60 #[.pointer (some ⟨db,0,none⟩),.bool false] w1 fun v w2=>Fr [rb] w0 w2/\(Bad E (·=code) v\/(v= .nilIface/\∃d' crc' rs',Dst w2 db rb kb p d' crc' rs'/\rs'.length<bad.length/\G2 d' crc' rs')))
  (after:∀{w0 w1:wQ} {db rb kb:Nat} {p:pQ} {d:Dec} {crc:Nat} {rs:bQ},Stp w0 w1 E db rb kb ->Dst w1 db rb kb p d crc rs ->G2 d crc rs ->
   d.stage≠5/\CallT Pg 60 #[.pointer (some ⟨db,0,none⟩),.bool false] w1 fun v w2=>Fr [rb] w0 w2/\Bad E (·=code) v):
  CallT Pg 29 #[.slice q l c,.int .i64 code] w fun v w'=>v= .bool true/\Fr [] w w':=by
 subst ef;refine qAs (B:=fun e=>ErrK e/\bR e=code) hx hl hlb hV.tab hV.errs hV.lo hV.lace hV.ety (fun e h=>h) fun w2 rb p F2 hr hT2 hE2 hlo2 hrb hp hL2 _ => ?_;refine c69t (C:=(·=code)) hr hT2 hE2 hlo2 hrb hp (by simp[yB]) (kN _) (fun w' d crc rs=>(∃b,rs=chs b++bad/\RightAt w' (hn w2+1) k W H L pal cl d (b++r))\/G2 d crc rs) ?_ ?_
 ·intro w6 tmp
  rw[gU];exact .inl ⟨a,rfl,.inl ⟨rfl,rfl,rfl,hfo.symm⟩⟩
 ·intro w1 d crc rs F1 n1 E1 hD hG
  have hlow:=hE2.low;have hA:Stp w2 w1 E (hn w2+1) rb (hn w2):=⟨F1,Nat.le_refl _,E1,hL2.fr F1 oQ (by simp;omega),hlo2,oQ⟩;rcases hG with⟨b,rfl,hR⟩|hG
  ·have h5:d.stage≠5:=by rcases hR with h|h|h|h<;>omega
   refine⟨h5,?_⟩
   cases b with
   |nil=>
    refine CallT.mono (hbad hA hD hR) ?_;rintro v w3 ⟨F,hb|⟨rfl,d',crc',rs',hD',hlt,hg⟩⟩
    ·exact⟨F,.inr hb⟩
    ·exact⟨F,.inl ⟨rfl,d',crc',rs',hD',hlt,.inr hg⟩⟩
   |cons ch b=>
    have hD':=hD;rw[qZ,List.append_assoc]at hD';refine CallT.mono (RightAt.step hR hD' hk hW hH hok F1 (Nat.le_refl _)) ?_;rintro v w3 ⟨rfl,F,d',crc',hD2,hR2⟩;exact⟨F,.inl ⟨rfl,d',crc',_,hD2,wT,.inl ⟨b,rfl,hR2⟩⟩⟩
  ·obtain⟨h5,hc⟩:=after hA hD hG
   refine⟨h5,CallT.mono hc ?_⟩;rintro v w3 ⟨F,hb⟩;exact⟨F,.inr hb⟩
theorem uS{nm dd rest:bQ}(hA:Stp w0 w1 E db rb kb)(hD:Dst w1 db rb kb p d crc (qV nm dd++rest))(hnl:nm.length=4)(hdd:dd.length<4294967296)(hn:zT d nm= .refuse){C:Int ->Prop}(hC:C 1):
  CallT Pg 60 #[.pointer (some ⟨db,0,none⟩),.bool false] w1 fun v w2=>Fr [rb] w0 w2/\Bad E C v:=by
 obtain⟨h1,h2,h3,h4⟩:=yA (nm:=nm) (d:=dd) (rest:=rest) hnl hdd;refine hD.c60 oQ fun w3 tmp s F3 n3 D3=> ?_;rw[h2,hn];dsimp only;intro _ v hv;exact⟨hA.fr F3,hv.bad hC⟩
end
section
variable{w w' w0:wQ}{E:Er}{Q Q':Nat ->Prop}
theorem c30n{b o l c:Nat}{cs:List Ch}(hx:Has w (some ⟨b,o,none⟩) (bv (qU cs)))(hl:l=(qU cs).length)(hb:l<1099511627776)(hlc:l<=c)(hok:kA cs):
  CallT Pg 30 #[.slice (some ⟨b,o,none⟩) l c] w fun v w'=>∃vs,PcHas (·=b) w' vs cs/\RetR 53 2 w cs.length vs v w':=by
 apply call30;unfold wp30 wIq iQq;rw[zI];have hblt:b<hn w:=by obtain⟨_,T,arr,h1,_⟩:=hx;exact zR h1
 refine qP (fun z w'=>Fr [] w w'/\∃a r vs,cs=a++r/\z.2.1=((8+(chs a).length:Nat):Int)/\z.1.len=a.length/\PcHas (·=b) w' vs a/\Own w' (hn w) 53 2 z.1.a z.1.len z.1.cap vs)
  (fun z _ =>l+1 -z.2.1.toNat) ⟨Fr.alloc _ _ _,[],cs,[],rfl,by simp[chs],rfl,trivial,Own.new (w:=w) (e:=53) (size:=2) (cs:= #[]) (l:=0) (Nat.le_refl _) sQ⟩ ?_
 rintro⟨⟨q,n,m⟩,k,⟨⟩⟩ w1 ⟨hf,a,r,vs,rfl,rfl,rfl,hpc,ho⟩;simp only at ho;have hlen:l=8+(chs a).length+(chs r).length:=by rw[hl];simp[qU,sigL,xU];omega
 have ha:=yN (rC hok);have hr:=yN (mM hok);refine qG (fun h=> ?_) (fun h=> ?_)
 ·simp only at h
  rw[qA oQ oQ]at h
  cases r with
  |nil=>simp only[vJ,List.length_nil]at hlen;omega
  |cons ch r=>
   obtain⟨h4,hd⟩:=hok ch sQ;have hcl:=xA (data:=ch.2) h4;simp only[qZ,List.length_append]at hlen;dsimp only;refine CallT.mono (c46 (hx.fr0 hf) hl oQ oQ oQ) ?_;rintro _ _ ⟨rfl,rfl⟩;rw[Int.toNat_natCast,bX hd];refine⟨_,rfl,?_⟩;rw[zY];have hf2:=hf.drewR.drewR;have hx2:=hx.fr0 hf2;have e0:bv (qU (a++ch::r))=bv (sigL++chs a++xR ch.2.length)++(bv ch.1++bv (ch.2++xR (jJ (ch.1++ch.2))++chs r)):=by
    rw[lI,<-bv_append,<-bv_append];simp[qV]
   have e1:bv (qU (a++ch::r))=bv (sigL++chs a++xR ch.2.length++ch.1)++(bv ch.2++bv (xR (jJ (ch.1++ch.2))++chs r)):=by
    rw[lI,<-bv_append,<-bv_append];simp[qV]
   have hx3:=hx2;rw[e0]at hx2;rw[e1]at hx3;have g0:=Has.sub hx2;have g1:=Has.sub hx3;simp only[bv_length,List.length_append,xG,h4]at g0 g1;have es:sigL.length=8:=rfl;simp only[es]at g0 g1;simp (disch:=omega) only[qA];have t1:((((8+(chs a).length:Nat):Int)+4).toNat)=8+(chs a).length+4:=oQ;have t2:((((8+(chs a).length:Nat):Int)+8).toNat)=8+(chs a).length+4+4:=oQ;have t3:((((8+(chs a).length:Nat):Int)+8+(ch.2.length:Int)).toNat)=8+(chs a).length+4+4+ch.2.length:=oQ;simp only[t1,t2,t3];rw[slAdd_one _ _ _ _ oQ,slAdd_one _ _ _ _ oQ];refine⟨⟨oQ,oQ⟩,⟨oQ,oQ⟩,⟨oQ,oQ⟩,⟨oQ,oQ⟩,?_⟩;refine rX (xs:=ch.1) g0 oQ ?_;refine tD ok50 hf2 ((ho.fr0 (Fr.drew _ _)).fr0 (Fr.drew _ _)) sQ (by simp[Value.oneCell']) oQ ?_;intro q' m' w3 hf3 hf3' ho3;have hq:∀b',b'=b ->b'∉xD q:=by
    intro b' e hmem;have:=ho.blk _ hmem;omega
   refine⟨⟨hf3,a++[ch],r,_,sQ,?_,sQ,?_,ho3⟩,oQ⟩
   ·simp only[xU,qZ,vJ,List.length_append,List.append_nil,hcl];omega
   ·refine PcHas.snoc (g1.fr hf3' ?_) oQ sQ (by intro a ha;cases ha;rfl) (((hpc.fr (Fr.drew [] _) sQ).fr (Fr.drew [] _) sQ).fr hf3' hq)
    intro a' ha';cases ha';exact hq _ rfl
 ·simp only at h
  rw[qA oQ oQ]at h
  cases r with
  |cons ch r=>
   exfalso
   obtain⟨h4,hd⟩:=hok ch sQ;have hcl:=xA (data:=ch.2) h4;simp only[qZ,List.length_append]at hlen;omega
  |nil=>exact⟨vs,by simpa using hpc,hf,q,m,sQ,by simpa using ho⟩
theorem PcHas.mono(h:∀b,Q b ->Q' b):∀{vs:List Value} {cs:List Ch},PcHas Q w vs cs ->PcHas Q' w vs cs
 |[],[],_ =>trivial
 | .string _ :: .slice _ _ _ ::_,_ ::_,⟨h1,h2,h3,h4,h5,h6⟩=>⟨h1,h2,h3,h4,fun a ha=>h _ (h5 a ha),PcHas.mono h h6⟩
theorem PcHas.app:∀{vs us:List Value} {cs ds:List Ch},PcHas Q w vs cs ->PcHas Q w us ds ->PcHas Q w (vs++us) (cs++ds)
 |[],_,[],_,_,h=>h
 | .string _ :: .slice _ _ _ ::_,_,_ ::_,_,⟨h1,h2,h3,h4,h5,h6⟩,h=>⟨h1,h2,h3,h4,h5,PcHas.app h6 h⟩
theorem PcHas.drop:∀{n:Nat} {vs:List Value} {cs:List Ch},PcHas Q w vs cs ->PcHas Q w (vs.drop (n*2)) (cs.drop n)
 |0,vs,cs,h=>by simpa using h
 |n+1,[],[],h=>by simpa using h
 |n+1,.string _ :: .slice _ _ _ ::r,_ ::cs,⟨_,_,_,_,_,h6⟩=>by
  have:=PcHas.drop (n:=n) h6;rw[show(n+1)*2=n*2+1+1 by omega]
  simpa using this
theorem Own.from{base e size n l c:Nat}{p:pQ}{vs:List Value}(h:Own w base e size p l c vs)(hn:n<l):Has w (qR p c n size) (vs.drop (n*size)):=by
 obtain⟨hl,⟨_,h0,_⟩|⟨g,arr,rfl,hb,hg,hlc,hsz,hx⟩⟩:=h
 ·omega
 ·unfold qR
  rw[if_neg oQ];show Has w (some ((⟨g,0,none⟩:Addr).add (n*size))) _;rw[yP,Nat.zero_add];refine⟨rfl,e,arr,hg,fun j v hj=> ?_⟩;rw[List.getElem?_drop]at hj;exact hx _ _ hj
structure Made (k W H:Nat) (L:Bool) (pal:List Px) (cl:List Nat) (fl xs zs d0:bQ) (dr:List (bQ)):Prop where
 hk:k<15
 hW:1<=W/\W<=20
 hH:1<=H/\H<=20
 ok:yW (qE k).2 (qE k).1 pal cl
 rows:RowsOf (mH W H (qE k).2 (qE k).1 L) (gF fl) xs
 zl:tE xs zs
 flat:(d0::dr).flatten=zs
 ne:∀x∈d0::dr,x≠[]
 zlen:zs.length<=2097152
 xlen:xs.length<32768
def xV(k W H:Nat)(L:Bool)(pal:List Px)(cl:List Nat)(d0:bQ)(dr:List (bQ)):List Ch:=zK W H (qE k).2 (qE k).1 L pal cl++xZ (d0::dr)++[(xW,[])]
section
variable{k W H:Nat}{L:Bool}{pal:List Px}{cl:List Nat}{fl xs zs d0:bQ}{dr:List (bQ)}
theorem Made.okc(M:Made k W H L pal cl fl xs zs d0 dr):kA (xV k W H L pal cl d0 dr)/\(qU (xV k W H L pal cl d0 dr)).length<1099511627776:=by
 have hzp:0<zs.length:=by
  obtain⟨_,_,_,_,hz⟩:=M.zl;rw[hz];simp
 obtain⟨_,h1,h2,_⟩:=nJ (W:=W) (H:=H) (L:=L) M.hk M.ok hzp M.zlen M.flat M.ne;exact⟨h1,h2⟩
theorem Made.whole{q:pQ}{l c:Nat}{file:bQ}(M:Made k W H L pal cl fl xs zs d0 dr)(hV:Env w E)(hf:file=qU (xV k W H L pal cl d0 dr))(hx:Has w q (bv file))(hl:l=file.length):CallT Pg 28 #[.slice q l c] w fun v w'=>v= .bool true/\Fr [] w w':=
 qCy hf hx hl (by rw[hl,hf];exact M.okc.2) hV.tab hV.errs hV.lo hV.lace hV.ety M.hk M.hW M.hH M.ok M.rows M.zl M.flat M.ne M.zlen M.xlen
end
theorem nU{k W H:Nat}{L:Bool}{pal:List Px}{cl:List Nat}{v:Value}(hk:k<15)(hW:1<=W/\W<=20)(hH:1<=H/\H<=20)(hok:yW (qE k).2 (qE k).1 pal cl)(hF:oR w0 W H (qE k).2 (qE k).1 L pal cl v w):
  ∃fl xs zs d0 dr,Made k W H L pal cl fl xs zs d0 dr/\dL w0 (qU (xV k W H L pal cl d0 dr)) v w:=by
 obtain⟨fs,xs,zs,ds,_,hrows,hZ,hds,hne,hzl,hR⟩:=hF;have hD16:(qE k).2<=16:=by have:=(vO hk).1;omega
 cases ds with
 |nil=>
  obtain⟨bl,out,_,_,hz⟩:=hZ;rw[hz]at hds;simp at hds
 |cons d0 dr=>exact⟨fs,xs,zs,d0,dr,⟨hk,hW,hH,hok,hrows,hZ,hds,hne,hzl,aS hrows hW.2 hH.2 hD16⟩,hR⟩
def Pcs(w0 w:wQ)(p:pQ)(l c:Nat)(cs:List Ch):Prop:=∃b vs,Own w (hn w0) 53 2 p l c vs/\PcHas (·=b) w vs cs/\l=cs.length/\hn w0<=b/\b<hn w/\∀x∈xD p,b<x
theorem qDn{p:pQ}{base l c:Nat}{cs:List Ch}(h:Own w base 5 1 p l c (bv (qU cs)))(hl:l=(qU cs).length):∃b,p=some ⟨b,0,none⟩/\l<=c/\base<=b/\b<hn w:=by
 obtain⟨b,rfl,h1⟩:=pW h (by rw[hl];simp[qU,yB];omega);have:=h.at rfl;exact⟨b,rfl,h1,this.2.2.1,this.2.2.2⟩
theorem qBz{k W H:Nat}{L:Bool}{pal:List Px}{cl:List Nat}{fl xs zs d0:bQ}{dr:List (bQ)}{p:pQ}{l c:Nat}(M:Made k W H L pal cl fl xs zs d0 dr)(F:Fr [] w0 w)(h:Own w (hn w0) 5 1 p l c (bv (qU (xV k W H L pal cl d0 dr))))(hl:l=(qU (xV k W H L pal cl d0 dr)).length)
  {K:pQ ->Nat ->Nat ->World ->Prop}(hK:∀p l c w',Fr [] w0 w' ->Fr [] w w' ->Pcs w0 w' p l c (xV k W H L pal cl d0 dr) ->K p l c w'):
  CallT Pg 30 #[.slice p l c] w fun v w'=>Exists fun p':pQ=>Exists fun l':Nat=>Exists fun c':Nat=>And (v= .slice p' l' c') (K p' l' c' w'):=by
 obtain⟨b,rfl,hlc,hb0,hb1⟩:=qDn h hl;refine CallT.mono (c30n h.has hl (by rw[hl];exact M.okc.2) hlc M.okc.1) ?_;rintro v w' ⟨vs,hpc,f,q,c',rfl,ho⟩;refine⟨_,_,_,rfl,hK _ _ _ _ (F.trans f) f ⟨b,vs,ho.base_le F.size,hpc,rfl,hb0,Nat.lt_of_lt_of_le hb1 f.size,fun x hx=> ?_⟩⟩;have:=(ho.blk x hx).1;omega
theorem Pcs.glue{p:pQ}{l c:Nat}{cs:List Ch}(h:Pcs w0 w p l c cs)(hok:kA cs)(hb:(qU cs).length<1099511627776):CallT Pg 31 #[.slice p l c] w (dL w (qU cs)):=by
 obtain⟨b,vs,ho,hpc,hl,_,hb1,_⟩:=h;exact c31 ho.has hpc (fun x hx=>by have:x=b:=hx;omega) hl hb hok
theorem uA{k W H:Nat}{L:Bool}{pal:List Px}{cl:List Nat}{fl xs zs d0:bQ}{dr:List (bQ)}{p:pQ}{l c:Nat}(M:Made k W H L pal cl fl xs zs d0 dr)(hV:Env w0 E)(F:Fr [] w0 w)(h:Pcs w0 w p l c (xV k W H L pal cl d0 dr))
  {K:Bool ->World ->Prop}(hK:∀w',Fr [] w0 w' ->Fr [] w w' ->K true w'):
  CallT Pg 31 #[.slice p l c] w fun v w1=>Exists fun p':pQ=>Exists fun l':Nat=>Exists fun c':Nat=>And (v= .slice p' l' c') (CallT Pg 28 #[.slice p' l' c'] w1 fun v' w2=>Exists fun b:Bool=>And (v'= .bool b) (K b w2)):=by
 refine CallT.mono (h.glue M.okc.1 M.okc.2) ?_;rintro v w1 ⟨f,q,c',rfl,ho⟩;refine⟨_,_,_,rfl,CallT.mono (M.whole (hV.fr0 (F.trans f)) rfl ho.has rfl) ?_⟩;rintro v w2 ⟨rfl,f2⟩;exact⟨_,rfl,hK w2 ((F.trans f).trans f2) (f.trans f2)⟩
theorem lN{p:pQ}{l c:Nat}{vs:List Value}{cs:List Ch}{code:Int}(hV:Env w0 E)(F:Fr [] w0 w)(hp:Has w p vs)(hpc:PcHas Q w vs cs)(hQ:∀b,Q b ->b<hn w)(hl:l=cs.length)(hok:kA cs)(hb:(qU cs).length<1099511627776)
  (ht:∀{w1:wQ} {q:pQ} {c:Nat},Env w1 E ->Has w1 q (bv (qU cs)) ->CallT Pg 29 #[.slice q (qU cs).length c,.int .i64 code] w1 fun v w'=>v= .bool true/\Fr [] w1 w')
  {K:Bool ->World ->Prop}(hK:∀w',Fr [] w0 w' ->K true w'):
  CallT Pg 31 #[.slice p l c] w fun v w1=>Exists fun p':pQ=>Exists fun l':Nat=>Exists fun c':Nat=>And (v= .slice p' l' c') (CallT Pg 29 #[.slice p' l' c',.int .i64 code] w1 fun v' w2=>Exists fun b:Bool=>And (v'= .bool b) (K b w2)):=by
 refine CallT.mono (c31 hp hpc hQ hl hb hok) ?_;rintro v w1 ⟨f,q,c',rfl,ho⟩;refine⟨_,_,_,rfl,CallT.mono (ht (hV.fr0 (F.trans f)) ho.has) ?_⟩;rintro v w2 ⟨rfl,f2⟩;exact⟨_,rfl,hK w2 ((F.trans f).trans f2)⟩
theorem kZ{p:pQ}{l c:Nat}{R:vPq}{X:World ->Prop}(hR:R (.bool true) w)(hX:l<=1000 ->X w):
  IfC (decide ((l:Int)>(2147483647:Int))) (R (.bool true) w) (CallT Pg 22 #[.slice p l c] w fun v w2=>Exists fun b:Bool=>And (v= .bool b) (IfC (!b) (R (.bool true) w2) (X w2))):=by
 refine qG (fun _ =>hR) (fun _ =>CallT.mono c22 ?_);rintro v w2 ⟨rfl,rfl⟩;refine⟨_,rfl,?_⟩
 by_cases h:l<=1000
 ·rw[decide_eq_true h];exact hX h
 ·rw[decide_eq_false h];exact hR
theorem gH{n:Nat}(hn32:n<4294967296){p:pQ}{l c:Nat}{ss:List Nat}(hx:HasW w p (ss.map fun(s:Nat)=> .int .u16 (s:Int)))(hl:l=ss.length)(hb:l<=1000){K:pQ ->Nat ->Nat ->World ->Prop}
  (hK:∀{W H:Nat} {L:Bool} {pal:List Px} {cl:List Nat} {fl xs zs d0:bQ} {dr:List (bQ)},Made (n%15) W H L pal cl fl xs zs d0 dr ->∀p l c w',Fr [] w w' ->Pcs w w' p l c (xV (n%15) W H L pal cl d0 dr) ->K p l c w'):
  CallT Pg 27 #[.int .u32 n,.slice p l c] w fun v w1=>Exists fun p':pQ=>Exists fun l':Nat=>Exists fun c':Nat=>And (v= .slice p' l' c') (CallT Pg 30 #[.slice p' l' c'] w1 fun v' w2=>Exists fun p2:pQ=>Exists fun l2:Nat=>Exists fun c2:Nat=>And (v'= .slice p2 l2 c2) (K p2 l2 c2 w2)):=by
 refine CallT.mono (c27 hn32 hx hl hb) ?_;rintro v w1 ⟨W,H,L,pal,cl,hW,hH,hok,hF⟩;obtain⟨fl,xs,zs,d0,dr,M,f,q,c',rfl,ho⟩:=nU oQ hW hH hok hF;exact⟨_,_,_,rfl,qBz M f ho rfl fun p l c w' F _ h=>hK M p l c w' F h⟩
end
section
variable{w w' w0:wQ}{E:Er}{k W H:Nat}{L:Bool}{pal:List Px}{cl:List Nat}{fl xs zs d0:bQ}{dr:List (bQ)}{p q:pQ}{l c c':Nat}{cs:List Ch}{hd dd:bQ}{nm:bQ}
theorem Made.len(M:Made k W H L pal cl fl xs zs d0 dr):(qU (xV k W H L pal cl d0 dr)).length<1000000000:=by
 have hpl:pal.length<=9:=by
  by_cases h:(qE k).1=3
  ·exact(M.ok.pal3 h).2.1
  ·rw[M.ok.paln h];simp
 have hcll:cl.length<=4:=by
  have:=tF (qE k).1;rcases M.ok.cll with h|h
  ·rw[h];simp
  ·omega
 have hal:(xM pal).length=pal.length:=by simp[xM]
 have hsl:=vP pal;have hcL:=mE cl;have hdat:∀ds:List (bQ),(∀x∈ds,x≠[]) ->(chs (xZ ds)).length<=13*ds.flatten.length:=by
  intro ds
  induction ds with
  |nil=>intro _;simp[xZ,chs]
  |cons d r ih=>
   intro hne;have:=ih (fun x hx=>hne x (List.mem_cons_of_mem _ hx));have hd:1<=d.length:=List.length_pos_iff.2 (hne d sQ);have e:xZ (d::r)=(nIDAT,d)::xZ r:=rfl;rw[e,qZ,List.length_append,xA rfl,List.flatten_cons,List.length_append];dsimp only;omega
 have h1:=hdat _ M.ne;rw[M.flat]at h1;have hz:=M.zlen;unfold xV;rw[qU,List.length_append,xU,xU,List.length_append,List.length_append,zK,qZ,xU,xU];simp only[List.length_append];have e0:(qV nIHDR (xT W H (qE k).2 (qE k).1 L)).length=12+13:=xA rfl;have e1:(chs (if 0<pal.length then [(xX,xL pal)]else [])).length<=12+27:=by
  split
  ·rw[qZ,vJ,List.append_nil,xA rfl];dsimp only;omega
  ·simp[chs]
 have e2:(chs (if zG pal=true then [(xJ,xM pal)]else [])).length<=12+9:=by
  split
  ·rw[qZ,vJ,List.append_nil,xA rfl];dsimp only;omega
  ·simp[chs]
 have e3:(chs (if 0<cl.length then [(xJ,zX cl)]else [])).length<=12+8:=by
  split
  ·rw[qZ,vJ,List.append_nil,xA rfl];dsimp only;omega
  ·simp[chs]
 have e4:(chs [(xW,[])]).length=12:=rfl;rw[yB];omega
theorem rE{base e l c:Nat}{p:pQ}{vs:List Value}(h:Own w base e 2 p l c vs)(hl:0<l):∃b,p=some ⟨b,0,none⟩/\l<=c:=by
 rcases h with⟨_,⟨rfl,rfl,_⟩|⟨g,arr,rfl,_,_,hlc,_⟩⟩
 ·omega
 ·exact⟨g,rfl,hlc⟩
theorem lO:(xV k W H L pal cl d0 dr)[0]? =some (nIHDR,xT W H (qE k).2 (qE k).1 L):=rfl
end
section
variable{w w' w0:wQ}{E:Er}{k W H:Nat}{L:Bool}{pal:List Px}{cl:List Nat}{fl xs zs d0:bQ}{dr:List (bQ)}{p q:pQ}{l c c':Nat}{cs:List Ch}{hd dd:bQ}{nm:bQ}
theorem Pcs.fr0(h:Pcs w0 w p l c cs)(f:Fr [] w w'):Pcs w0 w' p l c cs:=by
 obtain⟨b,vs,ho,hpc,r⟩:=h;exact⟨b,vs,ho.fr0 f,hpc.fr f sQ,r.1,r.2.1,Nat.lt_of_lt_of_le r.2.2.1 f.size,r.2.2.2⟩
theorem mI:3<=(xV k W H L pal cl d0 dr).length:=by simp[xV,zK,xZ];omega
end
section
variable{w w' w0:wQ}
end
section
variable{w w' w0 wB:wQ}{E:Er}{k W H:Nat}{L:Bool}{pal:List Px}{cl:List Nat}{fl xs zs d0:bQ}{dr:List (bQ)}{p q:pQ}{l c c':Nat}{cs ds:List Ch}{hd dd:bQ}{nm:bQ}{s:Sl}
def Grow(wB w:wQ)(s:Sl)(ds:List Ch):Prop:=Fr [] wB w/\∃vs,Own w (hn wB) 53 2 s.a s.len s.cap vs/\PcHas (fun x=>x<hn w/\x∉xD s.a) w vs ds/\s.len=ds.length
theorem Grow.fr0(h:Grow wB w s ds)(f:Fr [] w w'):Grow wB w' s ds:=by
 obtain⟨F,vs,ho,hpc,hl⟩:=h;exact⟨F.trans f,vs,ho.fr0 f,(hpc.fr f sQ).mono (fun x hx=>⟨Nat.lt_of_lt_of_le hx.1 f.size,hx.2⟩),hl⟩
theorem Grow.told{w0:wQ}{code:Int}(h:Grow wB w s ds)(hV:Env w0 E)(F:Fr [] w0 w)(hok:kA ds)(hb:(qU ds).length<1099511627776)
  (ht:∀{w1:wQ} {q:pQ} {c:Nat},Env w1 E ->Has w1 q (bv (qU ds)) ->CallT Pg 29 #[.slice q (qU ds).length c,.int .i64 code] w1 fun v w'=>v= .bool true/\Fr [] w1 w')
  {K:Bool ->World ->Prop}(hK:∀w',Fr [] w0 w' ->K true w'):
  CallT Pg 31 #[.slice s.a s.len s.cap] w fun v w1=>Exists fun p':pQ=>Exists fun l':Nat=>Exists fun c':Nat=>And (v= .slice p' l' c') (CallT Pg 29 #[.slice p' l' c',.int .i64 code] w1 fun v' w2=>Exists fun b:Bool=>And (v'= .bool b) (K b w2)):=by
 obtain⟨_,vs,ho,hpc,hl⟩:=h;exact lN hV F ho.has hpc (fun x hx=>hx.1) hl hok hb ht hK
end
section
variable{w w' w0 wB:wQ}{E:Er}{k W H:Nat}{L:Bool}{pal:List Px}{cl:List Nat}{fl xs zs d0:bQ}{dr:List (bQ)}{p q:pQ}{l c c':Nat}{cs ds es:List Ch}{hd dd:bQ}{nm:bQ}{s:Sl}{db rb kb crc:Nat}{d:Dec}{rs:bQ}
theorem Dst.c78bad{len:Nat}(h:Dst w db rb kb p d crc rs)(hg:(d.cb=1\/d.cb=2\/d.cb=3\/d.cb=4\/d.cb=12) ->len≠2)(ht:(d.cb=6\/d.cb=14) ->len≠6)(hp:(7<=d.cb/\d.cb<=10) ->256<len):CallT Pg 78 #[.pointer (some ⟨db,0,none⟩),.int .u32 len] w fun v w'=>Refuse 125 v/\w'=w:=by
 apply call78;unfold wp78 aQq wIq iQq;refine qC h.dec d.at7 (qJ (fun z w'=>w'=w/\(z.1=true↔(d.cb=1\/d.cb=2\/d.cb=3\/d.cb=4\/d.cb=12))) ?_ ?_)
 ·rintro⟨z,⟨⟩⟩ w' ⟨rfl,hz⟩
  dsimp only at hz⊢;refine qT (fun e=>zC (fun _ =>⟨⟨_,rfl,dQ⟩,rfl⟩) (fun e2=>absurd (show len=2 by omega) (hg (hz.1 e)))) (fun _ => ?_);refine qJ (fun z w''=>w''=w'/\(z.1=true↔(d.cb=6\/d.cb=14))) ?_ ?_
  ·rintro⟨z,⟨⟩⟩ w'' ⟨rfl,hz⟩
   dsimp only at hz⊢;refine qT (fun e=>zC (fun _ =>⟨⟨_,rfl,dQ⟩,rfl⟩) (fun e2=>absurd (show len=6 by omega) (ht (hz.1 e)))) (fun _ => ?_);refine qJ (fun z w'=>w'=w''/\(z.1=true↔(7<=d.cb/\d.cb<=10))) ?_ ?_
   ·rintro⟨z,⟨⟩⟩ w' ⟨rfl,hz⟩
    dsimp only at hz⊢;refine qT (fun e=>qG (fun _ =>⟨⟨_,rfl,dQ⟩,rfl⟩) (fun e2=>absurd (hp (hz.1 e)) oQ)) (fun _ =>⟨⟨_,rfl,dQ⟩,rfl⟩)
   ·intro J hJ
    refine qQ (fun e=>hJ _ _ ⟨rfl,by simp[e]⟩) (fun e1=>qQ (fun e=>hJ _ _ ⟨rfl,by simp[e]⟩) (fun e2=>qQ (fun e=>hJ _ _ ⟨rfl,by simp[e]⟩) (fun e3=>hJ _ _ ⟨rfl,?_⟩)));simp only[beq_iff_eq];omega
  ·intro J hJ
   refine qQ (fun e=>hJ _ _ ⟨rfl,by simp[e]⟩) (fun e1=>hJ _ _ ⟨rfl,?_⟩);simp only[beq_iff_eq];omega
 ·intro J hJ
  refine qQ (fun e=>hJ _ _ ⟨rfl,by simp[e]⟩) (fun e1=>qQ (fun e=>hJ _ _ ⟨rfl,by simp[e]⟩) (fun e2=>qQ (fun e=>hJ _ _ ⟨rfl,by simp[e]⟩) (fun e3=>qQ (fun e=>hJ _ _ ⟨rfl,by simp[e]⟩) (fun e4=>hJ _ _ ⟨rfl,?_⟩))));simp only[beq_iff_eq];omega
theorem cX{w1:wQ}{dd rest:bQ}(hA:Stp w0 w1 E db rb kb)(hD:Dst w1 db rb kb p d crc (qV xJ dd++rest))(hdd:dd.length<4294967296)(hg:(d.cb=1\/d.cb=2\/d.cb=3\/d.cb=4\/d.cb=12) ->dd.length≠2)(ht:(d.cb=6\/d.cb=14) ->dd.length≠6)(hp:(7<=d.cb/\d.cb<=10) ->256<dd.length){C:Int ->Prop}(hC:C 1):
  CallT Pg 60 #[.pointer (some ⟨db,0,none⟩),.bool false] w1 fun v w2=>Fr [rb] w0 w2/\Bad E C v:=by
 obtain⟨h1,h2,h3,h4⟩:=yA (nm:=xJ) (d:=dd) (rest:=rest) rfl hdd;have hcase:zT d xJ= .refuse\/zT d xJ= .call 78 3:=by
  unfold zT;rw[if_neg dQ,if_neg dQ,if_pos rfl]
  repeat' split
  all_goals first|exact .inl rfl|exact .inr rfl
 rcases hcase with hc|hc
 ·exact uS hA hD rfl hdd hc hC
 ·refine hD.c60 oQ fun w3 tmp s F3 n3 D3=> ?_
  rw[h2,hc,h1];dsimp only;rintro rfl;refine CallT.mono (D3.c78bad hg ht hp) ?_;rintro v w4 ⟨hv,rfl⟩;exact⟨hA.fr F3,hv.bad hC⟩
theorem PcHas.one{Q:Nat ->Prop}:∀{vs:List Value} {cs:List Ch},PcHas Q w vs cs ->∀u∈vs,u.oneCell'=true
 |[],[],_ =>by simp
 | .string _ :: .slice _ _ _ ::_,_ ::_,⟨_,_,_,_,_,h6⟩=>by
  intro u hu;simp only[List.mem_cons]at hu;rcases hu with rfl|rfl|hu
  ·rfl
  ·rfl
  ·exact PcHas.one h6 u hu
theorem Grow.addList{Q:Nat ->Prop}{m e:Nat}{us:List Value}(h:Grow wB w s ds)(hx:Has w q us)(hpc:PcHas Q w us es)(hm:m=es.length)(hQ:∀x,Q x ->x<hn w/\x∉xD s.a)(hc:q=none ->e=0)(hbig:ds.length+es.length<=1000000000){K:pQ ->Nat ->Nat ->World ->Prop}
  (hK:∀s' w',Grow wB w' s' (ds++es) ->Fr (xD s.a) w w' ->(∀x∈xD s'.a,x∈xD s.a\/hn w<=x) ->K s'.a s'.len s'.cap w'):
  zQ Pg w #[50,50] 50 (.slice s.a s.len s.cap) (.slice q m e) K:=by
 obtain⟨F,vs,ho,hpc0,hl⟩:=h;have hul:=hpc.len;refine vZ ok50 F ho hx oQ hpc.one oQ hc ?_;intro p' c'' w' F' f' ho' hm';refine hK ⟨p',s.len+m,c''⟩ w' ⟨F',_,ho',?_,by simp[hl,hm]⟩ f' hm';have hsz:=f'.size;have step:∀x,(x<hn w/\x∉xD s.a) ->(x<hn w'/\x∉xD p'):=fun x hx=>⟨oQ,fun hx'=>(hm' x hx').elim hx.2 (fun h=>by omega)⟩;exact((hpc0.fr f' (fun x hx=>hx.2)).mono step).app ((hpc.fr f' (fun x hx=>(hQ x hx).2)).mono (fun x hx=>step x (hQ x hx)))
end
def wp5(x0:Int)(x1:pQ)(x1l:Nat)(x1c:Nat)(x2:Int)(R:vPq)(w:wQ):Prop:=IfC (decide ((x1l:Int)>(2147483647:Int))) (R (.bool true) w) (CallT Pg 22 #[.slice x1 x1l x1c] w fun A g=>∃h,And (A= .bool h) (IfC (!h) (R (.bool true) g) (zH 15 (zH 4 (CallT Pg 27 #[.int .u32 (wrap .u32 ((wrap .u32 ((wrap .u32 (x0 -(Int.tmod x0 15)))+11))+(Int.tmod x0 4))),.slice x1 x1l x1c] g fun B C=>∃i j k,And (B= .slice i j k) (CallT Pg 30 #[.slice i j k] C fun D E=>∃b a c,And (D= .slice b a c) (qO E fun e=>And (0<=(0:Int)/\(0:Int)<(a:Int)) (qN b fun d=>zH 40 (And (0<=(1:Int)/\(1:Int)<=(a:Int)) (LdS e d fun l=>qS e (aQq d 1) fun m n o=>And (0<=Int.tmod x2 40/\Int.tmod x2 40<=Int.tmod x2 40/\Int.tmod x2 40<=281474976710656/\(1:Int)*(Int.tmod x2 40)<=281474976710656) (qK e (.cells (uD Pg 5 ((Int.tmod x2 40).toNat)) 5) fun F f=>LdS f d fun G=>qS f (aQq d 1) fun H I J=>And ((.agg #[.string G,.slice H I J]:Value)= .agg #[.string l,.slice m n o]) (qK f (.cells #[.string l,.slice m n o,.string ⟨#[116,82,78,83]⟩,.slice (some ⟨F,0,none⟩) ((Int.tmod x2 40).toNat) ((Int.tmod x2 40).toNat)] 53) fun K L=>zQ Pg L #[50,50] 50 (.slice (some ⟨K,0,none⟩) 2 2) (.slice (qR b c 1 2) (a -1) (c -1)) fun M N O P=>CallT Pg 31 #[.slice b a c] P fun Q S=>∃p q r,And (Q= .slice p q r) (CallT Pg 28 #[.slice p q r] S fun T s=>∃t,And (T= .bool t) (IfC t (CallT Pg 31 #[.slice M N O] s fun U V=>∃u v y,And (U= .slice u v y) (CallT Pg 29 #[.slice u v y,iQq 1] V fun X Y=>∃z,And (X= .bool z) (R (.bool z) Y))) (R (.bool false) s)))))))))))))))
theorem call5{x0:Int}{x1:pQ}{x1l:Nat}{x1c:Nat}{x2:Int}{R:vPq}{w:wQ}(h:wp5 x0 x1 x1l x1c x2 R w):CallT Pg 5 #[.int .u32 x0,.slice x1 x1l x1c,.int .u8 x2] w R:=cVq [] Tryz.func5 h
section
variable{w w' w0 wB:wQ}{E:Er}{k W H:Nat}{L:Bool}{pal:List Px}{cl:List Nat}{fl xs zs d0:bQ}{dr:List (bQ)}{p q:pQ}{l c c':Nat}{cs ds es r:List Ch}{hd dd:bQ}{nm:bQ}{s:Sl}{db rb kb crc:Nat}{d:Dec}{rs:bQ}
theorem RightAt.headed(h:RightAt w db k W H L pal cl d r)(hr:r.length<=(uV pal cl).length):jG d k W H L/\1<=d.stage/\d.stage<=3:=by
 rcases h with⟨_,_,_,e⟩|⟨h1,_,hh,_⟩|⟨h2,_,_,hh,_⟩|⟨h3,hh,_⟩
 ·rw[e,vY,List.length_cons]at hr
  omega
 ·exact⟨hh,oQ⟩
 ·exact⟨hh,oQ⟩
 ·exact⟨hh,oQ⟩
theorem cI{r n:Nat}(h:hp w r=Row 5 (uD Pg 5 n)):Has w (some ⟨r,0,none⟩) (bv (List.replicate n 0)):=by
 have e:=Has.of_row h;rw[lZ c5u zc5]at e;have e2:bv (List.replicate n 0)=(Array.replicate n (Value.int .u8 0)).toList:=by simp[bv,u8v]
 rw[e2];exact e
theorem qGo{ch:Ch}(h:Pcs w0 wB p l c cs)(hi:cs[0]? =some ch):∃g q c',p=some ⟨g,0,none⟩/\l<=c/\g<hn wB/\(∀w,Fr [] wB w ->atR (hp w g) 0=some (.string ⟨ch.1.toArray⟩)/\atR (hp w g) 1=some (.slice q ch.2.length c')/\Has w q (bv ch.2))/\(q=none ->c'=0)/\(∀x∈xD q,x<hn wB):=by
 obtain⟨b,vs,ho,hpc,hl,hb0,hb1,hb2⟩:=h;have hil:0<cs.length:=(List.getElem?_eq_some_iff.1 hi).1;obtain⟨q,m,c2,e1,e2,g1,g2,g3,g4⟩:=hpc.at hi;obtain⟨g,rfl,hlc⟩:=rE ho oQ;obtain⟨g',o,e,k1,k2⟩:=Has.at2 ho.has e1 e2;obtain⟨rfl,rfl⟩:g'=g/\o=0:=by cases e;exact⟨rfl,rfl⟩
 subst g2;have hg:=(ho.blk g' (by simp[xD])).2;refine⟨g',q,c2,rfl,hlc,hg,fun w f=>⟨?_,?_,g1.fr0 f⟩,g3,fun x hx=> ?_⟩
 ·rw[f.hp0 hg];exact k1
 ·rw[f.hp0 hg];exact k2
 ·cases q with
  |none=>simp[xD]at hx
  |some a=>
   have:a.block=b:=g4 a rfl;simp[xD]at hx;omega
theorem rK{b i:Nat}{n:ByteArray}{K:ByteArray ->Prop}(h:atR (hp w b) i=some (.string n))(hK:K n):LdS w ⟨b,i,none⟩ K:=by rw[vU,h,RdS_some];exact hK
theorem tZ{b i:Nat}{q:pQ}{l c:Nat}{K:pQ ->Nat ->Nat ->Prop}(h:atR (hp w b) i=some (.slice q l c))(hK:K q l c):qS w ⟨b,i,none⟩ K:=by rw[yT,h,RdSl_some];exact hK
theorem Made.cs_len(M:Made k W H L pal cl fl xs zs d0 dr):(xV k W H L pal cl d0 dr).length<=100000000:=by
 have:=yN M.okc.1;have:=M.len;unfold qU at this;rw[List.length_append]at this;omega
theorem Pcs.tail{n:Nat}{w1:wQ}(h:Pcs w0 wB p l c cs)(F:Fr [] wB w1)(hnl:n<l):∃us b,Has w1 (qR p c n 2) us/\PcHas (·=b) w1 us (cs.drop n)/\b<hn wB/\l -n=(cs.drop n).length/\qR p c n 2≠none:=by
 obtain⟨b,vs,ho,hpc,hl,hb0,hb1,hb2⟩:=h;refine⟨vs.drop (n*2),b,Own.from (ho.fr0 F) hnl,(hpc.fr F sQ).drop,hb1,by simp;omega,?_⟩;obtain⟨g,rfl,_⟩:=rE ho oQ;unfold qR
 split<;>simp
theorem qEz(hk:k<15)(h:11<=k)(x:Int)(hx:x=(cbN (qE k).1 (qE k).2:Nat)):¬(x=1\/x=2\/x=3\/x=4\/x=12)/\¬(x=6\/x=14)/\¬(7<=x/\x<=10):=by
 subst hx;obtain rfl|rfl|rfl|rfl:=(by omega:k=11\/k=12\/k=13\/k=14)<;>decide
theorem qJg{n a b:Nat}(hn:n<4294967296)(hab:a+b<15)(hb:n=4294967295 ->b=3)(ha:7<=a):∃n':Nat,wrap .u32 ((wrap .u32 ((wrap .u32 ((n:Int) -((n%15:Nat):Int)))+(a:Int)))+(b:Int))=n'/\n'<4294967296/\a<=n'%15:=by
 by_cases h:n=4294967295
 ·have:=hb h
  subst h;subst this;refine⟨a+2,?_,oQ,oQ⟩;rw[xI (n:=((4294967295:Nat):Int) -_) dQ dQ];simp only[lT];omega
 ·have h1:n -n%15<=4294967280:=oQ
  refine⟨n -n%15+a+b,?_,oQ,oQ⟩;rw[xI (n:=(n:Int) -_) oQ oQ,xI (n:=(n:Int) -_ +_) oQ oQ,xI oQ oQ];omega
theorem c5{n m:Nat}(hn32:n<4294967296)(hm:m<256){ss:List Nat}(hx:HasW w p (ss.map fun(s:Nat)=> .int .u16 (s:Int)))(hl:l=ss.length)(hV:Env w E):CallT Pg 5 #[.int .u32 n,.slice p l c,.int .u8 m] w fun v w'=>v= .bool true/\Fr [] w w':=by
 apply call5;unfold wp5 aQq iQq;refine kZ (R:=fun v w'=>v= .bool true/\Fr [] w w') ⟨rfl,Fr.refl _ _⟩ fun hb=> ?_;refine xF dQ (xF dQ ?_);obtain⟨n',en,hn',hk⟩:∃n':Nat,wrap .u32 ((wrap .u32 ((wrap .u32 ((n:Int) -(Int.tmod (n:Int) (15:Int))))+(11:Int)))+(Int.tmod (n:Int) (4:Int)))=n'/\n'<4294967296/\11<=n'%15:=by
  rw[show Int.tmod (n:Int) 15=((n%15:Nat):Int)from xQ n 15,show Int.tmod (n:Int) 4=((n%4:Nat):Int)from xQ n 4];exact qJg hn32 (a:=11) (b:=n%4) oQ oQ oQ
 rw[en];refine gH hn' hx hl hb fun{W H L pal cl fl xs zs d0 dr} M p1 l1 c1 w1 F1 h1=> ?_;have hk15:=M.hk;generalize n'%15=k at*;obtain⟨hok,hlen⟩:=M.okc;have hml:=M.cs_len;have hm3:=mI (k:=k) (W:=W) (H:=H) (L:=L) (pal:=pal) (cl:=cl) (d0:=d0) (dr:=dr);have hl1:l1=(xV k W H L pal cl d0 dr).length:=by obtain⟨b,vs,_,_,h,_⟩:=h1;exact h
 obtain⟨g,q,c2,rfl,hlc,hg,hat,hqc,hqb⟩:=qGo h1 (lO (k:=k) (W:=W) (H:=H) (L:=L) (pal:=pal) (cl:=cl) (d0:=d0) (dr:=dr));refine qH fun w2 f2 n2=>⟨⟨oQ,oQ⟩,?_⟩;rw[PtrC_some];have e40:Int.tmod (m:Int) (40:Int)=((m%40:Nat):Int):=xQ m 40;rw[e40];have ht:m%40<40:=Nat.mod_lt _ dQ;generalize m%40=t at*;refine xF dQ ⟨⟨oQ,oQ⟩,?_⟩;dsimp only;refine rK (hat w2 f2).1 (tZ (hat w2 f2).2.1 ⟨⟨oQ,oQ,oQ,oQ⟩,?_⟩);rw[Int.toNat_natCast];refine qF fun w3 h3 f3 n3=> ?_;have F3:=f2.trans f3;refine rK (hat w3 F3).1 (tZ (hat w3 F3).2.1 ⟨rfl,?_⟩);refine qF fun w4 h4 f4 n4=> ?_;have F4:=F3.trans f4;have hz4:=(cI h3).fr0 f4;have hr3:=zR h3;have hr2:hn w1<=hn w2:=f2.size;have hG4:Grow w1 w4 ⟨some ⟨hn w3,0,none⟩,2,2⟩ [(nIHDR,xT W H (qE k).2 (qE k).1 L),(xJ,List.replicate t 0)]:=by
  refine⟨F4,_,Own.of_row h4 oQ rfl,?_,rfl⟩;refine⟨rfl,(hat w4 F4).2.2,rfl,hqc,fun a ha=> ?_,rfl,hz4,sQ,sQ,fun a ha=> ?_,trivial⟩
  ·have:=hqb a.block (by rw[ha];simp[xD])
   simp[xD];omega
  ·cases ha
   simp[xD];omega
 obtain⟨us,b,hus,hpus,hb1,hlus,hnn⟩:=h1.tail F4 (show 1<l1 by omega);have hds:(xV k W H L pal cl d0 dr).drop 1=uV pal cl++xZ (d0::dr)++[(xW,[])]:=rfl;refine hG4.addList hus hpus hlus (fun x hx=> ?_) (fun e=>absurd e hnn) (by simp;omega) fun s' w5 hG5 f5 _ => ?_
 ·have:x=b:=hx
  simp[xD];omega
 ·have F5:=F1.trans hG5.1
  refine uA M hV F5 (h1.fr0 hG5.1) fun w6 F6 f6=>xC ?_;have hds2:kA ([(nIHDR,xT W H (qE k).2 (qE k).1 L),(xJ,List.replicate t 0)]++(xV k W H L pal cl d0 dr).drop 1):=by
   intro x hx;simp only[List.cons_append,List.nil_append,List.mem_cons]at hx;rcases hx with rfl|rfl|hx
   ·exact⟨rfl,by show 13<_;decide⟩
   ·exact⟨rfl,by simp;omega⟩
   ·exact hok x (List.mem_of_mem_drop hx)
  have hlt:(qU ([(nIHDR,xT W H (qE k).2 (qE k).1 L),(xJ,List.replicate t 0)]++(xV k W H L pal cl d0 dr).drop 1)).length<1099511627776:=by
   have e1:=M.len;rw[show xV k W H L pal cl d0 dr=(nIHDR,xT W H (qE k).2 (qE k).1 L)::(xV k W H L pal cl d0 dr).drop 1 from rfl,qU,qZ,List.length_append,List.length_append]at e1;rw[qU,List.cons_append,List.cons_append,List.nil_append,qZ,qZ,List.length_append,List.length_append,List.length_append,xA (nm:=xJ) rfl,List.length_replicate];omega
  refine(hG5.fr0 f6).told hV F6 hds2 hlt (fun{w7 q c} hV7 hx7=> ?_) fun w8 F8=>⟨rfl,F8⟩;refine gP (a:=[(nIHDR,xT W H (qE k).2 (qE k).1 L)]) (r:=uV pal cl) (bad:=qV xJ (List.replicate t 0)++chs ((xV k W H L pal cl d0 dr).drop 1)) (by rw[qU,List.cons_append,List.cons_append,List.nil_append,qZ,qZ,qZ,vJ];simp) hx7 rfl hlt hV7 rfl M.hk M.hW M.hH M.ok (fun _ _ _ =>False) (fun{w0 w1 db rb kb p d crc} hA hD hR=> ?_) (fun _ _ h=>h.elim);obtain⟨hh,_⟩:=hR.headed (Nat.le_refl _);obtain⟨a1,a2,a3⟩:=qEz hk15 hk d.cb hh.cb_;exact CallT.mono (cX (C:=(·=1)) hA hD (by simp;omega) (fun h=>absurd h a1) (fun h=>absurd h a2) (fun h=>absurd h a3) rfl) fun v w2 h=>⟨h.1,.inl h.2⟩
end
section
variable{w w' w0 wB:wQ}{E:Er}{k W H D C:Nat}{L:Bool}{pal:List Px}{cl:List Nat}{fl xs zs d0:bQ}{dr:List (bQ)}{p q:pQ}{l c c':Nat}{cs ds es r:List Ch}{hd dd:bQ}{nm:bQ}{s:Sl}{db rb kb crc:Nat}{d:Dec}{rs:bQ}
end
section
variable{w w' w0 wB:wQ}{E:Er}{k W H D C:Nat}{L:Bool}{pal:List Px}{cl:List Nat}{fl xs zs d0:bQ}{dr:List (bQ)}{p q:pQ}{l c c':Nat}{cs ds es r:List Ch}{hd dd:bQ}{nm:bQ}{s:Sl}{db rb kb crc:Nat}{d:Dec}{rs:bQ}
end
section
variable{w w' w0 w1 wB:wQ}{E:Er}{k W H D C:Nat}{L:Bool}{pal:List Px}{cl:List Nat}{fl xs zs d0:bQ}{dr:List (bQ)}{p q:pQ}{l c c':Nat}{cs ds es r:List Ch}{hd dd:bQ}{nm:bQ}{s:Sl}{db rb kb crc:Nat}{d:Dec}{rs:bQ}
end
section
variable{w w' w0 w1 wB:wQ}{E:Er}{k W H D C:Nat}{L:Bool}{pal:List Px}{cl:List Nat}{fl xs zs d0:bQ}{dr:List (bQ)}{p q:pQ}{l c c':Nat}{cs ds es r:List Ch}{hd dd:bQ}{nm:bQ}{s:Sl}{db rb kb crc:Nat}{d:Dec}{rs:bQ}
end
section
variable{w w' w0 w1 wB:wQ}{E:Er}{k W H D C:Nat}{L:Bool}{pal:List Px}{cl:List Nat}{fl xs zs d0:bQ}{dr:List (bQ)}{p q:pQ}{l c c':Nat}{cs ds es r:List Ch}{hd dd:bQ}{nm:bQ}{db rb kb crc:Nat}{d:Dec}{rs:bQ}
end
section
variable{w w' w0 w1 wB:wQ}{E:Er}{k W H D C:Nat}{L:Bool}{pal:List Px}{cl:List Nat}{fl xs zs d0:bQ}{dr:List (bQ)}{p q:pQ}{l c c':Nat}{cs ds es r:List Ch}{hd dd:bQ}{nm:bQ}{s:Sl}{db rb kb crc:Nat}{d:Dec}{rs:bQ}
end
section
variable{w w' w0 w1 wB:wQ}{E:Er}{k W H D C:Nat}{L:Bool}{pal:List Px}{cl:List Nat}{fl xs zs d0:bQ}{dr:List (bQ)}{p q:pQ}{l c c':Nat}{rb:Nat}
end
end Go.Proofs
