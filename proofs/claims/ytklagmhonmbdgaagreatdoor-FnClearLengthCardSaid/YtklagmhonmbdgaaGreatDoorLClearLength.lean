/- Contracts of the law and of what it walks -/
import Derived.Test.YtklagmhonmbdgaaGreatDoorK4
set_option maxRecDepth 1000000
set_option linter.unusedVariables false
set_option linter.unusedSimpArgs false
set_option maxHeartbeats 4000000
namespace Go.Proofs
open Go Go.V
open Go.IntKind (wrap)
section
variable{w w' w0:wQ}{rb db kb crc k W H:Nat}{L:Bool}{p:pQ}{E:Er}{pal:List Px}{cl:List Nat}{d:Dec}
structure Env (w:wQ) (E:Er):Prop where
 tab:Tab w
 errs:Errs w E
 lo:E.n0<=hn w
 lace:LaceAt w E.n0
 ety:ETyp w
theorem Env.fr0(h:Env w E)(f:Fr [] w w'):Env w' E:=⟨h.tab.fr f sQ,h.errs.fr f sQ,Nat.le_trans h.lo f.size,h.lace.fr f (by have:=h.errs.low;omega) sQ,h.ety.fr0 f⟩
def Bad(E:Er)(C:Int ->Prop)(v:Value):Prop:=ErrF E v/\∀e',outE E v e' ->ErrK e'/\C (bR e')
theorem Bad.of125{s:ByteArray}{C:Int ->Prop}(hC:C 1):Bad E C (.iface 125 (.string s)):=by
 refine⟨.inr (.inr ⟨125,s,dQ,rfl⟩),fun e' he=> ?_⟩;rcases he with⟨h,_⟩|⟨_,rfl⟩
 ·simp[zD]at h
 ·exact⟨.inl ⟨s,rfl⟩,hC⟩
theorem Refuse.bad{v:Value}(h:Refuse 125 v){C:Int ->Prop}(hC:C 1):Bad E C v:=by obtain⟨s,rfl,_⟩:=h;exact Bad.of125 hC
theorem c69t{xs:bQ}{C:Int ->Prop}(hr:RdAt w rb p xs)(hT:Tab w)(hE:Errs w E)(hlo:E.n0<=rb)(hrb:3<rb/\rb<hn w)(hp:∀a,p=some a ->3<a.block/\a.block<rb)(h8:8<=xs.length)(hsig:xs.take 8=sigL)(G:World ->Dec ->Nat ->bQ ->Prop)
  (start:∀w6 tmp,G w6 {wV (.iface 85 (.pointer (some ⟨rb,0,none⟩))) (hn w)with tmp:=tmp} 0 (xs.drop 8))
  (step:∀w1 d crc rs,Fr [rb] w w1 ->hn w+2<=hn w1 ->Errs w1 E ->Dst w1 (hn w+1) rb (hn w) p d crc rs ->G w1 d crc rs ->d.stage≠5/\CallT Pg 60 #[.pointer (some ⟨hn w+1,0,none⟩),.bool false] w1 fun v w2=>Fr [rb] w w2/\((v= .nilIface/\∃d' crc' rs',Dst w2 (hn w+1) rb (hn w) p d' crc' rs'/\rs'.length<rs.length/\G w2 d' crc' rs')\/Bad E C v)):
  CallT Pg 69 #[.iface 85 (.pointer (some ⟨rb,0,none⟩))] w fun v w'=>Fr [rb] w w'/\∃e,v= .tuple #[.nilIface,e]/\(ErrK e/\C (bR e)):=by
 have hlow:=hE.low;refine c69 hr hT hE hlo hrb hp h8 (fun w'=>Fr [rb] w w'/\hn w+2<=hn w'/\∃d crc rs,Dst w' (hn w+1) rb (hn w) p d crc rs/\G w' d crc rs) (fun w'=>left w' rb) ?_ ?_ ?_
 ·intro w6 tmp _ F6 n6 D6
  exact⟨F6,n6,_,_,_,D6,start w6 tmp⟩
 ·intro w6 s hs
  exact absurd hsig hs
 ·rintro w1 ⟨F1,n1,d,crc,rs,hD,hG⟩
  obtain⟨h5,hc⟩:=step w1 d crc rs F1 n1 (hE.fr F1 (by simp;omega)) hD hG;refine⟨d,crc,rs,hD,fun h=>absurd h h5,fun _ =>CallT.mono hc ?_⟩;rintro v w2 ⟨F2,⟨rfl,d',crc',rs',hD',hlt,hG'⟩|⟨hb,ho⟩⟩
  ·refine .inl ⟨rfl,⟨F2,by have:=zR hD'.dec;omega,_,_,_,hD',hG'⟩,?_⟩
   rw[hD.at_.left_eq,hD'.at_.left_eq];exact hlt
  ·refine .inr ⟨hb,hE.fr F2 (by simp;omega),fun e' he=>⟨F2,e',rfl,ho e' he⟩⟩
def uV(pal:List Px)(cl:List Nat):List Ch:=(if 0<pal.length then [(xX,xL pal)]else [])++((if zG pal then [(xJ,xM pal)]else [])++(if 0<cl.length then [(xJ,zX cl)]else []))
theorem vY{D C:Nat}:zK W H D C L pal cl=(nIHDR,xT W H D C L)::uV pal cl:=rfl
theorem dW{D C:Nat}(hok:yW D C pal cl)(hC:C=3):uV pal cl=(xX,xL pal)::(if zG pal then [(xJ,xM pal)]else []):=by
 obtain⟨q1,q2,q3⟩:=hok.pal3 hC;have hcl:=hok.cl0 oQ oQ;subst hcl;unfold uV;rw[if_pos (by omega:0<pal.length),show(if 0<([]:List Nat).length then [(xJ,zX [])]else [])=([]:List Ch)from rfl,List.append_nil,List.singleton_append]
theorem qCh{D C:Nat}(hok:yW D C pal cl)(hC:C≠3):uV pal cl=if 0<cl.length then [(xJ,zX cl)]else []:=by
 have hpn:=hok.paln hC;subst hpn
 rfl
def RightAt(w:wQ)(db k W H:Nat)(L:Bool)(pal:List Px)(cl:List Nat)(d:Dec)(r:List Ch):Prop:=
 (d.stage=0/\d.useT=false/\d.cb=0/\r=zK W H (qE k).2 (qE k).1 L pal cl)\/
 (d.stage=1/\d.useT=false/\jG d k W H L/\r=uV pal cl)\/
 (d.stage=2/\(qE k).1=3/\d.useT=false/\jG d k W H L/\kH w db d.pal pal.length (kK (xL pal) pal.length)/\r=if zG pal then [(xJ,xM pal)]else [])\/
 (d.stage=3/\jG d k W H L/\((qE k).1=3 ->∃n cs,kH w db d.pal n cs)/\(d.useT=true ->(qE k).1=0\/(qE k).1=2)/\r=[])
theorem RightAt.step{c:Ch}{r:List Ch}{tail:bQ}(h:RightAt w db k W H L pal cl d (c::r))(hD:Dst w db rb kb p d crc (qV c.1 c.2++tail))(hk:k<15)(hW:1<=W/\W<=20)(hH:1<=H/\H<=20)(hok:yW (qE k).2 (qE k).1 pal cl)(F0:Fr [rb] w0 w)(hkb:hn w0<=kb):
  CallT Pg 60 #[.pointer (some ⟨db,0,none⟩),.bool false] w fun v w'=>v= .nilIface/\Fr [rb] w0 w'/\∃d' crc',Dst w' db rb kb p d' crc' tail/\RightAt w' db k W H L pal cl d' r:=by
 have hne:=hD.ne;have hcb:=jT hk;have fr:∀{w':wQ},Fr [rb,kb,db] w w' ->Fr [rb] w0 w':=fun f=>F0.trans' f (fun x hx hlt=>by simp at hx⊢;omega);rcases h with⟨h0,hu,_,hr⟩|⟨h1,hu,hh,hr⟩|⟨h2,hC,hu,hh,hP,hr⟩|⟨_,_,_,_,hr⟩
 ·rw[vY]at hr
  obtain⟨rfl,rfl⟩:=List.cons.inj hr;refine CallT.mono (Dst.goodIHDR hD h0 oQ oQ hk) ?_;rintro v w2 ⟨rfl,F,tmp,crc',hD'⟩;exact⟨rfl,fr F,_,_,hD',.inr (.inl ⟨rfl,hu,⟨rfl,rfl,rfl,rfl,rfl⟩,rfl⟩)⟩
 ·by_cases hC:(qE k).1=3
  ·rw[dW hok hC]at hr
   obtain⟨rfl,rfl⟩:=List.cons.inj hr;obtain⟨q1,q2,q3⟩:=hok.pal3 hC;refine CallT.mono (Dst.goodPLTE hD h1 hh.D_ (vO hk).1 (by rw[hh.cb_];have:=hcb.2.1 hC;omega) oQ oQ q3) ?_;rintro v w2 ⟨rfl,F,tmp,crc',pl,hD',hP⟩;exact⟨rfl,fr F,_,_,hD',.inr (.inr (.inl ⟨rfl,hC,hu,⟨hh.W_,hh.H_,hh.D_,hh.cb_,hh.lace_⟩,hP,rfl⟩))⟩
  ·rw[qCh hok hC]at hr
   by_cases hcl:0<cl.length
   ·rw[if_pos hcl]at hr
    obtain⟨rfl,rfl⟩:=List.cons.inj hr;have hl:=hok.cll.resolve_left (List.length_pos_iff.1 hcl);have h02:(qE k).1=0\/(qE k).1=2:=by
     by_cases h0:(qE k).1=0
     ·exact .inl h0
     ·by_cases h2:(qE k).1=2
      ·exact .inr h2
      ·exact absurd (hok.cl0 h0 h2) (List.length_pos_iff.1 hcl)
    have hcc:=qFj hk;refine CallT.mono (qCi hD h1 ?_) ?_
    ·rw[mE,hl,hh.cb_]
     rcases h02 with h0|h2
     ·refine .inl ⟨by rw[h0];rfl,?_⟩
      have:=hcc.1 h0;omega
     ·refine .inr ⟨by rw[h2];rfl,?_⟩
      have:=hcc.2 h2;omega
    ·rintro v w2 ⟨rfl,F,n2,tmp,tr,crc',hD'⟩
     exact⟨rfl,fr F,_,_,hD',.inr (.inr (.inr ⟨rfl,⟨hh.W_,hh.H_,hh.D_,hh.cb_,hh.lace_⟩,fun e=>absurd e hC,fun _ =>h02,rfl⟩))⟩
   ·rw[if_neg hcl]at hr
    cases hr
 ·by_cases ha:zG pal=true
  ·rw[if_pos ha]at hr
   obtain⟨rfl,rfl⟩:=List.cons.inj hr;obtain⟨q1,q2,q3⟩:=hok.pal3 hC;have hal:(xM pal).length=pal.length:=by simp[xM]
   obtain⟨g,hpal,hdg,hrow,hcl,hn256⟩:=hP;refine CallT.mono (Dst.goodTRNS (al:=xM pal) hD h2 (by rw[hh.cb_];have:=hcb.2.1 hC;omega) ⟨g,hpal,hdg,hrow,hcl,hn256⟩ (mN _ _) oQ oQ) ?_;rintro v w2 ⟨rfl,hF,tmp,crc',pl,hD',_,hP'⟩;have F:=hF g (by rw[hpal]);exact⟨rfl,F0.trans' F (fun x hx hlt=>by simp at hx⊢;omega),_,_,hD',.inr (.inr (.inr ⟨rfl,⟨hh.W_,hh.H_,hh.D_,hh.cb_,hh.lace_⟩,fun _ =>⟨_,_,hP'⟩,(fun h=>by rw[hu]at h;cases h),rfl⟩))⟩
  ·rw[if_neg ha]at hr
   cases hr
 ·cases hr
end
section
variable{w w0 w1 w2:wQ}{rb db kb crc k W H:Nat}{L:Bool}{p q:pQ}{E:Er}{pal:List Px}{cl:List Nat}{d:Dec}
structure Stp (w0 w1:wQ) (E:Er) (db rb kb:Nat):Prop where
 F0:Fr [rb] w0 w1
 hkb:hn w0<=kb
 errs:Errs w1 E
 lace:LaceAt w1 E.n0
 lo:E.n0<=rb
 ord:kb<db
theorem Stp.fr(h:Stp w0 w1 E db rb kb)(f:Fr [rb,kb,db] w1 w2):Fr [rb] w0 w2:=h.F0.trans' f (fun x hx hlt=>by have:=h.hkb;have:=h.ord;simp at hx⊢;omega)
theorem wT{c:Ch}{b:List Ch}{t:bQ}:(chs b++t).length<(chs (c::b)++t).length:=by
 rw[qZ];simp only[List.length_append];have:4<=(qV c.1 c.2).length:=by unfold qV;simp only[List.length_append,xG];omega
 omega
theorem gP{l c:Nat}{a r:List Ch}{bad:bQ}{code:Int}{file:bQ}(ef:file=sigL++(chs a++bad))(hx:Has w q (bv file))(hl:l=file.length)(hlb:l<1099511627776)(hV:Env w E)
  (hfo:zK W H (qE k).2 (qE k).1 L pal cl=a++r)(hk:k<15)(hW:1<=W/\W<=20)(hH:1<=H/\H<=20)(hok:yW (qE k).2 (qE k).1 pal cl)(G2:Dec ->Nat ->bQ ->Prop)
  (hbad:∀{w0 w1:wQ} {db rb kb:Nat} {p:pQ} {d:Dec} {crc:Nat},Stp w0 w1 E db rb kb ->Dst w1 db rb kb p d crc bad ->RightAt w1 db k W H L pal cl d r ->
   CallT Pg 60 #[.pointer (some ⟨db,0,none⟩),.bool false] w1 fun v w2=>Fr [rb] w0 w2/\(Bad E (·=code) v\/(v= .nilIface/\∃d' crc' rs',Dst w2 db rb kb p d' crc' rs'/\rs'.length<bad.length/\G2 d' crc' rs')))
  (after:∀{w0 w1:wQ} {db rb kb:Nat} {p:pQ} {d:Dec} {crc:Nat} {rs:bQ},Stp w0 w1 E db rb kb ->Dst w1 db rb kb p d crc rs ->G2 d crc rs ->
   d.stage≠5/\CallT Pg 60 #[.pointer (some ⟨db,0,none⟩),.bool false] w1 fun v w2=>Fr [rb] w0 w2/\Bad E (·=code) v):
  CallT Pg 29 #[.slice q l c,.int .i64 code] w fun v w'=>v= .bool true/\Fr [] w w':=by
 subst ef;refine qAs (B:=fun e=>ErrK e/\bR e=code) hx hl hlb hV.tab hV.errs hV.lo hV.lace hV.ety (fun e h=>h) fun w2 rb p F2 hr hT2 hE2 hlo2 hrb hp hL2 _ => ?_;refine c69t (C:=(·=code)) hr hT2 hE2 hlo2 hrb hp (by simp[yB]) (kN _) (fun w' d crc rs=>(∃b,rs=chs b++bad/\RightAt w' (hn w2+1) k W H L pal cl d (b++r))\/G2 d crc rs) ?_ ?_
 ·intro w6 tmp
  rw[gU];exact .inl ⟨a,rfl,.inl ⟨rfl,rfl,rfl,hfo.symm⟩⟩
 ·intro w1 d crc rs F1 n1 E1 hD hG
  have hlow:=hE2.low;have hA:Stp w2 w1 E (hn w2+1) rb (hn w2):=⟨F1,Nat.le_refl _,E1,hL2.fr F1 oQ (by simp;omega),hlo2,oQ⟩;rcases hG with⟨b,rfl,hR⟩|hG
  ·have h5:d.stage≠5:=by rcases hR with h|h|h|h<;>omega
   refine⟨h5,?_⟩
   cases b with
   |nil=>
    refine CallT.mono (hbad hA hD hR) ?_;rintro v w3 ⟨F,hb|⟨rfl,d',crc',rs',hD',hlt,hg⟩⟩
    ·exact⟨F,.inr hb⟩
    ·exact⟨F,.inl ⟨rfl,d',crc',rs',hD',hlt,.inr hg⟩⟩
   |cons ch b=>
    have hD':=hD;rw[qZ,List.append_assoc]at hD';refine CallT.mono (RightAt.step hR hD' hk hW hH hok F1 (Nat.le_refl _)) ?_;rintro v w3 ⟨rfl,F,d',crc',hD2,hR2⟩;exact⟨F,.inl ⟨rfl,d',crc',_,hD2,wT,.inl ⟨b,rfl,hR2⟩⟩⟩
  ·obtain⟨h5,hc⟩:=after hA hD hG
   refine⟨h5,CallT.mono hc ?_⟩;rintro v w3 ⟨F,hb⟩;exact⟨F,.inr hb⟩
theorem uS{nm dd rest:bQ}(hA:Stp w0 w1 E db rb kb)(hD:Dst w1 db rb kb p d crc (qV nm dd++rest))(hnl:nm.length=4)(hdd:dd.length<4294967296)(hn:zT d nm= .refuse){C:Int ->Prop}(hC:C 1):
  CallT Pg 60 #[.pointer (some ⟨db,0,none⟩),.bool false] w1 fun v w2=>Fr [rb] w0 w2/\Bad E C v:=by
 obtain⟨h1,h2,h3,h4⟩:=yA (nm:=nm) (d:=dd) (rest:=rest) hnl hdd;refine hD.c60 oQ fun w3 tmp s F3 n3 D3=> ?_;rw[h2,hn];dsimp only;intro _ v hv;exact⟨hA.fr F3,hv.bad hC⟩
end
section
variable{w w' w0:wQ}{E:Er}{Q Q':Nat ->Prop}
theorem c30n{b o l c:Nat}{cs:List Ch}(hx:Has w (some ⟨b,o,none⟩) (bv (qU cs)))(hl:l=(qU cs).length)(hb:l<1099511627776)(hlc:l<=c)(hok:kA cs):
  CallT Pg 30 #[.slice (some ⟨b,o,none⟩) l c] w fun v w'=>∃vs,PcHas (·=b) w' vs cs/\RetR 53 2 w cs.length vs v w':=by
 apply call30;unfold wp30 wIq iQq;rw[zI];have hblt:b<hn w:=by obtain⟨_,T,arr,h1,_⟩:=hx;exact zR h1
 refine qP (fun z w'=>Fr [] w w'/\∃a r vs,cs=a++r/\z.2.1=((8+(chs a).length:Nat):Int)/\z.1.len=a.length/\PcHas (·=b) w' vs a/\Own w' (hn w) 53 2 z.1.a z.1.len z.1.cap vs)
  (fun z _ =>l+1 -z.2.1.toNat) ⟨Fr.alloc _ _ _,[],cs,[],rfl,by simp[chs],rfl,trivial,Own.new (w:=w) (e:=53) (size:=2) (cs:= #[]) (l:=0) (Nat.le_refl _) sQ⟩ ?_
 rintro⟨⟨q,n,m⟩,k,⟨⟩⟩ w1 ⟨hf,a,r,vs,rfl,rfl,rfl,hpc,ho⟩;simp only at ho;have hlen:l=8+(chs a).length+(chs r).length:=by rw[hl];simp[qU,sigL,xU];omega
 have ha:=yN (rC hok);have hr:=yN (mM hok);refine qG (fun h=> ?_) (fun h=> ?_)
 ·simp only at h
  rw[qA oQ oQ]at h
  cases r with
  |nil=>simp only[vJ,List.length_nil]at hlen;omega
  |cons ch r=>
   obtain⟨h4,hd⟩:=hok ch sQ;have hcl:=xA (data:=ch.2) h4;simp only[qZ,List.length_append]at hlen;dsimp only;refine CallT.mono (c46 (hx.fr0 hf) hl oQ oQ oQ) ?_;rintro _ _ ⟨rfl,rfl⟩;rw[Int.toNat_natCast,bX hd];refine⟨_,rfl,?_⟩;rw[zY];have hf2:=hf.drewR.drewR;have hx2:=hx.fr0 hf2;have e0:bv (qU (a++ch::r))=bv (sigL++chs a++xR ch.2.length)++(bv ch.1++bv (ch.2++xR (jJ (ch.1++ch.2))++chs r)):=by
    rw[lI,<-bv_append,<-bv_append];simp[qV]
   have e1:bv (qU (a++ch::r))=bv (sigL++chs a++xR ch.2.length++ch.1)++(bv ch.2++bv (xR (jJ (ch.1++ch.2))++chs r)):=by
    rw[lI,<-bv_append,<-bv_append];simp[qV]
   have hx3:=hx2;rw[e0]at hx2;rw[e1]at hx3;have g0:=Has.sub hx2;have g1:=Has.sub hx3;simp only[bv_length,List.length_append,xG,h4]at g0 g1;have es:sigL.length=8:=rfl;simp only[es]at g0 g1;simp (disch:=omega) only[qA];have t1:((((8+(chs a).length:Nat):Int)+4).toNat)=8+(chs a).length+4:=oQ;have t2:((((8+(chs a).length:Nat):Int)+8).toNat)=8+(chs a).length+4+4:=oQ;have t3:((((8+(chs a).length:Nat):Int)+8+(ch.2.length:Int)).toNat)=8+(chs a).length+4+4+ch.2.length:=oQ;simp only[t1,t2,t3];rw[slAdd_one _ _ _ _ oQ,slAdd_one _ _ _ _ oQ];refine⟨⟨oQ,oQ⟩,⟨oQ,oQ⟩,⟨oQ,oQ⟩,⟨oQ,oQ⟩,?_⟩;refine rX (xs:=ch.1) g0 oQ ?_;refine tD ok50 hf2 ((ho.fr0 (Fr.drew _ _)).fr0 (Fr.drew _ _)) sQ (by simp[Value.oneCell']) oQ ?_;intro q' m' w3 hf3 hf3' ho3;have hq:∀b',b'=b ->b'∉xD q:=by
    intro b' e hmem;have:=ho.blk _ hmem;omega
   refine⟨⟨hf3,a++[ch],r,_,sQ,?_,sQ,?_,ho3⟩,oQ⟩
   ·simp only[xU,qZ,vJ,List.length_append,List.append_nil,hcl];omega
   ·refine PcHas.snoc (g1.fr hf3' ?_) oQ sQ (by intro a ha;cases ha;rfl) (((hpc.fr (Fr.drew [] _) sQ).fr (Fr.drew [] _) sQ).fr hf3' hq)
    intro a' ha';cases ha';exact hq _ rfl
 ·simp only at h
  rw[qA oQ oQ]at h
  cases r with
  |cons ch r=>
   exfalso
   obtain⟨h4,hd⟩:=hok ch sQ;have hcl:=xA (data:=ch.2) h4;simp only[qZ,List.length_append]at hlen;omega
  |nil=>exact⟨vs,by simpa using hpc,hf,q,m,sQ,by simpa using ho⟩
theorem PcHas.mono(h:∀b,Q b ->Q' b):∀{vs:List Value} {cs:List Ch},PcHas Q w vs cs ->PcHas Q' w vs cs
 |[],[],_ =>trivial
 | .string _ :: .slice _ _ _ ::_,_ ::_,⟨h1,h2,h3,h4,h5,h6⟩=>⟨h1,h2,h3,h4,fun a ha=>h _ (h5 a ha),PcHas.mono h h6⟩
structure Made (k W H:Nat) (L:Bool) (pal:List Px) (cl:List Nat) (fl xs zs d0:bQ) (dr:List (bQ)):Prop where
 hk:k<15
 hW:1<=W/\W<=20
 hH:1<=H/\H<=20
 ok:yW (qE k).2 (qE k).1 pal cl
 rows:RowsOf (mH W H (qE k).2 (qE k).1 L) (gF fl) xs
 zl:tE xs zs
 flat:(d0::dr).flatten=zs
 ne:∀x∈d0::dr,x≠[]
 zlen:zs.length<=2097152
 xlen:xs.length<32768
def xV(k W H:Nat)(L:Bool)(pal:List Px)(cl:List Nat)(d0:bQ)(dr:List (bQ)):List Ch:=zK W H (qE k).2 (qE k).1 L pal cl++xZ (d0::dr)++[(xW,[])]
section
variable{k W H:Nat}{L:Bool}{pal:List Px}{cl:List Nat}{fl xs zs d0:bQ}{dr:List (bQ)}
theorem Made.okc(M:Made k W H L pal cl fl xs zs d0 dr):kA (xV k W H L pal cl d0 dr)/\(qU (xV k W H L pal cl d0 dr)).length<1099511627776:=by
 have hzp:0<zs.length:=by
  obtain⟨_,_,_,_,hz⟩:=M.zl;rw[hz];simp
 obtain⟨_,h1,h2,_⟩:=nJ (W:=W) (H:=H) (L:=L) M.hk M.ok hzp M.zlen M.flat M.ne;exact⟨h1,h2⟩
theorem Made.whole{q:pQ}{l c:Nat}{file:bQ}(M:Made k W H L pal cl fl xs zs d0 dr)(hV:Env w E)(hf:file=qU (xV k W H L pal cl d0 dr))(hx:Has w q (bv file))(hl:l=file.length):CallT Pg 28 #[.slice q l c] w fun v w'=>v= .bool true/\Fr [] w w':=
 qCy hf hx hl (by rw[hl,hf];exact M.okc.2) hV.tab hV.errs hV.lo hV.lace hV.ety M.hk M.hW M.hH M.ok M.rows M.zl M.flat M.ne M.zlen M.xlen
end
theorem nU{k W H:Nat}{L:Bool}{pal:List Px}{cl:List Nat}{v:Value}(hk:k<15)(hW:1<=W/\W<=20)(hH:1<=H/\H<=20)(hok:yW (qE k).2 (qE k).1 pal cl)(hF:oR w0 W H (qE k).2 (qE k).1 L pal cl v w):
  ∃fl xs zs d0 dr,Made k W H L pal cl fl xs zs d0 dr/\dL w0 (qU (xV k W H L pal cl d0 dr)) v w:=by
 obtain⟨fs,xs,zs,ds,_,hrows,hZ,hds,hne,hzl,hR⟩:=hF;have hD16:(qE k).2<=16:=by have:=(vO hk).1;omega
 cases ds with
 |nil=>
  obtain⟨bl,out,_,_,hz⟩:=hZ;rw[hz]at hds;simp at hds
 |cons d0 dr=>exact⟨fs,xs,zs,d0,dr,⟨hk,hW,hH,hok,hrows,hZ,hds,hne,hzl,aS hrows hW.2 hH.2 hD16⟩,hR⟩
def Pcs(w0 w:wQ)(p:pQ)(l c:Nat)(cs:List Ch):Prop:=∃b vs,Own w (hn w0) 53 2 p l c vs/\PcHas (·=b) w vs cs/\l=cs.length/\hn w0<=b/\b<hn w/\∀x∈xD p,b<x
theorem qDn{p:pQ}{base l c:Nat}{cs:List Ch}(h:Own w base 5 1 p l c (bv (qU cs)))(hl:l=(qU cs).length):∃b,p=some ⟨b,0,none⟩/\l<=c/\base<=b/\b<hn w:=by
 obtain⟨b,rfl,h1⟩:=pW h (by rw[hl];simp[qU,yB];omega);have:=h.at rfl;exact⟨b,rfl,h1,this.2.2.1,this.2.2.2⟩
theorem qBz{k W H:Nat}{L:Bool}{pal:List Px}{cl:List Nat}{fl xs zs d0:bQ}{dr:List (bQ)}{p:pQ}{l c:Nat}(M:Made k W H L pal cl fl xs zs d0 dr)(F:Fr [] w0 w)(h:Own w (hn w0) 5 1 p l c (bv (qU (xV k W H L pal cl d0 dr))))(hl:l=(qU (xV k W H L pal cl d0 dr)).length)
  {K:pQ ->Nat ->Nat ->World ->Prop}(hK:∀p l c w',Fr [] w0 w' ->Fr [] w w' ->Pcs w0 w' p l c (xV k W H L pal cl d0 dr) ->K p l c w'):
  CallT Pg 30 #[.slice p l c] w fun v w'=>Exists fun p':pQ=>Exists fun l':Nat=>Exists fun c':Nat=>And (v= .slice p' l' c') (K p' l' c' w'):=by
 obtain⟨b,rfl,hlc,hb0,hb1⟩:=qDn h hl;refine CallT.mono (c30n h.has hl (by rw[hl];exact M.okc.2) hlc M.okc.1) ?_;rintro v w' ⟨vs,hpc,f,q,c',rfl,ho⟩;refine⟨_,_,_,rfl,hK _ _ _ _ (F.trans f) f ⟨b,vs,ho.base_le F.size,hpc,rfl,hb0,Nat.lt_of_lt_of_le hb1 f.size,fun x hx=> ?_⟩⟩;have:=(ho.blk x hx).1;omega
theorem Pcs.glue{p:pQ}{l c:Nat}{cs:List Ch}(h:Pcs w0 w p l c cs)(hok:kA cs)(hb:(qU cs).length<1099511627776):CallT Pg 31 #[.slice p l c] w (dL w (qU cs)):=by
 obtain⟨b,vs,ho,hpc,hl,_,hb1,_⟩:=h;exact c31 ho.has hpc (fun x hx=>by have:x=b:=hx;omega) hl hb hok
theorem uA{k W H:Nat}{L:Bool}{pal:List Px}{cl:List Nat}{fl xs zs d0:bQ}{dr:List (bQ)}{p:pQ}{l c:Nat}(M:Made k W H L pal cl fl xs zs d0 dr)(hV:Env w0 E)(F:Fr [] w0 w)(h:Pcs w0 w p l c (xV k W H L pal cl d0 dr))
  {K:Bool ->World ->Prop}(hK:∀w',Fr [] w0 w' ->Fr [] w w' ->K true w'):
  CallT Pg 31 #[.slice p l c] w fun v w1=>Exists fun p':pQ=>Exists fun l':Nat=>Exists fun c':Nat=>And (v= .slice p' l' c') (CallT Pg 28 #[.slice p' l' c'] w1 fun v' w2=>Exists fun b:Bool=>And (v'= .bool b) (K b w2)):=by
 refine CallT.mono (h.glue M.okc.1 M.okc.2) ?_;rintro v w1 ⟨f,q,c',rfl,ho⟩;refine⟨_,_,_,rfl,CallT.mono (M.whole (hV.fr0 (F.trans f)) rfl ho.has rfl) ?_⟩;rintro v w2 ⟨rfl,f2⟩;exact⟨_,rfl,hK w2 ((F.trans f).trans f2) (f.trans f2)⟩
theorem lN{p:pQ}{l c:Nat}{vs:List Value}{cs:List Ch}{code:Int}(hV:Env w0 E)(F:Fr [] w0 w)(hp:Has w p vs)(hpc:PcHas Q w vs cs)(hQ:∀b,Q b ->b<hn w)(hl:l=cs.length)(hok:kA cs)(hb:(qU cs).length<1099511627776)
  (ht:∀{w1:wQ} {q:pQ} {c:Nat},Env w1 E ->Has w1 q (bv (qU cs)) ->CallT Pg 29 #[.slice q (qU cs).length c,.int .i64 code] w1 fun v w'=>v= .bool true/\Fr [] w1 w')
  {K:Bool ->World ->Prop}(hK:∀w',Fr [] w0 w' ->K true w'):
  CallT Pg 31 #[.slice p l c] w fun v w1=>Exists fun p':pQ=>Exists fun l':Nat=>Exists fun c':Nat=>And (v= .slice p' l' c') (CallT Pg 29 #[.slice p' l' c',.int .i64 code] w1 fun v' w2=>Exists fun b:Bool=>And (v'= .bool b) (K b w2)):=by
 refine CallT.mono (c31 hp hpc hQ hl hb hok) ?_;rintro v w1 ⟨f,q,c',rfl,ho⟩;refine⟨_,_,_,rfl,CallT.mono (ht (hV.fr0 (F.trans f)) ho.has) ?_⟩;rintro v w2 ⟨rfl,f2⟩;exact⟨_,rfl,hK w2 ((F.trans f).trans f2)⟩
theorem kZ{p:pQ}{l c:Nat}{R:vPq}{X:World ->Prop}(hR:R (.bool true) w)(hX:l<=1000 ->X w):
  IfC (decide ((l:Int)>(2147483647:Int))) (R (.bool true) w) (CallT Pg 22 #[.slice p l c] w fun v w2=>Exists fun b:Bool=>And (v= .bool b) (IfC (!b) (R (.bool true) w2) (X w2))):=by
 refine qG (fun _ =>hR) (fun _ =>CallT.mono c22 ?_);rintro v w2 ⟨rfl,rfl⟩;refine⟨_,rfl,?_⟩
 by_cases h:l<=1000
 ·rw[decide_eq_true h];exact hX h
 ·rw[decide_eq_false h];exact hR
end
section
variable{w w' w0:wQ}{E:Er}{k W H:Nat}{L:Bool}{pal:List Px}{cl:List Nat}{fl xs zs d0:bQ}{dr:List (bQ)}{p q:pQ}{l c c':Nat}{cs:List Ch}{hd dd:bQ}{nm:bQ}
theorem Made.len(M:Made k W H L pal cl fl xs zs d0 dr):(qU (xV k W H L pal cl d0 dr)).length<1000000000:=by
 have hpl:pal.length<=9:=by
  by_cases h:(qE k).1=3
  ·exact(M.ok.pal3 h).2.1
  ·rw[M.ok.paln h];simp
 have hcll:cl.length<=4:=by
  have:=tF (qE k).1;rcases M.ok.cll with h|h
  ·rw[h];simp
  ·omega
 have hal:(xM pal).length=pal.length:=by simp[xM]
 have hsl:=vP pal;have hcL:=mE cl;have hdat:∀ds:List (bQ),(∀x∈ds,x≠[]) ->(chs (xZ ds)).length<=13*ds.flatten.length:=by
  intro ds
  induction ds with
  |nil=>intro _;simp[xZ,chs]
  |cons d r ih=>
   intro hne;have:=ih (fun x hx=>hne x (List.mem_cons_of_mem _ hx));have hd:1<=d.length:=List.length_pos_iff.2 (hne d sQ);have e:xZ (d::r)=(nIDAT,d)::xZ r:=rfl;rw[e,qZ,List.length_append,xA rfl,List.flatten_cons,List.length_append];dsimp only;omega
 have h1:=hdat _ M.ne;rw[M.flat]at h1;have hz:=M.zlen;unfold xV;rw[qU,List.length_append,xU,xU,List.length_append,List.length_append,zK,qZ,xU,xU];simp only[List.length_append];have e0:(qV nIHDR (xT W H (qE k).2 (qE k).1 L)).length=12+13:=xA rfl;have e1:(chs (if 0<pal.length then [(xX,xL pal)]else [])).length<=12+27:=by
  split
  ·rw[qZ,vJ,List.append_nil,xA rfl];dsimp only;omega
  ·simp[chs]
 have e2:(chs (if zG pal=true then [(xJ,xM pal)]else [])).length<=12+9:=by
  split
  ·rw[qZ,vJ,List.append_nil,xA rfl];dsimp only;omega
  ·simp[chs]
 have e3:(chs (if 0<cl.length then [(xJ,zX cl)]else [])).length<=12+8:=by
  split
  ·rw[qZ,vJ,List.append_nil,xA rfl];dsimp only;omega
  ·simp[chs]
 have e4:(chs [(xW,[])]).length=12:=rfl;rw[yB];omega
theorem lO:(xV k W H L pal cl d0 dr)[0]? =some (nIHDR,xT W H (qE k).2 (qE k).1 L):=rfl
end
section
variable{w w' w0:wQ}{E:Er}{k W H:Nat}{L:Bool}{pal:List Px}{cl:List Nat}{fl xs zs d0:bQ}{dr:List (bQ)}{p q:pQ}{l c c':Nat}{cs:List Ch}{hd dd:bQ}{nm:bQ}
theorem Pcs.fr0(h:Pcs w0 w p l c cs)(f:Fr [] w w'):Pcs w0 w' p l c cs:=by
 obtain⟨b,vs,ho,hpc,r⟩:=h;exact⟨b,vs,ho.fr0 f,hpc.fr f sQ,r.1,r.2.1,Nat.lt_of_lt_of_le r.2.2.1 f.size,r.2.2.2⟩
theorem mI:3<=(xV k W H L pal cl d0 dr).length:=by simp[xV,zK,xZ];omega
end
section
variable{w w' w0:wQ}
end
section
variable{w w' w0 wB:wQ}{E:Er}{k W H:Nat}{L:Bool}{pal:List Px}{cl:List Nat}{fl xs zs d0:bQ}{dr:List (bQ)}{p q:pQ}{l c c':Nat}{cs ds:List Ch}{hd dd:bQ}{nm:bQ}{s:Sl}
theorem mP{i:Nat}{ch:Ch}(h:Pcs w0 wB p l c cs)(FB:Fr [] wB w)(hi:cs[i]? =some ch){K:ByteArray ->Nat ->World ->Prop}
  (hK:∀q c' r w',Fr [] w w' ->hp w' r=Row 53 #[.string ⟨ch.1.toArray⟩,.slice q ch.2.length c'] ->Has w' q (bv ch.2) ->(q=none ->c'=0) ->(∀x∈xD q,x<hn wB/\hn w0<=x) ->hn w<=r ->K ⟨ch.1.toArray⟩ r w'):
  And (0<=(i:Int)/\(i:Int)<(l:Int)) (qN p fun a=>LdS w (qI a (i:Int).toNat 2) fun s=>qS w ⟨(qI a (i:Int).toNat 2).block,(qI a (i:Int).toNat 2).off+1,none⟩ fun p2 l2 c2=>qK w (.cells (zc Pg 53) 53) fun r w1=>qB w1 ⟨r,0,none⟩ (.string s) fun w2=>qB w2 ⟨r,0+1,none⟩ (.slice p2 l2 c2) fun w3=>LdS w3 ⟨r,0,none⟩ fun s'=>K s' r w3):=by
 obtain⟨b,vs,ho,hpc,hl,hb0,hb1,hb2⟩:=h;have ho:=ho.fr0 FB;have hpc:=hpc.fr FB sQ;have hil:i<cs.length:=(List.getElem?_eq_some_iff.1 hi).1;refine⟨⟨oQ,oQ⟩,?_⟩;obtain⟨q,m,c2,e1,e2,g1,g2,g3,g4⟩:=hpc.at hi;obtain⟨g,o,rfl,k1,k2⟩:=Has.at2 ho.has e1 e2;rw[PtrC_some,zE,Int.toNat_natCast,vU];dsimp only;rw[k1,RdS_some,yT,k2,RdSl_some];refine qF fun w1 h1 f1 n1=> ?_;rw[zc53]at h1;refine qD h1 sQ fun w2 h2 f2 n2=> ?_;refine qD h2 sQ fun w3 h3 f3 n3=> ?_;have h3':hp w3 (hn w)=Row 53 #[.string ⟨ch.1.toArray⟩,.slice q ch.2.length c2]:=by rw[<-g2];simpa using h3
 have F:Fr [] w w3:=(f1.new1 f2 (Nat.le_refl _)).new1 f3 (Nat.le_refl _);refine rY h3' rfl (hK q c2 _ w3 F h3' (g1.fr0 F) g3 (fun x hx=> ?_) (Nat.le_refl _))
 cases q with
 |none=>simp[xD]at hx
 |some a=>
  have:a.block=b:=g4 a rfl;simp[xD]at hx;omega
def Grow(wB w:wQ)(s:Sl)(ds:List Ch):Prop:=Fr [] wB w/\∃vs,Own w (hn wB) 53 2 s.a s.len s.cap vs/\PcHas (fun x=>x<hn w/\x∉xD s.a) w vs ds/\s.len=ds.length
theorem Grow.fr0(h:Grow wB w s ds)(f:Fr [] w w'):Grow wB w' s ds:=by
 obtain⟨F,vs,ho,hpc,hl⟩:=h;exact⟨F.trans f,vs,ho.fr0 f,(hpc.fr f sQ).mono (fun x hx=>⟨Nat.lt_of_lt_of_le hx.1 f.size,hx.2⟩),hl⟩
theorem Grow.start{r:Nat}(h:hp w r=Row 53 #[])(F:Fr [] wB w)(hr:hn wB<=r):Grow wB w ⟨some ⟨r,0,none⟩,0,0⟩ []:=⟨F,[],Own.of_row (arr:= #[]) h hr rfl,trivial,rfl⟩
theorem Grow.add{m:Nat}(h:Grow wB w s ds)(hx:Has w q (bv dd))(hm:m=dd.length)(hc:q=none ->c'=0)(hblk:∀x∈xD q,x<hn w/\x∉xD s.a)(hbig:ds.length<=1000000000){K:pQ ->Nat ->Nat ->World ->Prop}
  (hK:∀s' w',Grow wB w' s' (ds++[(nm,dd)]) ->Fr (xD s.a) w w' ->(∀x∈xD s'.a,x∈xD s.a\/hn w<=x) ->K s'.a s'.len s'.cap w'):
  qK w (.cells #[.string ⟨nm.toArray⟩,.slice q m c'] 53) fun r w1=>zQ Pg w1 #[50,50] 50 (.slice s.a s.len s.cap) (.slice (some ⟨r,0,none⟩) 1 1) K:=by
 obtain⟨F,vs,ho,hpc,hl⟩:=h;refine mX ok50 F ho (cs:= #[.string ⟨nm.toArray⟩,.slice q m c']) (m:=1) sQ (by simp[Value.oneCell']) oQ ?_;intro p' c'' w' F' f' ho' hm';refine hK ⟨p',s.len+1,c''⟩ w' ⟨F',_,ho',?_,by simp[hl]⟩ f' hm';have hsz:=f'.size;have step:∀x,(x<hn w/\x∉xD s.a) ->(x<hn w'/\x∉xD p'):=fun x hx=>⟨oQ,fun hx'=>(hm' x hx').elim hx.2 (fun h=>by omega)⟩;have h1:=(hpc.fr f' (fun x hx=>hx.2)).mono step;refine PcHas.snoc (ch:=(nm,dd)) (hx.fr f' (fun a ha hx'=>(hblk a.block (by subst ha;simp[xD])).2 hx')) hm hc (fun a ha=>step _ (hblk a.block (by subst ha;simp[xD]))) h1
theorem Grow.addAt{r:Nat}{c':Nat}(h:Grow wB w s ds)(hr:hp w r=Row 53 #[.string ⟨nm.toArray⟩,.slice q dd.length c'])(hx:Has w q (bv dd))(hc:q=none ->c'=0)(hblk:∀x∈xD q,x<hn w/\x∉xD s.a)(hbig:ds.length<=1000000000){K:pQ ->Nat ->Nat ->World ->Prop}
  (hK:∀s' w',Grow wB w' s' (ds++[(nm,dd)]) ->Fr (xD s.a) w w' ->(∀x∈xD s'.a,x∈xD s.a\/hn w<=x) ->K s'.a s'.len s'.cap w'):
  LdS w ⟨r,0,none⟩ fun n=>qS w ⟨r,0+1,none⟩ fun p1 l1 c1=>qK w (.cells #[.string n,.slice p1 l1 c1] 53) fun r1 w1=>zQ Pg w1 #[50,50] 50 (.slice s.a s.len s.cap) (.slice (some ⟨r1,0,none⟩) 1 1) K:=
 rY hr rfl (qL hr rfl (h.add hx rfl hc hblk hbig hK))
theorem Grow.blk(h:Grow wB w s ds):∀x∈xD s.a,hn wB<=x/\x<hn w:=by
 obtain⟨_,vs,ho,_⟩:=h;exact ho.blk
theorem Grow.told{w0:wQ}{code:Int}(h:Grow wB w s ds)(hV:Env w0 E)(F:Fr [] w0 w)(hok:kA ds)(hb:(qU ds).length<1099511627776)
  (ht:∀{w1:wQ} {q:pQ} {c:Nat},Env w1 E ->Has w1 q (bv (qU ds)) ->CallT Pg 29 #[.slice q (qU ds).length c,.int .i64 code] w1 fun v w'=>v= .bool true/\Fr [] w1 w')
  {K:Bool ->World ->Prop}(hK:∀w',Fr [] w0 w' ->K true w'):
  CallT Pg 31 #[.slice s.a s.len s.cap] w fun v w1=>Exists fun p':pQ=>Exists fun l':Nat=>Exists fun c':Nat=>And (v= .slice p' l' c') (CallT Pg 29 #[.slice p' l' c',.int .i64 code] w1 fun v' w2=>Exists fun b:Bool=>And (v'= .bool b) (K b w2)):=by
 obtain⟨_,vs,ho,hpc,hl⟩:=h;exact lN hV F ho.has hpc (fun x hx=>hx.1) hl hok hb ht hK
end
section
variable{w w' w0 wB:wQ}{E:Er}{k W H:Nat}{L:Bool}{pal:List Px}{cl:List Nat}{fl xs zs d0:bQ}{dr:List (bQ)}{p q:pQ}{l c c':Nat}{cs ds es:List Ch}{hd dd:bQ}{nm:bQ}{s:Sl}{db rb kb crc:Nat}{d:Dec}{rs:bQ}
theorem Dst.c78bad{len:Nat}(h:Dst w db rb kb p d crc rs)(hg:(d.cb=1\/d.cb=2\/d.cb=3\/d.cb=4\/d.cb=12) ->len≠2)(ht:(d.cb=6\/d.cb=14) ->len≠6)(hp:(7<=d.cb/\d.cb<=10) ->256<len):CallT Pg 78 #[.pointer (some ⟨db,0,none⟩),.int .u32 len] w fun v w'=>Refuse 125 v/\w'=w:=by
 apply call78;unfold wp78 aQq wIq iQq;refine qC h.dec d.at7 (qJ (fun z w'=>w'=w/\(z.1=true↔(d.cb=1\/d.cb=2\/d.cb=3\/d.cb=4\/d.cb=12))) ?_ ?_)
 ·rintro⟨z,⟨⟩⟩ w' ⟨rfl,hz⟩
  dsimp only at hz⊢;refine qT (fun e=>zC (fun _ =>⟨⟨_,rfl,dQ⟩,rfl⟩) (fun e2=>absurd (show len=2 by omega) (hg (hz.1 e)))) (fun _ => ?_);refine qJ (fun z w''=>w''=w'/\(z.1=true↔(d.cb=6\/d.cb=14))) ?_ ?_
  ·rintro⟨z,⟨⟩⟩ w'' ⟨rfl,hz⟩
   dsimp only at hz⊢;refine qT (fun e=>zC (fun _ =>⟨⟨_,rfl,dQ⟩,rfl⟩) (fun e2=>absurd (show len=6 by omega) (ht (hz.1 e)))) (fun _ => ?_);refine qJ (fun z w'=>w'=w''/\(z.1=true↔(7<=d.cb/\d.cb<=10))) ?_ ?_
   ·rintro⟨z,⟨⟩⟩ w' ⟨rfl,hz⟩
    dsimp only at hz⊢;refine qT (fun e=>qG (fun _ =>⟨⟨_,rfl,dQ⟩,rfl⟩) (fun e2=>absurd (hp (hz.1 e)) oQ)) (fun _ =>⟨⟨_,rfl,dQ⟩,rfl⟩)
   ·intro J hJ
    refine qQ (fun e=>hJ _ _ ⟨rfl,by simp[e]⟩) (fun e1=>qQ (fun e=>hJ _ _ ⟨rfl,by simp[e]⟩) (fun e2=>qQ (fun e=>hJ _ _ ⟨rfl,by simp[e]⟩) (fun e3=>hJ _ _ ⟨rfl,?_⟩)));simp only[beq_iff_eq];omega
  ·intro J hJ
   refine qQ (fun e=>hJ _ _ ⟨rfl,by simp[e]⟩) (fun e1=>hJ _ _ ⟨rfl,?_⟩);simp only[beq_iff_eq];omega
 ·intro J hJ
  refine qQ (fun e=>hJ _ _ ⟨rfl,by simp[e]⟩) (fun e1=>qQ (fun e=>hJ _ _ ⟨rfl,by simp[e]⟩) (fun e2=>qQ (fun e=>hJ _ _ ⟨rfl,by simp[e]⟩) (fun e3=>qQ (fun e=>hJ _ _ ⟨rfl,by simp[e]⟩) (fun e4=>hJ _ _ ⟨rfl,?_⟩))));simp only[beq_iff_eq];omega
theorem cX{w1:wQ}{dd rest:bQ}(hA:Stp w0 w1 E db rb kb)(hD:Dst w1 db rb kb p d crc (qV xJ dd++rest))(hdd:dd.length<4294967296)(hg:(d.cb=1\/d.cb=2\/d.cb=3\/d.cb=4\/d.cb=12) ->dd.length≠2)(ht:(d.cb=6\/d.cb=14) ->dd.length≠6)(hp:(7<=d.cb/\d.cb<=10) ->256<dd.length){C:Int ->Prop}(hC:C 1):
  CallT Pg 60 #[.pointer (some ⟨db,0,none⟩),.bool false] w1 fun v w2=>Fr [rb] w0 w2/\Bad E C v:=by
 obtain⟨h1,h2,h3,h4⟩:=yA (nm:=xJ) (d:=dd) (rest:=rest) rfl hdd;have hcase:zT d xJ= .refuse\/zT d xJ= .call 78 3:=by
  unfold zT;rw[if_neg dQ,if_neg dQ,if_pos rfl]
  repeat' split
  all_goals first|exact .inl rfl|exact .inr rfl
 rcases hcase with hc|hc
 ·exact uS hA hD rfl hdd hc hC
 ·refine hD.c60 oQ fun w3 tmp s F3 n3 D3=> ?_
  rw[h2,hc,h1];dsimp only;rintro rfl;refine CallT.mono (D3.c78bad hg ht hp) ?_;rintro v w4 ⟨hv,rfl⟩;exact⟨hA.fr F3,hv.bad hC⟩
end
section
variable{w w' w0 wB:wQ}{E:Er}{k W H:Nat}{L:Bool}{pal:List Px}{cl:List Nat}{fl xs zs d0:bQ}{dr:List (bQ)}{p q:pQ}{l c c':Nat}{cs ds es r:List Ch}{hd dd:bQ}{nm:bQ}{s:Sl}{db rb kb crc:Nat}{d:Dec}{rs:bQ}
theorem RightAt.headed(h:RightAt w db k W H L pal cl d r)(hr:r.length<=(uV pal cl).length):jG d k W H L/\1<=d.stage/\d.stage<=3:=by
 rcases h with⟨_,_,_,e⟩|⟨h1,_,hh,_⟩|⟨h2,_,_,hh,_⟩|⟨h3,hh,_⟩
 ·rw[e,vY,List.length_cons]at hr
  omega
 ·exact⟨hh,oQ⟩
 ·exact⟨hh,oQ⟩
 ·exact⟨hh,oQ⟩
theorem cI{r n:Nat}(h:hp w r=Row 5 (uD Pg 5 n)):Has w (some ⟨r,0,none⟩) (bv (List.replicate n 0)):=by
 have e:=Has.of_row h;rw[lZ c5u zc5]at e;have e2:bv (List.replicate n 0)=(Array.replicate n (Value.int .u8 0)).toList:=by simp[bv,u8v]
 rw[e2];exact e
theorem rK{b i:Nat}{n:ByteArray}{K:ByteArray ->Prop}(h:atR (hp w b) i=some (.string n))(hK:K n):LdS w ⟨b,i,none⟩ K:=by rw[vU,h,RdS_some];exact hK
theorem Made.cs_len(M:Made k W H L pal cl fl xs zs d0 dr):(xV k W H L pal cl d0 dr).length<=100000000:=by
 have:=yN M.okc.1;have:=M.len;unfold qU at this;rw[List.length_append]at this;omega
end
section
variable{w w' w0 wB:wQ}{E:Er}{k W H D C:Nat}{L:Bool}{pal:List Px}{cl:List Nat}{fl xs zs d0:bQ}{dr:List (bQ)}{p q:pQ}{l c c':Nat}{cs ds es r:List Ch}{hd dd:bQ}{nm:bQ}{s:Sl}{db rb kb crc:Nat}{d:Dec}{rs:bQ}
theorem fillD{r:Nat}{a0 a1 a2 a3:Int}{b:Bool}{s p c:Sl}{K:World ->Prop}(h:hp w r=Row 31 (zc Pg 31))(hK:∀w',hp w' r=Row 31 (yF a0 a1 a2 a3 b s p c) ->Fr [r] w w' ->hn w'=hn w ->K w'):
  qB w ⟨r,0,none⟩ (.int .i64 a0) fun w=>qB w ⟨r,0+1,none⟩ (.int .i64 a1) fun w=>qB w ⟨r,0+2,none⟩ (.int .i64 a2) fun w=>qB w ⟨r,0+3,none⟩ (.int .i64 a3) fun w=>qB w ⟨r,0+4,none⟩ (.bool b) fun w=>qB w ⟨r,0+5,none⟩ (.slice s.a s.len s.cap) fun w=>qB w ⟨r,0+6,none⟩ (.slice p.a p.len p.cap) fun w=>qB w ⟨r,0+7,none⟩ (.slice c.a c.len c.cap) K:=by
 rw[zc31]at h;refine qD h sQ fun w1 h1 f1 n1=> ?_;refine qD h1 sQ fun w2 h2 f2 n2=> ?_;refine qD h2 sQ fun w3 h3 f3 n3=> ?_;refine qD h3 sQ fun w4 h4 f4 n4=> ?_;refine qD h4 sQ fun w5 h5 f5 n5=> ?_;refine qD h5 sQ fun w6 h6 f6 n6=> ?_;refine qD h6 sQ fun w7 h7 f7 n7=> ?_;refine qD h7 sQ fun w8 h8 f8 n8=> ?_;exact hK w8 (by simpa [yF]using h8) (f1.trans (f2.trans (f3.trans (f4.trans (f5.trans (f6.trans (f7.trans f8))))))) oQ
structure DrawnAt (w0 w:wQ) (r W H D C:Nat) (L:Bool) (pal:List Px) (cl:List Nat) (s p c:Sl) (ns:List Int):Prop where
 fr:Fr [] w0 w
 row:hp w r=Row 31 (yF W H D C L s p c)
 new:hn w0<=r
 os:Own w (hn w0) 3 1 s.a s.len s.cap (tJ ns)
 nn:ns.length=W*H*chN C
 op:Own w (hn w0) 43 4 p.a p.len p.cap (gZ pal)
 oc:Own w (hn w0) 3 1 c.a c.len c.cap (iv cl)
 hW:1<=W/\W<=20
 hH:1<=H/\H<=20
 ok:yW D C pal cl
theorem hU{n:Nat}(hn32:n<4294967296){ss:List Nat}(hx:HasW w p (ss.map fun(s:Nat)=> .int .u16 (s:Int)))(hl:l=ss.length)(hb:l<=1000){K:Nat ->World ->Prop}
  (hK:∀{W H:Nat} {L:Bool} {pal:List Px} {cl:List Nat} {s p c:Sl} {ns:List Int} {r:Nat} {w':wQ},DrawnAt w w' r W H (qE (n%15)).2 (qE (n%15)).1 L pal cl s p c ns ->K r w'):
  CallT Pg 23 #[.int .u32 n,.slice p l c] w fun v4 w5=>Exists fun n6:Int=>Exists fun n7:Int=>Exists fun n8:Int=>Exists fun n9:Int=>Exists fun b10:Bool=>Exists fun p11:pQ=>Exists fun l12:Nat=>Exists fun c13:Nat=>Exists fun p14:pQ=>Exists fun l15:Nat=>Exists fun c16:Nat=>Exists fun p17:pQ=>Exists fun l18:Nat=>Exists fun c19:Nat=>And (v4= .agg #[.int .i64 n6,.int .i64 n7,.int .i64 n8,.int .i64 n9,.bool b10,.slice p11 l12 c13,.slice p14 l15 c16,.slice p17 l18 c19]) (qK w5 (.cells (zc Pg 31) 31) fun r20 w21=>qB w21 ⟨r20,0,none⟩ (.int .i64 n6) fun w22=>qB w22 ⟨r20,0+1,none⟩ (.int .i64 n7) fun w23=>qB w23 ⟨r20,0+2,none⟩ (.int .i64 n8) fun w24=>qB w24 ⟨r20,0+3,none⟩ (.int .i64 n9) fun w25=>qB w25 ⟨r20,0+4,none⟩ (.bool b10) fun w26=>qB w26 ⟨r20,0+5,none⟩ (.slice p11 l12 c13) fun w27=>qB w27 ⟨r20,0+6,none⟩ (.slice p14 l15 c16) fun w28=>qB w28 ⟨r20,0+7,none⟩ (.slice p17 l18 c19) fun w29=>K r20 w29):=by
 refine CallT.mono (c23 hn32 hx hl hb) ?_;rintro v w1 ⟨W,H,L,s,pp,cc,ns,pal,cl,hW,hH,rfl,F1,hos,hnn,hop,hoc,hok⟩;refine⟨_,_,_,_,_,_,_,_,_,_,_,_,_,_,rfl,?_⟩;refine qF fun w2 h2 f2 n2=> ?_;have hs:=F1.size;refine fillD h2 fun w3 h3 f3 n3=>hK ⟨(F1.trans f2).new1 f3 hs,h3,hs,?_,hnn,?_,?_,hW,hH,hok⟩
 ·exact(hos.fr0 f2).fr f3 (fun a ha=>by have:=hos.at ha;simp;omega)
 ·exact(hop.fr0 f2).fr f3 (fun a ha=>by have:=hop.at ha;simp;omega)
 ·exact(hoc.fr0 f2).fr f3 (fun a ha=>by have:=hoc.at ha;simp;omega)
theorem ldD{r:Nat}{s p c:Sl}{W H D C:Int}(h:hp w r=Row 31 (yF W H D C L s p c)){K:Int ->Int ->Int ->Int ->Bool ->pQ ->Nat ->Nat ->pQ ->Nat ->Nat ->pQ ->Nat ->Nat ->Prop}(hK:K W H D C L s.a s.len s.cap p.a p.len p.cap c.a c.len c.cap):
  LdI w ⟨r,0,none⟩ .i64 fun n1=>LdI w ⟨r,0+1,none⟩ .i64 fun n2=>LdI w ⟨r,0+2,none⟩ .i64 fun n3=>LdI w ⟨r,0+3,none⟩ .i64 fun n4=>LdB w ⟨r,0+4,none⟩ fun b=>qS w ⟨r,0+5,none⟩ fun p1 l1 c1=>qS w ⟨r,0+6,none⟩ fun p2 l2 c2=>qS w ⟨r,0+7,none⟩ fun p3 l3 c3=>K n1 n2 n3 n4 b p1 l1 c1 p2 l2 c2 p3 l3 c3:=
 qC h rfl (qC h rfl (qC h rfl (qC h rfl (zM h rfl (qL h rfl (qL h rfl (qL h rfl hK)))))))
theorem qCc{r m:Nat}{s p c:Sl}{ns:List Int}(hk:k<15)(hm:m<4294967296)(h:DrawnAt w0 w r W H (qE k).2 (qE k).1 L pal cl s p c ns){K:pQ ->Nat ->Nat ->World ->Prop}
  (hK:∀{fl xs zs d0:bQ} {dr:List (bQ)},Made k W H L pal cl fl xs zs d0 dr ->∀p' l' c' w',Fr [] w w' ->Pcs w0 w' p' l' c' (xV k W H L pal cl d0 dr) ->K p' l' c' w'):
  CallT Pg 24 #[.agg #[.int .i64 (W:Int),.int .i64 (H:Int),.int .i64 ((qE k).2:Int),.int .i64 ((qE k).1:Int),.bool L,.slice s.a s.len s.cap,.slice p.a p.len p.cap,.slice c.a c.len c.cap],.int .u32 (m:Int)] w fun v w1=>Exists fun p':pQ=>Exists fun l':Nat=>Exists fun c':Nat=>And (v= .slice p' l' c') (CallT Pg 30 #[.slice p' l' c'] w1 fun v' w2=>Exists fun p2:pQ=>Exists fun l2:Nat=>Exists fun c2:Nat=>And (v'= .slice p2 l2 c2) (K p2 l2 c2 w2)):=by
 refine CallT.mono (c24 hm h.hW h.hH (vO hk).1 h.os h.nn h.op h.oc h.ok) ?_;rintro v w1 hF;obtain⟨fl,xs,zs,d0,dr,M,f,q,c',rfl,ho⟩:=nU hk h.hW h.hH h.ok hF;exact⟨_,_,_,rfl,qBz M (h.fr.trans f) (ho.base_le h.fr.size) rfl fun p l c w' F f' hp=>hK M p l c w' (f.trans f') hp⟩
end
def wp6(x0:Int)(x1:pQ)(x1l:Nat)(x1c:Nat)(x2:Int)(R:vPq)(w:wQ):Prop:=IfC (decide ((x1l:Int)>(2147483647:Int))) (R (.bool true) w) (CallT Pg 22 #[.slice x1 x1l x1c] w fun X p=>∃q,And (X= .bool q) (IfC (!q) (R (.bool true) p) (zH 15 (zH 11 (CallT Pg 23 #[.int .u32 (wrap .u32 ((wrap .u32 (x0 -(Int.tmod x0 15)))+(Int.tmod x0 11))),.slice x1 x1l x1c] p fun Y Z=>∃r s t u v y z A B C D E F G,And (Y= .agg #[iQq r,iQq s,iQq t,iQq u,.bool v,.slice y z A,.slice B C D,.slice E F G]) (qK Z (.cells (zc Pg 31) 31) fun c aa=>qB aa ⟨c,0,none⟩ (iQq r) fun ab=>qB ab ⟨c,0+1,none⟩ (iQq s) fun ac=>qB ac ⟨c,0+2,none⟩ (iQq t) fun ad=>qB ad ⟨c,0+3,none⟩ (iQq u) fun ae=>qB ae ⟨c,0+4,none⟩ (.bool v) fun af=>qB af ⟨c,0+5,none⟩ (.slice y z A) fun ag=>qB ag ⟨c,0+6,none⟩ (.slice B C D) fun ah=>qB ah ⟨c,0+7,none⟩ (.slice E F G) fun l=>zH 300 (xK (fun(dp:(Unit)) (g:wQ)=>l4q g c fun ai aj ak al=>LdB g ⟨c,0+4,none⟩ fun am=>qS g ⟨c,0+5,none⟩ fun ao ap aq=>qS g ⟨c,0+6,none⟩ fun ar au av=>qS g ⟨c,0+7,none⟩ fun aw ax ay=>CallT Pg 24 #[.agg #[iQq ai,iQq aj,iQq ak,iQq al,.bool am,.slice ao ap aq,.slice ar au av,.slice aw ax ay],.int .u32 (wrap .u32 ((wrap .u32 (x0 -(Int.tmod x0 15)))+(Int.tmod x0 11)))] g fun az ba=>∃H I J,And (az= .slice H I J) (CallT Pg 30 #[.slice H I J] ba fun bb bc=>∃m j K,And (bb= .slice m j K) (CallT Pg 31 #[.slice m j K] bc fun bd be=>∃L M N,And (bd= .slice L M N) (CallT Pg 28 #[.slice L M N] be fun bf bg=>∃O,And (bf= .bool O) (qK bg (.cells #[] 53) fun bh bi=>xE (fun(bj:(Sl×Int×Unit) ->World ->Prop)=>bj ((⟨some ⟨bh,0,none⟩,0,0⟩:Sl),(0:Int),()) bi) (fun b i k=>IfC (decide (b.2.1<(j:Int))) (And (0<=b.2.1/\b.2.1<(j:Int)) (qN m fun n=>LdS i (qI n b.2.1.toNat 2) fun bk=>qS i ⟨(qI n b.2.1.toNat 2).block,(qI n b.2.1.toNat 2).off+1,none⟩ fun bl bm bn=>qK i (.cells (zc Pg 53) 53) fun f bo=>qB bo ⟨f,0,none⟩ (.string bk) fun bp=>qB bp ⟨f,0+1,none⟩ (.slice bl bm bn) fun e=>LdS e ⟨f,0,none⟩ fun bq=>IfC (yI bq ⟨#[116,82,78,83]⟩) (k ((⟨b.1.a,b.1.len,b.1.cap⟩:Sl),wIq (b.2.1+1),()) e) (LdS e ⟨f,0,none⟩ fun br=>IfC (yI br ⟨#[73,68,65,84]⟩) (And (0<=wIq ((b.1.len:Int) -1)/\wIq ((b.1.len:Int) -1)<(b.1.len:Int)) (qN b.1.a fun bs=>LdS e (qI bs ((wIq ((b.1.len:Int) -1)).toNat) 2) fun bt=>IfC (!(yI bt ⟨#[73,68,65,84]⟩)) (And (0<=wIq (Int.tmod x2 300)/\wIq (Int.tmod x2 300)<=wIq (Int.tmod x2 300)/\wIq (Int.tmod x2 300)<=281474976710656/\(1:Int)*(wIq (Int.tmod x2 300))<=281474976710656) (qK e (.cells (uD Pg 5 ((wIq (Int.tmod x2 300)).toNat)) 5) fun bu bv=>qK bv (.cells #[.string ⟨#[116,82,78,83]⟩,.slice (some ⟨bu,0,none⟩) ((wIq (Int.tmod x2 300)).toNat) ((wIq (Int.tmod x2 300)).toNat)] 53) fun bw bx=>zQ Pg bx #[50,50] 50 (.slice b.1.a b.1.len b.1.cap) (.slice (some ⟨bw,0,none⟩) 1 1) fun bz ca cb o=>LdS o ⟨f,0,none⟩ fun cc=>qS o ⟨f,0+1,none⟩ fun cd ce cf=>qK o (.cells #[.string cc,.slice cd ce cf] 53) fun cg ch=>zQ Pg ch #[50,50] 50 (.slice bz ca cb) (.slice (some ⟨cg,0,none⟩) 1 1) fun ci cj ck cl=>k ((⟨ci,cj,ck⟩:Sl),wIq (b.2.1+1),()) cl)) (LdS e ⟨f,0,none⟩ fun cm=>qS e ⟨f,0+1,none⟩ fun cn co cp=>qK e (.cells #[.string cm,.slice cn co cp] 53) fun cq cr=>zQ Pg cr #[50,50] 50 (.slice b.1.a b.1.len b.1.cap) (.slice (some ⟨cq,0,none⟩) 1 1) fun cs ct cu cv=>k ((⟨cs,ct,cu⟩:Sl),wIq (b.2.1+1),()) cv))) (LdS e ⟨f,0,none⟩ fun cw=>qS e ⟨f,0+1,none⟩ fun cx cy cz=>qK e (.cells #[.string cw,.slice cx cy cz] 53) fun da db=>zQ Pg db #[50,50] 50 (.slice b.1.a b.1.len b.1.cap) (.slice (some ⟨da,0,none⟩) 1 1) fun dc dd de df=>k ((⟨dc,dd,de⟩:Sl),wIq (b.2.1+1),()) df)))) (IfC O (CallT Pg 31 #[.slice b.1.a b.1.len b.1.cap] i fun dg dh=>∃P Q S,And (dg= .slice P Q S) (CallT Pg 29 #[.slice P Q S,iQq 1] dh fun di dj=>∃T,And (di= .bool T) (R (.bool T) dj))) (R (.bool false) i)))))))) (fun h=>xK (fun(U:(Bool×Unit)) (d:wQ)=>IfC U.1 (IfC U.1 (R (.bool true) d) (h (()) d)) (LdI d ⟨c,0+3,none⟩ .i64 fun dk=>IfC (dk==2) (IfC ((wIq (Int.tmod x2 300))==6) (IfC ((wIq (Int.tmod x2 300))==6) (R (.bool true) d) (h (()) d)) (LdI d ⟨c,0+3,none⟩ .i64 fun dl=>IfC (dl==3) (IfC (decide ((wIq (Int.tmod x2 300))<=(256:Int))) (R (.bool true) d) (h (()) d)) (h (()) d))) (LdI d ⟨c,0+3,none⟩ .i64 fun dm=>IfC (dm==3) (IfC (decide ((wIq (Int.tmod x2 300))<=(256:Int))) (R (.bool true) d) (h (()) d)) (h (()) d)))) (fun V=>LdI l ⟨c,0+3,none⟩ .i64 fun dn=>IfC (dn==0) (V ((wIq (Int.tmod x2 300))==2,()) l) (V (false,()) l))))))))))
theorem call6{x0:Int}{x1:pQ}{x1l:Nat}{x1c:Nat}{x2:Int}{R:vPq}{w:wQ}(h:wp6 x0 x1 x1l x1c x2 R w):CallT Pg 6 #[.int .u32 x0,.slice x1 x1l x1c,.int .u16 x2] w R:=cVq [(24,[],[0,7,8]),(27,[(33,.b)],[0,7,8]),(51,[(11,.sl),(68,.i .i64)],[6,8,10,66,67])] Tryz.func6 h
section
variable{w w' w0 wB:wQ}{E:Er}{k W H D C:Nat}{L:Bool}{pal:List Px}{cl:List Nat}{fl xs zs d0:bQ}{dr:List (bQ)}{p q:pQ}{l c c':Nat}{cs ds es r:List Ch}{hd dd:bQ}{nm:bQ}{s:Sl}{db rb kb crc:Nat}{d:Dec}{rs:bQ}
theorem Grow.last{ch:Ch}(h:Grow wB w s (ds++[ch]))(hbig:ds.length<=1000000000){K:ByteArray ->Prop}(hK:K ⟨ch.1.toArray⟩):
  And (0<=wrap .i64 ((s.len:Int) -(1:Int))/\wrap .i64 ((s.len:Int) -(1:Int))<(s.len:Int)) (qN s.a fun a=>LdS w (qI a (wrap .i64 ((s.len:Int) -(1:Int))).toNat 2) K):=by
 obtain⟨F,vs,ho,hpc,hl⟩:=h;rw[List.length_append,List.length_singleton]at hl;have e:wrap .i64 ((s.len:Int) -(1:Int))=((ds.length:Nat):Int):=by rw[qA oQ oQ];omega
 rw[e];refine⟨⟨oQ,oQ⟩,?_⟩;obtain⟨q,m,c2,e1,e2,_⟩:=hpc.at (i:=ds.length) (ch:=ch) sQ;obtain⟨g,o,ea,k1,k2⟩:=Has.at2 ho.has e1 e2;rw[ea,PtrC_some,zE,Int.toNat_natCast];exact rK k1 hK
def zW(zz:bQ)(m:List Ch)(ch:Ch):List Ch:=if ch.1=xJ then m else if ch.1=nIDAT then(if(m.getLast?.map Prod.fst)=some nIDAT then m++[ch]else m++[(xJ,zz),ch])else m++[ch]
theorem qEh(zz:bQ)(m:List Ch)(ch:Ch):(zW zz m ch).length<=m.length+2:=by
 unfold zW
 split
 ·omega
 ·split
  ·split<;>simp
  ·simp
theorem iF(zz:bQ):∀(cs m:List Ch),(cs.foldl (zW zz) m).length<=m.length+2*cs.length
 |[],m=>by simp
 |c::cs,m=>by
  have:=iF zz cs (zW zz m c);have:=qEh zz m c;simp only[List.foldl_cons,List.length_cons];omega
theorem iE(zz:bQ):∀(dr:List (bQ)) (m:List Ch),m.getLast?.map Prod.fst=some nIDAT ->(xZ dr).foldl (zW zz) m=m++xZ dr
 |[],m,_ =>by simp[xZ]
 |d::dr,m,h=>by
  have e:zW zz m (nIDAT,d)=m++[(nIDAT,d)]:=by
   unfold zW;rw[if_neg (show¬nIDAT=xJ by decide),if_pos rfl,if_pos h]
  show List.foldl (zW zz) (zW zz m (nIDAT,d)) (xZ dr)=_;rw[e,iE zz dr _ sQ];show _ =m++((nIDAT,d)::xZ dr);simp
theorem qGi(zz:bQ):(xV k W H L pal cl d0 dr).foldl (zW zz) []=((nIHDR,xT W H (qE k).2 (qE k).1 L)::(if 0<pal.length then [(xX,xL pal)]else []))++((xJ,zz)::(xZ (d0::dr)++[(xW,[])])):=by
 have h1:(zK W H (qE k).2 (qE k).1 L pal cl).foldl (zW zz) []=(nIHDR,xT W H (qE k).2 (qE k).1 L)::(if 0<pal.length then [(xX,xL pal)]else []):=by
  have t:∀(m:List Ch) (x:bQ),zW zz m (xJ,x)=m:=fun m x=>by unfold zW;rw[if_pos rfl]
  unfold zK;rw[List.foldl_cons,List.foldl_append,List.foldl_append];have e1:zW zz [] (nIHDR,xT W H (qE k).2 (qE k).1 L)=[(nIHDR,xT W H (qE k).2 (qE k).1 L)]:=by
   unfold zW;rw[if_neg (show¬nIHDR=xJ by decide),if_neg (show¬nIHDR=nIDAT by decide)]
   rfl
  rw[e1];have e2:∀m:List Ch,(if 0<pal.length then [(xX,xL pal)]else []).foldl (zW zz) m=m++(if 0<pal.length then [(xX,xL pal)]else []):=by
   intro m
   split
   ·show zW zz m (xX,xL pal)=_
    unfold zW;rw[if_neg (show¬xX=xJ by decide),if_neg (show¬xX=nIDAT by decide)]
   ·simp
  have e3:∀m:List Ch,(if zG pal then [(xJ,xM pal)]else []).foldl (zW zz) m=m:=by
   intro m
   split
   ·exact t m (xM pal)
   ·rfl
  have e4:∀m:List Ch,(if 0<cl.length then [(xJ,zX cl)]else []).foldl (zW zz) m=m:=by
   intro m
   split
   ·exact t m (zX cl)
   ·rfl
  rw[e2,e3,e4]
  rfl
 unfold xV;rw[List.foldl_append,List.foldl_append,h1];generalize hm:((nIHDR,xT W H (qE k).2 (qE k).1 L)::(if 0<pal.length then [(xX,xL pal)]else []):List Ch)=m;have hlast:m.getLast?.map Prod.fst≠some nIDAT:=by
  rw[<-hm]
  split
  ·simp
   decide
  ·simp
   decide
 have e5:zW zz m (nIDAT,d0)=m++[(xJ,zz),(nIDAT,d0)]:=by
  unfold zW;rw[if_neg (show¬nIDAT=xJ by decide),if_pos rfl,if_neg hlast]
 show zW zz ((xZ dr).foldl (zW zz) (zW zz m (nIDAT,d0))) (xW,[])=_;rw[e5,iE zz dr _ sQ];unfold zW;rw[if_neg (show¬xW=xJ by decide),if_neg (show¬xW=nIDAT by decide)];show _ =m++((xJ,zz)::((nIDAT,d0)::xZ dr++[(xW,[])]));simp
theorem qFh(hk:k<11)(x:Int)(hx:x=(cbN (qE k).1 (qE k).2:Nat)):((x=1\/x=2\/x=3\/x=4\/x=12) ->(qE k).1=0)/\((x=6\/x=14) ->(qE k).1=2)/\((7<=x/\x<=10) ->(qE k).1=3):=by
 subst hx;obtain rfl|rfl|rfl|rfl|rfl|rfl|rfl|rfl|rfl|rfl|rfl:=(by omega:k=0\/k=1\/k=2\/k=3\/k=4\/k=5\/k=6\/k=7\/k=8\/k=9\/k=10)<;>decide
theorem qGw{n:Nat}(hn:n<4294967296):∃n':Nat,wrap .u32 ((wrap .u32 ((n:Int) -((n%15:Nat):Int)))+((n%11:Nat):Int))=n'/\n'<4294967296/\n'%15<11:=by
 by_cases h:n=4294967295
 ·subst h
  exact⟨2,dQ,dQ,dQ⟩
 ·have h1:n -n%15<=4294967280:=oQ
  refine⟨n -n%15+n%11,?_,oQ,oQ⟩;rw[xI (n:=(n:Int) -_) oQ oQ,xI oQ oQ];omega
theorem c6{n m:Nat}(hn32:n<4294967296)(hm:m<65536){ss:List Nat}(hx:HasW w p (ss.map fun(s:Nat)=> .int .u16 (s:Int)))(hl:l=ss.length)(hV:Env w E):CallT Pg 6 #[.int .u32 n,.slice p l c,.int .u16 m] w fun v w'=>v= .bool true/\Fr [] w w':=by
 apply call6;unfold wp6 l4q wIq iQq;refine kZ (R:=fun v w'=>v= .bool true/\Fr [] w w') ⟨rfl,Fr.refl _ _⟩ fun hb=> ?_;refine xF dQ (xF dQ ?_);obtain⟨n',en,hn',hk⟩:∃n':Nat,wrap .u32 ((wrap .u32 ((n:Int) -(Int.tmod (n:Int) (15:Int))))+(Int.tmod (n:Int) (11:Int)))=n'/\n'<4294967296/\n'%15<11:=by
  rw[show Int.tmod (n:Int) 15=((n%15:Nat):Int)from xQ n 15,show Int.tmod (n:Int) 11=((n%11:Nat):Int)from xQ n 11];exact qGw hn32
 rw[en];refine hU hn' hx hl hb fun{W H L pal cl s pp cc ns r w1} hd=> ?_;have hk15:n'%15<15:=oQ;generalize n'%15=k at*;have e300:wrap .i64 (Int.tmod (m:Int) (300:Int))=((m%300:Nat):Int):=by rw[show Int.tmod (m:Int) 300=((m%300:Nat):Int)from xQ m 300,qA oQ oQ]
 rw[e300];have ht:m%300<300:=Nat.mod_lt _ dQ;generalize m%300=t at*;refine xF dQ (qJ (fun _ w'=>w'=w1/\((qE k).1=0 ->t≠2)/\((qE k).1=2 ->t≠6)/\((qE k).1=3 ->256<t)) ?_ ?_)
 ·rintro⟨⟩ w' ⟨rfl,hg,htc,hpl⟩
  refine ldD hd.row (qCc hk15 hn' hd fun{fl xs zs d0 dr} M p2 l2 c2 w2 f2 h2=> ?_);refine uA M hV (hd.fr.trans f2) h2 fun w3 F3 f3=> ?_;have h3:=h2.fr0 f3;have hml:=M.cs_len;have hm3:=mI (k:=k) (W:=W) (H:=H) (L:=L) (pal:=pal) (cl:=cl) (d0:=d0) (dr:=dr);have hl2:l2=(xV k W H L pal cl d0 dr).length:=by obtain⟨b,vs,_,_,h,_⟩:=h2;exact h
  have hfold:=qGi (k:=k) (W:=W) (H:=H) (L:=L) (pal:=pal) (cl:=cl) (d0:=d0) (dr:=dr) (List.replicate t 0);have hlz:(List.replicate t (0:UInt8)).length=t:=List.length_replicate;obtain⟨hok,hlen⟩:=M.okc;have hc0:(xV k W H L pal cl d0 dr).take 1=[(nIHDR,xT W H (qE k).2 (qE k).1 L)]:=rfl;have hc0':=lO (k:=k) (W:=W) (H:=H) (L:=L) (pal:=pal) (cl:=cl) (d0:=d0) (dr:=dr);have hokf:kA ((xV k W H L pal cl d0 dr).foldl (zW (List.replicate t 0)) []):=by
   rw[hfold];intro x hx;simp only[List.cons_append,List.mem_cons,List.mem_append]at hx;rcases hx with rfl|hx|rfl|hx|hx
   ·exact⟨rfl,by show 13<_;decide⟩
   ·refine hok x ?_
    unfold xV zK;simp only[List.cons_append,List.mem_cons,List.mem_append];exact .inr (.inl (.inl (.inl hx)))
   ·exact⟨rfl,by rw[hlz];omega⟩
   ·refine hok x ?_
    unfold xV;simp only[List.mem_append];exact .inl (.inr hx)
   ·refine hok x ?_
    unfold xV;simp only[List.mem_append];exact .inr (by simpa using hx)
  have hlt:(qU ((xV k W H L pal cl d0 dr).foldl (zW (List.replicate t 0)) [])).length<1099511627776:=by
   have e1:=M.len;rw[hfold];unfold xV zK at e1;unfold qU at e1⊢;simp only[List.cons_append,qZ,xU,List.length_append]at e1⊢;rw[xA (nm:=xJ) rfl,hlz];omega
  have told:∀{w1:wQ} {q:pQ} {c:Nat},Env w1 E ->Has w1 q (bv (qU ((xV k W H L pal cl d0 dr).foldl (zW (List.replicate t 0)) []))) ->CallT Pg 29 #[.slice q (qU ((xV k W H L pal cl d0 dr).foldl (zW (List.replicate t 0)) [])).length c,.int .i64 1] w1 fun v w'=>v= .bool true/\Fr [] w1 w':=by
   intro w7 q c hV7 hx7;rw[hfold]at hx7 hlt⊢;refine gP (a:=(nIHDR,xT W H (qE k).2 (qE k).1 L)::(if 0<pal.length then [(xX,xL pal)]else [])) (r:=(if zG pal then [(xJ,xM pal)]else [])++(if 0<cl.length then [(xJ,zX cl)]else [])) (bad:=qV xJ (List.replicate t 0)++chs (xZ (d0::dr)++[(xW,[])])) (by rw[qU,xU,qZ (c:=(xJ,List.replicate t 0))]) hx7 rfl hlt hV7 rfl M.hk M.hW M.hH M.ok (fun _ _ _ =>False) (fun{w0 w1 db rb kb p d crc} hA hD hR=> ?_) (fun _ _ h=>h.elim);obtain⟨hh,_⟩:=hR.headed (by unfold uV;simp);obtain⟨a1,a2,a3⟩:=qFh hk d.cb hh.cb_;exact CallT.mono (cX (C:=(·=1)) hA hD (by rw[hlz];omega) (fun h=>by rw[hlz];exact hg (a1 h)) (fun h=>by rw[hlz];exact htc (a2 h)) (fun h=>by rw[hlz];exact hpl (a3 h)) rfl) fun v w2 h=>⟨h.1,.inl h.2⟩
  generalize hcs:xV k W H L pal cl d0 dr=cs at*;refine qF fun w4 h4 f4 n4=> ?_;refine qP (fun z w'=>∃i:Nat,z.2.1=i/\i<=cs.length/\Grow w3 w' z.1 ((cs.take i).foldl (zW (List.replicate t 0)) [])/\(1<=i ->(cs.take i).foldl (zW (List.replicate t 0)) []≠[])) (fun z _ =>cs.length -z.2.1.toNat) ⟨0,rfl,oQ,Grow.start h4 f4 (Nat.le_refl _),fun h=>by omega⟩ ?_;rintro⟨⟨sa,sl,sc⟩,_,⟨⟩⟩ w5 ⟨i,rfl,hi,hG,hne⟩;dsimp only at hG⊢;have F5:=hG.1;refine qG (fun hlt'=> ?_) (fun hge=> ?_)
  ·obtain⟨ch,hch⟩:∃ch,cs[i]? =some ch:=⟨_,List.getElem?_eq_getElem oQ⟩
   refine mP h3 F5 hch fun q c' r w6 f6 hr hq hqc hqb hrn=> ?_;have hG6:=hG.fr0 f6;rw[show yI ⟨ch.1.toArray⟩ ⟨#[116,82,78,83]⟩=(ch.1==xJ)from yR _ xJ];have etk:cs.take (i+1)=cs.take i++[ch]:=by rw[List.take_add_one,hch];rfl
   have eF:(cs.take (i+1)).foldl (zW (List.replicate t 0)) []=zW (List.replicate t 0) ((cs.take i).foldl (zW (List.replicate t 0)) []) ch:=by rw[etk,List.foldl_append];rfl
   have hfl:=iF (List.replicate t 0) (cs.take i) [];have hti:(cs.take i).length=i:=by simp;omega
   rw[hti]at hfl;have ek:wrap .i64 ((i:Int)+1)=((i+1:Nat):Int):=by rw[qA oQ oQ];omega
   rw[ek];have hblk:∀x∈xD q,x<hn w6/\x∉xD sa:=fun x hx=>⟨Nat.lt_of_lt_of_le (hqb x hx).1 hG6.1.size,fun hx'=>by have:=(hG6.blk x hx').1;have:=(hqb x hx).1;omega⟩;generalize hmm:(cs.take i).foldl (zW (List.replicate t 0)) []=mm at*;have fin:∀(s':Sl) (w':wQ),Grow w3 w' s' (zW (List.replicate t 0) mm ch) ->zW (List.replicate t 0) mm ch≠[] ->(∃j:Nat,((i+1:Nat):Int)=j/\j<=cs.length/\Grow w3 w' s' ((cs.take j).foldl (zW (List.replicate t 0)) [])/\(1<=j ->(cs.take j).foldl (zW (List.replicate t 0)) []≠[]))/\cs.length -(((i+1:Nat):Int)).toNat<cs.length -(i:Int).toNat:=by
    intro s' w' hG' hne';refine⟨⟨i+1,rfl,oQ,?_,fun _ => ?_⟩,oQ⟩
    ·rw[eF];exact hG'
    ·rw[eF];exact hne'
   have i1:ch.1=xJ\/ch.1=nIDAT ->1<=i:=by
    intro h;rcases Nat.eq_zero_or_pos i with rfl|h'
    ·rw[hc0']at hch
     obtain rfl:=Option.some.inj hch;rcases h with h|h
     ·exact absurd h (show¬nIHDR=xJ by decide)
     ·exact absurd h (show¬nIHDR=nIDAT by decide)
    ·exact h'
   refine qT (fun htr=> ?_) (fun htr=> ?_)
   ·have e:ch.1=xJ:=eq_of_beq htr
    have es:zW (List.replicate t 0) mm ch=mm:=by unfold zW;rw[if_pos e]
    exact fin ⟨sa,sl,sc⟩ w6 (by rw[es];exact hG6) (by rw[es];exact hne (i1 (.inl e)))
   have e1:¬ch.1=xJ:=by intro e;rw[e]at htr;exact absurd htr dQ
   refine rY hr rfl ?_;rw[show yI ⟨ch.1.toArray⟩ ⟨#[73,68,65,84]⟩=(ch.1==nIDAT)from yR _ nIDAT];refine qT (fun hid=> ?_) (fun hid=> ?_)
   ·have e2:ch.1=nIDAT:=eq_of_beq hid
    have hmne:=hne (i1 (.inr e2));obtain⟨mi,ml,rfl⟩:∃mi ml,mm=mi++[ml]:=⟨_,_,(List.dropLast_concat_getLast hmne).symm⟩;rw[List.length_append,List.length_singleton,List.length_nil]at hfl;refine Grow.last hG6 oQ ?_;rw[show yI ⟨ml.1.toArray⟩ ⟨#[73,68,65,84]⟩=(ml.1==nIDAT)from yR _ nIDAT];refine qT (fun hli=> ?_) (fun hli=> ?_)
    ·have es:zW (List.replicate t 0) (mi++[ml]) ch=mi++[ml]++[(xJ,List.replicate t 0),ch]:=by
      unfold zW;rw[if_neg e1,if_pos e2,if_neg];intro h;simp at h;rw[h]at hli;exact absurd hli dQ
     refine⟨⟨oQ,oQ,oQ,oQ⟩,?_⟩;rw[Int.toNat_natCast];refine qF fun w7 h7 f7 n7=> ?_;have hz:Has w7 (some ⟨hn w6,0,none⟩) (bv (List.replicate t 0)):=cI h7;refine Grow.add (nm:=xJ) (dd:=List.replicate t 0) (hG6.fr0 f7) hz hlz.symm (fun e=>by cases e) (fun x hx=> ?_) (by rw[List.length_append,List.length_singleton];omega) fun s8 w8 hG8 f8 hm8=> ?_
     ·simp[xD]at hx
      subst hx;refine⟨oQ,fun hx'=> ?_⟩;have:=(hG6.blk _ hx').2;omega
     ·have hr8:=f8.row (f7.row0 hr) (fun hx'=> ?_)
      ·refine Grow.addAt (nm:=ch.1) (dd:=ch.2) hG8 hr8 (hq.fr (f7.mono (S':=xD sa) sQ|>.trans f8) (fun a ha hx'=>(hblk a.block (by rw[ha];simp[xD])).2 hx')) hqc (fun x hx=>⟨?_,fun hx'=> ?_⟩) (by simp;omega) fun s9 w9 hG9 f9 _ =>fin s9 w9 (by rw[es];simpa using hG9) (by rw[es];simp)
       ·have:=hblk x hx;have:=f7.size;have:=f8.size;omega
       ·rcases hm8 x hx' with h|h
        ·exact(hblk x hx).2 h
        ·have:=(hblk x hx).1;have:=f7.size;omega
      ·have hb1:=(hG.blk _ hx').2
       omega
    ·have es:zW (List.replicate t 0) (mi++[ml]) ch=mi++[ml]++[ch]:=by
      unfold zW;rw[if_neg e1,if_pos e2,if_pos];simp
      simpa using hli
     exact hG6.addAt (nm:=ch.1) (dd:=ch.2) hr hq hqc hblk (by simp;omega) fun s7 w7 hG7 f7 _ =>fin s7 w7 (by rw[es];exact hG7) (by rw[es];simp)
   ·have e2:¬ch.1=nIDAT:=by intro e;rw[e]at hid;exact absurd hid dQ
    have es:zW (List.replicate t 0) mm ch=mm++[ch]:=by unfold zW;rw[if_neg e1,if_neg e2]
    exact hG6.addAt (nm:=ch.1) (dd:=ch.2) hr hq hqc hblk (by simp at hfl;omega) fun s7 w7 hG7 f7 _ =>fin s7 w7 (by rw[es];exact hG7) (by rw[es];simp)
  ·obtain rfl:i=cs.length:=oQ
   rw[List.take_length]at hG;exact xC (hG.told hV (F3.trans F5) hokf hlt told fun w6 F6=>⟨rfl,F6⟩)
 ·intro J hJ
  have Rt:(Value.bool true= .bool true/\Fr [] w w1):=⟨rfl,hd.fr⟩;refine qJ (fun z w'=>w'=w1/\(z.1=true ->True)/\(z.1=false ->(qE k).1=0 ->t≠2)) ?_ ?_
  ·rintro⟨z,⟨⟩⟩ w' ⟨rfl,_,hz⟩
   dsimp only at hz⊢;have pal3:(qE k).1≠2\/t≠6 ->z=false ->LdI w' ⟨r,0+3,none⟩ .i64 fun n135=>IfC (n135==(3:Int)) (IfC (decide ((t:Int)<=(256:Int))) (Value.bool true= .bool true/\Fr [] w w') (J () w')) (J () w'):=by
    intro h2 hz0;refine qC hd.row rfl (qQ (fun h3=>qG (fun _ =>Rt) (fun hgt=> ?_)) (fun h3=> ?_))
    ·exact hJ _ _ ⟨rfl,hz hz0,fun h=>by omega,fun _ =>by omega⟩
    ·exact hJ _ _ ⟨rfl,hz hz0,fun h=>by omega,fun h=>by omega⟩
   refine qT (fun e=>qT (fun _ =>Rt) (fun e'=>by rw[e]at e';cases e')) (fun e=> ?_);refine qC hd.row rfl (qQ (fun h2=> ?_) (fun h2=>pal3 (.inl oQ) e));exact qQ (fun h6=>qQ (fun _ =>Rt) (fun h=>absurd h6 h)) (fun h6=>pal3 (.inr oQ) e)
  ·intro J2 hJ2
   refine qC hd.row rfl (qQ (fun h0=>hJ2 _ _ ⟨rfl,fun _ =>trivial,fun e _ => ?_⟩) (fun h0=>hJ2 _ _ ⟨rfl,fun _ =>trivial,fun _ h=>by omega⟩));intro e2;subst e2;simp at e
end
section
variable{w w' w0 w1 wB:wQ}{E:Er}{k W H D C:Nat}{L:Bool}{pal:List Px}{cl:List Nat}{fl xs zs d0:bQ}{dr:List (bQ)}{p q:pQ}{l c c':Nat}{cs ds es r:List Ch}{hd dd:bQ}{nm:bQ}{s:Sl}{db rb kb crc:Nat}{d:Dec}{rs:bQ}
end
section
variable{w w' w0 w1 wB:wQ}{E:Er}{k W H D C:Nat}{L:Bool}{pal:List Px}{cl:List Nat}{fl xs zs d0:bQ}{dr:List (bQ)}{p q:pQ}{l c c':Nat}{cs ds es r:List Ch}{hd dd:bQ}{nm:bQ}{s:Sl}{db rb kb crc:Nat}{d:Dec}{rs:bQ}
end
section
variable{w w' w0 w1 wB:wQ}{E:Er}{k W H D C:Nat}{L:Bool}{pal:List Px}{cl:List Nat}{fl xs zs d0:bQ}{dr:List (bQ)}{p q:pQ}{l c c':Nat}{cs ds es r:List Ch}{hd dd:bQ}{nm:bQ}{db rb kb crc:Nat}{d:Dec}{rs:bQ}
end
section
variable{w w' w0 w1 wB:wQ}{E:Er}{k W H D C:Nat}{L:Bool}{pal:List Px}{cl:List Nat}{fl xs zs d0:bQ}{dr:List (bQ)}{p q:pQ}{l c c':Nat}{cs ds es r:List Ch}{hd dd:bQ}{nm:bQ}{s:Sl}{db rb kb crc:Nat}{d:Dec}{rs:bQ}
end
section
variable{w w' w0 w1 wB:wQ}{E:Er}{k W H D C:Nat}{L:Bool}{pal:List Px}{cl:List Nat}{fl xs zs d0:bQ}{dr:List (bQ)}{p q:pQ}{l c c':Nat}{rb:Nat}
end
end Go.Proofs
