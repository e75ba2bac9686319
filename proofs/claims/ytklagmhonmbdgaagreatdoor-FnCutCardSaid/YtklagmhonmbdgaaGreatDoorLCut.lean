/- Contracts of the law and of what it walks -/
import Derived.Test.YtklagmhonmbdgaaGreatDoorK4
set_option maxRecDepth 1000000
set_option linter.unusedVariables false
set_option linter.unusedSimpArgs false
set_option maxHeartbeats 4000000
namespace Go.Proofs
open Go Go.V
open Go.IntKind (wrap)
section
variable{w w' w0:wQ}{rb db kb crc k W H:Nat}{L:Bool}{p:pQ}{E:Er}{pal:List Px}{cl:List Nat}{d:Dec}
structure Env (w:wQ) (E:Er):Prop where
 tab:Tab w
 errs:Errs w E
 lo:E.n0<=hn w
 lace:LaceAt w E.n0
 ety:ETyp w
theorem Env.fr0(h:Env w E)(f:Fr [] w w'):Env w' E:=⟨h.tab.fr f sQ,h.errs.fr f sQ,Nat.le_trans h.lo f.size,h.lace.fr f (by have:=h.errs.low;omega) sQ,h.ety.fr0 f⟩
def Bad(E:Er)(C:Int ->Prop)(v:Value):Prop:=ErrF E v/\∀e',outE E v e' ->ErrK e'/\C (mL e')
theorem Bad.of125{s:ByteArray}{C:Int ->Prop}(hC:C 1):Bad E C (.iface 125 (.string s)):=by
 refine⟨.inr (.inr ⟨125,s,dQ,rfl⟩),fun e' he=> ?_⟩;rcases he with⟨h,_⟩|⟨_,rfl⟩
 ·simp[xP]at h
 ·exact⟨.inl ⟨s,rfl⟩,hC⟩
theorem Bad.ofEof{C:Int ->Prop}(hC:C 3)(hE:Errs w E):Bad E C (xP E.ea):=by
 refine⟨.inl rfl,fun e' he=> ?_⟩;rcases he with⟨_,rfl⟩|⟨h,_⟩
 ·exact⟨.inr (.inr ⟨_,rfl⟩),hC⟩
 ·exact absurd rfl h
theorem Bad.ofUne{C:Int ->Prop}(hC:C 3)(hE:Errs w E):Bad E C (xP E.ua):=by
 refine⟨.inr (.inl rfl),fun e' he=> ?_⟩;rcases he with⟨_,rfl⟩|⟨_,rfl⟩<;>exact⟨.inr (.inr ⟨_,rfl⟩),hC⟩
theorem c69t{xs:bQ}{C:Int ->Prop}(hr:RdAt w rb p xs)(hT:Tab w)(hE:Errs w E)(hlo:E.n0<=rb)(hrb:3<rb/\rb<hn w)(hp:∀a,p=some a ->3<a.block/\a.block<rb)(h8:8<=xs.length)(hsig:xs.take 8=sigL)(G:World ->Dec ->Nat ->bQ ->Prop)
  (start:∀w6 tmp,G w6 {eG (.iface 85 (.pointer (some ⟨rb,0,none⟩))) (hn w)with tmp:=tmp} 0 (xs.drop 8))
  (step:∀w1 d crc rs,Fr [rb] w w1 ->hn w+2<=hn w1 ->Errs w1 E ->Dst w1 (hn w+1) rb (hn w) p d crc rs ->G w1 d crc rs ->d.stage≠5/\CallT Pg 60 #[.pointer (some ⟨hn w+1,0,none⟩),.bool false] w1 fun v w2=>Fr [rb] w w2/\((v= .nilIface/\∃d' crc' rs',Dst w2 (hn w+1) rb (hn w) p d' crc' rs'/\rs'.length<rs.length/\G w2 d' crc' rs')\/Bad E C v)):
  CallT Pg 69 #[.iface 85 (.pointer (some ⟨rb,0,none⟩))] w fun v w'=>Fr [rb] w w'/\∃e,v= .tuple #[.nilIface,e]/\(ErrK e/\C (mL e)):=by
 have hlow:=hE.low;refine c69 hr hT hE hlo hrb hp h8 (fun w'=>Fr [rb] w w'/\hn w+2<=hn w'/\∃d crc rs,Dst w' (hn w+1) rb (hn w) p d crc rs/\G w' d crc rs) (fun w'=>left w' rb) ?_ ?_ ?_
 ·intro w6 tmp _ F6 n6 D6
  exact⟨F6,n6,_,_,_,D6,start w6 tmp⟩
 ·intro w6 s hs
  exact absurd hsig hs
 ·rintro w1 ⟨F1,n1,d,crc,rs,hD,hG⟩
  obtain⟨h5,hc⟩:=step w1 d crc rs F1 n1 (hE.fr F1 (by simp;omega)) hD hG;refine⟨d,crc,rs,hD,fun h=>absurd h h5,fun _ =>CallT.mono hc ?_⟩;rintro v w2 ⟨F2,⟨rfl,d',crc',rs',hD',hlt,hG'⟩|⟨hb,ho⟩⟩
  ·refine .inl ⟨rfl,⟨F2,by have:=zM hD'.dec;omega,_,_,_,hD',hG'⟩,?_⟩
   rw[hD.at_.left_eq,hD'.at_.left_eq];exact hlt
  ·refine .inr ⟨hb,hE.fr F2 (by simp;omega),fun e' he=>⟨F2,e',rfl,ho e' he⟩⟩
def cI(pal:List Px)(cl:List Nat):List Ch:=(if 0<pal.length then [(vE,xM pal)]else [])++((if zH pal then [(zC,xO pal)]else [])++(if 0<cl.length then [(zC,zW cl)]else []))
theorem kS{D C:Nat}:zU W H D C L pal cl=(zJ,zO W H D C L)::cI pal cl:=rfl
theorem iH{D C:Nat}(hok:yG D C pal cl)(hC:C=3):cI pal cl=(vE,xM pal)::(if zH pal then [(zC,xO pal)]else []):=by
 obtain⟨q1,q2,q3⟩:=hok.pal3 hC;have hcl:=hok.cl0 oQ oQ;subst hcl;unfold cI;rw[if_pos (by omega:0<pal.length),show(if 0<([]:List Nat).length then [(zC,zW [])]else [])=([]:List Ch)from rfl,List.append_nil,List.singleton_append]
theorem qAx{D C:Nat}(hok:yG D C pal cl)(hC:C≠3):cI pal cl=if 0<cl.length then [(zC,zW cl)]else []:=by
 have hpn:=hok.paln hC;subst hpn
 rfl
def RightAt(w:wQ)(db k W H:Nat)(L:Bool)(pal:List Px)(cl:List Nat)(d:Dec)(r:List Ch):Prop:=
 (d.stage=0/\d.useT=false/\d.cb=0/\r=zU W H (qI k).2 (qI k).1 L pal cl)\/
 (d.stage=1/\d.useT=false/\kF d k W H L/\r=cI pal cl)\/
 (d.stage=2/\(qI k).1=3/\d.useT=false/\kF d k W H L/\uC w db d.pal pal.length (jC (xM pal) pal.length)/\r=if zH pal then [(zC,xO pal)]else [])\/
 (d.stage=3/\kF d k W H L/\((qI k).1=3 ->∃n cs,uC w db d.pal n cs)/\(d.useT=true ->(qI k).1=0\/(qI k).1=2)/\r=[])
theorem RightAt.ready(h:RightAt w db k W H L pal cl d [])(hok:yG (qI k).2 (qI k).1 pal cl):kF d k W H L/\(1<=d.stage/\d.stage<=3)/\((qI k).1=3 ->d.stage≠1/\∃n cs,uC w db d.pal n cs)/\(d.useT=true ->(qI k).1=0\/(qI k).1=2):=by
 rcases h with⟨_,_,_,hr⟩|⟨h1,hu,hh,hr⟩|⟨h2,hC,hu,hh,hP,hr⟩|⟨h3,hh,hP,hu,_⟩
 ·exact absurd hr.symm (by simp[kS])
 ·refine⟨hh,oQ,fun hC=> ?_,fun e=>by rw[hu]at e;cases e⟩
  rw[iH hok hC]at hr
  cases hr
 ·exact⟨hh,oQ,fun _ =>⟨oQ,_,_,hP⟩,fun e=>by rw[hu]at e;cases e⟩
 ·exact⟨hh,oQ,fun e=>⟨oQ,hP e⟩,hu⟩
theorem RightAt.step{c:Ch}{r:List Ch}{tail:bQ}(h:RightAt w db k W H L pal cl d (c::r))(hD:Dst w db rb kb p d crc (qV c.1 c.2++tail))(hk:k<15)(hW:1<=W/\W<=20)(hH:1<=H/\H<=20)(hok:yG (qI k).2 (qI k).1 pal cl)(F0:Fr [rb] w0 w)(hkb:hn w0<=kb):
  CallT Pg 60 #[.pointer (some ⟨db,0,none⟩),.bool false] w fun v w'=>v= .nilIface/\Fr [rb] w0 w'/\∃d' crc',Dst w' db rb kb p d' crc' tail/\RightAt w' db k W H L pal cl d' r:=by
 have hne:=hD.ne;have hcb:=kB hk;have fr:∀{w':wQ},Fr [rb,kb,db] w w' ->Fr [rb] w0 w':=fun f=>F0.trans' f (fun x hx hlt=>by simp at hx⊢;omega);rcases h with⟨h0,hu,_,hr⟩|⟨h1,hu,hh,hr⟩|⟨h2,hC,hu,hh,hP,hr⟩|⟨_,_,_,_,hr⟩
 ·rw[kS]at hr
  obtain⟨rfl,rfl⟩:=List.cons.inj hr;refine CallT.mono (Dst.goodIHDR hD h0 oQ oQ hk) ?_;rintro v w2 ⟨rfl,F,tmp,crc',hD'⟩;exact⟨rfl,fr F,_,_,hD',.inr (.inl ⟨rfl,hu,⟨rfl,rfl,rfl,rfl,rfl⟩,rfl⟩)⟩
 ·by_cases hC:(qI k).1=3
  ·rw[iH hok hC]at hr
   obtain⟨rfl,rfl⟩:=List.cons.inj hr;obtain⟨q1,q2,q3⟩:=hok.pal3 hC;refine CallT.mono (Dst.goodPLTE hD h1 hh.D_ (vV hk).1 (by rw[hh.cb_];have:=hcb.2.1 hC;omega) oQ oQ q3) ?_;rintro v w2 ⟨rfl,F,tmp,crc',pl,hD',hP⟩;exact⟨rfl,fr F,_,_,hD',.inr (.inr (.inl ⟨rfl,hC,hu,⟨hh.W_,hh.H_,hh.D_,hh.cb_,hh.lace_⟩,hP,rfl⟩))⟩
  ·rw[qAx hok hC]at hr
   by_cases hcl:0<cl.length
   ·rw[if_pos hcl]at hr
    obtain⟨rfl,rfl⟩:=List.cons.inj hr;have hl:=hok.cll.resolve_left (List.length_pos_iff.1 hcl);have h02:(qI k).1=0\/(qI k).1=2:=by
     by_cases h0:(qI k).1=0
     ·exact .inl h0
     ·by_cases h2:(qI k).1=2
      ·exact .inr h2
      ·exact absurd (hok.cl0 h0 h2) (List.length_pos_iff.1 hcl)
    have hcc:=eC hk;refine CallT.mono (qAy hD h1 ?_) ?_
    ·rw[rT,hl,hh.cb_]
     rcases h02 with h0|h2
     ·refine .inl ⟨by rw[h0];rfl,?_⟩
      have:=hcc.1 h0;omega
     ·refine .inr ⟨by rw[h2];rfl,?_⟩
      have:=hcc.2 h2;omega
    ·rintro v w2 ⟨rfl,F,n2,tmp,tr,crc',hD'⟩
     exact⟨rfl,fr F,_,_,hD',.inr (.inr (.inr ⟨rfl,⟨hh.W_,hh.H_,hh.D_,hh.cb_,hh.lace_⟩,fun e=>absurd e hC,fun _ =>h02,rfl⟩))⟩
   ·rw[if_neg hcl]at hr
    cases hr
 ·by_cases ha:zH pal=true
  ·rw[if_pos ha]at hr
   obtain⟨rfl,rfl⟩:=List.cons.inj hr;obtain⟨q1,q2,q3⟩:=hok.pal3 hC;have hal:(xO pal).length=pal.length:=by simp[xO]
   obtain⟨g,hpal,hdg,hrow,hcl,hn256⟩:=hP;refine CallT.mono (Dst.goodTRNS (al:=xO pal) hD h2 (by rw[hh.cb_];have:=hcb.2.1 hC;omega) ⟨g,hpal,hdg,hrow,hcl,hn256⟩ (tG _ _) oQ oQ) ?_;rintro v w2 ⟨rfl,hF,tmp,crc',pl,hD',_,hP'⟩;have F:=hF g (by rw[hpal]);exact⟨rfl,F0.trans' F (fun x hx hlt=>by simp at hx⊢;omega),_,_,hD',.inr (.inr (.inr ⟨rfl,⟨hh.W_,hh.H_,hh.D_,hh.cb_,hh.lace_⟩,fun _ =>⟨_,_,hP'⟩,(fun h=>by rw[hu]at h;cases h),rfl⟩))⟩
  ·rw[if_neg ha]at hr
   cases hr
 ·cases hr
end
section
variable{w w0 w1 w2:wQ}{rb db kb crc k W H:Nat}{L:Bool}{p q:pQ}{E:Er}{pal:List Px}{cl:List Nat}{d:Dec}
structure Stp (w0 w1:wQ) (E:Er) (db rb kb:Nat):Prop where
 F0:Fr [rb] w0 w1
 hkb:hn w0<=kb
 errs:Errs w1 E
 lace:LaceAt w1 E.n0
 lo:E.n0<=rb
 ord:kb<db
theorem Stp.fr(h:Stp w0 w1 E db rb kb)(f:Fr [rb,kb,db] w1 w2):Fr [rb] w0 w2:=h.F0.trans' f (fun x hx hlt=>by have:=h.hkb;have:=h.ord;simp at hx⊢;omega)
theorem pZ{c:Ch}{b:List Ch}{t:bQ}:(chs b++t).length<(chs (c::b)++t).length:=by
 rw[xN];simp only[List.length_append];have:4<=(qV c.1 c.2).length:=by unfold qV;simp only[List.length_append,qZ];omega
 omega
theorem mZ{l c:Nat}{a r:List Ch}{bad:bQ}{code co:Int}{file:bQ}(ef:file=sigL++(chs a++bad))(hx:Has w q (bv file))(hl:l=file.length)(hlb:l<1099511627776)(hV:Env w E)
  (hfo:zU W H (qI k).2 (qI k).1 L pal cl=a++r)(hk:k<15)(hW:1<=W/\W<=20)(hH:1<=H/\H<=20)(hok:yG (qI k).2 (qI k).1 pal cl)(G2:Dec ->Nat ->bQ ->Prop)
  (hbad:∀{w0 w1:wQ} {db rb kb:Nat} {p:pQ} {d:Dec} {crc:Nat},Stp w0 w1 E db rb kb ->Dst w1 db rb kb p d crc bad ->RightAt w1 db k W H L pal cl d r ->
   CallT Pg 60 #[.pointer (some ⟨db,0,none⟩),.bool false] w1 fun v w2=>Fr [rb] w0 w2/\(Bad E (·=co) v\/(v= .nilIface/\∃d' crc' rs',Dst w2 db rb kb p d' crc' rs'/\rs'.length<bad.length/\G2 d' crc' rs')))
  (after:∀{w0 w1:wQ} {db rb kb:Nat} {p:pQ} {d:Dec} {crc:Nat} {rs:bQ},Stp w0 w1 E db rb kb ->Dst w1 db rb kb p d crc rs ->G2 d crc rs ->
   d.stage≠5/\CallT Pg 60 #[.pointer (some ⟨db,0,none⟩),.bool false] w1 fun v w2=>Fr [rb] w0 w2/\Bad E (·=co) v):
  CallT Pg 29 #[.slice q l c,.int .i64 code] w fun v w'=>v= .bool (decide (co=code))/\Fr [] w w':=by
 subst ef;refine nC (B:=fun e=>ErrK e/\mL e=co) hx hl hlb hV.tab hV.errs hV.lo hV.lace hV.ety (fun e h=>h) fun w2 rb p F2 hr hT2 hE2 hlo2 hrb hp hL2 _ => ?_;refine c69t (C:=(·=co)) hr hT2 hE2 hlo2 hrb hp (by simp[zP]) (gL _) (fun w' d crc rs=>(∃b,rs=chs b++bad/\RightAt w' (hn w2+1) k W H L pal cl d (b++r))\/G2 d crc rs) ?_ ?_
 ·intro w6 tmp
  rw[gK];exact .inl ⟨a,rfl,.inl ⟨rfl,rfl,rfl,hfo.symm⟩⟩
 ·intro w1 d crc rs F1 n1 E1 hD hG
  have hlow:=hE2.low;have hA:Stp w2 w1 E (hn w2+1) rb (hn w2):=⟨F1,Nat.le_refl _,E1,hL2.fr F1 oQ (by simp;omega),hlo2,oQ⟩;rcases hG with⟨b,rfl,hR⟩|hG
  ·have h5:d.stage≠5:=by rcases hR with h|h|h|h<;>omega
   refine⟨h5,?_⟩
   cases b with
   |nil=>
    refine CallT.mono (hbad hA hD hR) ?_;rintro v w3 ⟨F,hb|⟨rfl,d',crc',rs',hD',hlt,hg⟩⟩
    ·exact⟨F,.inr hb⟩
    ·exact⟨F,.inl ⟨rfl,d',crc',rs',hD',hlt,.inr hg⟩⟩
   |cons ch b=>
    have hD':=hD;rw[xN,List.append_assoc]at hD';refine CallT.mono (RightAt.step hR hD' hk hW hH hok F1 (Nat.le_refl _)) ?_;rintro v w3 ⟨rfl,F,d',crc',hD2,hR2⟩;exact⟨F,.inl ⟨rfl,d',crc',_,hD2,pZ,.inl ⟨b,rfl,hR2⟩⟩⟩
  ·obtain⟨h5,hc⟩:=after hA hD hG
   refine⟨h5,CallT.mono hc ?_⟩;rintro v w3 ⟨F,hb⟩;exact⟨F,.inr hb⟩
end
section
variable{w w' w0:wQ}{E:Er}{Q Q':Nat ->Prop}
theorem c30n{b o l c:Nat}{cs:List Ch}(hx:Has w (some ⟨b,o,none⟩) (bv (xD cs)))(hl:l=(xD cs).length)(hb:l<1099511627776)(hlc:l<=c)(hok:sC cs):
  CallT Pg 30 #[.slice (some ⟨b,o,none⟩) l c] w fun v w'=>∃vs,PcHas (·=b) w' vs cs/\RetR 53 2 w cs.length vs v w':=by
 apply call30;unfold wp30 wIq iQq;rw[xY];have hblt:b<hn w:=by obtain⟨_,T,arr,h1,_⟩:=hx;exact zM h1
 refine qP (fun z w'=>Fr [] w w'/\∃a r vs,cs=a++r/\z.2.1=((8+(chs a).length:Nat):Int)/\z.1.len=a.length/\PcHas (·=b) w' vs a/\Own w' (hn w) 53 2 z.1.a z.1.len z.1.cap vs)
  (fun z _ =>l+1 -z.2.1.toNat) ⟨Fr.alloc _ _ _,[],cs,[],rfl,by simp[chs],rfl,trivial,Own.new (w:=w) (e:=53) (size:=2) (cs:= #[]) (l:=0) (Nat.le_refl _) sQ⟩ ?_
 rintro⟨⟨q,n,m⟩,k,⟨⟩⟩ w1 ⟨hf,a,r,vs,rfl,rfl,rfl,hpc,ho⟩;simp only at ho;have hlen:l=8+(chs a).length+(chs r).length:=by rw[hl];simp[xD,sigL,zL];omega
 have ha:=yI (gP hok);have hr:=yI (tC hok);refine qF (fun h=> ?_) (fun h=> ?_)
 ·simp only at h
  rw[qA oQ oQ]at h
  cases r with
  |nil=>simp only[uU,List.length_nil]at hlen;omega
  |cons ch r=>
   obtain⟨h4,hd⟩:=hok ch sQ;have hcl:=xE (data:=ch.2) h4;simp only[xN,List.length_append]at hlen;dsimp only;refine CallT.mono (c46 (hx.fr0 hf) hl oQ oQ oQ) ?_;rintro _ _ ⟨rfl,rfl⟩;rw[Int.toNat_natCast,bD hd];refine⟨_,rfl,?_⟩;rw[zV];have hf2:=hf.drewR.drewR;have hx2:=hx.fr0 hf2;have e0:bv (xD (a++ch::r))=bv (sigL++chs a++xI ch.2.length)++(bv ch.1++bv (ch.2++xI (vU (ch.1++ch.2))++chs r)):=by
    rw[mS,<-bv_append,<-bv_append];simp[qV]
   have e1:bv (xD (a++ch::r))=bv (sigL++chs a++xI ch.2.length++ch.1)++(bv ch.2++bv (xI (vU (ch.1++ch.2))++chs r)):=by
    rw[mS,<-bv_append,<-bv_append];simp[qV]
   have hx3:=hx2;rw[e0]at hx2;rw[e1]at hx3;have g0:=Has.sub hx2;have g1:=Has.sub hx3;simp only[bv_length,List.length_append,qZ,h4]at g0 g1;have es:sigL.length=8:=rfl;simp only[es]at g0 g1;simp (disch:=omega) only[qA];have t1:((((8+(chs a).length:Nat):Int)+4).toNat)=8+(chs a).length+4:=oQ;have t2:((((8+(chs a).length:Nat):Int)+8).toNat)=8+(chs a).length+4+4:=oQ;have t3:((((8+(chs a).length:Nat):Int)+8+(ch.2.length:Int)).toNat)=8+(chs a).length+4+4+ch.2.length:=oQ;simp only[t1,t2,t3];rw[slAdd_one _ _ _ _ oQ,slAdd_one _ _ _ _ oQ];refine⟨⟨oQ,oQ⟩,⟨oQ,oQ⟩,⟨oQ,oQ⟩,⟨oQ,oQ⟩,?_⟩;refine rM (xs:=ch.1) g0 oQ ?_;refine gU ok50 hf2 ((ho.fr0 (Fr.drew _ _)).fr0 (Fr.drew _ _)) sQ (by simp[Value.oneCell']) oQ ?_;intro q' m' w3 hf3 hf3' ho3;have hq:∀b',b'=b ->b'∉xX q:=by
    intro b' e hmem;have:=ho.blk _ hmem;omega
   refine⟨⟨hf3,a++[ch],r,_,sQ,?_,sQ,?_,ho3⟩,oQ⟩
   ·simp only[zL,xN,uU,List.length_append,List.append_nil,hcl];omega
   ·refine PcHas.snoc (g1.fr hf3' ?_) oQ sQ (by intro a ha;cases ha;rfl) (((hpc.fr (Fr.drew [] _) sQ).fr (Fr.drew [] _) sQ).fr hf3' hq)
    intro a' ha';cases ha';exact hq _ rfl
 ·simp only at h
  rw[qA oQ oQ]at h
  cases r with
  |cons ch r=>
   exfalso
   obtain⟨h4,hd⟩:=hok ch sQ;have hcl:=xE (data:=ch.2) h4;simp only[xN,List.length_append]at hlen;omega
  |nil=>exact⟨vs,by simpa using hpc,hf,q,m,sQ,by simpa using ho⟩
theorem Has.takes{p:pQ}{n:Nat}{vs:List Value}(h:Has w p vs):Has w p (vs.take n):=by
 cases p with
 |none=>have:vs=[]:=h;subst this;simp[Has]
 |some a=>
  obtain⟨h0,T,arr,h1,h2⟩:=h;refine⟨h0,T,arr,h1,fun j v hj=> ?_⟩;rw[List.getElem?_take]at hj
  split at hj
  ·exact h2 j v hj
  ·cases hj
structure Made (k W H:Nat) (L:Bool) (pal:List Px) (cl:List Nat) (fl xs zs d0:bQ) (dr:List (bQ)):Prop where
 hk:k<15
 hW:1<=W/\W<=20
 hH:1<=H/\H<=20
 ok:yG (qI k).2 (qI k).1 pal cl
 rows:RowsOf (rV W H (qI k).2 (qI k).1 L) (kY fl) xs
 zl:gE xs zs
 flat:(d0::dr).flatten=zs
 ne:∀x∈d0::dr,x≠[]
 zlen:zs.length<=2097152
 xlen:xs.length<32768
def sX(k W H:Nat)(L:Bool)(pal:List Px)(cl:List Nat)(d0:bQ)(dr:List (bQ)):List Ch:=zU W H (qI k).2 (qI k).1 L pal cl++zI (d0::dr)++[(zY,[])]
section
variable{k W H:Nat}{L:Bool}{pal:List Px}{cl:List Nat}{fl xs zs d0:bQ}{dr:List (bQ)}
theorem Made.okc(M:Made k W H L pal cl fl xs zs d0 dr):sC (sX k W H L pal cl d0 dr)/\(xD (sX k W H L pal cl d0 dr)).length<1099511627776:=by
 have hzp:0<zs.length:=by
  obtain⟨_,_,_,_,hz⟩:=M.zl;rw[hz];simp
 obtain⟨_,h1,h2,_⟩:=iI (W:=W) (H:=H) (L:=L) M.hk M.ok hzp M.zlen M.flat M.ne;exact⟨h1,h2⟩
theorem Made.whole{q:pQ}{l c:Nat}{file:bQ}(M:Made k W H L pal cl fl xs zs d0 dr)(hV:Env w E)(hf:file=xD (sX k W H L pal cl d0 dr))(hx:Has w q (bv file))(hl:l=file.length):CallT Pg 28 #[.slice q l c] w fun v w'=>v= .bool true/\Fr [] w w':=
 qBp hf hx hl (by rw[hl,hf];exact M.okc.2) hV.tab hV.errs hV.lo hV.lace hV.ety M.hk M.hW M.hH M.ok M.rows M.zl M.flat M.ne M.zlen M.xlen
end
theorem qBh{k W H:Nat}{L:Bool}{pal:List Px}{cl:List Nat}{v:Value}(hk:k<15)(hW:1<=W/\W<=20)(hH:1<=H/\H<=20)(hok:yG (qI k).2 (qI k).1 pal cl)(hF:nM w0 W H (qI k).2 (qI k).1 L pal cl v w):
  ∃fl xs zs d0 dr,Made k W H L pal cl fl xs zs d0 dr/\fV w0 (xD (sX k W H L pal cl d0 dr)) v w:=by
 obtain⟨fs,xs,zs,ds,_,hrows,hZ,hds,hne,hzl,hR⟩:=hF;have hD16:(qI k).2<=16:=by have:=(vV hk).1;omega
 cases ds with
 |nil=>
  obtain⟨bl,out,_,_,hz⟩:=hZ;rw[hz]at hds;simp at hds
 |cons d0 dr=>exact⟨fs,xs,zs,d0,dr,⟨hk,hW,hH,hok,hrows,hZ,hds,hne,hzl,bX hrows hW.2 hH.2 hD16⟩,hR⟩
def Pcs(w0 w:wQ)(p:pQ)(l c:Nat)(cs:List Ch):Prop:=∃b vs,Own w (hn w0) 53 2 p l c vs/\PcHas (·=b) w vs cs/\l=cs.length/\hn w0<=b/\b<hn w/\∀x∈xX p,b<x
theorem cF{p:pQ}{base l c:Nat}{cs:List Ch}(h:Own w base 5 1 p l c (bv (xD cs)))(hl:l=(xD cs).length):∃b,p=some ⟨b,0,none⟩/\l<=c/\base<=b/\b<hn w:=by
 obtain⟨b,rfl,h1⟩:=oR h (by rw[hl];simp[xD,zP];omega);have:=h.at rfl;exact⟨b,rfl,h1,this.2.2.1,this.2.2.2⟩
theorem qAr{k W H:Nat}{L:Bool}{pal:List Px}{cl:List Nat}{fl xs zs d0:bQ}{dr:List (bQ)}{p:pQ}{l c:Nat}(M:Made k W H L pal cl fl xs zs d0 dr)(F:Fr [] w0 w)(h:Own w (hn w0) 5 1 p l c (bv (xD (sX k W H L pal cl d0 dr))))(hl:l=(xD (sX k W H L pal cl d0 dr)).length)
  {K:pQ ->Nat ->Nat ->World ->Prop}(hK:∀p l c w',Fr [] w0 w' ->Fr [] w w' ->Pcs w0 w' p l c (sX k W H L pal cl d0 dr) ->K p l c w'):
  CallT Pg 30 #[.slice p l c] w fun v w'=>Exists fun p':pQ=>Exists fun l':Nat=>Exists fun c':Nat=>And (v= .slice p' l' c') (K p' l' c' w'):=by
 obtain⟨b,rfl,hlc,hb0,hb1⟩:=cF h hl;refine CallT.mono (c30n h.has hl (by rw[hl];exact M.okc.2) hlc M.okc.1) ?_;rintro v w' ⟨vs,hpc,f,q,c',rfl,ho⟩;refine⟨_,_,_,rfl,hK _ _ _ _ (F.trans f) f ⟨b,vs,ho.base_le F.size,hpc,rfl,hb0,Nat.lt_of_lt_of_le hb1 f.size,fun x hx=> ?_⟩⟩;have:=(ho.blk x hx).1;omega
theorem qFe{p:pQ}{l c:Nat}{R:vPq}{X:World ->Prop}(hR:R (.bool true) w)(hX:l<=1000 ->X w):
  IfC (decide ((l:Int)>(2147483647:Int))) (R (.bool true) w) (CallT Pg 22 #[.slice p l c] w fun v w2=>Exists fun b:Bool=>And (v= .bool b) (IfC (!b) (R (.bool true) w2) (X w2))):=by
 refine qF (fun _ =>hR) (fun _ =>CallT.mono c22 ?_);rintro v w2 ⟨rfl,rfl⟩;refine⟨_,rfl,?_⟩
 by_cases h:l<=1000
 ·rw[decide_eq_true h];exact hX h
 ·rw[decide_eq_false h];exact hR
end
section
variable{w w' w0 wB:wQ}{E:Er}{k W H:Nat}{L:Bool}{pal:List Px}{cl:List Nat}{fl xs zs d0:bQ}{dr:List (bQ)}{p q:pQ}{l c c':Nat}{cs ds:List Ch}{hd dd:bQ}{nm:bQ}{s:Sl}
theorem wC{i:Nat}{ch:Ch}(h:Pcs w0 wB p l c cs)(FB:Fr [] wB w)(hi:cs[i]? =some ch){K:ByteArray ->Nat ->World ->Prop}
  (hK:∀q c' r w',Fr [] w w' ->hp w' r=Row 53 #[.string ⟨ch.1.toArray⟩,.slice q ch.2.length c'] ->Has w' q (bv ch.2) ->(q=none ->c'=0) ->(∀x∈xX q,x<hn wB/\hn w0<=x) ->hn w<=r ->K ⟨ch.1.toArray⟩ r w'):
  And (0<=(i:Int)/\(i:Int)<(l:Int)) (qN p fun a=>LdS w (qH a (i:Int).toNat 2) fun s=>qS w ⟨(qH a (i:Int).toNat 2).block,(qH a (i:Int).toNat 2).off+1,none⟩ fun p2 l2 c2=>qL w (.cells (zc Pg 53) 53) fun r w1=>qB w1 ⟨r,0,none⟩ (.string s) fun w2=>qB w2 ⟨r,0+1,none⟩ (.slice p2 l2 c2) fun w3=>LdS w3 ⟨r,0,none⟩ fun s'=>K s' r w3):=by
 obtain⟨b,vs,ho,hpc,hl,hb0,hb1,hb2⟩:=h;have ho:=ho.fr0 FB;have hpc:=hpc.fr FB sQ;have hil:i<cs.length:=(List.getElem?_eq_some_iff.1 hi).1;refine⟨⟨oQ,oQ⟩,?_⟩;obtain⟨q,m,c2,e1,e2,g1,g2,g3,g4⟩:=hpc.at hi;obtain⟨g,o,rfl,k1,k2⟩:=Has.at2 ho.has e1 e2;rw[PtrC_some,xW,Int.toNat_natCast,vS];dsimp only;rw[k1,RdS_some,yY,k2,RdSl_some];refine qG fun w1 h1 f1 n1=> ?_;rw[zc53]at h1;refine qD h1 sQ fun w2 h2 f2 n2=> ?_;refine qD h2 sQ fun w3 h3 f3 n3=> ?_;have h3':hp w3 (hn w)=Row 53 #[.string ⟨ch.1.toArray⟩,.slice q ch.2.length c2]:=by rw[<-g2];simpa using h3
 have F:Fr [] w w3:=(f1.new1 f2 (Nat.le_refl _)).new1 f3 (Nat.le_refl _);refine qDd h3' rfl (hK q c2 _ w3 F h3' (g1.fr0 F) g3 (fun x hx=> ?_) (Nat.le_refl _))
 cases q with
 |none=>simp[xX]at hx
 |some a=>
  have:a.block=b:=g4 a rfl;simp[xX]at hx;omega
theorem bU{r:List Ch}{ch:Ch}:∀{a:List Ch} {at_ :Nat},sC a ->(uX at_ (a++ch::r))[a.length]? =some (at_ +(chs a).length)
 |[],at_,_ =>by simp[uX,chs]
 |x::a,at_,h=>by
  have hc:=xE (data:=x.2) (h x sQ).1;have:=bU (r:=r) (ch:=ch) (a:=a) (at_ :=at_ +12+x.2.length) (fun y hy=>h y (by simp[hy]));rw[List.cons_append,uX,List.length_cons,List.getElem?_cons_succ,this,xN,List.length_append,hc]
  congr 1
  omega
end
section
variable{w w' w0 w1 wB:wQ}{E:Er}{k W H D C:Nat}{L:Bool}{pal:List Px}{cl:List Nat}{fl xs zs d0:bQ}{dr:List (bQ)}{p q:pQ}{l c c':Nat}{cs ds es r:List Ch}{hd dd:bQ}{nm:bQ}{db rb kb crc:Nat}{d:Dec}{rs:bQ}
theorem qEy{t:Option Bool}{s:Nat×Nat×bQ}{ys rs:bQ}{len:Nat}(hk:k<15)(hW:1<=W/\W<=20)(hH:1<=H/\H<=20)(hok:yG (qI k).2 (qI k).1 pal cl)(hA:Stp w0 w1 E db rb kb)(hR:RightAt w1 db k W H L pal cl d [])(hD:Dst w1 db rb kb p d crc rs)(he0:len<4294967296)(h1:be4 rs 0=len)(h2:(rs.drop 4).take 4=nIDAT)(h4:8<=rs.length)
  (hF:Flow len (zR 0 nIDAT) (rs.drop 8) ys s)(hAt:fB s)(hpre:ys<+:zs)(hor:ys=zs\/∃b,t=some b/\dM b s)(hx:t=some false ->ys≠zs)(hs0:t=none ->s.1=0)(hZ:gE xs zs)(hxl:xs.length<32768):
  CallT Pg 60 #[.pointer (some ⟨db,0,none⟩),.bool false] w1 fun v w2=>Fr [rb] w0 w2/\
   ((v= .nilIface/\∃dd crc' rs',Dst w2 db rb kb p dd crc' (rs'.drop 4)/\dd.stage=4/\Flow 0 crc' rs' [] s/\4<=rs'.length/\be4 rs' 0=crc'/\(t=none ->GoodRows (if L then 1 else 0) W H (chN (qI k).1*(qI k).2) xs)/\t≠some false)\/
    (ErrD E v/\(t≠some false ->(∀crc rs,Flow 0 crc rs [] s ->4<=rs.length) ->∃sv,v= .iface 125 (.string sv))/\(t=none ->(∀crc rs,Flow 0 crc rs [] s ->4<=rs.length/\be4 rs 0=crc) ->¬GoodRows (if L then 1 else 0) W H (chN (qI k).1*(qI k).2) xs)/\
    (t=some false ->(ys.length<2 ->v=xP E.ua)/\(2<=ys.length ->∃sv,v= .iface 125 (.string sv)))/\(t=none ->GoodRows (if L then 1 else 0) W H (chN (qI k).1*(qI k).2) xs ->(∀crc rs,Flow 0 crc rs [] s ->rs.length<4) ->v=xP E.ea\/v=xP E.ua))):=by
 obtain⟨hh,hs,hp3,hut⟩:=hR.ready hok;obtain⟨bl,out,hS,hP,hzs⟩:=hZ;obtain⟨pt,IT,bpp,cp,hPK,hIT⟩:=pk_of hk d.useT hut;have hcb:=kB hk;have hd:Hd d (cbN (qI k).1 (qI k).2) (qI k).2 W H d.useT IT:=by
  refine⟨hh.W_,hh.H_,hh.D_,hh.cb_,rfl,fun e=> ?_,hW,hH⟩;obtain⟨_,n,cs,g,hpal,_,_,_,hn256⟩:=hp3 (hIT.1 e);rw[hpal];exact⟨rfl,hn256⟩
 have hsp:d.stage=1 ->¬(7<=d.cb/\d.cb<=10):=fun e hc=>by
  have:=hh.cb_;exact(hp3 (hcb.2.2 oQ)).1 e
 refine hD.c60 h4 fun w3 tmp s' F1 n1 D1=> ?_;rw[h2];have hnx:zT d nIDAT= .idat:=by
  unfold zT;rw[if_neg dQ,if_neg dQ,if_neg dQ,if_pos rfl,if_neg oQ,if_neg (fun hc=>hsp hc.1 hc.2),if_neg oQ]
 rw[hnx];dsimp only;intro hs4;subst hs4;rw[if_neg dQ,h1];rw[h2]at D1;have hne':=hD.ne;have hlow:=hA.errs.low;have hlo:=hA.lo;have hd1:Hd {d with tmp:=tmp,stage:=4} (cbN (qI k).1 (qI k).2) (qI k).2 W H d.useT IT:=⟨hd.W_,hd.H_,hd.D_,hd.cb_,hd.u_,hd.pal,hd.lW,hd.lH⟩;have hlace:d.lace=0\/d.lace=1:=by rw[hh.lace_];cases L<;>simp
 refine CallT.mono (D1.c79 (t:=t) (s:=s) (ys:=ys) hPK (hA.errs.fr F1 (by simp;omega)) hlo he0 hF hAt (by rw[<-hzs];exact hpre) (by rw[<-hzs];exact hor) (by rw[<-hzs];exact hx) hxl hS hP (hA.lace.fr F1 oQ (by simp;omega)) hd1 hlace hs0) ?_;rintro v w2 ⟨F2,n2,⟨ib,pb,ex,dd,crc',rs',rfl,hI,hQ,l1,l2,hsd,hD',hFl,c1,c2,hG,htf⟩|⟨he,hf,hg,hg2,hg3⟩⟩
 ·refine⟨hA.fr (F1.trans F2),.inl ⟨rfl,dd,crc',rs',hD',?_,hFl,c1,c2,fun e=> ?_,htf⟩⟩
  ·obtain⟨a,b,rfl⟩:=hsd
   rfl
  ·have:=hG e
   rw[show({d with tmp:=tmp,stage:=4}:Dec).lace=d.lace from rfl,hh.lace_]at this;exact this
 ·refine⟨hA.fr (F1.trans F2),.inr ⟨he,hf,fun e hall=> ?_,hg2,fun e hgr=>hg3 e ?_⟩⟩
  ·have:=hg e hall
   rw[show({d with tmp:=tmp,stage:=4}:Dec).lace=d.lace from rfl,hh.lace_]at this;exact this
  ·rw[show({d with tmp:=tmp,stage:=4}:Dec).lace=d.lace from rfl,hh.lace_]
   exact hgr
theorem pW{v:Value}{C:Int ->Prop}(h:∃sv,v= .iface 125 (.string sv))(hC:C 1):Bad E C v:=by obtain⟨sv,rfl⟩:=h;exact Bad.of125 hC
end
section
variable{w w' w0 w1 wB:wQ}{E:Er}{k W H D C:Nat}{L:Bool}{pal:List Px}{cl:List Nat}{fl xs zs d0:bQ}{dr:List (bQ)}{p q:pQ}{l c c':Nat}{cs ds es r:List Ch}{hd dd:bQ}{nm:bQ}{db rb kb crc:Nat}{d:Dec}{rs:bQ}
theorem Bad.ofECl{e:Value}{C:Int ->Prop}(h:ECl E false e)(hE:Errs w E)(hC:C 3):Bad E C e:=by
 rcases h with rfl|rfl
 ·exact Bad.ofEof hC hE
 ·exact Bad.ofUne hC hE
theorem Dst.sh81(h:Dst w db rb kb p d crc rs)(hE:Errs w E)(hlo:E.n0<=rb)(hl:rs.length<4):CallT Pg 81 #[.pointer (some ⟨db,0,none⟩)] w fun v w'=>Fr [rb,db] w w'/\hn w'=hn w/\ECl E false v:=
 CallT.mono (h.c81_short hE hlo hl) fun _ _ h=>⟨h.2.2.1,h.2.2.2,h.1⟩
theorem qFz{code:Int}{file:bQ}(hx:Has w q (bv file))(hl:l=file.length)(h8:file.length<8)(hV:Env w E):CallT Pg 29 #[.slice q l c,.int .i64 code] w fun v w'=>v= .bool (decide ((3:Int)=code))/\Fr [] w w':=by
 refine nC (B:=fun e=>ErrK e/\mL e=3) hx hl oQ hV.tab hV.errs hV.lo hV.lace hV.ety (fun e h=>h) fun w2 rb p F2 hr hT2 hE2 hlo2 hrb hp _ _ => ?_;refine c69s hr hT2 hE2 hlo2 hrb hp (fun _ =>False) (fun _ =>0) (fun w6 tmp hs=> ?_) (fun w6 s h8'=>absurd h8' oQ) (fun _ w6 e e' f he ho=>⟨f,e',rfl,(Bad.ofECl (C:=(·=3)) he hE2 rfl).2 e' ho⟩) (fun _ h=>h.elim);have:=congrArg List.length hs;rw[List.length_take,zP]at this;omega
theorem lN{rest:bQ}{j:Nat}(hn:nm.length=4)(hd:dd.length<4294967296)(hj:8<=j):be4 ((qV nm dd++rest).take j) 0=dd.length/\(((qV nm dd++rest).take j).drop 4).take 4=nm/\((qV nm dd++rest).take j).drop 8=(dd++(xI (vU (nm++dd))++rest)).take (j -8)/\8<=((qV nm dd++rest).take j).length:=by
 obtain⟨h1,h2,h3,h4⟩:=zX (nm:=nm) (d:=dd) (rest:=rest) hn hd;refine⟨by rw[vP oQ,h1],?_,by rw[List.drop_take,h3],by rw[List.length_take];omega⟩;rw[List.drop_take,List.take_take,Nat.min_eq_left oQ,h2]
theorem qEa{qs:bQ}{m:Nat}(h:dd.length<=((dd++qs).take m).length):((dd++qs).take m).take dd.length=dd/\((dd++qs).take m).drop dd.length=qs.take (m -dd.length)/\dd.length<=m:=by
 rw[List.length_take]at h;refine⟨by rw[List.take_take,Nat.min_eq_left oQ,List.take_left],by rw[List.drop_take,List.drop_left],oQ⟩
theorem qGu{qs:bQ}{m:Nat}(hq:qs.length=4)(hm:m<17)(h:Dst w db rb kb p d crc ((zO W H (qI k).2 (qI k).1 L++qs).take m))(hE:Errs w E)(hlo:E.n0<=rb)(hW:1<=W/\W<=64)(hH:1<=H/\H<=64)(hk:k<15):
  CallT Pg 75 #[.pointer (some ⟨db,0,none⟩),.int .u32 13] w fun v w'=>Fr [rb,kb,db] w w'/\ECl E false v:=by
 obtain⟨hl,hv,e0,e4,e8,e9⟩:=bJ (L:=L) hW hH hk;generalize zO W H (qI k).2 (qI k).1 L=hd at*;have hne:=h.ne;have hlow:=hE.low;refine CallT.mono (h.c75k (P:=fun v _ =>ECl E false v) (fun h13=> ?_) (fun hlt=>h.shortR hE hlo dQ hlt) (fun t v w' h13 he _ => ?_) fun w1 tmp h13 _ D F=> ?_) fun v w' h=>⟨h.1,h.2.2⟩
 ·rw[List.length_take]at h13
  rw[vP oQ,vP oQ,yH oQ,yH oQ,e0,e4];intro _ _;have:W*H<=64*64:=Nat.mul_le_mul hW.2 hH.2;omega
 ·obtain⟨h1,_⟩:=qEa (dd:=hd) (by rw[hl];exact h13)
  rw[hl]at h1;rw[h1,hv]at he
  cases he
 ·refine D.sh81 (hE.fr F (by simp;omega)) hlo ?_
  rw[List.length_drop,List.length_take,List.length_append];omega
theorem qGv{qs:bQ}{m:Nat}(hq:qs.length=4)(hm:m<(xM pal).length+4)(h:Dst w db rb kb p d crc ((xM pal++qs).take m))(hE:Errs w E)(hlo:E.n0<=rb)(hD:d.D=D)(hD':D=1\/D=2\/D=4\/D=8\/D=16)(hcb:7<=d.cb/\d.cb<=10)(hp0:0<pal.length)(hp2:pal.length<=256)(hpD:pal.length<=2^D):
  CallT Pg 76 #[.pointer (some ⟨db,0,none⟩),.int .u32 (xM pal).length] w fun v w'=>Fr [rb,kb,db] w w'/\ECl E false v:=by
 have hsl:=vI pal;have hne:=h.ne;have hlow:=hE.low;refine CallT.mono (h.c76k (P:=fun v _ =>ECl E false v) (len:=(xM pal).length) (D:=D) oQ hD hD' oQ (fun hlt h7=>h.shortR hE hlo h7 hlt) fun w1 tmp pl hl7 _ D _ F=>CallT.mono (D.sh81 (hE.fr F (by simp;omega)) hlo ?_) fun v w' h=>⟨h.1,h.2.2⟩) ?_
 ·rw[List.length_drop,List.length_take,List.length_append]
  omega
 ·rintro v w' hm
  rw[if_neg oQ]at hm;exact hm
theorem qGw{n:Nat}{cs:List (Bool×Px)}{al qs:bQ}{m:Nat}(hq:qs.length=4)(hm:m<al.length+4)(h:Dst w db rb kb p d crc ((al++qs).take m))(hE:Errs w E)(hlo:E.n0<=rb)(hcb:7<=d.cb/\d.cb<=10)(hpal:uC w db d.pal n cs)(hcs:∀c∈cs,c.1=false)(ha0:0<al.length)(ha2:al.length<=256):
  CallT Pg 78 #[.pointer (some ⟨db,0,none⟩),.int .u32 al.length] w fun v w'=>(∀g,d.pal.a=some ⟨g,0,none⟩ ->Fr [rb,kb,db,g] w w')/\ECl E false v:=by
 have hne:=h.ne;have hlow:=hE.low;obtain⟨g,hpe,hdg,_⟩:=id hpal;refine CallT.mono (h.c78k (P:=fun v _ =>ECl E false v) (len:=al.length) hpal hcs oQ ha0 oQ (fun hlt h7=>h.shortR hE hlo oQ hlt) fun w1 tmp pl hl7 _ D _ _ F=>CallT.mono (D.sh81 (hE.fr (F g (by rw[hpe])) (by simp;omega)) hlo ?_) fun v w' h=>⟨h.1,h.2.2⟩) ?_
 ·rw[List.length_drop,List.length_take,List.length_append]
  omega
 ·rintro v w' hm
  rw[if_neg oQ]at hm;exact hm
theorem cutCLR{al qs:bQ}{m:Nat}(hq:qs.length=4)(hm:m<al.length+4)(h:Dst w db rb kb p d crc ((al++qs).take m))(hE:Errs w E)(hlo:E.n0<=rb)(hc:(al.length=2/\(d.cb=1\/d.cb=2\/d.cb=3\/d.cb=4\/d.cb=12))\/(al.length=6/\(d.cb=6\/d.cb=14))):
  CallT Pg 78 #[.pointer (some ⟨db,0,none⟩),.int .u32 al.length] w fun v w'=>Fr [rb,kb,db] w w'/\ECl E false v:=by
 have hne:=h.ne;have hlow:=hE.low;have fin:∀n,al.length=n ->∀{w1:wQ} {d1:Dec},Dst w1 db rb kb p d1 (zR crc (((al++qs).take m).take n)) (((al++qs).take m).drop n) ->Fr [rb,kb,db] w w1 ->CallT Pg 81 #[.pointer (some ⟨db,0,none⟩)] w1 fun v w'=>Fr [rb,db] w1 w'/\hn w'=hn w1/\ECl E false v:=by
  rintro n rfl w1 d1 D F;refine D.sh81 (hE.fr F (by simp;omega)) hlo ?_;rw[List.length_drop,List.length_take,List.length_append];omega
 rcases hc with⟨e,hc⟩|⟨e,hc⟩
 ·have f:= @fin 2 e
  rw[e];exact CallT.mono (h.c78Gk (P:=fun v _ =>ECl E false v) hc (fun hlt=>h.shortR hE hlo dQ hlt) fun _ w2 tmp tr D F=>f D F) fun v w' h=>⟨h.1,h.2.2⟩
 ·have f:= @fin 6 e
  rw[e];exact CallT.mono (h.c78Tk (P:=fun v _ =>ECl E false v) hc (fun hlt=>h.shortR hE hlo dQ hlt) fun _ w2 tmp tr D F=>f D F) fun v w' h=>⟨h.1,h.2.2⟩
theorem RightAt.cut{c:Ch}{r:List Ch}{j:Nat}(h:RightAt w db k W H L pal cl d (c::r))(hD:Dst w db rb kb p d crc ((qV c.1 c.2).take j))(hj:j<(qV c.1 c.2).length)(hE:Errs w E)(hlo:E.n0<=rb)(hk:k<15)(hW:1<=W/\W<=20)(hH:1<=H/\H<=20)(hok:yG (qI k).2 (qI k).1 pal cl)(F0:Fr [rb] w0 w)(hkb:hn w0<=kb):
  CallT Pg 60 #[.pointer (some ⟨db,0,none⟩),.bool false] w fun v w'=>Fr [rb] w0 w'/\ECl E false v:=by
 have hne:=hD.ne;have hlow:=hE.low;have hcb:=kB hk;have fr:∀{w':wQ},Fr [rb,kb,db] w w' ->Fr [rb] w0 w':=fun f=>F0.trans' f (fun x hx hlt=>by simp at hx⊢;omega);rcases Nat.lt_or_ge j 8 with h8|h8
 ·exact CallT.mono (hD.c60_short hE hlo (by rw[List.length_take];omega)) fun v w' h=>⟨fr (h.2.mono sQ),h.1⟩
 have key:∀(nm dd:bQ) (f:Nat) (s0:Int),(nm,dd)=c ->nm.length=4 ->dd.length<4294967296 ->zT d nm= .call f s0 ->
   (∀w1 tmp m,m<dd.length+4 ->Fr [rb,kb,db] w w1 ->Dst w1 db rb kb p {d with tmp:=tmp,stage:=s0} (zR 0 nm) ((dd++xI (vU (nm++dd))).take m) ->CallT Pg f #[.pointer (some ⟨db,0,none⟩),.int .u32 dd.length] w1 fun v w'=>Fr [rb] w0 w'/\ECl E false v) ->
   CallT Pg 60 #[.pointer (some ⟨db,0,none⟩),.bool false] w fun v w'=>Fr [rb] w0 w'/\ECl E false v:=by
  rintro nm dd f s0 rfl hn hdl hnx hf;dsimp only at hD hj;obtain⟨a1,a2,a3,a4⟩:=lN (rest:=[]) hn hdl h8;rw[List.append_nil]at a1 a2 a3 a4;rw[List.append_nil]at a3;rw[xE hn]at hj;refine hD.c60 a4 fun w1 tmp s F n D1=> ?_;rw[a2,a3]at D1;rw[a2,hnx];rintro rfl;rw[a1];exact hf w1 tmp (j -8) oQ F D1
 rcases h with⟨h0,hu,_,hr⟩|⟨h1,hu,hh,hr⟩|⟨h2,hC,hu,hh,hP,hr⟩|⟨_,_,_,_,hr⟩
 ·rw[kS]at hr
  have hc:=(List.cons.inj hr).1;have hl:=(bJ (L:=L) (H:=H) (W:=W) oQ oQ hk).1;refine key _ _ 75 1 hc.symm rfl oQ (by unfold zT;rw[if_pos rfl,if_neg (by simp[h0])]) fun w1 tmp m hm F D=> ?_;rw[hl]at hm⊢;exact CallT.mono (qGu rfl oQ D (hE.fr F (by simp;omega)) hlo oQ oQ hk) fun v w' h=>⟨fr (F.trans h.1),h.2⟩
 ·by_cases hC:(qI k).1=3
  ·rw[iH hok hC]at hr
   have hc:=(List.cons.inj hr).1;obtain⟨q1,q2,q3⟩:=hok.pal3 hC;have hsl:=vI pal;refine key _ _ 76 2 hc.symm rfl oQ (by unfold zT;rw[if_neg dQ,if_pos rfl,if_neg (by simp[h1])]) fun w1 tmp m hm F D=> ?_;exact CallT.mono (qGv rfl hm D (hE.fr F (by simp;omega)) hlo hh.D_ (vV hk).1 (by show 7<=d.cb/\d.cb<=10;rw[hh.cb_];have:=hcb.2.1 hC;omega) oQ oQ q3) fun v w' h=>⟨fr (F.trans h.1),h.2⟩
  ·rw[qAx hok hC]at hr
   by_cases hcl:0<cl.length
   ·rw[if_pos hcl]at hr
    have hc:=(List.cons.inj hr).1;have hl:=hok.cll.resolve_left (List.length_pos_iff.1 hcl);have h02:(qI k).1=0\/(qI k).1=2:=by
     by_cases h0:(qI k).1=0
     ·exact .inl h0
     ·by_cases h2:(qI k).1=2
      ·exact .inr h2
      ·exact absurd (hok.cl0 h0 h2) (List.length_pos_iff.1 hcl)
    have hcc:=eC hk;have hcq:((zW cl).length=2/\(d.cb=1\/d.cb=2\/d.cb=3\/d.cb=4\/d.cb=12))\/((zW cl).length=6/\(d.cb=6\/d.cb=14)):=by
     rw[rT,hl,hh.cb_];rcases h02 with h0|h2
     ·refine .inl ⟨by rw[h0];rfl,?_⟩
      have:=hcc.1 h0;omega
     ·refine .inr ⟨by rw[h2];rfl,?_⟩
      have:=hcc.2 h2;omega
    refine key _ _ 78 3 hc.symm rfl oQ ?_ fun w1 tmp m hm F D=> ?_
    ·unfold zT
     rw[if_neg dQ,if_neg dQ,if_pos rfl,if_neg oQ];rcases hcq with⟨_,hc⟩|⟨_,hc⟩
     ·rw[if_neg oQ,if_neg oQ]
     ·rw[if_pos oQ,if_neg oQ]
    exact CallT.mono (cutCLR rfl hm D (hE.fr F (by simp;omega)) hlo hcq) fun v w' h=>⟨fr (F.trans h.1),h.2⟩
   ·rw[if_neg hcl]at hr
    cases hr
 ·by_cases ha:zH pal=true
  ·rw[if_pos ha]at hr
   have hc:=(List.cons.inj hr).1;obtain⟨q1,q2,q3⟩:=hok.pal3 hC;have hal:(xO pal).length=pal.length:=by simp[xO]
   obtain⟨g,hpal,hdg,hrow,hcl,hn256⟩:=hP;have hcb2:7<=d.cb/\d.cb<=10:=by rw[hh.cb_];have:=hcb.2.1 hC;omega
   refine key _ _ 78 3 hc.symm rfl oQ (by unfold zT;rw[if_neg dQ,if_neg dQ,if_pos rfl,if_pos hcb2,if_neg (by simp[h2])]) fun w1 tmp m hm F D=> ?_;refine CallT.mono (qGw rfl hm D (hE.fr F (by simp;omega)) hlo hcb2 ⟨g,hpal,hdg,F.row hrow (by simp;omega),hcl,hn256⟩ (tG _ _) oQ oQ) ?_;rintro v w2 ⟨hF,hv⟩;have F2:=hF g (by show d.pal.a=_;rw[hpal]);exact⟨F0.trans' ((F.mono sQ).trans F2) (fun x hx hlt=>by simp at hx⊢;omega),hv⟩
  ·rw[if_neg ha]at hr
   cases hr
 ·cases hr
theorem qAs:∀(fo:List Ch) (i:Nat),i<(chs fo).length ->∃a c r m,fo=a++c::r/\m<(qV c.1 c.2).length/\∀D:bQ,(chs fo++D).take i=chs a++(qV c.1 c.2).take m
 |[],i,h=>absurd h (by simp[chs])
 |c::fo,i,h=>by
  by_cases hi:i<(qV c.1 c.2).length
  ·refine⟨[],c,fo,i,rfl,hi,fun D=> ?_⟩
   rw[xN,List.append_assoc,List.take_append_of_le_length oQ]
   rfl
  ·rw[xN,List.length_append]at h
   obtain⟨a,c1,r,m,rfl,hm,hD⟩:=qAs fo (i -(qV c.1 c.2).length) oQ;refine⟨c::a,c1,r,m,rfl,hm,fun D=> ?_⟩;rw[xN,List.append_assoc,List.take_append,List.take_of_length_le oQ,hD,xN,List.append_assoc]
theorem cG:∀{e:bQ} {m c:Nat},m<=e.length ->Flow e.length c (e.take m) (e.take m) (e.length -m,zR c (e.take m),[])
 |e,0,c,_ =>by
  have:zR c []=c:=by simp[zR,gW,Nat.xor_assoc]
  simpa [this]using Flow.done e.length c []
 |[],m+1,c,h=>absurd h sQ
 |y::e,m+1,c,h=>by
  have:=Flow.byte (y:=y) (cG (e:=e) (m:=m) (c:=zR c [y]) (by simpa using h));have e1:zR c (y::e.take m)=zR (zR c [y]) (e.take m):=by rw[mM];rfl
  rw[List.take_succ_cons,e1,List.length_cons,show e.length+1 -(m+1)=e.length -m by omega];exact this
theorem oE{T:bQ}:∀(ds:List (bQ)) (e:bQ) (m:Nat),(∀x∈e::ds,x≠[]/\x.length<4294967296) ->m<(e++(xI (vU (nIDAT++e))++(chs (zI ds)++T))).length ->
  ∃ys s,Flow e.length (zR 0 nIDAT) ((e++(xI (vU (nIDAT++e))++(chs (zI ds)++T))).take m) ys s/\fB s/\ys<+:(e::ds).flatten/\((ys≠(e::ds).flatten/\dM false s)\/(ys=(e::ds).flatten/\∃cl n,cl<4294967296/\s=(0,cl,(xI cl++T).take n)/\n<4+T.length/\n<=m))
 |ds,e,m,he,hm=>by
  obtain⟨hne,hel⟩:=he e sQ;have hpos:0<e.length:=List.length_pos_iff.2 hne;rcases Nat.lt_or_ge m e.length with hlt|hge
  ·refine⟨e.take m,(e.length -m,zR (zR 0 nIDAT) (e.take m),[]),?_,.inr rfl,?_,.inl ⟨?_,.inl ⟨rfl,rfl,by show 0<e.length -m;omega⟩⟩⟩
   ·rw[List.take_append_of_le_length oQ]
    exact cG oQ
   ·rw[List.flatten_cons]
    exact(List.take_prefix _ _).trans (List.prefix_append _ _)
   ·intro h
    have:=congrArg List.length h;rw[List.length_take,List.flatten_cons,List.length_append]at this;omega
  ·have et:∀X:bQ,(e++X).take m=e++X.take (m -e.length):=fun X=>by rw[List.take_append,List.take_of_length_le hge]
   rw[et];have hml:m -e.length<(xI (vU (nIDAT++e))++(chs (zI ds)++T)).length:=by rw[List.length_append]at hm;omega
   have him:m -e.length<=m:=Nat.sub_le _ _;generalize m -e.length=i at*;have hcl:=jN (nIDAT++e);have go:∀{X ys:bQ} {s:Nat×Nat×bQ},Flow 0 (vU (nIDAT++e)) X ys s ->Flow e.length (zR 0 nIDAT) (e++X) (e++ys) s:=fun h=>gZ (by rw[uL];exact h);generalize vU (nIDAT++e)=cr at*;have hb0:∀X:bQ,4<=i ->be4 ((xI cr++X).take i) 0=cr:=fun X h=>by rw[vP oQ,yH (by rw[qZ];omega),vA hcl]
   cases ds with
   |nil=>
    refine⟨e++[],_,go (Flow.done 0 cr _),.inl rfl,sQ,.inr ⟨sQ,cr,i,hcl,rfl,?_,him⟩⟩
    simpa [zI,chs,qZ]using hml
   |cons e1 ds=>
    obtain⟨hne1,hel1⟩:=he e1 sQ;have hpos1:0<e1.length:=List.length_pos_iff.2 hne1;have ech:xI cr++(chs (zI (e1::ds))++T)=xI cr++(qV nIDAT e1++(chs (zI ds)++T)):=by
     rw[show zI (e1::ds)=(nIDAT,e1)::zI ds from rfl,xN,List.append_assoc]
    rw[ech]at hml⊢;rcases Nat.lt_or_ge i 12 with h12|h12
    ·refine⟨e++[],_,go (Flow.done 0 cr _),.inl rfl,by simp[List.prefix_append],.inl ⟨?_,?_⟩⟩
     ·intro h
      have:=congrArg List.length h;simp only[List.flatten_cons,List.length_append,List.length_nil]at this;omega
     ·refine .inr ⟨rfl,?_⟩
      dsimp only;rcases Nat.lt_or_ge i 4 with h4|h4
      ·exact .inl ⟨rfl,by rw[List.length_take];omega⟩
      ·refine .inr (.inr (.inl ⟨rfl,?_,hb0 _ h4,by rw[List.length_take];omega⟩))
       rw[List.length_take,List.length_append,qZ];omega
    ·obtain⟨a1,a2,a3,a4⟩:=zX (nm:=nIDAT) (d:=e1) (rest:=chs (zI ds)++T) rfl hel1
     have eb:be4 ((xI cr++(qV nIDAT e1++(chs (zI ds)++T))).take i) 4=e1.length:=by
      rw[vP oQ,qAl,a1]
     have ed:((xI cr++(qV nIDAT e1++(chs (zI ds)++T))).take i).drop 12=(e1++(xI (vU (nIDAT++e1))++(chs (zI ds)++T))).take (i -12):=by
      rw[List.drop_take,show(12:Nat)=4+8 from rfl,<-List.drop_drop,show(xI cr++(qV nIDAT e1++(chs (zI ds)++T))).drop 4=qV nIDAT e1++(chs (zI ds)++T)from rfl,a3]
     obtain⟨ys,s,hF,hA,hp,hc⟩:=oE (T:=T) ds e1 (i -12) (fun x hx=>he x (List.mem_cons_of_mem _ hx)) (by
      have:=congrArg List.length a3;rw[List.length_drop]at this;rw[List.length_append,qZ]at hml;omega)
     refine⟨e++ys,s,go (Flow.next (by rw[eb];exact hpos1) ?_ (hb0 _ oQ) ?_ ?_),hA,?_,?_⟩
     ·rw[List.length_take,List.length_append,qZ]
      omega
     ·rw[List.drop_take,List.take_take,Nat.min_eq_left oQ,show(8:Nat)=4+4 from rfl,<-List.drop_drop,show(xI cr++(qV nIDAT e1++(chs (zI ds)++T))).drop 4=qV nIDAT e1++(chs (zI ds)++T)from rfl,a2]
     ·rw[eb,ed]
      exact hF
     ·rw[List.flatten_cons]
      exact(List.prefix_append_right_inj _).2 hp
     ·rw[List.flatten_cons]
      exact hc.imp (fun h=>⟨fun he=>h.1 (List.append_cancel_left he),h.2⟩) (fun⟨h,cl,n,h1,h2,h3,h4⟩=>⟨by rw[h],cl,n,h1,h2,h3,oQ⟩)
end
def wp7(x0:Int)(x1:pQ)(x1l:Nat)(x1c:Nat)(x2:Int)(R:vPq)(w:wQ):Prop:=IfC (decide ((x1l:Int)>(2147483647:Int))) (R (.bool true) w) (CallT Pg 22 #[.slice x1 x1l x1c] w fun A k=>∃l,And (A= .bool l) (IfC (!l) (R (.bool true) k) (CallT Pg 27 #[.int .u32 x0,.slice x1 x1l x1c] k fun B C=>∃d a c,And (B= .slice d a c) (zQ (a:Int) (CallT Pg 30 #[.slice d a c] C fun D E=>∃m g F,And (D= .slice m g F) (xB (fun(G:(Int×Int×Unit) ->World ->Prop)=>G (0,(0:Int),()) E) (fun b e h=>IfC (decide (b.2.1<(g:Int))) (And (0<=b.2.1/\b.2.1<(g:Int)) (qN m fun i=>LdS e (qH i b.2.1.toNat 2) fun H=>qS e ⟨(qH i b.2.1.toNat 2).block,(qH i b.2.1.toNat 2).off+1,none⟩ fun I J K=>qL e (.cells (zc Pg 53) 53) fun j L=>qB L ⟨j,0,none⟩ (.string H) fun M=>qB M ⟨j,0+1,none⟩ (.slice I J K) fun f=>LdS f ⟨j,0,none⟩ fun N=>IfC (vK N ⟨#[73,68,65,84]⟩) (IfC (b.1==0) (CallT Pg 26 #[.slice d a c] f fun O n=>∃o p P,And (O= .slice o p P) (And (0<=b.2.1/\b.2.1<(p:Int)) (qN o fun Q=>LdI n (qH Q b.2.1.toNat 1) .i64 fun S=>h (wIq (S+8),wIq (b.2.1+1),()) n))) (h (b.1,wIq (b.2.1+1),()) f)) (h (b.1,wIq (b.2.1+1),()) f))) (IfC (decide ((Int.tmod (wIq x2) (a:Int))<b.1)) (CallT Pg 28 #[.slice d a c] e fun T q=>∃r,And (T= .bool r) (IfC r (And (0<=Int.tmod (wIq x2) (a:Int)/\Int.tmod (wIq x2) (a:Int)<=(c:Int)) (CallT Pg 29 #[.slice d ((Int.tmod (wIq x2) (a:Int)).toNat) c,iQq 3] q fun U V=>∃s,And (U= .bool s) (R (.bool s) V))) (R (.bool false) q))) (CallT Pg 28 #[.slice d a c] e fun X t=>∃u,And (X= .bool u) (IfC u (And (0<=Int.tmod (wIq x2) (a:Int)/\Int.tmod (wIq x2) (a:Int)<=(c:Int)) (CallT Pg 29 #[.slice d ((Int.tmod (wIq x2) (a:Int)).toNat) c,iQq 3] t fun Y v=>∃y,And (Y= .bool y) (IfC y (R (.bool true) v) (And (0<=Int.tmod (wIq x2) (a:Int)/\Int.tmod (wIq x2) (a:Int)<=(c:Int)) (CallT Pg 29 #[.slice d ((Int.tmod (wIq x2) (a:Int)).toNat) c,iQq 1] v fun Z aa=>∃z,And (Z= .bool z) (R (.bool z) aa)))))) (R (.bool false) t)))))))))))
theorem call7{x0:Int}{x1:pQ}{x1l:Nat}{x1c:Nat}{x2:Int}{R:vPq}{w:wQ}(h:wp7 x0 x1 x1l x1c x2 R w):CallT Pg 7 #[.int .u32 x0,.slice x1 x1l x1c,.int .u16 x2] w R:=cVq [(28,[(9,.i .i64),(29,.i .i64)],[6,7,8,27,28])] Tryz.func7 h
section
variable{w w' w0 w1 wB:wQ}{E:Er}{k W H D C:Nat}{L:Bool}{pal:List Px}{cl:List Nat}{fl xs zs d0:bQ}{dr:List (bQ)}{p q:pQ}{l c c':Nat}{cs ds es r:List Ch}{hd dd:bQ}{nm:bQ}{db rb kb crc:Nat}{d:Dec}{rs:bQ}
theorem qIl(M:Made k W H L pal cl fl xs zs d0 dr){j:Nat}(hj:j<(xD (sX k W H L pal cl d0 dr)).length):∃co:Int,(co=3\/co=1)/\(j<16+(chs (zU W H (qI k).2 (qI k).1 L pal cl)).length ->co=3)/\
  ∀{w:wQ} {q:pQ} {c:Nat} {code:Int} {E:Er},Env w E ->Has w q (bv ((xD (sX k W H L pal cl d0 dr)).take j)) ->CallT Pg 29 #[.slice q j c,.int .i64 code] w fun v w'=>v= .bool (decide (co=code))/\Fr [] w w':=by
 have hlb:=M.okc.2;have hgood:=mV M.hW.1 M.hH.1 M.rows;generalize hfo:zU W H (qI k).2 (qI k).1 L pal cl=fo at*;have hdl:∀x∈d0::dr,x≠[]/\x.length<4294967296:=by
  intro x hx';refine⟨M.ne x hx',?_⟩;have h1:x.length<=(d0::dr).flatten.length:=bM hx';have h2:=M.zlen;rw[M.flat]at h1;omega
 obtain⟨T,hT⟩:∃T,T=qV zY []:=⟨_,rfl⟩;have hT12:T.length=12:=by rw[hT,xE rfl];rfl
 obtain⟨Dt,hDt⟩:∃Dt,Dt=qV nIDAT d0++(chs (zI dr)++T):=⟨_,rfl⟩;have eF:xD (sX k W H L pal cl d0 dr)=sigL++(chs fo++Dt):=by
  unfold sX;rw[hfo,xD,zL,zL,hDt,hT,show zI (d0::dr)=(nIDAT,d0)::zI dr from rfl,xN];simp[chs]
 rw[eF]at hj hlb⊢;have hlen:j=((sigL++(chs fo++Dt)).take j).length:=by rw[List.length_take];omega
 rcases Nat.lt_or_ge j 8 with h8|h8
 ·exact⟨3,.inl rfl,fun _ =>rfl,fun hV hx=>qFz hx hlen oQ hV⟩
 have et:∀X:bQ,(sigL++X).take j=sigL++X.take (j -8):=fun X=>by rw[List.take_append,List.take_of_length_le (by rw[zP];omega),zP]
 rw[et]at hlen⊢;rw[List.length_append,zP,List.length_append]at hj hlb;rcases Nat.lt_or_ge (j -8) (chs fo).length with hi|hi
 ·obtain⟨a,ch,r,m,ha,hm,hD⟩:=qAs fo (j -8) hi
  rw[hD]at hlen⊢;refine⟨3,.inl rfl,fun _ =>rfl,fun{w q c code E} hV hx=> ?_⟩;refine mZ (co:=3) (a:=a) (r:=ch::r) (bad:=(qV ch.1 ch.2).take m) rfl hx hlen oQ hV (by rw[hfo,ha]) M.hk M.hW M.hH M.ok (fun _ _ _ =>False) (fun{w0 w1 db rb kb p d crc} hA hD hR=> ?_) (fun _ _ h=>h.elim);exact CallT.mono (hR.cut hD hm hA.errs hA.lo M.hk M.hW M.hH M.ok hA.F0 hA.hkb) fun v w2 h=>⟨h.1,.inl (Bad.ofECl h.2 hA.errs rfl)⟩
 have et2:(chs fo++Dt).take (j -8)=chs fo++Dt.take (j -8 -(chs fo).length):=by rw[List.take_append,List.take_of_length_le hi]
 rw[et2]at hlen⊢;obtain⟨m,hmj⟩:∃m,j=8+(chs fo).length+m:=⟨j -8 -(chs fo).length,oQ⟩;have hm:j -8 -(chs fo).length=m:=oQ;rw[hm]at hlen⊢;have hmD:m<Dt.length:=oQ;have hmt:(Dt.take m).length=m:=by rw[List.length_take];omega
 have hfo0:zU W H (qI k).2 (qI k).1 L pal cl=fo++[]:=by rw[hfo,List.append_nil]
 rcases Nat.lt_or_ge m 8 with hm8|hm8
 ·refine⟨3,.inl rfl,fun _ =>rfl,fun{w q c code E} hV hx=> ?_⟩
  refine mZ (co:=3) (a:=fo) (r:=[]) (bad:=Dt.take m) rfl hx hlen oQ hV hfo0 M.hk M.hW M.hH M.ok (fun _ _ _ =>False) (fun{w0 w1 db rb kb p d crc} hA hD hR=> ?_) (fun _ _ h=>h.elim);exact CallT.mono (hD.c60_short hA.errs hA.lo oQ) fun v w2 h=>⟨hA.fr (h.2.mono sQ),.inl (Bad.ofECl h.1 hA.errs rfl)⟩
 have hd0:=(hdl d0 sQ).2;obtain⟨b1,b2,b3,b4⟩:=lN (nm:=nIDAT) (dd:=d0) (rest:=chs (zI dr)++T) rfl hd0 hm8;obtain⟨_,_,a3,_⟩:=zX (nm:=nIDAT) (d:=d0) (rest:=chs (zI dr)++T) rfl hd0;rw[<-hDt]at b1 b2 b3 b4 a3;obtain⟨ys,s,hF,hAt,hp,hc⟩:=oE (T:=T) dr d0 (m -8) hdl (by rw[<-a3,List.length_drop];omega);rw[M.flat]at hp hc;rw[<-b3]at hF;rcases hc with⟨hne,hB⟩|⟨heq,cl',n,hcl,rfl,hn,hnm⟩
 ·refine⟨if ys.length<2 then 3 else 1,by split<;>simp,fun h=>absurd h oQ,fun{w q c code E} hV hx=> ?_⟩
  refine mZ (co:=if ys.length<2 then 3 else 1) (a:=fo) (r:=[]) (bad:=Dt.take m) rfl hx hlen oQ hV hfo0 M.hk M.hW M.hH M.ok (fun _ _ _ =>False) (fun{w0 w1 db rb kb p d crc} hA hD hR=> ?_) (fun _ _ h=>h.elim);refine CallT.mono (qEy (t:=some false) M.hk M.hW M.hH M.ok hA hR hD hd0 b1 b2 b4 hF hAt hp (.inr ⟨false,rfl,hB⟩) (fun _ =>hne) (fun e=>by cases e) M.zl M.xlen) ?_;rintro v w2 ⟨F,⟨_,_,_,_,_,_,_,_,_,_,htf⟩|⟨_,_,_,hg,_⟩⟩
  ·exact absurd rfl htf
  ·refine⟨F,.inl ?_⟩
   obtain⟨g1,g2⟩:=hg rfl
   by_cases h2:ys.length<2
   ·rw[if_pos h2,g1 h2]
    exact Bad.ofUne rfl hA.errs
   ·rw[if_neg h2]
    exact pW (g2 oQ) rfl
 ·refine⟨3,.inl rfl,fun _ =>rfl,fun{w q c code E} hV hx=> ?_⟩
  have hb4:4<=n ->be4 ((xI cl'++T).take n) 0=cl':=fun h=>by rw[vP oQ,yH (by rw[qZ];omega),vA hcl]
  have hnl:((xI cl'++T).take n).length=n:=by rw[List.length_take,List.length_append,qZ];omega
  refine mZ (co:=3) (a:=fo) (r:=[]) (bad:=Dt.take m) rfl hx hlen oQ hV hfo0 M.hk M.hW M.hH M.ok (fun d _ rs=>d.stage=4/\rs=T.take (n -4)) (fun{w0 w1 db rb kb p d crc} hA hD hR=> ?_) (fun{w0 w1 db rb kb p d crc rs} hA hD hG=> ?_)
  ·refine CallT.mono (qEy (t:=none) M.hk M.hW M.hH M.ok hA hR hD hd0 b1 b2 b4 hF hAt hp (.inl heq) (fun e=>by cases e) (fun _ =>rfl) M.zl M.xlen) ?_
   rintro v w2 ⟨F,⟨rfl,dd,crc',rs',hD',h4,hFl,h4l,_,_⟩|⟨_,_,hg,_,hg3⟩⟩
   ·obtain⟨rfl,rfl⟩:=tX hFl
    have e:((xI crc'++T).take n).drop 4=T.take (n -4):=by rw[List.drop_take];rfl
    rw[e]at hD';exact⟨F,.inr ⟨rfl,dd,_,_,hD',by rw[List.length_take];omega,h4,rfl⟩⟩
   ·refine⟨F,.inl ?_⟩
    rcases Nat.lt_or_ge n 4 with h4|h4
    ·exact Bad.ofECl (hg3 rfl hgood fun crc rs hf=>by obtain⟨rfl,rfl⟩:=tX hf;omega) hA.errs rfl
    ·exact absurd hgood (hg rfl fun crc rs hf=>by obtain⟨rfl,rfl⟩:=tX hf;exact⟨oQ,hb4 h4⟩)
  ·obtain⟨h4,rfl⟩:=hG
   refine⟨oQ,?_⟩;rcases Nat.lt_or_ge (n -4) 8 with h8'|h8'
   ·exact CallT.mono (hD.c60_short hA.errs hA.lo (by rw[List.length_take];omega)) fun v w2 h=>⟨hA.fr (h.2.mono sQ),Bad.ofECl h.1 hA.errs rfl⟩
   ·obtain⟨a1,a2,a3,a4⟩:=lN (nm:=zY) (dd:=[]) (rest:=[]) rfl dQ h8'
    rw[List.append_nil,<-hT]at a1 a2 a3 a4;refine hD.c60 a4 fun w3 tmp s F1 n1 D1=> ?_;rw[a2];have hnx:zT d zY= .call 80 5:=by
     unfold zT;rw[if_neg dQ,if_neg dQ,if_neg dQ,if_neg dQ,if_pos rfl,if_neg (by rw[h4];decide)]
    rw[hnx];dsimp only;intro hs5;subst hs5;rw[a1];rw[a2,a3]at D1;have hne:=hD.ne;have hlow:=hA.errs.low;have hlo:=hA.lo;have hord:=hA.ord;refine CallT.mono (D1.c80 (len:=0) (hA.errs.fr F1 (by simp;omega)) hA.lo) ?_;have hsl:((([]:bQ)++(xI (vU (zY++[]))++[])).take (n -4 -8)).length<4:=by rw[List.length_take];omega
    rintro v w2 ⟨f2,n2,⟨rfl,_,hl4,_⟩|⟨_,_,_,hf,_⟩⟩
    ·omega
    ·exact⟨hA.fr (F1.trans f2),Bad.ofECl (hf rfl hsl) hA.errs rfl⟩
theorem c7{n m:Nat}(hn32:n<4294967296)(hm:m<65536){ss:List Nat}(hx:HasW w p (ss.map fun(s:Nat)=> .int .u16 (s:Int)))(hl:l=ss.length)(hV:Env w E):CallT Pg 7 #[.int .u32 n,.slice p l c,.int .u16 m] w fun v w'=>v= .bool true/\Fr [] w w':=by
 apply call7;unfold wp7 wIq iQq;refine qFe (R:=fun v w'=>v= .bool true/\Fr [] w w') ⟨rfl,Fr.refl _ _⟩ fun hb=> ?_;refine CallT.mono (c27 hn32 hx hl hb) ?_;rintro v w1 ⟨W,H,L,pal,cl,hW,hH,hok,hF⟩;obtain⟨fl,xs,zs,d0,dr,M,f,q,cc,rfl,ho⟩:=qBh oQ hW hH hok hF;obtain⟨hokc,hlb⟩:=M.okc;have hcut:=fun{j:Nat}=>qIl M (j:=j);have hwh:=fun{w:wQ} {q:pQ} {l c:Nat} (hV:Env w E)=>M.whole (w:=w) (q:=q) (l:=l) (c:=c) hV rfl;obtain⟨b0,rfl,hlc,_,_⟩:=cF ho rfl;have hcf:=fun{K:pQ ->Nat ->Nat ->World ->Prop}=>qAr (K:=K) M f ho rfl;have e4:sX (n%15) W H L pal cl d0 dr=zU W H (qI (n%15)).2 (qI (n%15)).1 L pal cl++(nIDAT,d0)::(zI dr++[(zY,[])]):=by unfold sX;rw[show zI (d0::dr)=(nIDAT,d0)::zI dr from rfl];simp
 have hfoN:∀c∈zU W H (qI (n%15)).2 (qI (n%15)).1 L pal cl,c.1≠nIDAT:=by
  intro c hc;rw[kS]at hc;unfold cI at hc;simp only[List.mem_cons,List.mem_append]at hc;rcases hc with rfl|hc|hc|hc
  ·show zJ≠nIDAT;decide
  ·split at hc
   ·simp at hc;subst hc;show vE≠nIDAT;decide
   ·simp at hc
  ·split at hc
   ·simp at hc;subst hc;show zC≠nIDAT;decide
   ·simp at hc
  ·split at hc
   ·simp at hc;subst hc;show zC≠nIDAT;decide
   ·simp at hc
 generalize zU W H (qI (n%15)).2 (qI (n%15)).1 L pal cl=fo at*;generalize sX (n%15) W H L pal cl d0 dr=cs at*;have h16:16+(chs fo).length<(xD cs).length:=by
  have:=yI (tC (a:=[]) (b:=cs) hokc);rw[e4,xD,List.length_append,zL,List.length_append,xN,List.length_append,xE rfl,zP];omega
 have hcsl:cs.length<1099511627776:=by
  have h1:(xD cs).length=8+(chs cs).length:=by rw[xD,List.length_append,zP]
  have h2:=yI hokc;omega
 have hfl:fo.length<cs.length:=by rw[e4,List.length_append,List.length_cons];omega
 have hnot:∀i c,i<fo.length ->cs[i]? =some c ->c.1≠nIDAT:=by
  intro i c hi hc;rw[e4,List.getElem?_append_left hi]at hc;exact hfoN c (List.mem_of_getElem? hc)
 have hpl:=bU (r:=zI dr++[(zY,[])]) (ch:=(nIDAT,d0)) (at_ :=8) (gP (by rw[<-e4];exact hokc):sC fo);have hat:∀c,cs[fo.length]? =some c ->c.1=nIDAT:=by
  intro c hc;rw[e4,List.getElem?_append_right (Nat.le_refl _),Nat.sub_self]at hc;obtain rfl:=Option.some.inj hc
  rfl
 rw[<-e4]at hpl;clear e4 hfoN;refine⟨_,_,_,rfl,xK oQ ?_⟩;refine hcf fun p2 l2 c2 w2 F2 f2 h2=> ?_;obtain rfl:l2=cs.length:=by obtain⟨b,vs,_,_,h,_⟩:=h2;exact h
 have ho2:=ho.fr0 f2;have ek:Int.tmod (wrap .i64 (m:Int)) ((xD cs).length:Int)=((m%(xD cs).length:Nat):Int):=by rw[qA oQ oQ];exact zG _ _
 rw[ek];have hj:m%(xD cs).length<(xD cs).length:=Nat.mod_lt _ oQ;generalize m%(xD cs).length=j at*;obtain⟨co,hco,hco3,hcode⟩:=hcut hj;have told:∀{w3:wQ} {code:Int},Fr [] w w3 ->Fr [] w2 w3 ->CallT Pg 29 #[.slice (some ⟨b0,0,none⟩) j cc,.int .i64 code] w3 fun v w'=>v= .bool (decide (co=code))/\Fr [] w3 w':=by
  intro w3 code F3 f3;refine hcode (hV.fr0 F3) ?_;have:=Has.takes (n:=j) (ho2.fr0 f3).has;rw[show(bv (xD cs)).take j=bv ((xD cs).take j) by simp[bv,List.map_take]]at this;exact this
 refine qP (fun z w'=>∃i:Nat,z=((if i<=fo.length then 0 else((16+(chs fo).length:Nat):Int)),(i:Int),())/\i<=cs.length/\Fr [] w2 w') (fun z _ =>cs.length -z.2.1.toNat) ⟨0,by rw[if_pos (Nat.zero_le _)];rfl,oQ,Fr.refl _ _⟩ ?_;rintro _ w3 ⟨i,rfl,hi,F3⟩;dsimp only;refine qF (fun hlt=> ?_) (fun hge=> ?_)
 ·obtain⟨ch,hch⟩:∃ch,cs[i]? =some ch:=⟨_,List.getElem?_eq_getElem oQ⟩
  refine wC h2 F3 hch fun q' c' r w4 f4 hr hq hqc hqb _ => ?_;rw[show vK ⟨ch.1.toArray⟩ ⟨#[73,68,65,84]⟩=(ch.1==nIDAT)from uH _ nIDAT,qA (n:=(i:Int)+1) oQ oQ];have F4:=F3.trans f4;refine qX (fun he=> ?_) (fun he=> ?_)
  ·have hin:¬i<fo.length:=fun h=>hnot i ch h hch (eq_of_beq he)
   refine qW (fun h0=> ?_) (fun h0=> ?_)
   ·have hie:i=fo.length:=by
     split at h0
     ·omega
     ·omega
    subst hie;refine CallT.mono (c26 (ho2.fr0 F4).has rfl hlb hokc) ?_;rintro _ w5 ⟨f5,p5,c5,rfl,ho5⟩;refine⟨_,_,_,rfl,IdxI (n:=((8+(chs fo).length:Nat):Int)) ho5.has oQ oQ (by rw[Int.toNat_natCast,iv,List.getElem?_map,hpl];rfl) ?_⟩;refine⟨⟨fo.length+1,?_,oQ,F4.trans f5⟩,oQ⟩;rw[if_neg oQ,qA oQ oQ];exact Prod.ext (by show(_ :Int)=_;omega) (Prod.ext (by show(fo.length:Int)+1=((fo.length+1:Nat):Int);omega) rfl)
   ·refine⟨⟨i+1,?_,oQ,F4⟩,oQ⟩
    have hi':¬i<=fo.length:=fun h=>h0 (by rw[if_pos h]);rw[if_neg hi',if_neg oQ]
    rfl
  ·have hne:i≠fo.length:=fun h=>by
    subst h;rw[hat ch hch]at he;exact absurd he dQ
   refine⟨⟨i+1,?_,oQ,F4⟩,oQ⟩
   by_cases hc:i<=fo.length
   ·rw[if_pos hc,if_pos oQ];rfl
   ·rw[if_neg hc,if_neg oQ];rfl
 ·obtain rfl:i=cs.length:=oQ
  rw[if_neg oQ];have FF:=F2.trans F3;refine qF (fun hlt=> ?_) (fun hge=> ?_)
  ·obtain rfl:=hco3 oQ
   refine CallT.mono (hwh (hV.fr0 FF) (ho2.fr0 F3).has rfl) ?_;rintro _ w4 ⟨rfl,f4⟩;refine⟨_,rfl,xA ⟨⟨oQ,oQ⟩,?_⟩⟩;rw[Int.toNat_natCast];refine CallT.mono (told (FF.trans f4) (F3.trans f4)) ?_;rintro _ w5 ⟨rfl,f5⟩;exact⟨_,rfl,rfl,(FF.trans f4).trans f5⟩
  ·refine CallT.mono (hwh (hV.fr0 FF) (ho2.fr0 F3).has rfl) ?_
   rintro _ w4 ⟨rfl,f4⟩;refine⟨_,rfl,xA ⟨⟨oQ,oQ⟩,?_⟩⟩;rw[Int.toNat_natCast];refine CallT.mono (told (FF.trans f4) (F3.trans f4)) ?_;rintro _ w5 ⟨rfl,f5⟩;refine⟨_,rfl,?_⟩;rcases hco with rfl|rfl
   ·exact xA ⟨rfl,(FF.trans f4).trans f5⟩
   ·refine qM ⟨⟨oQ,oQ⟩,?_⟩
    refine CallT.mono (told ((FF.trans f4).trans f5) ((F3.trans f4).trans f5)) ?_;rintro _ w6 ⟨rfl,f6⟩;exact⟨_,rfl,rfl,((FF.trans f4).trans f5).trans f6⟩
end
end Go.Proofs
