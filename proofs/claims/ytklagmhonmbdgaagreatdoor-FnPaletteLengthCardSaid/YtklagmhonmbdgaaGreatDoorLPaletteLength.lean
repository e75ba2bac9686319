/- Contracts of the law and of what it walks -/
import Derived.Test.YtklagmhonmbdgaaGreatDoorK4
set_option maxRecDepth 1000000
set_option linter.unusedVariables false
set_option linter.unusedSimpArgs false
set_option maxHeartbeats 4000000
namespace Go.Proofs
open Go Go.V
open Go.IntKind (wrap)
section
variable{w w' w0:wQ}{rb db kb crc k W H:Nat}{L:Bool}{p:pQ}{E:Er}{pal:List Px}{cl:List Nat}{d:Dec}
structure Env (w:wQ) (E:Er):Prop where
 tab:Tab w
 errs:Errs w E
 lo:E.n0<=hn w
 lace:LaceAt w E.n0
 ety:ETyp w
theorem Env.fr0(h:Env w E)(f:Fr [] w w'):Env w' E:=⟨h.tab.fr f sQ,h.errs.fr f sQ,Nat.le_trans h.lo f.size,h.lace.fr f (by have:=h.errs.low;omega) sQ,h.ety.fr0 f⟩
def Bad(E:Er)(C:Int ->Prop)(v:Value):Prop:=ErrF E v/\∀e',outE E v e' ->ErrK e'/\C (bR e')
theorem Bad.of125{s:ByteArray}{C:Int ->Prop}(hC:C 1):Bad E C (.iface 125 (.string s)):=by
 refine⟨.inr (.inr ⟨125,s,dQ,rfl⟩),fun e' he=> ?_⟩;rcases he with⟨h,_⟩|⟨_,rfl⟩
 ·simp[zD]at h
 ·exact⟨.inl ⟨s,rfl⟩,hC⟩
theorem Refuse.bad{v:Value}(h:Refuse 125 v){C:Int ->Prop}(hC:C 1):Bad E C v:=by obtain⟨s,rfl,_⟩:=h;exact Bad.of125 hC
theorem c69t{xs:bQ}{C:Int ->Prop}(hr:RdAt w rb p xs)(hT:Tab w)(hE:Errs w E)(hlo:E.n0<=rb)(hrb:3<rb/\rb<hn w)(hp:∀a,p=some a ->3<a.block/\a.block<rb)(h8:8<=xs.length)(hsig:xs.take 8=sigL)(G:World ->Dec ->Nat ->bQ ->Prop)
  (start:∀w6 tmp,G w6 {wV (.iface 85 (.pointer (some ⟨rb,0,none⟩))) (hn w)with tmp:=tmp} 0 (xs.drop 8))
  (step:∀w1 d crc rs,Fr [rb] w w1 ->hn w+2<=hn w1 ->Errs w1 E ->Dst w1 (hn w+1) rb (hn w) p d crc rs ->G w1 d crc rs ->d.stage≠5/\CallT Pg 60 #[.pointer (some ⟨hn w+1,0,none⟩),.bool false] w1 fun v w2=>Fr [rb] w w2/\((v= .nilIface/\∃d' crc' rs',Dst w2 (hn w+1) rb (hn w) p d' crc' rs'/\rs'.length<rs.length/\G w2 d' crc' rs')\/Bad E C v)):
  CallT Pg 69 #[.iface 85 (.pointer (some ⟨rb,0,none⟩))] w fun v w'=>Fr [rb] w w'/\∃e,v= .tuple #[.nilIface,e]/\(ErrK e/\C (bR e)):=by
 have hlow:=hE.low;refine c69 hr hT hE hlo hrb hp h8 (fun w'=>Fr [rb] w w'/\hn w+2<=hn w'/\∃d crc rs,Dst w' (hn w+1) rb (hn w) p d crc rs/\G w' d crc rs) (fun w'=>left w' rb) ?_ ?_ ?_
 ·intro w6 tmp _ F6 n6 D6
  exact⟨F6,n6,_,_,_,D6,start w6 tmp⟩
 ·intro w6 s hs
  exact absurd hsig hs
 ·rintro w1 ⟨F1,n1,d,crc,rs,hD,hG⟩
  obtain⟨h5,hc⟩:=step w1 d crc rs F1 n1 (hE.fr F1 (by simp;omega)) hD hG;refine⟨d,crc,rs,hD,fun h=>absurd h h5,fun _ =>CallT.mono hc ?_⟩;rintro v w2 ⟨F2,⟨rfl,d',crc',rs',hD',hlt,hG'⟩|⟨hb,ho⟩⟩
  ·refine .inl ⟨rfl,⟨F2,by have:=zR hD'.dec;omega,_,_,_,hD',hG'⟩,?_⟩
   rw[hD.at_.left_eq,hD'.at_.left_eq];exact hlt
  ·refine .inr ⟨hb,hE.fr F2 (by simp;omega),fun e' he=>⟨F2,e',rfl,ho e' he⟩⟩
def uV(pal:List Px)(cl:List Nat):List Ch:=(if 0<pal.length then [(xX,xL pal)]else [])++((if zG pal then [(xJ,xM pal)]else [])++(if 0<cl.length then [(xJ,zX cl)]else []))
theorem vY{D C:Nat}:zK W H D C L pal cl=(nIHDR,xT W H D C L)::uV pal cl:=rfl
theorem dW{D C:Nat}(hok:yW D C pal cl)(hC:C=3):uV pal cl=(xX,xL pal)::(if zG pal then [(xJ,xM pal)]else []):=by
 obtain⟨q1,q2,q3⟩:=hok.pal3 hC;have hcl:=hok.cl0 oQ oQ;subst hcl;unfold uV;rw[if_pos (by omega:0<pal.length),show(if 0<([]:List Nat).length then [(xJ,zX [])]else [])=([]:List Ch)from rfl,List.append_nil,List.singleton_append]
theorem qCh{D C:Nat}(hok:yW D C pal cl)(hC:C≠3):uV pal cl=if 0<cl.length then [(xJ,zX cl)]else []:=by
 have hpn:=hok.paln hC;subst hpn
 rfl
def RightAt(w:wQ)(db k W H:Nat)(L:Bool)(pal:List Px)(cl:List Nat)(d:Dec)(r:List Ch):Prop:=
 (d.stage=0/\d.useT=false/\d.cb=0/\r=zK W H (qE k).2 (qE k).1 L pal cl)\/
 (d.stage=1/\d.useT=false/\jG d k W H L/\r=uV pal cl)\/
 (d.stage=2/\(qE k).1=3/\d.useT=false/\jG d k W H L/\kH w db d.pal pal.length (kK (xL pal) pal.length)/\r=if zG pal then [(xJ,xM pal)]else [])\/
 (d.stage=3/\jG d k W H L/\((qE k).1=3 ->∃n cs,kH w db d.pal n cs)/\(d.useT=true ->(qE k).1=0\/(qE k).1=2)/\r=[])
theorem RightAt.step{c:Ch}{r:List Ch}{tail:bQ}(h:RightAt w db k W H L pal cl d (c::r))(hD:Dst w db rb kb p d crc (qV c.1 c.2++tail))(hk:k<15)(hW:1<=W/\W<=20)(hH:1<=H/\H<=20)(hok:yW (qE k).2 (qE k).1 pal cl)(F0:Fr [rb] w0 w)(hkb:hn w0<=kb):
  CallT Pg 60 #[.pointer (some ⟨db,0,none⟩),.bool false] w fun v w'=>v= .nilIface/\Fr [rb] w0 w'/\∃d' crc',Dst w' db rb kb p d' crc' tail/\RightAt w' db k W H L pal cl d' r:=by
 have hne:=hD.ne;have hcb:=jT hk;have fr:∀{w':wQ},Fr [rb,kb,db] w w' ->Fr [rb] w0 w':=fun f=>F0.trans' f (fun x hx hlt=>by simp at hx⊢;omega);rcases h with⟨h0,hu,_,hr⟩|⟨h1,hu,hh,hr⟩|⟨h2,hC,hu,hh,hP,hr⟩|⟨_,_,_,_,hr⟩
 ·rw[vY]at hr
  obtain⟨rfl,rfl⟩:=List.cons.inj hr;refine CallT.mono (Dst.goodIHDR hD h0 oQ oQ hk) ?_;rintro v w2 ⟨rfl,F,tmp,crc',hD'⟩;exact⟨rfl,fr F,_,_,hD',.inr (.inl ⟨rfl,hu,⟨rfl,rfl,rfl,rfl,rfl⟩,rfl⟩)⟩
 ·by_cases hC:(qE k).1=3
  ·rw[dW hok hC]at hr
   obtain⟨rfl,rfl⟩:=List.cons.inj hr;obtain⟨q1,q2,q3⟩:=hok.pal3 hC;refine CallT.mono (Dst.goodPLTE hD h1 hh.D_ (vO hk).1 (by rw[hh.cb_];have:=hcb.2.1 hC;omega) oQ oQ q3) ?_;rintro v w2 ⟨rfl,F,tmp,crc',pl,hD',hP⟩;exact⟨rfl,fr F,_,_,hD',.inr (.inr (.inl ⟨rfl,hC,hu,⟨hh.W_,hh.H_,hh.D_,hh.cb_,hh.lace_⟩,hP,rfl⟩))⟩
  ·rw[qCh hok hC]at hr
   by_cases hcl:0<cl.length
   ·rw[if_pos hcl]at hr
    obtain⟨rfl,rfl⟩:=List.cons.inj hr;have hl:=hok.cll.resolve_left (List.length_pos_iff.1 hcl);have h02:(qE k).1=0\/(qE k).1=2:=by
     by_cases h0:(qE k).1=0
     ·exact .inl h0
     ·by_cases h2:(qE k).1=2
      ·exact .inr h2
      ·exact absurd (hok.cl0 h0 h2) (List.length_pos_iff.1 hcl)
    have hcc:=qFj hk;refine CallT.mono (qCi hD h1 ?_) ?_
    ·rw[mE,hl,hh.cb_]
     rcases h02 with h0|h2
     ·refine .inl ⟨by rw[h0];rfl,?_⟩
      have:=hcc.1 h0;omega
     ·refine .inr ⟨by rw[h2];rfl,?_⟩
      have:=hcc.2 h2;omega
    ·rintro v w2 ⟨rfl,F,n2,tmp,tr,crc',hD'⟩
     exact⟨rfl,fr F,_,_,hD',.inr (.inr (.inr ⟨rfl,⟨hh.W_,hh.H_,hh.D_,hh.cb_,hh.lace_⟩,fun e=>absurd e hC,fun _ =>h02,rfl⟩))⟩
   ·rw[if_neg hcl]at hr
    cases hr
 ·by_cases ha:zG pal=true
  ·rw[if_pos ha]at hr
   obtain⟨rfl,rfl⟩:=List.cons.inj hr;obtain⟨q1,q2,q3⟩:=hok.pal3 hC;have hal:(xM pal).length=pal.length:=by simp[xM]
   obtain⟨g,hpal,hdg,hrow,hcl,hn256⟩:=hP;refine CallT.mono (Dst.goodTRNS (al:=xM pal) hD h2 (by rw[hh.cb_];have:=hcb.2.1 hC;omega) ⟨g,hpal,hdg,hrow,hcl,hn256⟩ (mN _ _) oQ oQ) ?_;rintro v w2 ⟨rfl,hF,tmp,crc',pl,hD',_,hP'⟩;have F:=hF g (by rw[hpal]);exact⟨rfl,F0.trans' F (fun x hx hlt=>by simp at hx⊢;omega),_,_,hD',.inr (.inr (.inr ⟨rfl,⟨hh.W_,hh.H_,hh.D_,hh.cb_,hh.lace_⟩,fun _ =>⟨_,_,hP'⟩,(fun h=>by rw[hu]at h;cases h),rfl⟩))⟩
  ·rw[if_neg ha]at hr
   cases hr
 ·cases hr
end
section
variable{w w0 w1 w2:wQ}{rb db kb crc k W H:Nat}{L:Bool}{p q:pQ}{E:Er}{pal:List Px}{cl:List Nat}{d:Dec}
structure Stp (w0 w1:wQ) (E:Er) (db rb kb:Nat):Prop where
 F0:Fr [rb] w0 w1
 hkb:hn w0<=kb
 errs:Errs w1 E
 lace:LaceAt w1 E.n0
 lo:E.n0<=rb
 ord:kb<db
theorem Stp.fr(h:Stp w0 w1 E db rb kb)(f:Fr [rb,kb,db] w1 w2):Fr [rb] w0 w2:=h.F0.trans' f (fun x hx hlt=>by have:=h.hkb;have:=h.ord;simp at hx⊢;omega)
theorem wT{c:Ch}{b:List Ch}{t:bQ}:(chs b++t).length<(chs (c::b)++t).length:=by
 rw[qZ];simp only[List.length_append];have:4<=(qV c.1 c.2).length:=by unfold qV;simp only[List.length_append,xG];omega
 omega
theorem gP{l c:Nat}{a r:List Ch}{bad:bQ}{code:Int}{file:bQ}(ef:file=sigL++(chs a++bad))(hx:Has w q (bv file))(hl:l=file.length)(hlb:l<1099511627776)(hV:Env w E)
  (hfo:zK W H (qE k).2 (qE k).1 L pal cl=a++r)(hk:k<15)(hW:1<=W/\W<=20)(hH:1<=H/\H<=20)(hok:yW (qE k).2 (qE k).1 pal cl)(G2:Dec ->Nat ->bQ ->Prop)
  (hbad:∀{w0 w1:wQ} {db rb kb:Nat} {p:pQ} {d:Dec} {crc:Nat},Stp w0 w1 E db rb kb ->Dst w1 db rb kb p d crc bad ->RightAt w1 db k W H L pal cl d r ->
   CallT Pg 60 #[.pointer (some ⟨db,0,none⟩),.bool false] w1 fun v w2=>Fr [rb] w0 w2/\(Bad E (·=code) v\/(v= .nilIface/\∃d' crc' rs',Dst w2 db rb kb p d' crc' rs'/\rs'.length<bad.length/\G2 d' crc' rs')))
  (after:∀{w0 w1:wQ} {db rb kb:Nat} {p:pQ} {d:Dec} {crc:Nat} {rs:bQ},Stp w0 w1 E db rb kb ->Dst w1 db rb kb p d crc rs ->G2 d crc rs ->
   d.stage≠5/\CallT Pg 60 #[.pointer (some ⟨db,0,none⟩),.bool false] w1 fun v w2=>Fr [rb] w0 w2/\Bad E (·=code) v):
  CallT Pg 29 #[.slice q l c,.int .i64 code] w fun v w'=>v= .bool true/\Fr [] w w':=by
 subst ef;refine qAs (B:=fun e=>ErrK e/\bR e=code) hx hl hlb hV.tab hV.errs hV.lo hV.lace hV.ety (fun e h=>h) fun w2 rb p F2 hr hT2 hE2 hlo2 hrb hp hL2 _ => ?_;refine c69t (C:=(·=code)) hr hT2 hE2 hlo2 hrb hp (by simp[yB]) (kN _) (fun w' d crc rs=>(∃b,rs=chs b++bad/\RightAt w' (hn w2+1) k W H L pal cl d (b++r))\/G2 d crc rs) ?_ ?_
 ·intro w6 tmp
  rw[gU];exact .inl ⟨a,rfl,.inl ⟨rfl,rfl,rfl,hfo.symm⟩⟩
 ·intro w1 d crc rs F1 n1 E1 hD hG
  have hlow:=hE2.low;have hA:Stp w2 w1 E (hn w2+1) rb (hn w2):=⟨F1,Nat.le_refl _,E1,hL2.fr F1 oQ (by simp;omega),hlo2,oQ⟩;rcases hG with⟨b,rfl,hR⟩|hG
  ·have h5:d.stage≠5:=by rcases hR with h|h|h|h<;>omega
   refine⟨h5,?_⟩
   cases b with
   |nil=>
    refine CallT.mono (hbad hA hD hR) ?_;rintro v w3 ⟨F,hb|⟨rfl,d',crc',rs',hD',hlt,hg⟩⟩
    ·exact⟨F,.inr hb⟩
    ·exact⟨F,.inl ⟨rfl,d',crc',rs',hD',hlt,.inr hg⟩⟩
   |cons ch b=>
    have hD':=hD;rw[qZ,List.append_assoc]at hD';refine CallT.mono (RightAt.step hR hD' hk hW hH hok F1 (Nat.le_refl _)) ?_;rintro v w3 ⟨rfl,F,d',crc',hD2,hR2⟩;exact⟨F,.inl ⟨rfl,d',crc',_,hD2,wT,.inl ⟨b,rfl,hR2⟩⟩⟩
  ·obtain⟨h5,hc⟩:=after hA hD hG
   refine⟨h5,CallT.mono hc ?_⟩;rintro v w3 ⟨F,hb⟩;exact⟨F,.inr hb⟩
end
section
variable{w w' w0:wQ}{E:Er}{Q Q':Nat ->Prop}
theorem c30n{b o l c:Nat}{cs:List Ch}(hx:Has w (some ⟨b,o,none⟩) (bv (qU cs)))(hl:l=(qU cs).length)(hb:l<1099511627776)(hlc:l<=c)(hok:kA cs):
  CallT Pg 30 #[.slice (some ⟨b,o,none⟩) l c] w fun v w'=>∃vs,PcHas (·=b) w' vs cs/\RetR 53 2 w cs.length vs v w':=by
 apply call30;unfold wp30 wIq iQq;rw[zI];have hblt:b<hn w:=by obtain⟨_,T,arr,h1,_⟩:=hx;exact zR h1
 refine qP (fun z w'=>Fr [] w w'/\∃a r vs,cs=a++r/\z.2.1=((8+(chs a).length:Nat):Int)/\z.1.len=a.length/\PcHas (·=b) w' vs a/\Own w' (hn w) 53 2 z.1.a z.1.len z.1.cap vs)
  (fun z _ =>l+1 -z.2.1.toNat) ⟨Fr.alloc _ _ _,[],cs,[],rfl,by simp[chs],rfl,trivial,Own.new (w:=w) (e:=53) (size:=2) (cs:= #[]) (l:=0) (Nat.le_refl _) sQ⟩ ?_
 rintro⟨⟨q,n,m⟩,k,⟨⟩⟩ w1 ⟨hf,a,r,vs,rfl,rfl,rfl,hpc,ho⟩;simp only at ho;have hlen:l=8+(chs a).length+(chs r).length:=by rw[hl];simp[qU,sigL,xU];omega
 have ha:=yN (rC hok);have hr:=yN (mM hok);refine qG (fun h=> ?_) (fun h=> ?_)
 ·simp only at h
  rw[qA oQ oQ]at h
  cases r with
  |nil=>simp only[vJ,List.length_nil]at hlen;omega
  |cons ch r=>
   obtain⟨h4,hd⟩:=hok ch sQ;have hcl:=xA (data:=ch.2) h4;simp only[qZ,List.length_append]at hlen;dsimp only;refine CallT.mono (c46 (hx.fr0 hf) hl oQ oQ oQ) ?_;rintro _ _ ⟨rfl,rfl⟩;rw[Int.toNat_natCast,bX hd];refine⟨_,rfl,?_⟩;rw[zY];have hf2:=hf.drewR.drewR;have hx2:=hx.fr0 hf2;have e0:bv (qU (a++ch::r))=bv (sigL++chs a++xR ch.2.length)++(bv ch.1++bv (ch.2++xR (jJ (ch.1++ch.2))++chs r)):=by
    rw[lI,<-bv_append,<-bv_append];simp[qV]
   have e1:bv (qU (a++ch::r))=bv (sigL++chs a++xR ch.2.length++ch.1)++(bv ch.2++bv (xR (jJ (ch.1++ch.2))++chs r)):=by
    rw[lI,<-bv_append,<-bv_append];simp[qV]
   have hx3:=hx2;rw[e0]at hx2;rw[e1]at hx3;have g0:=Has.sub hx2;have g1:=Has.sub hx3;simp only[bv_length,List.length_append,xG,h4]at g0 g1;have es:sigL.length=8:=rfl;simp only[es]at g0 g1;simp (disch:=omega) only[qA];have t1:((((8+(chs a).length:Nat):Int)+4).toNat)=8+(chs a).length+4:=oQ;have t2:((((8+(chs a).length:Nat):Int)+8).toNat)=8+(chs a).length+4+4:=oQ;have t3:((((8+(chs a).length:Nat):Int)+8+(ch.2.length:Int)).toNat)=8+(chs a).length+4+4+ch.2.length:=oQ;simp only[t1,t2,t3];rw[slAdd_one _ _ _ _ oQ,slAdd_one _ _ _ _ oQ];refine⟨⟨oQ,oQ⟩,⟨oQ,oQ⟩,⟨oQ,oQ⟩,⟨oQ,oQ⟩,?_⟩;refine rX (xs:=ch.1) g0 oQ ?_;refine tD ok50 hf2 ((ho.fr0 (Fr.drew _ _)).fr0 (Fr.drew _ _)) sQ (by simp[Value.oneCell']) oQ ?_;intro q' m' w3 hf3 hf3' ho3;have hq:∀b',b'=b ->b'∉xD q:=by
    intro b' e hmem;have:=ho.blk _ hmem;omega
   refine⟨⟨hf3,a++[ch],r,_,sQ,?_,sQ,?_,ho3⟩,oQ⟩
   ·simp only[xU,qZ,vJ,List.length_append,List.append_nil,hcl];omega
   ·refine PcHas.snoc (g1.fr hf3' ?_) oQ sQ (by intro a ha;cases ha;rfl) (((hpc.fr (Fr.drew [] _) sQ).fr (Fr.drew [] _) sQ).fr hf3' hq)
    intro a' ha';cases ha';exact hq _ rfl
 ·simp only at h
  rw[qA oQ oQ]at h
  cases r with
  |cons ch r=>
   exfalso
   obtain⟨h4,hd⟩:=hok ch sQ;have hcl:=xA (data:=ch.2) h4;simp only[qZ,List.length_append]at hlen;omega
  |nil=>exact⟨vs,by simpa using hpc,hf,q,m,sQ,by simpa using ho⟩
theorem PcHas.mono(h:∀b,Q b ->Q' b):∀{vs:List Value} {cs:List Ch},PcHas Q w vs cs ->PcHas Q' w vs cs
 |[],[],_ =>trivial
 | .string _ :: .slice _ _ _ ::_,_ ::_,⟨h1,h2,h3,h4,h5,h6⟩=>⟨h1,h2,h3,h4,fun a ha=>h _ (h5 a ha),PcHas.mono h h6⟩
theorem PcHas.set{dd:bQ}{p:pQ}{l c:Nat}(g1:Has w p (bv dd))(g2:l=dd.length)(g3:p=none ->c=0)(g4:∀a,p=some a ->Q a.block):∀{i:Nat} {vs:List Value} {cs:List Ch} {ch:Ch},PcHas Q w vs cs ->cs[i]? =some ch ->PcHas Q w (vs.set (i*2+1) (.slice p l c)) (cs.set i (ch.1,dd))
 |0,.string _ :: .slice _ _ _ ::r,_ ::cs,_,⟨h1,h2,h3,h4,h5,h6⟩,h=>by
  simp at h;subst h;exact⟨h1,g1,g2,g3,g4,h6⟩
 |i+1,.string _ :: .slice _ _ _ ::r,_ ::cs,ch,⟨h1,h2,h3,h4,h5,h6⟩,h=>by
  have:=PcHas.set g1 g2 g3 g4 (i:=i) (ch:=ch) h6 (by simpa using h);rw[show(i+1)*2+1=i*2+1+1+1 by omega];simp only[List.set_cons_succ];exact⟨h1,h2,h3,h4,h5,this⟩
 |i,[],[],_,_,h=>by simp at h
structure Made (k W H:Nat) (L:Bool) (pal:List Px) (cl:List Nat) (fl xs zs d0:bQ) (dr:List (bQ)):Prop where
 hk:k<15
 hW:1<=W/\W<=20
 hH:1<=H/\H<=20
 ok:yW (qE k).2 (qE k).1 pal cl
 rows:RowsOf (mH W H (qE k).2 (qE k).1 L) (gF fl) xs
 zl:tE xs zs
 flat:(d0::dr).flatten=zs
 ne:∀x∈d0::dr,x≠[]
 zlen:zs.length<=2097152
 xlen:xs.length<32768
def xV(k W H:Nat)(L:Bool)(pal:List Px)(cl:List Nat)(d0:bQ)(dr:List (bQ)):List Ch:=zK W H (qE k).2 (qE k).1 L pal cl++xZ (d0::dr)++[(xW,[])]
section
variable{k W H:Nat}{L:Bool}{pal:List Px}{cl:List Nat}{fl xs zs d0:bQ}{dr:List (bQ)}
theorem Made.okc(M:Made k W H L pal cl fl xs zs d0 dr):kA (xV k W H L pal cl d0 dr)/\(qU (xV k W H L pal cl d0 dr)).length<1099511627776:=by
 have hzp:0<zs.length:=by
  obtain⟨_,_,_,_,hz⟩:=M.zl;rw[hz];simp
 obtain⟨_,h1,h2,_⟩:=nJ (W:=W) (H:=H) (L:=L) M.hk M.ok hzp M.zlen M.flat M.ne;exact⟨h1,h2⟩
theorem Made.whole{q:pQ}{l c:Nat}{file:bQ}(M:Made k W H L pal cl fl xs zs d0 dr)(hV:Env w E)(hf:file=qU (xV k W H L pal cl d0 dr))(hx:Has w q (bv file))(hl:l=file.length):CallT Pg 28 #[.slice q l c] w fun v w'=>v= .bool true/\Fr [] w w':=
 qCy hf hx hl (by rw[hl,hf];exact M.okc.2) hV.tab hV.errs hV.lo hV.lace hV.ety M.hk M.hW M.hH M.ok M.rows M.zl M.flat M.ne M.zlen M.xlen
end
theorem nU{k W H:Nat}{L:Bool}{pal:List Px}{cl:List Nat}{v:Value}(hk:k<15)(hW:1<=W/\W<=20)(hH:1<=H/\H<=20)(hok:yW (qE k).2 (qE k).1 pal cl)(hF:oR w0 W H (qE k).2 (qE k).1 L pal cl v w):
  ∃fl xs zs d0 dr,Made k W H L pal cl fl xs zs d0 dr/\dL w0 (qU (xV k W H L pal cl d0 dr)) v w:=by
 obtain⟨fs,xs,zs,ds,_,hrows,hZ,hds,hne,hzl,hR⟩:=hF;have hD16:(qE k).2<=16:=by have:=(vO hk).1;omega
 cases ds with
 |nil=>
  obtain⟨bl,out,_,_,hz⟩:=hZ;rw[hz]at hds;simp at hds
 |cons d0 dr=>exact⟨fs,xs,zs,d0,dr,⟨hk,hW,hH,hok,hrows,hZ,hds,hne,hzl,aS hrows hW.2 hH.2 hD16⟩,hR⟩
def Pcs(w0 w:wQ)(p:pQ)(l c:Nat)(cs:List Ch):Prop:=∃b vs,Own w (hn w0) 53 2 p l c vs/\PcHas (·=b) w vs cs/\l=cs.length/\hn w0<=b/\b<hn w/\∀x∈xD p,b<x
theorem qDn{p:pQ}{base l c:Nat}{cs:List Ch}(h:Own w base 5 1 p l c (bv (qU cs)))(hl:l=(qU cs).length):∃b,p=some ⟨b,0,none⟩/\l<=c/\base<=b/\b<hn w:=by
 obtain⟨b,rfl,h1⟩:=pW h (by rw[hl];simp[qU,yB];omega);have:=h.at rfl;exact⟨b,rfl,h1,this.2.2.1,this.2.2.2⟩
theorem qBz{k W H:Nat}{L:Bool}{pal:List Px}{cl:List Nat}{fl xs zs d0:bQ}{dr:List (bQ)}{p:pQ}{l c:Nat}(M:Made k W H L pal cl fl xs zs d0 dr)(F:Fr [] w0 w)(h:Own w (hn w0) 5 1 p l c (bv (qU (xV k W H L pal cl d0 dr))))(hl:l=(qU (xV k W H L pal cl d0 dr)).length)
  {K:pQ ->Nat ->Nat ->World ->Prop}(hK:∀p l c w',Fr [] w0 w' ->Fr [] w w' ->Pcs w0 w' p l c (xV k W H L pal cl d0 dr) ->K p l c w'):
  CallT Pg 30 #[.slice p l c] w fun v w'=>Exists fun p':pQ=>Exists fun l':Nat=>Exists fun c':Nat=>And (v= .slice p' l' c') (K p' l' c' w'):=by
 obtain⟨b,rfl,hlc,hb0,hb1⟩:=qDn h hl;refine CallT.mono (c30n h.has hl (by rw[hl];exact M.okc.2) hlc M.okc.1) ?_;rintro v w' ⟨vs,hpc,f,q,c',rfl,ho⟩;refine⟨_,_,_,rfl,hK _ _ _ _ (F.trans f) f ⟨b,vs,ho.base_le F.size,hpc,rfl,hb0,Nat.lt_of_lt_of_le hb1 f.size,fun x hx=> ?_⟩⟩;have:=(ho.blk x hx).1;omega
theorem Pcs.glue{p:pQ}{l c:Nat}{cs:List Ch}(h:Pcs w0 w p l c cs)(hok:kA cs)(hb:(qU cs).length<1099511627776):CallT Pg 31 #[.slice p l c] w (dL w (qU cs)):=by
 obtain⟨b,vs,ho,hpc,hl,_,hb1,_⟩:=h;exact c31 ho.has hpc (fun x hx=>by have:x=b:=hx;omega) hl hb hok
theorem uA{k W H:Nat}{L:Bool}{pal:List Px}{cl:List Nat}{fl xs zs d0:bQ}{dr:List (bQ)}{p:pQ}{l c:Nat}(M:Made k W H L pal cl fl xs zs d0 dr)(hV:Env w0 E)(F:Fr [] w0 w)(h:Pcs w0 w p l c (xV k W H L pal cl d0 dr))
  {K:Bool ->World ->Prop}(hK:∀w',Fr [] w0 w' ->Fr [] w w' ->K true w'):
  CallT Pg 31 #[.slice p l c] w fun v w1=>Exists fun p':pQ=>Exists fun l':Nat=>Exists fun c':Nat=>And (v= .slice p' l' c') (CallT Pg 28 #[.slice p' l' c'] w1 fun v' w2=>Exists fun b:Bool=>And (v'= .bool b) (K b w2)):=by
 refine CallT.mono (h.glue M.okc.1 M.okc.2) ?_;rintro v w1 ⟨f,q,c',rfl,ho⟩;refine⟨_,_,_,rfl,CallT.mono (M.whole (hV.fr0 (F.trans f)) rfl ho.has rfl) ?_⟩;rintro v w2 ⟨rfl,f2⟩;exact⟨_,rfl,hK w2 ((F.trans f).trans f2) (f.trans f2)⟩
theorem lN{p:pQ}{l c:Nat}{vs:List Value}{cs:List Ch}{code:Int}(hV:Env w0 E)(F:Fr [] w0 w)(hp:Has w p vs)(hpc:PcHas Q w vs cs)(hQ:∀b,Q b ->b<hn w)(hl:l=cs.length)(hok:kA cs)(hb:(qU cs).length<1099511627776)
  (ht:∀{w1:wQ} {q:pQ} {c:Nat},Env w1 E ->Has w1 q (bv (qU cs)) ->CallT Pg 29 #[.slice q (qU cs).length c,.int .i64 code] w1 fun v w'=>v= .bool true/\Fr [] w1 w')
  {K:Bool ->World ->Prop}(hK:∀w',Fr [] w0 w' ->K true w'):
  CallT Pg 31 #[.slice p l c] w fun v w1=>Exists fun p':pQ=>Exists fun l':Nat=>Exists fun c':Nat=>And (v= .slice p' l' c') (CallT Pg 29 #[.slice p' l' c',.int .i64 code] w1 fun v' w2=>Exists fun b:Bool=>And (v'= .bool b) (K b w2)):=by
 refine CallT.mono (c31 hp hpc hQ hl hb hok) ?_;rintro v w1 ⟨f,q,c',rfl,ho⟩;refine⟨_,_,_,rfl,CallT.mono (ht (hV.fr0 (F.trans f)) ho.has) ?_⟩;rintro v w2 ⟨rfl,f2⟩;exact⟨_,rfl,hK w2 ((F.trans f).trans f2)⟩
theorem kZ{p:pQ}{l c:Nat}{R:vPq}{X:World ->Prop}(hR:R (.bool true) w)(hX:l<=1000 ->X w):
  IfC (decide ((l:Int)>(2147483647:Int))) (R (.bool true) w) (CallT Pg 22 #[.slice p l c] w fun v w2=>Exists fun b:Bool=>And (v= .bool b) (IfC (!b) (R (.bool true) w2) (X w2))):=by
 refine qG (fun _ =>hR) (fun _ =>CallT.mono c22 ?_);rintro v w2 ⟨rfl,rfl⟩;refine⟨_,rfl,?_⟩
 by_cases h:l<=1000
 ·rw[decide_eq_true h];exact hX h
 ·rw[decide_eq_false h];exact hR
end
section
variable{w w' w0:wQ}{E:Er}{k W H:Nat}{L:Bool}{pal:List Px}{cl:List Nat}{fl xs zs d0:bQ}{dr:List (bQ)}{p q:pQ}{l c c':Nat}{cs:List Ch}{hd dd:bQ}{nm:bQ}
theorem pU{i:Nat}{ch:Ch}(h:kA cs)(hi:cs[i]? =some ch)(hd:dd.length<4294967296):kA (cs.set i (ch.1,dd)):=by
 intro x hx;rcases List.mem_or_eq_of_mem_set hx with h1|rfl
 ·exact h x h1
 ·exact⟨(h ch (List.mem_of_getElem? hi)).1,hd⟩
theorem nE{ch:Ch}:∀{i:Nat} {cs:List Ch},kA cs ->cs[i]? =some ch ->(chs (cs.set i (ch.1,dd))).length<=(chs cs).length+dd.length
 |_,[],_,h=>by simp at h
 |0,x::cs,hok,h=>by
  obtain rfl:x=ch:=by simpa using h
  have h4:=(hok x sQ).1;show(chs ((x.1,dd)::cs)).length<=_;rw[qZ,qZ,List.length_append,List.length_append];dsimp only;rw[xA h4,xA h4];omega
 |i+1,x::cs,hok,h=>by
  have:=nE (i:=i) (cs:=cs) (fun y hy=>hok y (List.mem_cons_of_mem _ hy)) (by simpa using h);simp only[List.set_cons_succ,qZ,List.length_append];omega
theorem Made.len(M:Made k W H L pal cl fl xs zs d0 dr):(qU (xV k W H L pal cl d0 dr)).length<1000000000:=by
 have hpl:pal.length<=9:=by
  by_cases h:(qE k).1=3
  ·exact(M.ok.pal3 h).2.1
  ·rw[M.ok.paln h];simp
 have hcll:cl.length<=4:=by
  have:=tF (qE k).1;rcases M.ok.cll with h|h
  ·rw[h];simp
  ·omega
 have hal:(xM pal).length=pal.length:=by simp[xM]
 have hsl:=vP pal;have hcL:=mE cl;have hdat:∀ds:List (bQ),(∀x∈ds,x≠[]) ->(chs (xZ ds)).length<=13*ds.flatten.length:=by
  intro ds
  induction ds with
  |nil=>intro _;simp[xZ,chs]
  |cons d r ih=>
   intro hne;have:=ih (fun x hx=>hne x (List.mem_cons_of_mem _ hx));have hd:1<=d.length:=List.length_pos_iff.2 (hne d sQ);have e:xZ (d::r)=(nIDAT,d)::xZ r:=rfl;rw[e,qZ,List.length_append,xA rfl,List.flatten_cons,List.length_append];dsimp only;omega
 have h1:=hdat _ M.ne;rw[M.flat]at h1;have hz:=M.zlen;unfold xV;rw[qU,List.length_append,xU,xU,List.length_append,List.length_append,zK,qZ,xU,xU];simp only[List.length_append];have e0:(qV nIHDR (xT W H (qE k).2 (qE k).1 L)).length=12+13:=xA rfl;have e1:(chs (if 0<pal.length then [(xX,xL pal)]else [])).length<=12+27:=by
  split
  ·rw[qZ,vJ,List.append_nil,xA rfl];dsimp only;omega
  ·simp[chs]
 have e2:(chs (if zG pal=true then [(xJ,xM pal)]else [])).length<=12+9:=by
  split
  ·rw[qZ,vJ,List.append_nil,xA rfl];dsimp only;omega
  ·simp[chs]
 have e3:(chs (if 0<cl.length then [(xJ,zX cl)]else [])).length<=12+8:=by
  split
  ·rw[qZ,vJ,List.append_nil,xA rfl];dsimp only;omega
  ·simp[chs]
 have e4:(chs [(xW,[])]).length=12:=rfl;rw[yB];omega
theorem bA{g o i:Nat}{ch:Ch}(F:Fr [] w0 w)(h:Pcs w0 w p l c cs)(hi:cs[i]? =some ch)(hp:p=some ⟨g,0,none⟩)(ho:o=i*2+1)(hd:Has w q (bv dd))(hq:∀x∈xD q,hn w0<=x/\x<hn w/\x≠g)(hc:q=none ->c'=0){K:World ->Prop}
  (hK:∀w' vs Q,Fr [] w0 w' ->Has w' p vs ->PcHas Q w' vs (cs.set i (ch.1,dd)) ->(∀x,Q x ->x<hn w') ->l=(cs.set i (ch.1,dd)).length ->K w'):
  qB w ⟨g,o,none⟩ (.slice q dd.length c') K:=by
 obtain⟨b,vs,hown,hpc,hl,hb0,hb1,hb2⟩:=h;subst hp;have hbg:b<g:=hb2 g (by simp[xD]);obtain⟨hvl,⟨h0,_⟩|⟨g',arr,e,hg0,hg,hlc,hsz,hx⟩⟩:=hown
 ·cases h0
 ·obtain rfl:g'=g:=by cases e;rfl
  have hil:i<cs.length:=(List.getElem?_eq_some_iff.1 hi).1;have hQ:PcHas (fun x=>x=b\/x∈xD q) w vs cs:=hpc.mono fun x hx=> .inl hx;refine qD hg (by rw[hsz,ho];omega) fun w' h' f' n'=> ?_;have hset:=PcHas.set (w:=w) (Q:=fun x=>x=b\/x∈xD q) (p:=q) (l:=dd.length) (c:=c') hd rfl hc (fun a ha=> .inr (by subst ha;simp[xD])) hQ hi;refine hK w' (vs.set o (.slice q dd.length c')) (fun x=>x=b\/x∈xD q) (F.trans' f' (fun x hx hlt=>by simp at hx;omega)) ⟨rfl,53,_,h',fun j v hj=> ?_⟩ ?_ ?_ (by simpa using hl)
  ·rw[Nat.zero_add,Array.getElem?_setIfInBounds]
   rw[List.getElem?_set]at hj
   split at hj
   ·rename_i e1
    subst e1;rw[if_pos rfl,if_pos (by rw[hsz,ho];omega)]
    split at hj
    ·exact hj
    ·cases hj
   ·rename_i e1
    rw[if_neg e1];exact hx j v hj
  ·rw[ho]
   refine hset.fr f' fun x hx=> ?_;rcases hx with rfl|hx
   ·simp;omega
   ·have:=hq x hx
    simp;omega
  ·intro x hx
   rcases hx with rfl|hx
   ·omega
   ·have:=hq x hx;omega
theorem rE{base e l c:Nat}{p:pQ}{vs:List Value}(h:Own w base e 2 p l c vs)(hl:0<l):∃b,p=some ⟨b,0,none⟩/\l<=c:=by
 rcases h with⟨_,⟨rfl,rfl,_⟩|⟨g,arr,rfl,_,_,hlc,_⟩⟩
 ·omega
 ·exact⟨g,rfl,hlc⟩
end
section
variable{w w' w0:wQ}{E:Er}{k W H:Nat}{L:Bool}{pal:List Px}{cl:List Nat}{fl xs zs d0:bQ}{dr:List (bQ)}{p q:pQ}{l c c':Nat}{cs:List Ch}{hd dd:bQ}{nm:bQ}
theorem Pcs.fr0(h:Pcs w0 w p l c cs)(f:Fr [] w w'):Pcs w0 w' p l c cs:=by
 obtain⟨b,vs,ho,hpc,r⟩:=h;exact⟨b,vs,ho.fr0 f,hpc.fr f sQ,r.1,r.2.1,Nat.lt_of_lt_of_le r.2.2.1 f.size,r.2.2.2⟩
theorem Pcs.some2(h:Pcs w0 w p l c cs)(hl:0<cs.length):∃g,p=some ⟨g,0,none⟩/\l<=c/\g<hn w:=by
 obtain⟨b,vs,ho,hpc,r⟩:=h;obtain⟨g,rfl,h1⟩:=rE ho oQ;exact⟨g,rfl,h1,(ho.blk g (by simp[xD])).2⟩
end
section
variable{w w' w0:wQ}
end
section
variable{w w' w0 wB:wQ}{E:Er}{k W H:Nat}{L:Bool}{pal:List Px}{cl:List Nat}{fl xs zs d0:bQ}{dr:List (bQ)}{p q:pQ}{l c c':Nat}{cs ds:List Ch}{hd dd:bQ}{nm:bQ}{s:Sl}
end
section
variable{w w' w0 wB:wQ}{E:Er}{k W H:Nat}{L:Bool}{pal:List Px}{cl:List Nat}{fl xs zs d0:bQ}{dr:List (bQ)}{p q:pQ}{l c c':Nat}{cs ds es:List Ch}{hd dd:bQ}{nm:bQ}{s:Sl}{db rb kb crc:Nat}{d:Dec}{rs:bQ}
theorem qHk{w1:wQ}{D:Nat}{dd rest:bQ}(hA:Stp w0 w1 E db rb kb)(hD:Dst w1 db rb kb p d crc (qV xX dd++rest))(hdd:dd.length<4294967296)(hs:d.stage=1)(hDD:d.D=D)(hD':D=1\/D=2\/D=4\/D=8\/D=16)(hcb:d.cb=7\/d.cb=8\/d.cb=9\/d.cb=10)
  (hb:dd.length%3≠0\/dd.length/3=0\/256<dd.length/3\/2^D<dd.length/3){C:Int ->Prop}(hC:C 1):
  CallT Pg 60 #[.pointer (some ⟨db,0,none⟩),.bool false] w1 fun v w2=>Fr [rb] w0 w2/\Bad E C v:=by
 obtain⟨h1,h2,h3,h4⟩:=yA (nm:=xX) (d:=dd) (rest:=rest) rfl hdd;obtain⟨b1,b2,b3,b4⟩:=jI (d:=dd) (rest:=rest) (jU (xX++dd));refine hD.c60 oQ fun w3 tmp s F3 n3 D3=> ?_;rw[h2,show zT d xX= .call 76 2 by unfold zT;rw[if_neg dQ,if_pos rfl,if_neg (by simp[hs])],h1];rw[h3]at D3;dsimp only;rintro rfl;refine CallT.mono (D3.c76 (D:=D) hdd hDD hD' hcb (fun _ =>b4)) ?_;intro v w4 h;rw[if_pos hb]at h;obtain⟨hv,rfl⟩:=h;exact⟨hA.fr F3,hv.bad hC⟩
end
section
variable{w w' w0 wB:wQ}{E:Er}{k W H:Nat}{L:Bool}{pal:List Px}{cl:List Nat}{fl xs zs d0:bQ}{dr:List (bQ)}{p q:pQ}{l c c':Nat}{cs ds es r:List Ch}{hd dd:bQ}{nm:bQ}{s:Sl}{db rb kb crc:Nat}{d:Dec}{rs:bQ}
theorem cI{r n:Nat}(h:hp w r=Row 5 (uD Pg 5 n)):Has w (some ⟨r,0,none⟩) (bv (List.replicate n 0)):=by
 have e:=Has.of_row h;rw[lZ c5u zc5]at e;have e2:bv (List.replicate n 0)=(Array.replicate n (Value.int .u8 0)).toList:=by simp[bv,u8v]
 rw[e2];exact e
end
def wp16(x0:Int)(x1:pQ)(x1l:Nat)(x1c:Nat)(x2:Int)(R:vPq)(w:wQ):Prop:=IfC (decide ((x1l:Int)>(2147483647:Int))) (R (.bool true) w) (CallT Pg 22 #[.slice x1 x1l x1c] w fun N h=>∃i,And (N= .bool i) (IfC (!i) (R (.bool true) h) (zH 15 (zH 4 (CallT Pg 23 #[.int .u32 (wrap .u32 ((wrap .u32 ((wrap .u32 (x0 -(Int.tmod x0 15)))+7))+(Int.tmod x0 4))),.slice x1 x1l x1c] h fun O P=>∃j k l m n o p q r s t u v y,And (O= .agg #[iQq j,iQq k,iQq l,iQq m,.bool n,.slice o p q,.slice r s t,.slice u v y]) (qK P (.cells (zc Pg 31) 31) fun a Q=>qB Q ⟨a,0,none⟩ (iQq j) fun S=>qB S ⟨a,0+1,none⟩ (iQq k) fun T=>qB T ⟨a,0+2,none⟩ (iQq l) fun U=>qB U ⟨a,0+3,none⟩ (iQq m) fun V=>qB V ⟨a,0+4,none⟩ (.bool n) fun X=>qB X ⟨a,0+5,none⟩ (.slice o p q) fun Y=>qB Y ⟨a,0+6,none⟩ (.slice r s t) fun Z=>qB Z ⟨a,0+7,none⟩ (.slice u v y) fun c=>zH 1000 (xK (fun(bf:(Unit)) (b:wQ)=>l4q b a fun aa ab ac ad=>LdB b ⟨a,0+4,none⟩ fun ae=>qS b ⟨a,0+5,none⟩ fun af ag ah=>qS b ⟨a,0+6,none⟩ fun ai aj ak=>qS b ⟨a,0+7,none⟩ fun al am ao=>CallT Pg 24 #[.agg #[iQq aa,iQq ab,iQq ac,iQq ad,.bool ae,.slice af ag ah,.slice ai aj ak,.slice al am ao],.int .u32 (wrap .u32 ((wrap .u32 ((wrap .u32 (x0 -(Int.tmod x0 15)))+7))+(Int.tmod x0 4)))] b fun ap aq=>∃z A B,And (ap= .slice z A B) (CallT Pg 30 #[.slice z A B] aq fun ar au=>∃d e f,And (ar= .slice d e f) (CallT Pg 31 #[.slice d e f] au fun av aw=>∃C D E,And (av= .slice C D E) (CallT Pg 28 #[.slice C D E] aw fun ax ay=>∃F,And (ax= .bool F) (And (0<=wIq (Int.tmod x2 1000)/\wIq (Int.tmod x2 1000)<=wIq (Int.tmod x2 1000)/\wIq (Int.tmod x2 1000)<=281474976710656/\(1:Int)*(wIq (Int.tmod x2 1000))<=281474976710656) (qK ay (.cells (uD Pg 5 ((wIq (Int.tmod x2 1000)).toNat)) 5) fun az ba=>And (0<=(1:Int)/\(1:Int)<(e:Int)) (qN d fun G=>qB ba ⟨G.block,G.off+2+1,none⟩ (.slice (some ⟨az,0,none⟩) ((wIq (Int.tmod x2 1000)).toNat) ((wIq (Int.tmod x2 1000)).toNat)) fun H=>IfC F (CallT Pg 31 #[.slice d e f] H fun bb bc=>∃I J K,And (bb= .slice I J K) (CallT Pg 29 #[.slice I J K,iQq 1] bc fun bd be=>∃L,And (bd= .bool L) (R (.bool L) be))) (R (.bool false) H)))))))) (fun g=>zH 3 (IfC ((Int.tmod (wIq (Int.tmod x2 1000)) (3:Int))==0) (IfC (decide ((wIq (Int.tmod x2 1000))>(0:Int))) (zH 3 (LdI c ⟨a,0+2,none⟩ .i64 fun M=>ShC M (IfC (decide ((wIq (Int.tdiv (wIq (Int.tmod x2 1000)) (3:Int)))<=(xP .i64 (1:Int) M))) (R (.bool true) c) (g (()) c)))) (g (()) c)) (g (()) c))))))))))
theorem call16{x0:Int}{x1:pQ}{x1l:Nat}{x1c:Nat}{x2:Int}{R:vPq}{w:wQ}(h:wp16 x0 x1 x1l x1c x2 R w):CallT Pg 16 #[.int .u32 x0,.slice x1 x1l x1c,.int .u16 x2] w R:=cVq [(24,[],[0,7,8])] Tryz.func16 h
section
variable{w w' w0 wB:wQ}{E:Er}{k W H D C:Nat}{L:Bool}{pal:List Px}{cl:List Nat}{fl xs zs d0:bQ}{dr:List (bQ)}{p q:pQ}{l c c':Nat}{cs ds es r:List Ch}{hd dd:bQ}{nm:bQ}{s:Sl}{db rb kb crc:Nat}{d:Dec}{rs:bQ}
theorem fillD{r:Nat}{a0 a1 a2 a3:Int}{b:Bool}{s p c:Sl}{K:World ->Prop}(h:hp w r=Row 31 (zc Pg 31))(hK:∀w',hp w' r=Row 31 (yF a0 a1 a2 a3 b s p c) ->Fr [r] w w' ->hn w'=hn w ->K w'):
  qB w ⟨r,0,none⟩ (.int .i64 a0) fun w=>qB w ⟨r,0+1,none⟩ (.int .i64 a1) fun w=>qB w ⟨r,0+2,none⟩ (.int .i64 a2) fun w=>qB w ⟨r,0+3,none⟩ (.int .i64 a3) fun w=>qB w ⟨r,0+4,none⟩ (.bool b) fun w=>qB w ⟨r,0+5,none⟩ (.slice s.a s.len s.cap) fun w=>qB w ⟨r,0+6,none⟩ (.slice p.a p.len p.cap) fun w=>qB w ⟨r,0+7,none⟩ (.slice c.a c.len c.cap) K:=by
 rw[zc31]at h;refine qD h sQ fun w1 h1 f1 n1=> ?_;refine qD h1 sQ fun w2 h2 f2 n2=> ?_;refine qD h2 sQ fun w3 h3 f3 n3=> ?_;refine qD h3 sQ fun w4 h4 f4 n4=> ?_;refine qD h4 sQ fun w5 h5 f5 n5=> ?_;refine qD h5 sQ fun w6 h6 f6 n6=> ?_;refine qD h6 sQ fun w7 h7 f7 n7=> ?_;refine qD h7 sQ fun w8 h8 f8 n8=> ?_;exact hK w8 (by simpa [yF]using h8) (f1.trans (f2.trans (f3.trans (f4.trans (f5.trans (f6.trans (f7.trans f8))))))) oQ
structure DrawnAt (w0 w:wQ) (r W H D C:Nat) (L:Bool) (pal:List Px) (cl:List Nat) (s p c:Sl) (ns:List Int):Prop where
 fr:Fr [] w0 w
 row:hp w r=Row 31 (yF W H D C L s p c)
 new:hn w0<=r
 os:Own w (hn w0) 3 1 s.a s.len s.cap (tJ ns)
 nn:ns.length=W*H*chN C
 op:Own w (hn w0) 43 4 p.a p.len p.cap (gZ pal)
 oc:Own w (hn w0) 3 1 c.a c.len c.cap (iv cl)
 hW:1<=W/\W<=20
 hH:1<=H/\H<=20
 ok:yW D C pal cl
theorem hU{n:Nat}(hn32:n<4294967296){ss:List Nat}(hx:HasW w p (ss.map fun(s:Nat)=> .int .u16 (s:Int)))(hl:l=ss.length)(hb:l<=1000){K:Nat ->World ->Prop}
  (hK:∀{W H:Nat} {L:Bool} {pal:List Px} {cl:List Nat} {s p c:Sl} {ns:List Int} {r:Nat} {w':wQ},DrawnAt w w' r W H (qE (n%15)).2 (qE (n%15)).1 L pal cl s p c ns ->K r w'):
  CallT Pg 23 #[.int .u32 n,.slice p l c] w fun v4 w5=>Exists fun n6:Int=>Exists fun n7:Int=>Exists fun n8:Int=>Exists fun n9:Int=>Exists fun b10:Bool=>Exists fun p11:pQ=>Exists fun l12:Nat=>Exists fun c13:Nat=>Exists fun p14:pQ=>Exists fun l15:Nat=>Exists fun c16:Nat=>Exists fun p17:pQ=>Exists fun l18:Nat=>Exists fun c19:Nat=>And (v4= .agg #[.int .i64 n6,.int .i64 n7,.int .i64 n8,.int .i64 n9,.bool b10,.slice p11 l12 c13,.slice p14 l15 c16,.slice p17 l18 c19]) (qK w5 (.cells (zc Pg 31) 31) fun r20 w21=>qB w21 ⟨r20,0,none⟩ (.int .i64 n6) fun w22=>qB w22 ⟨r20,0+1,none⟩ (.int .i64 n7) fun w23=>qB w23 ⟨r20,0+2,none⟩ (.int .i64 n8) fun w24=>qB w24 ⟨r20,0+3,none⟩ (.int .i64 n9) fun w25=>qB w25 ⟨r20,0+4,none⟩ (.bool b10) fun w26=>qB w26 ⟨r20,0+5,none⟩ (.slice p11 l12 c13) fun w27=>qB w27 ⟨r20,0+6,none⟩ (.slice p14 l15 c16) fun w28=>qB w28 ⟨r20,0+7,none⟩ (.slice p17 l18 c19) fun w29=>K r20 w29):=by
 refine CallT.mono (c23 hn32 hx hl hb) ?_;rintro v w1 ⟨W,H,L,s,pp,cc,ns,pal,cl,hW,hH,rfl,F1,hos,hnn,hop,hoc,hok⟩;refine⟨_,_,_,_,_,_,_,_,_,_,_,_,_,_,rfl,?_⟩;refine qF fun w2 h2 f2 n2=> ?_;have hs:=F1.size;refine fillD h2 fun w3 h3 f3 n3=>hK ⟨(F1.trans f2).new1 f3 hs,h3,hs,?_,hnn,?_,?_,hW,hH,hok⟩
 ·exact(hos.fr0 f2).fr f3 (fun a ha=>by have:=hos.at ha;simp;omega)
 ·exact(hop.fr0 f2).fr f3 (fun a ha=>by have:=hop.at ha;simp;omega)
 ·exact(hoc.fr0 f2).fr f3 (fun a ha=>by have:=hoc.at ha;simp;omega)
theorem ldD{r:Nat}{s p c:Sl}{W H D C:Int}(h:hp w r=Row 31 (yF W H D C L s p c)){K:Int ->Int ->Int ->Int ->Bool ->pQ ->Nat ->Nat ->pQ ->Nat ->Nat ->pQ ->Nat ->Nat ->Prop}(hK:K W H D C L s.a s.len s.cap p.a p.len p.cap c.a c.len c.cap):
  LdI w ⟨r,0,none⟩ .i64 fun n1=>LdI w ⟨r,0+1,none⟩ .i64 fun n2=>LdI w ⟨r,0+2,none⟩ .i64 fun n3=>LdI w ⟨r,0+3,none⟩ .i64 fun n4=>LdB w ⟨r,0+4,none⟩ fun b=>qS w ⟨r,0+5,none⟩ fun p1 l1 c1=>qS w ⟨r,0+6,none⟩ fun p2 l2 c2=>qS w ⟨r,0+7,none⟩ fun p3 l3 c3=>K n1 n2 n3 n4 b p1 l1 c1 p2 l2 c2 p3 l3 c3:=
 qC h rfl (qC h rfl (qC h rfl (qC h rfl (zM h rfl (qL h rfl (qL h rfl (qL h rfl hK)))))))
theorem qCc{r m:Nat}{s p c:Sl}{ns:List Int}(hk:k<15)(hm:m<4294967296)(h:DrawnAt w0 w r W H (qE k).2 (qE k).1 L pal cl s p c ns){K:pQ ->Nat ->Nat ->World ->Prop}
  (hK:∀{fl xs zs d0:bQ} {dr:List (bQ)},Made k W H L pal cl fl xs zs d0 dr ->∀p' l' c' w',Fr [] w w' ->Pcs w0 w' p' l' c' (xV k W H L pal cl d0 dr) ->K p' l' c' w'):
  CallT Pg 24 #[.agg #[.int .i64 (W:Int),.int .i64 (H:Int),.int .i64 ((qE k).2:Int),.int .i64 ((qE k).1:Int),.bool L,.slice s.a s.len s.cap,.slice p.a p.len p.cap,.slice c.a c.len c.cap],.int .u32 (m:Int)] w fun v w1=>Exists fun p':pQ=>Exists fun l':Nat=>Exists fun c':Nat=>And (v= .slice p' l' c') (CallT Pg 30 #[.slice p' l' c'] w1 fun v' w2=>Exists fun p2:pQ=>Exists fun l2:Nat=>Exists fun c2:Nat=>And (v'= .slice p2 l2 c2) (K p2 l2 c2 w2)):=by
 refine CallT.mono (c24 hm h.hW h.hH (vO hk).1 h.os h.nn h.op h.oc h.ok) ?_;rintro v w1 hF;obtain⟨fl,xs,zs,d0,dr,M,f,q,c',rfl,ho⟩:=nU hk h.hW h.hH h.ok hF;exact⟨_,_,_,rfl,qBz M (h.fr.trans f) (ho.base_le h.fr.size) rfl fun p l c w' F f' hp=>hK M p l c w' (f.trans f') hp⟩
theorem RightAt.plte{x:bQ}{r':List Ch}(h:RightAt w db k W H L pal cl d ((xX,x)::r')):jG d k W H L/\d.stage=1:=by
 rcases h with⟨_,_,_,e⟩|⟨h1,_,hh,_⟩|⟨h2,_,_,hh,_,e⟩|⟨h3,hh,_,_,e⟩
 ·rw[vY]at e
  exact absurd (congrArg Prod.fst (List.cons.inj e).1) (show¬xX=nIHDR by decide)
 ·exact⟨hh,h1⟩
 ·split at e
  ·exact absurd (congrArg Prod.fst (List.cons.inj e).1) (show¬xX=xJ by decide)
  ·cases e
 ·cases e
theorem qGv{n a b:Nat}(hn:n<4294967296)(hab:a+b<15)(hb:n=4294967295 ->b=3)(ha:7<=a)(hb3:b<=3):∃n':Nat,wrap .u32 ((wrap .u32 ((wrap .u32 ((n:Int) -((n%15:Nat):Int)))+(a:Int)))+(b:Int))=n'/\n'<4294967296/\a<=n'%15/\n'%15<=a+3:=by
 by_cases h:n=4294967295
 ·have:=hb h
  subst h;subst this;refine⟨a+2,?_,oQ,oQ,oQ⟩;rw[xI (n:=((4294967295:Nat):Int) -_) dQ dQ];simp only[lT];omega
 ·have h1:n -n%15<=4294967280:=oQ
  refine⟨n -n%15+a+b,?_,oQ,oQ,oQ⟩;rw[xI (n:=(n:Int) -_) oQ oQ,xI (n:=(n:Int) -_ +_) oQ oQ,xI oQ oQ];omega
theorem c16{n m:Nat}(hn32:n<4294967296)(hm:m<65536){ss:List Nat}(hx:HasW w p (ss.map fun(s:Nat)=> .int .u16 (s:Int)))(hl:l=ss.length)(hV:Env w E):CallT Pg 16 #[.int .u32 n,.slice p l c,.int .u16 m] w fun v w'=>v= .bool true/\Fr [] w w':=by
 apply call16;unfold wp16 l4q wIq iQq;refine kZ (R:=fun v w'=>v= .bool true/\Fr [] w w') ⟨rfl,Fr.refl _ _⟩ fun hb=> ?_;refine xF dQ (xF dQ ?_);obtain⟨n',en,hn',hk,hk'⟩:∃n':Nat,wrap .u32 ((wrap .u32 ((wrap .u32 ((n:Int) -(Int.tmod (n:Int) (15:Int))))+(7:Int)))+(Int.tmod (n:Int) (4:Int)))=n'/\n'<4294967296/\7<=n'%15/\n'%15<=10:=by
  rw[show Int.tmod (n:Int) 15=((n%15:Nat):Int)from xQ n 15,show Int.tmod (n:Int) 4=((n%4:Nat):Int)from xQ n 4];exact qGv hn32 (a:=7) (b:=n%4) oQ oQ oQ oQ
 rw[en];refine hU hn' hx hl hb fun{W H L pal cl s pp cc ns r w1} hd=> ?_;have hk15:n'%15<15:=oQ;generalize n'%15=k at*;have hC3:(qE k).1=3:=by obtain rfl|rfl|rfl|rfl:=(by omega:k=7\/k=8\/k=9\/k=10)<;>rfl
 have e1000:wrap .i64 (Int.tmod (m:Int) (1000:Int))=((m%1000:Nat):Int):=by rw[show Int.tmod (m:Int) 1000=((m%1000:Nat):Int)from xQ m 1000,qA oQ oQ]
 rw[e1000];have ht:m%1000<1000:=Nat.mod_lt _ dQ;generalize m%1000=t at*;refine xF dQ (qJ (fun _ w'=>w'=w1/\(t%3≠0\/t=0\/2^(qE k).2<t/3)) ?_ ?_)
 ·rintro⟨⟩ w' ⟨rfl,hbad⟩
  refine ldD hd.row (qCc hk15 hn' hd fun{fl xs zs d0 dr} M p2 l2 c2 w2 f2 h2=> ?_);refine uA M hV (hd.fr.trans f2) h2 fun w3 F3 f3=>⟨⟨oQ,oQ,oQ,oQ⟩,?_⟩;rw[Int.toNat_natCast];refine qF fun w4 h4 f4 n4=> ?_;have hpos:=(M.ok.pal3 hC3).1;have hfT:=dW M.ok hC3;have hcs:∃rest,xV k W H L pal cl d0 dr=(nIHDR,xT W H (qE k).2 (qE k).1 L)::(xX,xL pal)::rest:=by
   refine⟨(if zG pal then [(xJ,xM pal)]else [])++xZ (d0::dr)++[(xW,[])],?_⟩;unfold xV;rw[vY,hfT]
   rfl
  obtain⟨rest,hcs⟩:=hcs;have hl2:l2=(xV k W H L pal cl d0 dr).length:=by obtain⟨b,vs,_,_,h,_⟩:=h2;exact h
  obtain⟨g,rfl,_,hg2⟩:=h2.some2 (by rw[hcs];simp);refine⟨⟨oQ,by rw[hl2,hcs];simp;omega⟩,?_⟩;rw[PtrC_some];dsimp only;have hz:Has w4 (some ⟨hn w3,0,none⟩) (bv (List.replicate t 0)):=cI h4;have hlz:(List.replicate t (0:UInt8)).length=t:=List.length_replicate;have hcs1:(xV k W H L pal cl d0 dr)[1]? =some (xX,xL pal):=by rw[hcs];rfl
  have h24:=h2.fr0 (f3.trans f4);generalize List.replicate t (0:UInt8)=zz at*;subst hlz;have hs3:=f3.size;have hs0:=F3.size;refine bA (i:=1) (F3.trans f4) h24 hcs1 rfl rfl hz (fun x hx=> ?_) (fun e=>by cases e) fun w6 vs6 Q F6 hp6 hpc6 hQ6 hl6=>xC ?_
  ·simp[xD]at hx
   have:=zR h4;omega
  ·obtain⟨hok,_⟩:=M.okc
   have hlen:=M.len;have hl3:(qU ((xV k W H L pal cl d0 dr).set 1 (xX,zz))).length<1099511627776:=by
    have:(chs ((xV k W H L pal cl d0 dr).set 1 (xX,zz))).length<=(chs (xV k W H L pal cl d0 dr)).length+zz.length:=nE (dd:=zz) hok hcs1;unfold qU at hlen⊢;rw[List.length_append]at hlen⊢;omega
   refine lN hV F6 hp6 hpc6 hQ6 hl6 (pU hok hcs1 oQ) hl3 (fun{w7 q c} hV7 hx7=> ?_) fun w8 F8=>⟨rfl,F8⟩;refine gP (a:=[(nIHDR,xT W H (qE k).2 (qE k).1 L)]) (r:=uV pal cl) (bad:=qV xX zz++chs rest) (by rw[hcs];simp[qU,chs]) hx7 rfl hl3 hV7 rfl M.hk M.hW M.hH M.ok (fun _ _ _ =>False) (fun{w0 w1 db rb kb p d crc} hA hD hR=> ?_) (fun _ _ h=>h.elim);rw[hfT]at hR;obtain⟨hh,hs1⟩:=hR.plte;have hcb:=(jT hk15).2.1 hC3;have:=hh.cb_;refine CallT.mono (qHk (C:=(·=1)) hA hD oQ hs1 hh.D_ (vO hk15).1 oQ oQ rfl) fun v w2 h=>⟨h.1,.inl h.2⟩
 ·intro J hJ
  refine xF dQ ?_;rw[show Int.tmod (t:Int) 3=((t%3:Nat):Int)from xQ t 3];refine qQ (fun e0=> ?_) (fun e0=>hJ _ _ ⟨rfl,.inl oQ⟩);refine qG (fun hpos=>xF dQ (qC hd.row rfl (qX oQ ?_))) (fun h0=>hJ _ _ ⟨rfl,.inr (.inl oQ)⟩);rw[qHr (vO hk15).1,show Int.tdiv (t:Int) 3=((t/3:Nat):Int)from vR t 3,qA oQ oQ];refine qG (fun _ =>⟨rfl,hd.fr⟩) (fun h=>hJ _ _ ⟨rfl,.inr (.inr oQ)⟩)
end
section
variable{w w' w0 wB:wQ}{E:Er}{k W H D C:Nat}{L:Bool}{pal:List Px}{cl:List Nat}{fl xs zs d0:bQ}{dr:List (bQ)}{p q:pQ}{l c c':Nat}{cs ds es r:List Ch}{hd dd:bQ}{nm:bQ}{s:Sl}{db rb kb crc:Nat}{d:Dec}{rs:bQ}
end
section
variable{w w' w0 w1 wB:wQ}{E:Er}{k W H D C:Nat}{L:Bool}{pal:List Px}{cl:List Nat}{fl xs zs d0:bQ}{dr:List (bQ)}{p q:pQ}{l c c':Nat}{cs ds es r:List Ch}{hd dd:bQ}{nm:bQ}{s:Sl}{db rb kb crc:Nat}{d:Dec}{rs:bQ}
end
section
variable{w w' w0 w1 wB:wQ}{E:Er}{k W H D C:Nat}{L:Bool}{pal:List Px}{cl:List Nat}{fl xs zs d0:bQ}{dr:List (bQ)}{p q:pQ}{l c c':Nat}{cs ds es r:List Ch}{hd dd:bQ}{nm:bQ}{s:Sl}{db rb kb crc:Nat}{d:Dec}{rs:bQ}
end
section
variable{w w' w0 w1 wB:wQ}{E:Er}{k W H D C:Nat}{L:Bool}{pal:List Px}{cl:List Nat}{fl xs zs d0:bQ}{dr:List (bQ)}{p q:pQ}{l c c':Nat}{cs ds es r:List Ch}{hd dd:bQ}{nm:bQ}{db rb kb crc:Nat}{d:Dec}{rs:bQ}
end
section
variable{w w' w0 w1 wB:wQ}{E:Er}{k W H D C:Nat}{L:Bool}{pal:List Px}{cl:List Nat}{fl xs zs d0:bQ}{dr:List (bQ)}{p q:pQ}{l c c':Nat}{cs ds es r:List Ch}{hd dd:bQ}{nm:bQ}{s:Sl}{db rb kb crc:Nat}{d:Dec}{rs:bQ}
end
section
variable{w w' w0 w1 wB:wQ}{E:Er}{k W H D C:Nat}{L:Bool}{pal:List Px}{cl:List Nat}{fl xs zs d0:bQ}{dr:List (bQ)}{p q:pQ}{l c c':Nat}{rb:Nat}
end
end Go.Proofs
