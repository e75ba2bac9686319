/- Contracts of the law and of what it walks -/
import Derived.Test.YtklagmhonmbdgaaGreatDoorK4
set_option maxRecDepth 1000000
set_option linter.unusedVariables false
set_option linter.unusedSimpArgs false
set_option maxHeartbeats 4000000
namespace Go.Proofs
open Go Go.V
open Go.IntKind (wrap)
section
variable{w w' w0:wQ}{rb db kb crc k W H:Nat}{L:Bool}{p:pQ}{E:Er}{pal:List Px}{cl:List Nat}{d:Dec}
structure Env (w:wQ) (E:Er):Prop where
 tab:Tab w
 errs:Errs w E
 lo:E.n0<=hn w
 lace:LaceAt w E.n0
 ety:ETyp w
theorem Env.fr0(h:Env w E)(f:Fr [] w w'):Env w' E:=⟨h.tab.fr f sQ,h.errs.fr f sQ,Nat.le_trans h.lo f.size,h.lace.fr f (by have:=h.errs.low;omega) sQ,h.ety.fr0 f⟩
def Bad(E:Er)(C:Int ->Prop)(v:Value):Prop:=ErrF E v/\∀e',outE E v e' ->ErrK e'/\C (bR e')
theorem Bad.of125{s:ByteArray}{C:Int ->Prop}(hC:C 1):Bad E C (.iface 125 (.string s)):=by
 refine⟨.inr (.inr ⟨125,s,dQ,rfl⟩),fun e' he=> ?_⟩;rcases he with⟨h,_⟩|⟨_,rfl⟩
 ·simp[zD]at h
 ·exact⟨.inl ⟨s,rfl⟩,hC⟩
theorem Bad.of126{s:ByteArray}{C:Int ->Prop}(hC:C 2):Bad E C (.iface 126 (.string s)):=by
 refine⟨.inr (.inr ⟨126,s,dQ,rfl⟩),fun e' he=> ?_⟩;rcases he with⟨h,_⟩|⟨_,rfl⟩
 ·simp[zD]at h
 ·exact⟨.inr (.inl ⟨s,rfl⟩),hC⟩
theorem Refuse.bad{v:Value}(h:Refuse 125 v){C:Int ->Prop}(hC:C 1):Bad E C v:=by obtain⟨s,rfl,_⟩:=h;exact Bad.of125 hC
theorem Refuse.bad6{v:Value}(h:Refuse 126 v){C:Int ->Prop}(hC:C 2):Bad E C v:=by obtain⟨s,rfl,_⟩:=h;exact Bad.of126 hC
theorem c69t{xs:bQ}{C:Int ->Prop}(hr:RdAt w rb p xs)(hT:Tab w)(hE:Errs w E)(hlo:E.n0<=rb)(hrb:3<rb/\rb<hn w)(hp:∀a,p=some a ->3<a.block/\a.block<rb)(h8:8<=xs.length)(hsig:xs.take 8=sigL)(G:World ->Dec ->Nat ->bQ ->Prop)
  (start:∀w6 tmp,G w6 {wV (.iface 85 (.pointer (some ⟨rb,0,none⟩))) (hn w)with tmp:=tmp} 0 (xs.drop 8))
  (step:∀w1 d crc rs,Fr [rb] w w1 ->hn w+2<=hn w1 ->Errs w1 E ->Dst w1 (hn w+1) rb (hn w) p d crc rs ->G w1 d crc rs ->d.stage≠5/\CallT Pg 60 #[.pointer (some ⟨hn w+1,0,none⟩),.bool false] w1 fun v w2=>Fr [rb] w w2/\((v= .nilIface/\∃d' crc' rs',Dst w2 (hn w+1) rb (hn w) p d' crc' rs'/\rs'.length<rs.length/\G w2 d' crc' rs')\/Bad E C v)):
  CallT Pg 69 #[.iface 85 (.pointer (some ⟨rb,0,none⟩))] w fun v w'=>Fr [rb] w w'/\∃e,v= .tuple #[.nilIface,e]/\(ErrK e/\C (bR e)):=by
 have hlow:=hE.low;refine c69 hr hT hE hlo hrb hp h8 (fun w'=>Fr [rb] w w'/\hn w+2<=hn w'/\∃d crc rs,Dst w' (hn w+1) rb (hn w) p d crc rs/\G w' d crc rs) (fun w'=>left w' rb) ?_ ?_ ?_
 ·intro w6 tmp _ F6 n6 D6
  exact⟨F6,n6,_,_,_,D6,start w6 tmp⟩
 ·intro w6 s hs
  exact absurd hsig hs
 ·rintro w1 ⟨F1,n1,d,crc,rs,hD,hG⟩
  obtain⟨h5,hc⟩:=step w1 d crc rs F1 n1 (hE.fr F1 (by simp;omega)) hD hG;refine⟨d,crc,rs,hD,fun h=>absurd h h5,fun _ =>CallT.mono hc ?_⟩;rintro v w2 ⟨F2,⟨rfl,d',crc',rs',hD',hlt,hG'⟩|⟨hb,ho⟩⟩
  ·refine .inl ⟨rfl,⟨F2,by have:=zR hD'.dec;omega,_,_,_,hD',hG'⟩,?_⟩
   rw[hD.at_.left_eq,hD'.at_.left_eq];exact hlt
  ·refine .inr ⟨hb,hE.fr F2 (by simp;omega),fun e' he=>⟨F2,e',rfl,ho e' he⟩⟩
def uV(pal:List Px)(cl:List Nat):List Ch:=(if 0<pal.length then [(xX,xL pal)]else [])++((if zG pal then [(xJ,xM pal)]else [])++(if 0<cl.length then [(xJ,zX cl)]else []))
theorem vY{D C:Nat}:zK W H D C L pal cl=(nIHDR,xT W H D C L)::uV pal cl:=rfl
theorem dW{D C:Nat}(hok:yW D C pal cl)(hC:C=3):uV pal cl=(xX,xL pal)::(if zG pal then [(xJ,xM pal)]else []):=by
 obtain⟨q1,q2,q3⟩:=hok.pal3 hC;have hcl:=hok.cl0 oQ oQ;subst hcl;unfold uV;rw[if_pos (by omega:0<pal.length),show(if 0<([]:List Nat).length then [(xJ,zX [])]else [])=([]:List Ch)from rfl,List.append_nil,List.singleton_append]
theorem qCh{D C:Nat}(hok:yW D C pal cl)(hC:C≠3):uV pal cl=if 0<cl.length then [(xJ,zX cl)]else []:=by
 have hpn:=hok.paln hC;subst hpn
 rfl
def RightAt(w:wQ)(db k W H:Nat)(L:Bool)(pal:List Px)(cl:List Nat)(d:Dec)(r:List Ch):Prop:=
 (d.stage=0/\d.useT=false/\d.cb=0/\r=zK W H (qE k).2 (qE k).1 L pal cl)\/
 (d.stage=1/\d.useT=false/\jG d k W H L/\r=uV pal cl)\/
 (d.stage=2/\(qE k).1=3/\d.useT=false/\jG d k W H L/\kH w db d.pal pal.length (kK (xL pal) pal.length)/\r=if zG pal then [(xJ,xM pal)]else [])\/
 (d.stage=3/\jG d k W H L/\((qE k).1=3 ->∃n cs,kH w db d.pal n cs)/\(d.useT=true ->(qE k).1=0\/(qE k).1=2)/\r=[])
theorem RightAt.step{c:Ch}{r:List Ch}{tail:bQ}(h:RightAt w db k W H L pal cl d (c::r))(hD:Dst w db rb kb p d crc (qV c.1 c.2++tail))(hk:k<15)(hW:1<=W/\W<=20)(hH:1<=H/\H<=20)(hok:yW (qE k).2 (qE k).1 pal cl)(F0:Fr [rb] w0 w)(hkb:hn w0<=kb):
  CallT Pg 60 #[.pointer (some ⟨db,0,none⟩),.bool false] w fun v w'=>v= .nilIface/\Fr [rb] w0 w'/\∃d' crc',Dst w' db rb kb p d' crc' tail/\RightAt w' db k W H L pal cl d' r:=by
 have hne:=hD.ne;have hcb:=jT hk;have fr:∀{w':wQ},Fr [rb,kb,db] w w' ->Fr [rb] w0 w':=fun f=>F0.trans' f (fun x hx hlt=>by simp at hx⊢;omega);rcases h with⟨h0,hu,_,hr⟩|⟨h1,hu,hh,hr⟩|⟨h2,hC,hu,hh,hP,hr⟩|⟨_,_,_,_,hr⟩
 ·rw[vY]at hr
  obtain⟨rfl,rfl⟩:=List.cons.inj hr;refine CallT.mono (Dst.goodIHDR hD h0 oQ oQ hk) ?_;rintro v w2 ⟨rfl,F,tmp,crc',hD'⟩;exact⟨rfl,fr F,_,_,hD',.inr (.inl ⟨rfl,hu,⟨rfl,rfl,rfl,rfl,rfl⟩,rfl⟩)⟩
 ·by_cases hC:(qE k).1=3
  ·rw[dW hok hC]at hr
   obtain⟨rfl,rfl⟩:=List.cons.inj hr;obtain⟨q1,q2,q3⟩:=hok.pal3 hC;refine CallT.mono (Dst.goodPLTE hD h1 hh.D_ (vO hk).1 (by rw[hh.cb_];have:=hcb.2.1 hC;omega) oQ oQ q3) ?_;rintro v w2 ⟨rfl,F,tmp,crc',pl,hD',hP⟩;exact⟨rfl,fr F,_,_,hD',.inr (.inr (.inl ⟨rfl,hC,hu,⟨hh.W_,hh.H_,hh.D_,hh.cb_,hh.lace_⟩,hP,rfl⟩))⟩
  ·rw[qCh hok hC]at hr
   by_cases hcl:0<cl.length
   ·rw[if_pos hcl]at hr
    obtain⟨rfl,rfl⟩:=List.cons.inj hr;have hl:=hok.cll.resolve_left (List.length_pos_iff.1 hcl);have h02:(qE k).1=0\/(qE k).1=2:=by
     by_cases h0:(qE k).1=0
     ·exact .inl h0
     ·by_cases h2:(qE k).1=2
      ·exact .inr h2
      ·exact absurd (hok.cl0 h0 h2) (List.length_pos_iff.1 hcl)
    have hcc:=qFj hk;refine CallT.mono (qCi hD h1 ?_) ?_
    ·rw[mE,hl,hh.cb_]
     rcases h02 with h0|h2
     ·refine .inl ⟨by rw[h0];rfl,?_⟩
      have:=hcc.1 h0;omega
     ·refine .inr ⟨by rw[h2];rfl,?_⟩
      have:=hcc.2 h2;omega
    ·rintro v w2 ⟨rfl,F,n2,tmp,tr,crc',hD'⟩
     exact⟨rfl,fr F,_,_,hD',.inr (.inr (.inr ⟨rfl,⟨hh.W_,hh.H_,hh.D_,hh.cb_,hh.lace_⟩,fun e=>absurd e hC,fun _ =>h02,rfl⟩))⟩
   ·rw[if_neg hcl]at hr
    cases hr
 ·by_cases ha:zG pal=true
  ·rw[if_pos ha]at hr
   obtain⟨rfl,rfl⟩:=List.cons.inj hr;obtain⟨q1,q2,q3⟩:=hok.pal3 hC;have hal:(xM pal).length=pal.length:=by simp[xM]
   obtain⟨g,hpal,hdg,hrow,hcl,hn256⟩:=hP;refine CallT.mono (Dst.goodTRNS (al:=xM pal) hD h2 (by rw[hh.cb_];have:=hcb.2.1 hC;omega) ⟨g,hpal,hdg,hrow,hcl,hn256⟩ (mN _ _) oQ oQ) ?_;rintro v w2 ⟨rfl,hF,tmp,crc',pl,hD',_,hP'⟩;have F:=hF g (by rw[hpal]);exact⟨rfl,F0.trans' F (fun x hx hlt=>by simp at hx⊢;omega),_,_,hD',.inr (.inr (.inr ⟨rfl,⟨hh.W_,hh.H_,hh.D_,hh.cb_,hh.lace_⟩,fun _ =>⟨_,_,hP'⟩,(fun h=>by rw[hu]at h;cases h),rfl⟩))⟩
  ·rw[if_neg ha]at hr
   cases hr
 ·cases hr
end
section
variable{w w0 w1 w2:wQ}{rb db kb crc k W H:Nat}{L:Bool}{p q:pQ}{E:Er}{pal:List Px}{cl:List Nat}{d:Dec}
structure Stp (w0 w1:wQ) (E:Er) (db rb kb:Nat):Prop where
 F0:Fr [rb] w0 w1
 hkb:hn w0<=kb
 errs:Errs w1 E
 lace:LaceAt w1 E.n0
 lo:E.n0<=rb
 ord:kb<db
theorem Stp.fr(h:Stp w0 w1 E db rb kb)(f:Fr [rb,kb,db] w1 w2):Fr [rb] w0 w2:=h.F0.trans' f (fun x hx hlt=>by have:=h.hkb;have:=h.ord;simp at hx⊢;omega)
theorem wT{c:Ch}{b:List Ch}{t:bQ}:(chs b++t).length<(chs (c::b)++t).length:=by
 rw[qZ];simp only[List.length_append];have:4<=(qV c.1 c.2).length:=by unfold qV;simp only[List.length_append,xG];omega
 omega
theorem gP{l c:Nat}{a r:List Ch}{bad:bQ}{code:Int}{file:bQ}(ef:file=sigL++(chs a++bad))(hx:Has w q (bv file))(hl:l=file.length)(hlb:l<1099511627776)(hV:Env w E)
  (hfo:zK W H (qE k).2 (qE k).1 L pal cl=a++r)(hk:k<15)(hW:1<=W/\W<=20)(hH:1<=H/\H<=20)(hok:yW (qE k).2 (qE k).1 pal cl)(G2:Dec ->Nat ->bQ ->Prop)
  (hbad:∀{w0 w1:wQ} {db rb kb:Nat} {p:pQ} {d:Dec} {crc:Nat},Stp w0 w1 E db rb kb ->Dst w1 db rb kb p d crc bad ->RightAt w1 db k W H L pal cl d r ->
   CallT Pg 60 #[.pointer (some ⟨db,0,none⟩),.bool false] w1 fun v w2=>Fr [rb] w0 w2/\(Bad E (·=code) v\/(v= .nilIface/\∃d' crc' rs',Dst w2 db rb kb p d' crc' rs'/\rs'.length<bad.length/\G2 d' crc' rs')))
  (after:∀{w0 w1:wQ} {db rb kb:Nat} {p:pQ} {d:Dec} {crc:Nat} {rs:bQ},Stp w0 w1 E db rb kb ->Dst w1 db rb kb p d crc rs ->G2 d crc rs ->
   d.stage≠5/\CallT Pg 60 #[.pointer (some ⟨db,0,none⟩),.bool false] w1 fun v w2=>Fr [rb] w0 w2/\Bad E (·=code) v):
  CallT Pg 29 #[.slice q l c,.int .i64 code] w fun v w'=>v= .bool true/\Fr [] w w':=by
 subst ef;refine qAs (B:=fun e=>ErrK e/\bR e=code) hx hl hlb hV.tab hV.errs hV.lo hV.lace hV.ety (fun e h=>h) fun w2 rb p F2 hr hT2 hE2 hlo2 hrb hp hL2 _ => ?_;refine c69t (C:=(·=code)) hr hT2 hE2 hlo2 hrb hp (by simp[yB]) (kN _) (fun w' d crc rs=>(∃b,rs=chs b++bad/\RightAt w' (hn w2+1) k W H L pal cl d (b++r))\/G2 d crc rs) ?_ ?_
 ·intro w6 tmp
  rw[gU];exact .inl ⟨a,rfl,.inl ⟨rfl,rfl,rfl,hfo.symm⟩⟩
 ·intro w1 d crc rs F1 n1 E1 hD hG
  have hlow:=hE2.low;have hA:Stp w2 w1 E (hn w2+1) rb (hn w2):=⟨F1,Nat.le_refl _,E1,hL2.fr F1 oQ (by simp;omega),hlo2,oQ⟩;rcases hG with⟨b,rfl,hR⟩|hG
  ·have h5:d.stage≠5:=by rcases hR with h|h|h|h<;>omega
   refine⟨h5,?_⟩
   cases b with
   |nil=>
    refine CallT.mono (hbad hA hD hR) ?_;rintro v w3 ⟨F,hb|⟨rfl,d',crc',rs',hD',hlt,hg⟩⟩
    ·exact⟨F,.inr hb⟩
    ·exact⟨F,.inl ⟨rfl,d',crc',rs',hD',hlt,.inr hg⟩⟩
   |cons ch b=>
    have hD':=hD;rw[qZ,List.append_assoc]at hD';refine CallT.mono (RightAt.step hR hD' hk hW hH hok F1 (Nat.le_refl _)) ?_;rintro v w3 ⟨rfl,F,d',crc',hD2,hR2⟩;exact⟨F,.inl ⟨rfl,d',crc',_,hD2,wT,.inl ⟨b,rfl,hR2⟩⟩⟩
  ·obtain⟨h5,hc⟩:=after hA hD hG
   refine⟨h5,CallT.mono hc ?_⟩;rintro v w3 ⟨F,hb⟩;exact⟨F,.inr hb⟩
theorem c75len{len:Nat}{a:Addr}(h:len≠13):CallT Pg 75 #[.pointer (some a),.int .u32 len] w fun v w'=>Refuse 125 v/\w'=w:=by
 apply call75;unfold wp75 aQq wIq iQq;exact zC (fun _ =>⟨⟨_,rfl,dQ⟩,rfl⟩) (fun e=>absurd e oQ)
theorem qGp{hd rest:bQ}{code:Int}(hA:Stp w0 w1 E db rb kb)(hD:Dst w1 db rb kb p d crc (qV nIHDR hd++rest))(hs:d.stage=0)(hdl:hd.length<4294967296)
  (hc:(hd.length≠13/\code=1)\/(hd.length=13/\((uC hd=some 125/\code=1)\/(uC hd=some 126/\code=2))/\(be4 hd 0<2147483648 ->be4 hd 4<2147483648 ->be4 hd 0*be4 hd 4<1152921504606846976))):
  CallT Pg 60 #[.pointer (some ⟨db,0,none⟩),.bool false] w1 fun v w2=>Fr [rb] w0 w2/\Bad E (·=code) v:=by
 obtain⟨a1,a2,a3,a4⟩:=yA (nm:=nIHDR) (d:=hd) (rest:=rest) rfl hdl;obtain⟨b1,b2,b3,b4⟩:=jI (d:=hd) (rest:=rest) (jU (nIHDR++hd));refine hD.c60 oQ fun w3 tmp s F3 n3 D3=> ?_;rw[a2]at D3⊢;rw[a3]at D3;rw[a1,show zT d nIHDR= .call 75 1 by unfold zT;rw[if_pos rfl,if_neg (by simp[hs])]];show s=1 ->_;rintro rfl;rcases hc with⟨h13,rfl⟩|⟨h13,hv,hpx⟩
 ·refine CallT.mono (c75len h13) ?_
  rintro v w4 ⟨hv,rfl⟩;exact⟨hA.fr F3,hv.bad rfl⟩
 ·rw[h13]at b1 b2 b3 b4⊢
  refine CallT.mono (D3.c75 oQ ?_) ?_
  ·rw[show be4 (hd++(xR (jJ (nIHDR++hd))++rest)) 0=be4 hd 0 from vF oQ,show be4 (hd++(xR (jJ (nIHDR++hd))++rest)) 4=be4 hd 4 from vF oQ]
   exact hpx
  ·rintro v w4 ⟨F4,n4,hm⟩
   rw[b1]at hm;refine⟨hA.fr (F3.trans F4),?_⟩;rcases hv with⟨hv,rfl⟩|⟨hv,rfl⟩
   ·rw[hv]at hm
    exact Refuse.bad hm rfl
   ·rw[hv]at hm
    exact Refuse.bad6 hm rfl
theorem qHt{l c:Nat}{hd rest file:bQ}{code:Int}(ef:file=sigL++(qV nIHDR hd++rest))(hx:Has w q (bv file))(hl:l=file.length)(hlb:l<1099511627776)(hV:Env w E)(hdl:hd.length<4294967296)
  (hk:k<15)(hW:1<=W/\W<=20)(hH:1<=H/\H<=20)(hok:yW (qE k).2 (qE k).1 pal cl)
  (hc:(hd.length≠13/\code=1)\/(hd.length=13/\((uC hd=some 125/\code=1)\/(uC hd=some 126/\code=2))/\(be4 hd 0<2147483648 ->be4 hd 4<2147483648 ->be4 hd 0*be4 hd 4<1152921504606846976))):
  CallT Pg 29 #[.slice q l c,.int .i64 code] w fun v w'=>v= .bool true/\Fr [] w w':=by
 refine gP (a:=[]) (r:=zK W H (qE k).2 (qE k).1 false pal cl) (L:=false) (bad:=qV nIHDR hd++rest) (by rw[ef];rfl) hx hl hlb hV rfl hk hW hH hok (fun _ _ _ =>False) (fun{w0 w1 db rb kb p d crc} hA hD hR=> ?_) (fun _ _ h=>h.elim);have h0:d.stage=0:=by
  rcases hR with⟨h0,_⟩|⟨_,_,_,hr⟩|⟨_,_,_,_,_,hr⟩|⟨_,_,_,_,hr⟩
  ·exact h0
  ·rw[vY]at hr
   have:=congrArg List.length hr;rw[List.length_cons]at this;omega
  ·rw[vY]at hr
   split at hr
   ·exact absurd (congrArg Prod.fst (List.cons.inj hr).1) (show¬nIHDR=xJ by decide)
   ·cases hr
  ·rw[vY]at hr
   cases hr
 refine CallT.mono (qGp hA hD h0 hdl hc) ?_;rintro v w2 ⟨F,hb⟩;exact⟨F,.inl hb⟩
end
section
variable{w w' w0:wQ}{E:Er}{Q Q':Nat ->Prop}
theorem c30n{b o l c:Nat}{cs:List Ch}(hx:Has w (some ⟨b,o,none⟩) (bv (qU cs)))(hl:l=(qU cs).length)(hb:l<1099511627776)(hlc:l<=c)(hok:kA cs):
  CallT Pg 30 #[.slice (some ⟨b,o,none⟩) l c] w fun v w'=>∃vs,PcHas (·=b) w' vs cs/\RetR 53 2 w cs.length vs v w':=by
 apply call30;unfold wp30 wIq iQq;rw[zI];have hblt:b<hn w:=by obtain⟨_,T,arr,h1,_⟩:=hx;exact zR h1
 refine qP (fun z w'=>Fr [] w w'/\∃a r vs,cs=a++r/\z.2.1=((8+(chs a).length:Nat):Int)/\z.1.len=a.length/\PcHas (·=b) w' vs a/\Own w' (hn w) 53 2 z.1.a z.1.len z.1.cap vs)
  (fun z _ =>l+1 -z.2.1.toNat) ⟨Fr.alloc _ _ _,[],cs,[],rfl,by simp[chs],rfl,trivial,Own.new (w:=w) (e:=53) (size:=2) (cs:= #[]) (l:=0) (Nat.le_refl _) sQ⟩ ?_
 rintro⟨⟨q,n,m⟩,k,⟨⟩⟩ w1 ⟨hf,a,r,vs,rfl,rfl,rfl,hpc,ho⟩;simp only at ho;have hlen:l=8+(chs a).length+(chs r).length:=by rw[hl];simp[qU,sigL,xU];omega
 have ha:=yN (rC hok);have hr:=yN (mM hok);refine qG (fun h=> ?_) (fun h=> ?_)
 ·simp only at h
  rw[qA oQ oQ]at h
  cases r with
  |nil=>simp only[vJ,List.length_nil]at hlen;omega
  |cons ch r=>
   obtain⟨h4,hd⟩:=hok ch sQ;have hcl:=xA (data:=ch.2) h4;simp only[qZ,List.length_append]at hlen;dsimp only;refine CallT.mono (c46 (hx.fr0 hf) hl oQ oQ oQ) ?_;rintro _ _ ⟨rfl,rfl⟩;rw[Int.toNat_natCast,bX hd];refine⟨_,rfl,?_⟩;rw[zY];have hf2:=hf.drewR.drewR;have hx2:=hx.fr0 hf2;have e0:bv (qU (a++ch::r))=bv (sigL++chs a++xR ch.2.length)++(bv ch.1++bv (ch.2++xR (jJ (ch.1++ch.2))++chs r)):=by
    rw[lI,<-bv_append,<-bv_append];simp[qV]
   have e1:bv (qU (a++ch::r))=bv (sigL++chs a++xR ch.2.length++ch.1)++(bv ch.2++bv (xR (jJ (ch.1++ch.2))++chs r)):=by
    rw[lI,<-bv_append,<-bv_append];simp[qV]
   have hx3:=hx2;rw[e0]at hx2;rw[e1]at hx3;have g0:=Has.sub hx2;have g1:=Has.sub hx3;simp only[bv_length,List.length_append,xG,h4]at g0 g1;have es:sigL.length=8:=rfl;simp only[es]at g0 g1;simp (disch:=omega) only[qA];have t1:((((8+(chs a).length:Nat):Int)+4).toNat)=8+(chs a).length+4:=oQ;have t2:((((8+(chs a).length:Nat):Int)+8).toNat)=8+(chs a).length+4+4:=oQ;have t3:((((8+(chs a).length:Nat):Int)+8+(ch.2.length:Int)).toNat)=8+(chs a).length+4+4+ch.2.length:=oQ;simp only[t1,t2,t3];rw[slAdd_one _ _ _ _ oQ,slAdd_one _ _ _ _ oQ];refine⟨⟨oQ,oQ⟩,⟨oQ,oQ⟩,⟨oQ,oQ⟩,⟨oQ,oQ⟩,?_⟩;refine rX (xs:=ch.1) g0 oQ ?_;refine tD ok50 hf2 ((ho.fr0 (Fr.drew _ _)).fr0 (Fr.drew _ _)) sQ (by simp[Value.oneCell']) oQ ?_;intro q' m' w3 hf3 hf3' ho3;have hq:∀b',b'=b ->b'∉xD q:=by
    intro b' e hmem;have:=ho.blk _ hmem;omega
   refine⟨⟨hf3,a++[ch],r,_,sQ,?_,sQ,?_,ho3⟩,oQ⟩
   ·simp only[xU,qZ,vJ,List.length_append,List.append_nil,hcl];omega
   ·refine PcHas.snoc (g1.fr hf3' ?_) oQ sQ (by intro a ha;cases ha;rfl) (((hpc.fr (Fr.drew [] _) sQ).fr (Fr.drew [] _) sQ).fr hf3' hq)
    intro a' ha';cases ha';exact hq _ rfl
 ·simp only at h
  rw[qA oQ oQ]at h
  cases r with
  |cons ch r=>
   exfalso
   obtain⟨h4,hd⟩:=hok ch sQ;have hcl:=xA (data:=ch.2) h4;simp only[qZ,List.length_append]at hlen;omega
  |nil=>exact⟨vs,by simpa using hpc,hf,q,m,sQ,by simpa using ho⟩
theorem PcHas.mono(h:∀b,Q b ->Q' b):∀{vs:List Value} {cs:List Ch},PcHas Q w vs cs ->PcHas Q' w vs cs
 |[],[],_ =>trivial
 | .string _ :: .slice _ _ _ ::_,_ ::_,⟨h1,h2,h3,h4,h5,h6⟩=>⟨h1,h2,h3,h4,fun a ha=>h _ (h5 a ha),PcHas.mono h h6⟩
theorem PcHas.set{dd:bQ}{p:pQ}{l c:Nat}(g1:Has w p (bv dd))(g2:l=dd.length)(g3:p=none ->c=0)(g4:∀a,p=some a ->Q a.block):∀{i:Nat} {vs:List Value} {cs:List Ch} {ch:Ch},PcHas Q w vs cs ->cs[i]? =some ch ->PcHas Q w (vs.set (i*2+1) (.slice p l c)) (cs.set i (ch.1,dd))
 |0,.string _ :: .slice _ _ _ ::r,_ ::cs,_,⟨h1,h2,h3,h4,h5,h6⟩,h=>by
  simp at h;subst h;exact⟨h1,g1,g2,g3,g4,h6⟩
 |i+1,.string _ :: .slice _ _ _ ::r,_ ::cs,ch,⟨h1,h2,h3,h4,h5,h6⟩,h=>by
  have:=PcHas.set g1 g2 g3 g4 (i:=i) (ch:=ch) h6 (by simpa using h);rw[show(i+1)*2+1=i*2+1+1+1 by omega];simp only[List.set_cons_succ];exact⟨h1,h2,h3,h4,h5,this⟩
 |i,[],[],_,_,h=>by simp at h
structure Made (k W H:Nat) (L:Bool) (pal:List Px) (cl:List Nat) (fl xs zs d0:bQ) (dr:List (bQ)):Prop where
 hk:k<15
 hW:1<=W/\W<=20
 hH:1<=H/\H<=20
 ok:yW (qE k).2 (qE k).1 pal cl
 rows:RowsOf (mH W H (qE k).2 (qE k).1 L) (gF fl) xs
 zl:tE xs zs
 flat:(d0::dr).flatten=zs
 ne:∀x∈d0::dr,x≠[]
 zlen:zs.length<=2097152
 xlen:xs.length<32768
def xV(k W H:Nat)(L:Bool)(pal:List Px)(cl:List Nat)(d0:bQ)(dr:List (bQ)):List Ch:=zK W H (qE k).2 (qE k).1 L pal cl++xZ (d0::dr)++[(xW,[])]
section
variable{k W H:Nat}{L:Bool}{pal:List Px}{cl:List Nat}{fl xs zs d0:bQ}{dr:List (bQ)}
theorem Made.okc(M:Made k W H L pal cl fl xs zs d0 dr):kA (xV k W H L pal cl d0 dr)/\(qU (xV k W H L pal cl d0 dr)).length<1099511627776:=by
 have hzp:0<zs.length:=by
  obtain⟨_,_,_,_,hz⟩:=M.zl;rw[hz];simp
 obtain⟨_,h1,h2,_⟩:=nJ (W:=W) (H:=H) (L:=L) M.hk M.ok hzp M.zlen M.flat M.ne;exact⟨h1,h2⟩
theorem Made.whole{q:pQ}{l c:Nat}{file:bQ}(M:Made k W H L pal cl fl xs zs d0 dr)(hV:Env w E)(hf:file=qU (xV k W H L pal cl d0 dr))(hx:Has w q (bv file))(hl:l=file.length):CallT Pg 28 #[.slice q l c] w fun v w'=>v= .bool true/\Fr [] w w':=
 qCy hf hx hl (by rw[hl,hf];exact M.okc.2) hV.tab hV.errs hV.lo hV.lace hV.ety M.hk M.hW M.hH M.ok M.rows M.zl M.flat M.ne M.zlen M.xlen
end
theorem nU{k W H:Nat}{L:Bool}{pal:List Px}{cl:List Nat}{v:Value}(hk:k<15)(hW:1<=W/\W<=20)(hH:1<=H/\H<=20)(hok:yW (qE k).2 (qE k).1 pal cl)(hF:oR w0 W H (qE k).2 (qE k).1 L pal cl v w):
  ∃fl xs zs d0 dr,Made k W H L pal cl fl xs zs d0 dr/\dL w0 (qU (xV k W H L pal cl d0 dr)) v w:=by
 obtain⟨fs,xs,zs,ds,_,hrows,hZ,hds,hne,hzl,hR⟩:=hF;have hD16:(qE k).2<=16:=by have:=(vO hk).1;omega
 cases ds with
 |nil=>
  obtain⟨bl,out,_,_,hz⟩:=hZ;rw[hz]at hds;simp at hds
 |cons d0 dr=>exact⟨fs,xs,zs,d0,dr,⟨hk,hW,hH,hok,hrows,hZ,hds,hne,hzl,aS hrows hW.2 hH.2 hD16⟩,hR⟩
def Pcs(w0 w:wQ)(p:pQ)(l c:Nat)(cs:List Ch):Prop:=∃b vs,Own w (hn w0) 53 2 p l c vs/\PcHas (·=b) w vs cs/\l=cs.length/\hn w0<=b/\b<hn w/\∀x∈xD p,b<x
theorem qDn{p:pQ}{base l c:Nat}{cs:List Ch}(h:Own w base 5 1 p l c (bv (qU cs)))(hl:l=(qU cs).length):∃b,p=some ⟨b,0,none⟩/\l<=c/\base<=b/\b<hn w:=by
 obtain⟨b,rfl,h1⟩:=pW h (by rw[hl];simp[qU,yB];omega);have:=h.at rfl;exact⟨b,rfl,h1,this.2.2.1,this.2.2.2⟩
theorem qBz{k W H:Nat}{L:Bool}{pal:List Px}{cl:List Nat}{fl xs zs d0:bQ}{dr:List (bQ)}{p:pQ}{l c:Nat}(M:Made k W H L pal cl fl xs zs d0 dr)(F:Fr [] w0 w)(h:Own w (hn w0) 5 1 p l c (bv (qU (xV k W H L pal cl d0 dr))))(hl:l=(qU (xV k W H L pal cl d0 dr)).length)
  {K:pQ ->Nat ->Nat ->World ->Prop}(hK:∀p l c w',Fr [] w0 w' ->Fr [] w w' ->Pcs w0 w' p l c (xV k W H L pal cl d0 dr) ->K p l c w'):
  CallT Pg 30 #[.slice p l c] w fun v w'=>Exists fun p':pQ=>Exists fun l':Nat=>Exists fun c':Nat=>And (v= .slice p' l' c') (K p' l' c' w'):=by
 obtain⟨b,rfl,hlc,hb0,hb1⟩:=qDn h hl;refine CallT.mono (c30n h.has hl (by rw[hl];exact M.okc.2) hlc M.okc.1) ?_;rintro v w' ⟨vs,hpc,f,q,c',rfl,ho⟩;refine⟨_,_,_,rfl,hK _ _ _ _ (F.trans f) f ⟨b,vs,ho.base_le F.size,hpc,rfl,hb0,Nat.lt_of_lt_of_le hb1 f.size,fun x hx=> ?_⟩⟩;have:=(ho.blk x hx).1;omega
theorem Pcs.glue{p:pQ}{l c:Nat}{cs:List Ch}(h:Pcs w0 w p l c cs)(hok:kA cs)(hb:(qU cs).length<1099511627776):CallT Pg 31 #[.slice p l c] w (dL w (qU cs)):=by
 obtain⟨b,vs,ho,hpc,hl,_,hb1,_⟩:=h;exact c31 ho.has hpc (fun x hx=>by have:x=b:=hx;omega) hl hb hok
theorem uA{k W H:Nat}{L:Bool}{pal:List Px}{cl:List Nat}{fl xs zs d0:bQ}{dr:List (bQ)}{p:pQ}{l c:Nat}(M:Made k W H L pal cl fl xs zs d0 dr)(hV:Env w0 E)(F:Fr [] w0 w)(h:Pcs w0 w p l c (xV k W H L pal cl d0 dr))
  {K:Bool ->World ->Prop}(hK:∀w',Fr [] w0 w' ->Fr [] w w' ->K true w'):
  CallT Pg 31 #[.slice p l c] w fun v w1=>Exists fun p':pQ=>Exists fun l':Nat=>Exists fun c':Nat=>And (v= .slice p' l' c') (CallT Pg 28 #[.slice p' l' c'] w1 fun v' w2=>Exists fun b:Bool=>And (v'= .bool b) (K b w2)):=by
 refine CallT.mono (h.glue M.okc.1 M.okc.2) ?_;rintro v w1 ⟨f,q,c',rfl,ho⟩;refine⟨_,_,_,rfl,CallT.mono (M.whole (hV.fr0 (F.trans f)) rfl ho.has rfl) ?_⟩;rintro v w2 ⟨rfl,f2⟩;exact⟨_,rfl,hK w2 ((F.trans f).trans f2) (f.trans f2)⟩
theorem lN{p:pQ}{l c:Nat}{vs:List Value}{cs:List Ch}{code:Int}(hV:Env w0 E)(F:Fr [] w0 w)(hp:Has w p vs)(hpc:PcHas Q w vs cs)(hQ:∀b,Q b ->b<hn w)(hl:l=cs.length)(hok:kA cs)(hb:(qU cs).length<1099511627776)
  (ht:∀{w1:wQ} {q:pQ} {c:Nat},Env w1 E ->Has w1 q (bv (qU cs)) ->CallT Pg 29 #[.slice q (qU cs).length c,.int .i64 code] w1 fun v w'=>v= .bool true/\Fr [] w1 w')
  {K:Bool ->World ->Prop}(hK:∀w',Fr [] w0 w' ->K true w'):
  CallT Pg 31 #[.slice p l c] w fun v w1=>Exists fun p':pQ=>Exists fun l':Nat=>Exists fun c':Nat=>And (v= .slice p' l' c') (CallT Pg 29 #[.slice p' l' c',.int .i64 code] w1 fun v' w2=>Exists fun b:Bool=>And (v'= .bool b) (K b w2)):=by
 refine CallT.mono (c31 hp hpc hQ hl hb hok) ?_;rintro v w1 ⟨f,q,c',rfl,ho⟩;refine⟨_,_,_,rfl,CallT.mono (ht (hV.fr0 (F.trans f)) ho.has) ?_⟩;rintro v w2 ⟨rfl,f2⟩;exact⟨_,rfl,hK w2 ((F.trans f).trans f2)⟩
theorem kZ{p:pQ}{l c:Nat}{R:vPq}{X:World ->Prop}(hR:R (.bool true) w)(hX:l<=1000 ->X w):
  IfC (decide ((l:Int)>(2147483647:Int))) (R (.bool true) w) (CallT Pg 22 #[.slice p l c] w fun v w2=>Exists fun b:Bool=>And (v= .bool b) (IfC (!b) (R (.bool true) w2) (X w2))):=by
 refine qG (fun _ =>hR) (fun _ =>CallT.mono c22 ?_);rintro v w2 ⟨rfl,rfl⟩;refine⟨_,rfl,?_⟩
 by_cases h:l<=1000
 ·rw[decide_eq_true h];exact hX h
 ·rw[decide_eq_false h];exact hR
theorem gH{n:Nat}(hn32:n<4294967296){p:pQ}{l c:Nat}{ss:List Nat}(hx:HasW w p (ss.map fun(s:Nat)=> .int .u16 (s:Int)))(hl:l=ss.length)(hb:l<=1000){K:pQ ->Nat ->Nat ->World ->Prop}
  (hK:∀{W H:Nat} {L:Bool} {pal:List Px} {cl:List Nat} {fl xs zs d0:bQ} {dr:List (bQ)},Made (n%15) W H L pal cl fl xs zs d0 dr ->∀p l c w',Fr [] w w' ->Pcs w w' p l c (xV (n%15) W H L pal cl d0 dr) ->K p l c w'):
  CallT Pg 27 #[.int .u32 n,.slice p l c] w fun v w1=>Exists fun p':pQ=>Exists fun l':Nat=>Exists fun c':Nat=>And (v= .slice p' l' c') (CallT Pg 30 #[.slice p' l' c'] w1 fun v' w2=>Exists fun p2:pQ=>Exists fun l2:Nat=>Exists fun c2:Nat=>And (v'= .slice p2 l2 c2) (K p2 l2 c2 w2)):=by
 refine CallT.mono (c27 hn32 hx hl hb) ?_;rintro v w1 ⟨W,H,L,pal,cl,hW,hH,hok,hF⟩;obtain⟨fl,xs,zs,d0,dr,M,f,q,c',rfl,ho⟩:=nU oQ hW hH hok hF;exact⟨_,_,_,rfl,qBz M f ho rfl fun p l c w' F _ h=>hK M p l c w' F h⟩
end
section
variable{w w' w0:wQ}{E:Er}{k W H:Nat}{L:Bool}{pal:List Px}{cl:List Nat}{fl xs zs d0:bQ}{dr:List (bQ)}{p q:pQ}{l c c':Nat}{cs:List Ch}{hd dd:bQ}{nm:bQ}
theorem pU{i:Nat}{ch:Ch}(h:kA cs)(hi:cs[i]? =some ch)(hd:dd.length<4294967296):kA (cs.set i (ch.1,dd)):=by
 intro x hx;rcases List.mem_or_eq_of_mem_set hx with h1|rfl
 ·exact h x h1
 ·exact⟨(h ch (List.mem_of_getElem? hi)).1,hd⟩
theorem nE{ch:Ch}:∀{i:Nat} {cs:List Ch},kA cs ->cs[i]? =some ch ->(chs (cs.set i (ch.1,dd))).length<=(chs cs).length+dd.length
 |_,[],_,h=>by simp at h
 |0,x::cs,hok,h=>by
  obtain rfl:x=ch:=by simpa using h
  have h4:=(hok x sQ).1;show(chs ((x.1,dd)::cs)).length<=_;rw[qZ,qZ,List.length_append,List.length_append];dsimp only;rw[xA h4,xA h4];omega
 |i+1,x::cs,hok,h=>by
  have:=nE (i:=i) (cs:=cs) (fun y hy=>hok y (List.mem_cons_of_mem _ hy)) (by simpa using h);simp only[List.set_cons_succ,qZ,List.length_append];omega
theorem Made.len(M:Made k W H L pal cl fl xs zs d0 dr):(qU (xV k W H L pal cl d0 dr)).length<1000000000:=by
 have hpl:pal.length<=9:=by
  by_cases h:(qE k).1=3
  ·exact(M.ok.pal3 h).2.1
  ·rw[M.ok.paln h];simp
 have hcll:cl.length<=4:=by
  have:=tF (qE k).1;rcases M.ok.cll with h|h
  ·rw[h];simp
  ·omega
 have hal:(xM pal).length=pal.length:=by simp[xM]
 have hsl:=vP pal;have hcL:=mE cl;have hdat:∀ds:List (bQ),(∀x∈ds,x≠[]) ->(chs (xZ ds)).length<=13*ds.flatten.length:=by
  intro ds
  induction ds with
  |nil=>intro _;simp[xZ,chs]
  |cons d r ih=>
   intro hne;have:=ih (fun x hx=>hne x (List.mem_cons_of_mem _ hx));have hd:1<=d.length:=List.length_pos_iff.2 (hne d sQ);have e:xZ (d::r)=(nIDAT,d)::xZ r:=rfl;rw[e,qZ,List.length_append,xA rfl,List.flatten_cons,List.length_append];dsimp only;omega
 have h1:=hdat _ M.ne;rw[M.flat]at h1;have hz:=M.zlen;unfold xV;rw[qU,List.length_append,xU,xU,List.length_append,List.length_append,zK,qZ,xU,xU];simp only[List.length_append];have e0:(qV nIHDR (xT W H (qE k).2 (qE k).1 L)).length=12+13:=xA rfl;have e1:(chs (if 0<pal.length then [(xX,xL pal)]else [])).length<=12+27:=by
  split
  ·rw[qZ,vJ,List.append_nil,xA rfl];dsimp only;omega
  ·simp[chs]
 have e2:(chs (if zG pal=true then [(xJ,xM pal)]else [])).length<=12+9:=by
  split
  ·rw[qZ,vJ,List.append_nil,xA rfl];dsimp only;omega
  ·simp[chs]
 have e3:(chs (if 0<cl.length then [(xJ,zX cl)]else [])).length<=12+8:=by
  split
  ·rw[qZ,vJ,List.append_nil,xA rfl];dsimp only;omega
  ·simp[chs]
 have e4:(chs [(xW,[])]).length=12:=rfl;rw[yB];omega
theorem aD(F:Fr [] w0 w)(h:Pcs w0 w p l c cs)(hcs:cs[0]? =some (nm,hd))(hdl:hd.length<1000000){K:pQ ->Nat ->Nat ->World ->Prop}
  (hK:∀q c' w',Fr [] w0 w' ->Fr [] w w' ->Own w' (hn w) 5 1 q hd.length c' (bv hd) ->K q hd.length c' w'):
  qK w (.cells #[] 5) fun r w2=>And (0<=(0:Int)/\(0:Int)<(l:Int)) (qN p fun a=>qS w2 ⟨a.block,a.off+1,none⟩ fun p2 l2 c2=>zQ Pg w2 #[33,33] 33 (.slice (some ⟨r,0,none⟩) 0 0) (.slice p2 l2 c2) fun p3 l3 c3 w3=>K p3 l3 c3 w3):=by
 obtain⟨b,vs,ho,hpc,hl,hb0,hb1,hb2⟩:=h;refine qF fun w2 h2 f2 n2=> ?_;have hl0:0<cs.length:=(List.getElem?_eq_some_iff.1 hcs).1;refine⟨⟨oQ,oQ⟩,?_⟩;obtain⟨q,m,c2,e1,e2,g1,g2,g3,g4⟩:=(hpc.fr f2 sQ).at hcs;obtain⟨g,o,rfl,k1,k2⟩:=Has.at2 (ho.has.fr0 f2) e1 e2;have g2:m=hd.length:=g2;have g1:Has w2 q (bv hd):=g1;rw[PtrC_some,yT];dsimp only;rw[show o+1=o+0*2+1 by omega,k2,RdSl_some];have hown:Own w2 (hn w) 5 1 (some ⟨hn w,0,none⟩) 0 0 []:=Own.of_row (arr:= #[]) h2 (Nat.le_refl _) rfl;refine vZ jE f2 hown g1 (by rw[bv_length];omega) (uN _) oQ g3 ?_;intro p' c'' w3 F3 f3 ho3 _;rw[Nat.zero_add,g2]at ho3⊢;rw[List.nil_append]at ho3;exact hK _ _ _ (F.trans F3) F3 ho3
theorem bA{g o i:Nat}{ch:Ch}(F:Fr [] w0 w)(h:Pcs w0 w p l c cs)(hi:cs[i]? =some ch)(hp:p=some ⟨g,0,none⟩)(ho:o=i*2+1)(hd:Has w q (bv dd))(hq:∀x∈xD q,hn w0<=x/\x<hn w/\x≠g)(hc:q=none ->c'=0){K:World ->Prop}
  (hK:∀w' vs Q,Fr [] w0 w' ->Has w' p vs ->PcHas Q w' vs (cs.set i (ch.1,dd)) ->(∀x,Q x ->x<hn w') ->l=(cs.set i (ch.1,dd)).length ->K w'):
  qB w ⟨g,o,none⟩ (.slice q dd.length c') K:=by
 obtain⟨b,vs,hown,hpc,hl,hb0,hb1,hb2⟩:=h;subst hp;have hbg:b<g:=hb2 g (by simp[xD]);obtain⟨hvl,⟨h0,_⟩|⟨g',arr,e,hg0,hg,hlc,hsz,hx⟩⟩:=hown
 ·cases h0
 ·obtain rfl:g'=g:=by cases e;rfl
  have hil:i<cs.length:=(List.getElem?_eq_some_iff.1 hi).1;have hQ:PcHas (fun x=>x=b\/x∈xD q) w vs cs:=hpc.mono fun x hx=> .inl hx;refine qD hg (by rw[hsz,ho];omega) fun w' h' f' n'=> ?_;have hset:=PcHas.set (w:=w) (Q:=fun x=>x=b\/x∈xD q) (p:=q) (l:=dd.length) (c:=c') hd rfl hc (fun a ha=> .inr (by subst ha;simp[xD])) hQ hi;refine hK w' (vs.set o (.slice q dd.length c')) (fun x=>x=b\/x∈xD q) (F.trans' f' (fun x hx hlt=>by simp at hx;omega)) ⟨rfl,53,_,h',fun j v hj=> ?_⟩ ?_ ?_ (by simpa using hl)
  ·rw[Nat.zero_add,Array.getElem?_setIfInBounds]
   rw[List.getElem?_set]at hj
   split at hj
   ·rename_i e1
    subst e1;rw[if_pos rfl,if_pos (by rw[hsz,ho];omega)]
    split at hj
    ·exact hj
    ·cases hj
   ·rename_i e1
    rw[if_neg e1];exact hx j v hj
  ·rw[ho]
   refine hset.fr f' fun x hx=> ?_;rcases hx with rfl|hx
   ·simp;omega
   ·have:=hq x hx
    simp;omega
  ·intro x hx
   rcases hx with rfl|hx
   ·omega
   ·have:=hq x hx;omega
theorem rE{base e l c:Nat}{p:pQ}{vs:List Value}(h:Own w base e 2 p l c vs)(hl:0<l):∃b,p=some ⟨b,0,none⟩/\l<=c:=by
 rcases h with⟨_,⟨rfl,rfl,_⟩|⟨g,arr,rfl,_,_,hlc,_⟩⟩
 ·omega
 ·exact⟨g,rfl,hlc⟩
theorem lO:(xV k W H L pal cl d0 dr)[0]? =some (nIHDR,xT W H (qE k).2 (qE k).1 L):=rfl
theorem lM{vs:List Value}{Q:Nat ->Prop}{code:Int}(M:Made k W H L pal cl fl xs zs d0 dr)(hV:Env w0 E)(F:Fr [] w0 w)(hp:Has w p vs)(hpc:PcHas Q w vs ((xV k W H L pal cl d0 dr).set 0 (nIHDR,hd)))(hQ:∀x,Q x ->x<hn w)(hl:l=((xV k W H L pal cl d0 dr).set 0 (nIHDR,hd)).length)(hdl:hd.length<1000000)
  (hc:(hd.length≠13/\code=1)\/(hd.length=13/\((uC hd=some 125/\code=1)\/(uC hd=some 126/\code=2))/\(be4 hd 0<2147483648 ->be4 hd 4<2147483648 ->be4 hd 0*be4 hd 4<1152921504606846976)))
  {K:Bool ->World ->Prop}(hK:∀w',Fr [] w0 w' ->K true w'):
  CallT Pg 31 #[.slice p l c] w fun v w1=>Exists fun p':pQ=>Exists fun l':Nat=>Exists fun c':Nat=>And (v= .slice p' l' c') (CallT Pg 29 #[.slice p' l' c',.int .i64 code] w1 fun v' w2=>Exists fun b:Bool=>And (v'= .bool b) (K b w2)):=by
 obtain⟨hok,_⟩:=M.okc;have hlen:=M.len;have hl2:(qU ((xV k W H L pal cl d0 dr).set 0 (nIHDR,hd))).length<1099511627776:=by
  have:(chs ((xV k W H L pal cl d0 dr).set 0 (nIHDR,hd))).length<=(chs (xV k W H L pal cl d0 dr)).length+hd.length:=nE (dd:=hd) hok (lO (k:=k) (W:=W) (H:=H) (L:=L) (pal:=pal) (cl:=cl) (d0:=d0) (dr:=dr));unfold qU at hlen⊢;rw[List.length_append]at hlen⊢;omega
 refine lN hV F hp hpc hQ hl (pU hok lO oQ) hl2 (fun{w1 q c} hV1 hx1=> ?_) hK;exact qHt (rest:=chs (uV pal cl++xZ (d0::dr)++[(xW,[])])) (by rw[show(xV k W H L pal cl d0 dr).set 0 (nIHDR,hd)=(nIHDR,hd)::(uV pal cl++xZ (d0::dr)++[(xW,[])])from rfl,qU,qZ]) hx1 rfl hl2 hV1 oQ M.hk M.hW M.hH M.ok hc
end
def wp15(x0:Int)(x1:pQ)(x1l:Nat)(x1c:Nat)(x2:Bool)(x3:Int)(R:vPq)(w:wQ):Prop:=IfC (decide ((x1l:Int)>(2147483647:Int))) (R (.bool true) w) (CallT Pg 22 #[.slice x1 x1l x1c] w fun E d=>∃i,And (E= .bool i) (IfC (!i) (R (.bool true) d) (xK (fun(F:(Int×Unit)) (G:wQ)=>CallT Pg 27 #[.int .u32 x0,.slice x1 x1l x1c] G fun H I=>∃j k l,And (H= .slice j k l) (CallT Pg 30 #[.slice j k l] I fun J K=>∃b c e,And (J= .slice b c e) (CallT Pg 31 #[.slice b c e] K fun L M=>∃m n o,And (L= .slice m n o) (CallT Pg 28 #[.slice m n o] M fun N O=>∃p,And (N= .bool p) (qK O (.cells #[] 5) fun P q=>And (0<=(0:Int)/\(0:Int)<(c:Int)) (qN b fun Q=>qS q (aQq Q 1) fun S T U=>zQ Pg q #[33,33] 33 (.slice (some ⟨P,0,none⟩) 0 0) (.slice S T U) fun r s V t=>xK (fun(f:(Int×Unit)) (X:wQ)=>CallT Pg 34 #[.int .u32 F.1] X fun Y Z=>∃u g aa,And (Y= .slice u g aa) (xE (fun(ab:(Int×Unit) ->World ->Prop)=>ab (0,()) Z) (fun a h ac=>IfC (decide (a.1<(g:Int))) (And (0<=a.1/\a.1<(g:Int)) (qN u fun ad=>LdI h (qI ad a.1.toNat 1) .u8 fun ae=>And (0<=wIq (f.1+a.1)/\wIq (f.1+a.1)<(s:Int)) (qN r fun af=>qB h (qI af ((wIq (f.1+a.1)).toNat) 1) (.int .u8 ae) fun ag=>ac (wIq (a.1+1),()) ag))) (And (0<=(0:Int)/\(0:Int)<(c:Int)) (qN b fun ah=>qB h (aQq ah 1) (.slice r s V) fun v=>IfC p (CallT Pg 31 #[.slice b c e] v fun ai aj=>∃y z A,And (ai= .slice y z A) (CallT Pg 29 #[.slice y z A,iQq 1] aj fun ak al=>∃B,And (ak= .bool B) (R (.bool B) al))) (R (.bool false) v)))))) (fun C=>IfC x2 (C (4,()) t) (C (0,()) t)))))))) (fun D=>IfC ((zN .u32 (bOr .u32 x3 (2147483648:Int)) 1)==1) (D (0,()) d) (D (bOr .u32 x3 2147483648,()) d)))))
theorem call15{x0:Int}{x1:pQ}{x1l:Nat}{x1c:Nat}{x2:Bool}{x3:Int}{R:vPq}{w:wQ}(h:wp15 x0 x1 x1l x1c x2 x3 R w):CallT Pg 15 #[.int .u32 x0,.slice x1 x1l x1c,.bool x2,.int .u32 x3] w R:=cVq [(20,[(3,.i .u32)],[0,1,2]),(34,[(12,.i .i64)],[3,9,10,11]),(44,[(43,.i .i64)],[8,9,10,11,12,41,42])] Tryz.func15 h
section
variable{w w' w0:wQ}{E:Er}{k W H:Nat}{L:Bool}{pal:List Px}{cl:List Nat}{fl xs zs d0:bQ}{dr:List (bQ)}{p q:pQ}{l c c':Nat}{cs:List Ch}{hd dd:bQ}{nm:bQ}
theorem Pcs.fr0(h:Pcs w0 w p l c cs)(f:Fr [] w w'):Pcs w0 w' p l c cs:=by
 obtain⟨b,vs,ho,hpc,r⟩:=h;exact⟨b,vs,ho.fr0 f,hpc.fr f sQ,r.1,r.2.1,Nat.lt_of_lt_of_le r.2.2.1 f.size,r.2.2.2⟩
theorem Pcs.some2(h:Pcs w0 w p l c cs)(hl:0<cs.length):∃g,p=some ⟨g,0,none⟩/\l<=c/\g<hn w:=by
 obtain⟨b,vs,ho,hpc,r⟩:=h;obtain⟨g,rfl,h1⟩:=rE ho oQ;exact⟨g,rfl,h1,(ho.blk g (by simp[xD])).2⟩
theorem mI:3<=(xV k W H L pal cl d0 dr).length:=by simp[xV,zK,xZ];omega
theorem wR{xs ys:bQ}{i j:Nat}(h:∀m,m<4 ->gb xs (i+m)=gb ys (j+m)):be4 xs i=be4 ys j:=by
 unfold be4;rw[show gb xs i=gb ys j from h 0 dQ,h 1 dQ,h 2 dQ,h 3 dQ]
theorem c15{n m:Nat}(hn32:n<4294967296)(hm:m<4294967296){hi:Bool}{ss:List Nat}(hx:HasW w p (ss.map fun(s:Nat)=> .int .u16 (s:Int)))(hl:l=ss.length)(hV:Env w E):CallT Pg 15 #[.int .u32 n,.slice p l c,.bool hi,.int .u32 m] w fun v w'=>v= .bool true/\Fr [] w w':=by
 apply call15;unfold wp15 aQq wIq iQq;refine kZ (R:=fun v w'=>v= .bool true/\Fr [] w w') ⟨rfl,Fr.refl _ _⟩ fun hb=> ?_;refine qJ (fun z w'=>w'=w/\∃s:Nat,z.1=s/\(s=0\/2147483648<=s)/\s<4294967296) ?_ ?_
 ·rintro⟨_,⟨⟩⟩ w' ⟨rfl,s,rfl,hs,hs32⟩
  dsimp only;refine gH hn32 hx hl hb fun{W H L pal cl fl xs zs d0 dr} M p1 l1 c1 w1 F1 h1=> ?_;refine uA M hV F1 h1 fun w2 F2 f2=> ?_;have h2:=h1.fr0 f2;have hk15:n%15<15:=Nat.mod_lt _ dQ;obtain⟨hdl,hv,hb0,hb4,_,_⟩:=aE (L:=L) (W:=W) (H:=H) (k:=n%15) (by have:=M.hW;omega) (by have:=M.hH;omega) hk15;have g10:gb (xT W H (qE (n%15)).2 (qE (n%15)).1 L) 10=0:=rfl;have g11:gb (xT W H (qE (n%15)).2 (qE (n%15)).1 L) 11=0:=rfl;have g12:gb (xT W H (qE (n%15)).2 (qE (n%15)).1 L) 12=0\/gb (xT W H (qE (n%15)).2 (qE (n%15)).1 L) 12=1:=by cases L<;>first|exact .inl rfl|exact .inr rfl
  generalize hhd:xT W H (qE (n%15)).2 (qE (n%15)).1 L=hd0 at*;have hcs0:(xV (n%15) W H L pal cl d0 dr)[0]? =some (nIHDR,hd0):=by rw[<-hhd];rfl
  refine aD F2 h2 hcs0 oQ fun q c2 w3 F3 f3 ho3=> ?_;refine qJ (fun z w'=>w'=w3/\∃t:Nat,z.1=t/\(t=0\/t=4)) ?_ ?_
  ·rintro⟨_,⟨⟩⟩ w3' ⟨rfl,t,rfl,ht⟩
   dsimp only;refine CallT.mono (c34 hs32) ?_;rintro _ w4 ⟨f4,q4,c4,rfl,ho4⟩;refine⟨_,_,_,rfl,?_⟩;have h4:=(h2.fr0 f3).fr0 f4;have ho3':=ho3.fr0 f4;rw[hdl]at ho3'⊢;have hqb:∀x∈xD q,hn w2<=x/\x<hn w3':=fun x hx=>ho3.blk x hx;refine qP (fun z w'=>Fr (xD q) w4 w'/\∃(j:Nat) (hk:bQ),z.1=j/\j<=4/\hk.length=13/\(∀i,gb hk i=if t<=i/\i<t+j then gb (xR s) (i -t)else gb hd0 i)/\Own w' (hn w2) 5 1 q 13 c2 (bv hk)) (fun z _ =>4 -z.1.toNat)
    ⟨Fr.refl _ _,0,hd0,rfl,oQ,hdl,fun i=>by rw[if_neg oQ],ho3'⟩ ?_
   rintro⟨_,⟨⟩⟩ w5 ⟨f5,j,hk,rfl,hj4,hkl,hkg,ho5⟩;dsimp only;rw[xG];refine qG (fun hlt=> ?_) (fun hge=> ?_)
   ·have hx4:=ho4.has.fr f5 (fun a ha hx=>by have:=(ho4.at ha).2.2.1;have:=(hqb _ hx).2;omega)
    refine gM hx4 (xG s).symm oQ hlt ?_;have ew:wrap .i64 ((t:Int)+(j:Int))=((t+j:Nat):Int):=by rw[qA oQ oQ];omega
    rw[ew];refine⟨⟨oQ,oQ⟩,?_⟩;rw[Int.toNat_natCast,Int.toNat_natCast];have hv8:Value.int .u8 (gb (xR s) j:Int)=u8v (UInt8.ofNat (gb (xR s) j)):=by
     have:=yD (xR s) j;simp only[u8v,UInt8.toNat_ofNat'];rw[Nat.mod_eq_of_lt oQ]
    rw[hv8];refine cS (S:=[]) (w0:=w2) ((f3.trans f4).trans' f5 (fun x hx hlt=>by have:=(hqb x hx).1;omega)) ho5 oQ fun w6 F6 f6 ho6=> ?_;rw[mC]at ho6;rw[qA oQ oQ];refine⟨⟨f5.trans f6,j+1,hk.set (t+j) (UInt8.ofNat (gb (xR s) j)),oQ,oQ,by simpa using hkl,fun i=> ?_,ho6⟩,oQ⟩;rw[nL _ _ _ oQ,hkg i]
    split
    ·rename_i e
     have:=yD (xR s) j;rw[if_pos oQ,UInt8.toNat_ofNat',Nat.mod_eq_of_lt oQ]
     congr 1;omega
    ·rename_i e
     by_cases h:t<=i/\i<t+j
     ·rw[if_pos h,if_pos oQ]
     ·rw[if_neg h,if_neg oQ]
   ·obtain rfl:j=4:=oQ
    have F25:Fr [] w2 w5:=(f3.trans f4).trans' f5 (fun x hx hlt=>by have:=(hqb x hx).1;omega);have h5:Pcs w' w5 p1 l1 c1 (xV (n%15) W H L pal cl d0 dr):=h2.fr0 F25;obtain⟨g,rfl,_,hg2⟩:=h2.some2 (by have:=mI (k:=n%15) (W:=W) (H:=H) (L:=L) (pal:=pal) (cl:=cl) (d0:=d0) (dr:=dr);omega);have hl1:l1=(xV (n%15) W H L pal cl d0 dr).length:=by obtain⟨b,vs,_,_,h,_⟩:=h5;exact h
    have hml:=mI (k:=n%15) (W:=W) (H:=H) (L:=L) (pal:=pal) (cl:=cl) (d0:=d0) (dr:=dr);refine⟨⟨oQ,oQ⟩,?_⟩;rw[PtrC_some];dsimp only;rw[show(13:Nat)=hk.length from hkl.symm]at ho5⊢;refine bA (i:=0) (F2.trans F25) h5 hcs0 rfl rfl ho5.has (fun x hx=> ?_) (fun e=>by subst e;exact(ho5.none_iff).2.1) fun w6 vs6 Q F6 hp6 hpc6 hQ6 hl6=>xC ?_
    ·have h1':=ho5.blk x hx
     have:=F2.size;omega
    ·refine lM M hV F6 hp6 hpc6 hQ6 hl6 oQ (.inr ⟨hkl,.inl ⟨?_,rfl⟩,?_⟩) fun w7 F7=>⟨rfl,F7⟩
     ·have a10:gb hk 10=0:=by rw[hkg,if_neg oQ,g10]
      have a11:gb hk 11=0:=by rw[hkg,if_neg oQ,g11]
      have a12:gb hk 12=0\/gb hk 12=1:=by rw[hkg,if_neg oQ];exact g12
      have at0:be4 hk t=s:=by
       rw[wR (ys:=xR s) (j:=0) (fun m hm=>by rw[hkg,if_pos oQ];congr 1;omega)];exact vA hs32
      unfold uC;rw[a10,if_neg dQ,a11,if_neg dQ,if_neg oQ];rcases ht with rfl|rfl
      ·rw[if_pos oQ]
      ·split
       ·rfl
       ·rw[if_pos oQ]
     ·intro h0 h4
      have oth:∀i,(i=0\/i=4) ->be4 hk i=s\/be4 hk i=be4 hd0 i:=by
       intro i hi
       by_cases h:i=t
       ·subst h
        refine .inl ?_;rw[wR (ys:=xR s) (j:=0) (fun m hm=>by rw[hkg,if_pos oQ];congr 1;omega)];exact vA hs32
       ·exact .inr (wR fun m hm=>by rw[hkg,if_neg oQ])
      have hW:=M.hW;have hH:=M.hH;have z0:be4 hk 0<=20:=by rcases oth 0 (.inl rfl)with h|h<;>omega
      have z4:be4 hk 4<=20:=by rcases oth 4 (.inr rfl)with h|h<;>omega
      have:be4 hk 0*be4 hk 4<=20*20:=Nat.mul_le_mul z0 z4;omega
  ·intro J hJ
   refine qT (fun _ =>hJ _ _ ⟨rfl,4,rfl,.inr rfl⟩) (fun _ =>hJ _ _ ⟨rfl,0,rfl,.inl rfl⟩)
 ·intro J hJ
  refine qQ (fun _ =>hJ _ _ ⟨rfl,0,rfl,.inl rfl,dQ⟩) (fun _ => ?_);refine hJ _ _ ⟨rfl,m|||2147483648,?_,.inr Nat.right_le_or,Nat.or_lt_two_pow (n:=32) oQ dQ⟩;rw[fQ oQ oQ dQ dQ]
  rfl
end
section
variable{w w' w0:wQ}
end
section
variable{w w' w0 wB:wQ}{E:Er}{k W H:Nat}{L:Bool}{pal:List Px}{cl:List Nat}{fl xs zs d0:bQ}{dr:List (bQ)}{p q:pQ}{l c c':Nat}{cs ds:List Ch}{hd dd:bQ}{nm:bQ}{s:Sl}
end
section
variable{w w' w0 wB:wQ}{E:Er}{k W H:Nat}{L:Bool}{pal:List Px}{cl:List Nat}{fl xs zs d0:bQ}{dr:List (bQ)}{p q:pQ}{l c c':Nat}{cs ds es:List Ch}{hd dd:bQ}{nm:bQ}{s:Sl}{db rb kb crc:Nat}{d:Dec}{rs:bQ}
end
section
variable{w w' w0 wB:wQ}{E:Er}{k W H:Nat}{L:Bool}{pal:List Px}{cl:List Nat}{fl xs zs d0:bQ}{dr:List (bQ)}{p q:pQ}{l c c':Nat}{cs ds es r:List Ch}{hd dd:bQ}{nm:bQ}{s:Sl}{db rb kb crc:Nat}{d:Dec}{rs:bQ}
end
section
variable{w w' w0 wB:wQ}{E:Er}{k W H D C:Nat}{L:Bool}{pal:List Px}{cl:List Nat}{fl xs zs d0:bQ}{dr:List (bQ)}{p q:pQ}{l c c':Nat}{cs ds es r:List Ch}{hd dd:bQ}{nm:bQ}{s:Sl}{db rb kb crc:Nat}{d:Dec}{rs:bQ}
end
section
variable{w w' w0 wB:wQ}{E:Er}{k W H D C:Nat}{L:Bool}{pal:List Px}{cl:List Nat}{fl xs zs d0:bQ}{dr:List (bQ)}{p q:pQ}{l c c':Nat}{cs ds es r:List Ch}{hd dd:bQ}{nm:bQ}{s:Sl}{db rb kb crc:Nat}{d:Dec}{rs:bQ}
end
section
variable{w w' w0 w1 wB:wQ}{E:Er}{k W H D C:Nat}{L:Bool}{pal:List Px}{cl:List Nat}{fl xs zs d0:bQ}{dr:List (bQ)}{p q:pQ}{l c c':Nat}{cs ds es r:List Ch}{hd dd:bQ}{nm:bQ}{s:Sl}{db rb kb crc:Nat}{d:Dec}{rs:bQ}
end
section
variable{w w' w0 w1 wB:wQ}{E:Er}{k W H D C:Nat}{L:Bool}{pal:List Px}{cl:List Nat}{fl xs zs d0:bQ}{dr:List (bQ)}{p q:pQ}{l c c':Nat}{cs ds es r:List Ch}{hd dd:bQ}{nm:bQ}{s:Sl}{db rb kb crc:Nat}{d:Dec}{rs:bQ}
end
section
variable{w w' w0 w1 wB:wQ}{E:Er}{k W H D C:Nat}{L:Bool}{pal:List Px}{cl:List Nat}{fl xs zs d0:bQ}{dr:List (bQ)}{p q:pQ}{l c c':Nat}{cs ds es r:List Ch}{hd dd:bQ}{nm:bQ}{db rb kb crc:Nat}{d:Dec}{rs:bQ}
end
section
variable{w w' w0 w1 wB:wQ}{E:Er}{k W H D C:Nat}{L:Bool}{pal:List Px}{cl:List Nat}{fl xs zs d0:bQ}{dr:List (bQ)}{p q:pQ}{l c c':Nat}{cs ds es r:List Ch}{hd dd:bQ}{nm:bQ}{s:Sl}{db rb kb crc:Nat}{d:Dec}{rs:bQ}
end
section
variable{w w' w0 w1 wB:wQ}{E:Er}{k W H D C:Nat}{L:Bool}{pal:List Px}{cl:List Nat}{fl xs zs d0:bQ}{dr:List (bQ)}{p q:pQ}{l c c':Nat}{rb:Nat}
end
end Go.Proofs
