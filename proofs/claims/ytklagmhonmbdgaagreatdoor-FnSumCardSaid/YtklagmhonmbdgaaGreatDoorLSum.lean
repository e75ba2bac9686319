/- Contracts of the law and of what it walks -/
import Derived.Test.YtklagmhonmbdgaaGreatDoorK4
set_option maxRecDepth 1000000
set_option linter.unusedVariables false
set_option linter.unusedSimpArgs false
set_option maxHeartbeats 4000000
namespace Go.V
open Go
open Go.IntKind (wrap)
theorem shl_u8{a c:Int}(hc:0<=c)(hc':c<=8):xP .u8 a c=wrap .u8 (a*2^c.toNat):=by
 obtain⟨y,rfl⟩:=Int.eq_ofNat_of_zero_le hc;rw[gB .u8 _ _ (by simp only[IntKind.bits];omega)];simp
theorem fO{a b:Int}(j:Nat)(ha:0<=a)(hj:a%2^j=0)(hb:0<=b)(hbj:b<2^j)(hs:a+b<9223372036854775808):bOr .i64 a b=a+b:=by
 obtain⟨x,rfl⟩:=Int.eq_ofNat_of_zero_le ha;obtain⟨y,rfl⟩:=Int.eq_ofNat_of_zero_le hb;rw[uB .i64 (m:=63) dQ oQ oQ,vE (j:=j)]
 ·simp
 ·have h2:((2:Int)^j)=((2^j:Nat):Int):=by simp
  rw[h2]at hj;omega
 ·have h2:((2:Int)^j)=((2^j:Nat):Int):=by simp
  rw[h2]at hbj;omega
theorem or8_i64{a b:Int}(ha:0<=a)(hj:a%256=0)(hb:0<=b)(hbj:b<256)(hs:a+b<9223372036854775808):bOr .i64 a b=a+b:=
 fO 8 ha (by simpa using hj) hb (by simpa using hbj) hs
theorem or16_i64{a b:Int}(ha:0<=a)(hj:a%65536=0)(hb:0<=b)(hbj:b<65536)(hs:a+b<9223372036854775808):bOr .i64 a b=a+b:=
 fO 16 ha (by simpa using hj) hb (by simpa using hbj) hs
theorem or24_i64{a b:Int}(ha:0<=a)(hj:a%16777216=0)(hb:0<=b)(hbj:b<16777216)(hs:a+b<9223372036854775808):bOr .i64 a b=a+b:=
 fO 24 ha (by simpa using hj) hb (by simpa using hbj) hs
end Go.V
namespace Go.Proofs
open Go Go.V
open Go.IntKind (wrap)
def wp26(x0:pQ)(x0l:Nat)(x0c:Nat)(R:vPq)(w:wQ):Prop:=qK w (.cells #[] 3) fun e f=>xE (fun(g:(Sl×Int×Unit) ->World ->Prop)=>g ((⟨some ⟨e,0,none⟩,0,0⟩:Sl),(8:Int),()) f) (fun b c h=>IfC (decide ((wIq (b.2.1+12))<=(x0l:Int))) (qK c (.cells #[iQq b.2.1] 3) fun i j=>zQ Pg j #[28,28] 28 (.slice b.1.a b.1.len b.1.cap) (.slice (some ⟨i,0,none⟩) 1 1) fun k l m n=>CallT Pg 46 #[.slice x0 x0l x0c,iQq b.2.1] n fun o p=>∃d,And (o= .int .u32 d) (h ((⟨k,l,m⟩:Sl),wIq (b.2.1+(wIq ((12:Int)+(wIq d)))),()) p)) (R (.slice b.1.a b.1.len b.1.cap) c))
theorem call26{x0:pQ}{x0l:Nat}{x0c:Nat}{R:vPq}{w:wQ}(h:wp26 x0 x0l x0c R w):CallT Pg 26 #[.slice x0 x0l x0c] w R:=cVq [(8,[(3,.sl),(4,.i .i64)],[0,2])] Tryz.func26 h
section
variable{w:wQ}
def gI:Nat ->List Ch ->List Nat
 |_,[]=>[]
 |at_,c::r=>at_ ::gI (at_ +12+c.2.length) r
theorem nY(l:List Ch)(c:Ch):∀at_,kA l ->gI at_ (l++[c])=gI at_ l++[at_ +(chs l).length]:=by
 induction l with
 |nil=>intro at_ _;simp[gI,chs]
 |cons x r ih=>
  intro at_ h;have hc:=xA (data:=x.2) (h x sQ).1;simp only[List.cons_append,gI,qZ,List.length_append];rw[ih _ fun y hy=>h y (by simp[hy])];simp only[hc];have:at_ +(12+x.2.length+(chs r).length)=at_ +12+x.2.length+(chs r).length:=oQ;rw[this]
theorem c26{p:pQ}{l c:Nat}{cs:List Ch}(hx:Has w p (bv (qU cs)))(hl:l=(qU cs).length)(hb:l<1099511627776)(hok:kA cs):
  CallT Pg 26 #[.slice p l c] w (RetR 3 1 w cs.length (iv (gI 8 cs))):=by
 apply call26;unfold wp26 wIq iQq;rw[zI];refine qP (fun z w'=>Fr [] w w'/\∃a r,cs=a++r/\z.2.1=((8+(chs a).length:Nat):Int)/\z.1.len=a.length/\Own w' (hn w) 3 1 z.1.a z.1.len z.1.cap (iv (gI 8 a)))
  (fun z _ =>l+1 -z.2.1.toNat) ⟨Fr.alloc _ _ _,[],cs,rfl,by simp[chs],rfl,Own.new (w:=w) (e:=3) (size:=1) (cs:= #[]) (l:=0) (Nat.le_refl _) sQ⟩ ?_
 rintro⟨⟨q,n,m⟩,k,⟨⟩⟩ w1 ⟨hf,a,r,rfl,rfl,rfl,ho⟩;simp only at ho;have hlen:l=8+(chs a).length+(chs r).length:=by rw[hl];simp[qU,sigL,xU];omega
 have ha:=yN (rC hok);have hr:=yN (mM hok);refine qG (fun h=> ?_) (fun h=> ?_)
 ·simp only at h
  rw[qA oQ oQ]at h
  cases r with
  |nil=>simp only[vJ,List.length_nil]at hlen;omega
  |cons ch r=>
   obtain⟨h4,hd⟩:=hok ch sQ;have hcl:=xA (data:=ch.2) h4;simp only[qZ,List.length_append]at hlen;dsimp only;refine tD ok28 hf ho (cs:= #[.int .i64 ((8+(chs a).length:Nat):Int)]) sQ (by simp[Value.oneCell']) oQ ?_;intro q' m' w2 hf2 hf2' ho2;refine CallT.mono (c46 (hx.fr0 hf2) hl oQ oQ oQ) ?_;rintro _ _ ⟨rfl,rfl⟩;rw[Int.toNat_natCast,bX hd];refine⟨_,rfl,?_⟩;simp (disch:=omega) only[qA];refine⟨⟨hf2.drewR,a++[ch],r,sQ,?_,sQ,?_⟩,oQ⟩
   ·simp only[xU,qZ,vJ,List.length_append,List.append_nil,hcl];omega
   ·have:=ho2.fr0 (Fr.drew [] w2)
    simpa [nY _ _ _ (rC hok),iv]using this
 ·simp only at h
  rw[qA oQ oQ]at h
  cases r with
  |cons ch r=>
   exfalso
   obtain⟨h4,hd⟩:=hok ch sQ;have hcl:=xA (data:=ch.2) h4;simp only[qZ,List.length_append]at hlen;omega
  |nil=>exact⟨hf,q,m,sQ,by simpa using ho⟩
end
section
variable{w w' w0:wQ}{rb db kb crc k W H:Nat}{L:Bool}{p:pQ}{E:Er}{pal:List Px}{cl:List Nat}{d:Dec}
structure Env (w:wQ) (E:Er):Prop where
 tab:Tab w
 errs:Errs w E
 lo:E.n0<=hn w
 lace:LaceAt w E.n0
 ety:ETyp w
theorem Env.fr0(h:Env w E)(f:Fr [] w w'):Env w' E:=⟨h.tab.fr f sQ,h.errs.fr f sQ,Nat.le_trans h.lo f.size,h.lace.fr f (by have:=h.errs.low;omega) sQ,h.ety.fr0 f⟩
def Bad(E:Er)(C:Int ->Prop)(v:Value):Prop:=ErrF E v/\∀e',outE E v e' ->ErrK e'/\C (bR e')
theorem Bad.of125{s:ByteArray}{C:Int ->Prop}(hC:C 1):Bad E C (.iface 125 (.string s)):=by
 refine⟨.inr (.inr ⟨125,s,dQ,rfl⟩),fun e' he=> ?_⟩;rcases he with⟨h,_⟩|⟨_,rfl⟩
 ·simp[zD]at h
 ·exact⟨.inl ⟨s,rfl⟩,hC⟩
theorem Refuse.bad{v:Value}(h:Refuse 125 v){C:Int ->Prop}(hC:C 1):Bad E C v:=by obtain⟨s,rfl,_⟩:=h;exact Bad.of125 hC
theorem c69t{xs:bQ}{C:Int ->Prop}(hr:RdAt w rb p xs)(hT:Tab w)(hE:Errs w E)(hlo:E.n0<=rb)(hrb:3<rb/\rb<hn w)(hp:∀a,p=some a ->3<a.block/\a.block<rb)(h8:8<=xs.length)(hsig:xs.take 8=sigL)(G:World ->Dec ->Nat ->bQ ->Prop)
  (start:∀w6 tmp,G w6 {wV (.iface 85 (.pointer (some ⟨rb,0,none⟩))) (hn w)with tmp:=tmp} 0 (xs.drop 8))
  (step:∀w1 d crc rs,Fr [rb] w w1 ->hn w+2<=hn w1 ->Errs w1 E ->Dst w1 (hn w+1) rb (hn w) p d crc rs ->G w1 d crc rs ->d.stage≠5/\CallT Pg 60 #[.pointer (some ⟨hn w+1,0,none⟩),.bool false] w1 fun v w2=>Fr [rb] w w2/\((v= .nilIface/\∃d' crc' rs',Dst w2 (hn w+1) rb (hn w) p d' crc' rs'/\rs'.length<rs.length/\G w2 d' crc' rs')\/Bad E C v)):
  CallT Pg 69 #[.iface 85 (.pointer (some ⟨rb,0,none⟩))] w fun v w'=>Fr [rb] w w'/\∃e,v= .tuple #[.nilIface,e]/\(ErrK e/\C (bR e)):=by
 have hlow:=hE.low;refine c69 hr hT hE hlo hrb hp h8 (fun w'=>Fr [rb] w w'/\hn w+2<=hn w'/\∃d crc rs,Dst w' (hn w+1) rb (hn w) p d crc rs/\G w' d crc rs) (fun w'=>left w' rb) ?_ ?_ ?_
 ·intro w6 tmp _ F6 n6 D6
  exact⟨F6,n6,_,_,_,D6,start w6 tmp⟩
 ·intro w6 s hs
  exact absurd hsig hs
 ·rintro w1 ⟨F1,n1,d,crc,rs,hD,hG⟩
  obtain⟨h5,hc⟩:=step w1 d crc rs F1 n1 (hE.fr F1 (by simp;omega)) hD hG;refine⟨d,crc,rs,hD,fun h=>absurd h h5,fun _ =>CallT.mono hc ?_⟩;rintro v w2 ⟨F2,⟨rfl,d',crc',rs',hD',hlt,hG'⟩|⟨hb,ho⟩⟩
  ·refine .inl ⟨rfl,⟨F2,by have:=zR hD'.dec;omega,_,_,_,hD',hG'⟩,?_⟩
   rw[hD.at_.left_eq,hD'.at_.left_eq];exact hlt
  ·refine .inr ⟨hb,hE.fr F2 (by simp;omega),fun e' he=>⟨F2,e',rfl,ho e' he⟩⟩
def uV(pal:List Px)(cl:List Nat):List Ch:=(if 0<pal.length then [(xX,xL pal)]else [])++((if zG pal then [(xJ,xM pal)]else [])++(if 0<cl.length then [(xJ,zX cl)]else []))
theorem vY{D C:Nat}:zK W H D C L pal cl=(nIHDR,xT W H D C L)::uV pal cl:=rfl
theorem dW{D C:Nat}(hok:yW D C pal cl)(hC:C=3):uV pal cl=(xX,xL pal)::(if zG pal then [(xJ,xM pal)]else []):=by
 obtain⟨q1,q2,q3⟩:=hok.pal3 hC;have hcl:=hok.cl0 oQ oQ;subst hcl;unfold uV;rw[if_pos (by omega:0<pal.length),show(if 0<([]:List Nat).length then [(xJ,zX [])]else [])=([]:List Ch)from rfl,List.append_nil,List.singleton_append]
theorem qCh{D C:Nat}(hok:yW D C pal cl)(hC:C≠3):uV pal cl=if 0<cl.length then [(xJ,zX cl)]else []:=by
 have hpn:=hok.paln hC;subst hpn
 rfl
def RightAt(w:wQ)(db k W H:Nat)(L:Bool)(pal:List Px)(cl:List Nat)(d:Dec)(r:List Ch):Prop:=
 (d.stage=0/\d.useT=false/\d.cb=0/\r=zK W H (qE k).2 (qE k).1 L pal cl)\/
 (d.stage=1/\d.useT=false/\jG d k W H L/\r=uV pal cl)\/
 (d.stage=2/\(qE k).1=3/\d.useT=false/\jG d k W H L/\kH w db d.pal pal.length (kK (xL pal) pal.length)/\r=if zG pal then [(xJ,xM pal)]else [])\/
 (d.stage=3/\jG d k W H L/\((qE k).1=3 ->∃n cs,kH w db d.pal n cs)/\(d.useT=true ->(qE k).1=0\/(qE k).1=2)/\r=[])
theorem RightAt.ready(h:RightAt w db k W H L pal cl d [])(hok:yW (qE k).2 (qE k).1 pal cl):jG d k W H L/\(1<=d.stage/\d.stage<=3)/\((qE k).1=3 ->d.stage≠1/\∃n cs,kH w db d.pal n cs)/\(d.useT=true ->(qE k).1=0\/(qE k).1=2):=by
 rcases h with⟨_,_,_,hr⟩|⟨h1,hu,hh,hr⟩|⟨h2,hC,hu,hh,hP,hr⟩|⟨h3,hh,hP,hu,_⟩
 ·exact absurd hr.symm (by simp[vY])
 ·refine⟨hh,oQ,fun hC=> ?_,fun e=>by rw[hu]at e;cases e⟩
  rw[dW hok hC]at hr
  cases hr
 ·exact⟨hh,oQ,fun _ =>⟨oQ,_,_,hP⟩,fun e=>by rw[hu]at e;cases e⟩
 ·exact⟨hh,oQ,fun e=>⟨oQ,hP e⟩,hu⟩
theorem RightAt.step{c:Ch}{r:List Ch}{tail:bQ}(h:RightAt w db k W H L pal cl d (c::r))(hD:Dst w db rb kb p d crc (qV c.1 c.2++tail))(hk:k<15)(hW:1<=W/\W<=20)(hH:1<=H/\H<=20)(hok:yW (qE k).2 (qE k).1 pal cl)(F0:Fr [rb] w0 w)(hkb:hn w0<=kb):
  CallT Pg 60 #[.pointer (some ⟨db,0,none⟩),.bool false] w fun v w'=>v= .nilIface/\Fr [rb] w0 w'/\∃d' crc',Dst w' db rb kb p d' crc' tail/\RightAt w' db k W H L pal cl d' r:=by
 have hne:=hD.ne;have hcb:=jT hk;have fr:∀{w':wQ},Fr [rb,kb,db] w w' ->Fr [rb] w0 w':=fun f=>F0.trans' f (fun x hx hlt=>by simp at hx⊢;omega);rcases h with⟨h0,hu,_,hr⟩|⟨h1,hu,hh,hr⟩|⟨h2,hC,hu,hh,hP,hr⟩|⟨_,_,_,_,hr⟩
 ·rw[vY]at hr
  obtain⟨rfl,rfl⟩:=List.cons.inj hr;refine CallT.mono (Dst.goodIHDR hD h0 oQ oQ hk) ?_;rintro v w2 ⟨rfl,F,tmp,crc',hD'⟩;exact⟨rfl,fr F,_,_,hD',.inr (.inl ⟨rfl,hu,⟨rfl,rfl,rfl,rfl,rfl⟩,rfl⟩)⟩
 ·by_cases hC:(qE k).1=3
  ·rw[dW hok hC]at hr
   obtain⟨rfl,rfl⟩:=List.cons.inj hr;obtain⟨q1,q2,q3⟩:=hok.pal3 hC;refine CallT.mono (Dst.goodPLTE hD h1 hh.D_ (vO hk).1 (by rw[hh.cb_];have:=hcb.2.1 hC;omega) oQ oQ q3) ?_;rintro v w2 ⟨rfl,F,tmp,crc',pl,hD',hP⟩;exact⟨rfl,fr F,_,_,hD',.inr (.inr (.inl ⟨rfl,hC,hu,⟨hh.W_,hh.H_,hh.D_,hh.cb_,hh.lace_⟩,hP,rfl⟩))⟩
  ·rw[qCh hok hC]at hr
   by_cases hcl:0<cl.length
   ·rw[if_pos hcl]at hr
    obtain⟨rfl,rfl⟩:=List.cons.inj hr;have hl:=hok.cll.resolve_left (List.length_pos_iff.1 hcl);have h02:(qE k).1=0\/(qE k).1=2:=by
     by_cases h0:(qE k).1=0
     ·exact .inl h0
     ·by_cases h2:(qE k).1=2
      ·exact .inr h2
      ·exact absurd (hok.cl0 h0 h2) (List.length_pos_iff.1 hcl)
    have hcc:=qFj hk;refine CallT.mono (qCi hD h1 ?_) ?_
    ·rw[mE,hl,hh.cb_]
     rcases h02 with h0|h2
     ·refine .inl ⟨by rw[h0];rfl,?_⟩
      have:=hcc.1 h0;omega
     ·refine .inr ⟨by rw[h2];rfl,?_⟩
      have:=hcc.2 h2;omega
    ·rintro v w2 ⟨rfl,F,n2,tmp,tr,crc',hD'⟩
     exact⟨rfl,fr F,_,_,hD',.inr (.inr (.inr ⟨rfl,⟨hh.W_,hh.H_,hh.D_,hh.cb_,hh.lace_⟩,fun e=>absurd e hC,fun _ =>h02,rfl⟩))⟩
   ·rw[if_neg hcl]at hr
    cases hr
 ·by_cases ha:zG pal=true
  ·rw[if_pos ha]at hr
   obtain⟨rfl,rfl⟩:=List.cons.inj hr;obtain⟨q1,q2,q3⟩:=hok.pal3 hC;have hal:(xM pal).length=pal.length:=by simp[xM]
   obtain⟨g,hpal,hdg,hrow,hcl,hn256⟩:=hP;refine CallT.mono (Dst.goodTRNS (al:=xM pal) hD h2 (by rw[hh.cb_];have:=hcb.2.1 hC;omega) ⟨g,hpal,hdg,hrow,hcl,hn256⟩ (mN _ _) oQ oQ) ?_;rintro v w2 ⟨rfl,hF,tmp,crc',pl,hD',_,hP'⟩;have F:=hF g (by rw[hpal]);exact⟨rfl,F0.trans' F (fun x hx hlt=>by simp at hx⊢;omega),_,_,hD',.inr (.inr (.inr ⟨rfl,⟨hh.W_,hh.H_,hh.D_,hh.cb_,hh.lace_⟩,fun _ =>⟨_,_,hP'⟩,(fun h=>by rw[hu]at h;cases h),rfl⟩))⟩
  ·rw[if_neg ha]at hr
   cases hr
 ·cases hr
end
section
variable{w w0 w1 w2:wQ}{rb db kb crc k W H:Nat}{L:Bool}{p q:pQ}{E:Er}{pal:List Px}{cl:List Nat}{d:Dec}
structure Stp (w0 w1:wQ) (E:Er) (db rb kb:Nat):Prop where
 F0:Fr [rb] w0 w1
 hkb:hn w0<=kb
 errs:Errs w1 E
 lace:LaceAt w1 E.n0
 lo:E.n0<=rb
 ord:kb<db
theorem Stp.fr(h:Stp w0 w1 E db rb kb)(f:Fr [rb,kb,db] w1 w2):Fr [rb] w0 w2:=h.F0.trans' f (fun x hx hlt=>by have:=h.hkb;have:=h.ord;simp at hx⊢;omega)
theorem wT{c:Ch}{b:List Ch}{t:bQ}:(chs b++t).length<(chs (c::b)++t).length:=by
 rw[qZ];simp only[List.length_append];have:4<=(qV c.1 c.2).length:=by unfold qV;simp only[List.length_append,xG];omega
 omega
theorem gP{l c:Nat}{a r:List Ch}{bad:bQ}{code:Int}{file:bQ}(ef:file=sigL++(chs a++bad))(hx:Has w q (bv file))(hl:l=file.length)(hlb:l<1099511627776)(hV:Env w E)
  (hfo:zK W H (qE k).2 (qE k).1 L pal cl=a++r)(hk:k<15)(hW:1<=W/\W<=20)(hH:1<=H/\H<=20)(hok:yW (qE k).2 (qE k).1 pal cl)(G2:Dec ->Nat ->bQ ->Prop)
  (hbad:∀{w0 w1:wQ} {db rb kb:Nat} {p:pQ} {d:Dec} {crc:Nat},Stp w0 w1 E db rb kb ->Dst w1 db rb kb p d crc bad ->RightAt w1 db k W H L pal cl d r ->
   CallT Pg 60 #[.pointer (some ⟨db,0,none⟩),.bool false] w1 fun v w2=>Fr [rb] w0 w2/\(Bad E (·=code) v\/(v= .nilIface/\∃d' crc' rs',Dst w2 db rb kb p d' crc' rs'/\rs'.length<bad.length/\G2 d' crc' rs')))
  (after:∀{w0 w1:wQ} {db rb kb:Nat} {p:pQ} {d:Dec} {crc:Nat} {rs:bQ},Stp w0 w1 E db rb kb ->Dst w1 db rb kb p d crc rs ->G2 d crc rs ->
   d.stage≠5/\CallT Pg 60 #[.pointer (some ⟨db,0,none⟩),.bool false] w1 fun v w2=>Fr [rb] w0 w2/\Bad E (·=code) v):
  CallT Pg 29 #[.slice q l c,.int .i64 code] w fun v w'=>v= .bool true/\Fr [] w w':=by
 subst ef;refine qAs (B:=fun e=>ErrK e/\bR e=code) hx hl hlb hV.tab hV.errs hV.lo hV.lace hV.ety (fun e h=>h) fun w2 rb p F2 hr hT2 hE2 hlo2 hrb hp hL2 _ => ?_;refine c69t (C:=(·=code)) hr hT2 hE2 hlo2 hrb hp (by simp[yB]) (kN _) (fun w' d crc rs=>(∃b,rs=chs b++bad/\RightAt w' (hn w2+1) k W H L pal cl d (b++r))\/G2 d crc rs) ?_ ?_
 ·intro w6 tmp
  rw[gU];exact .inl ⟨a,rfl,.inl ⟨rfl,rfl,rfl,hfo.symm⟩⟩
 ·intro w1 d crc rs F1 n1 E1 hD hG
  have hlow:=hE2.low;have hA:Stp w2 w1 E (hn w2+1) rb (hn w2):=⟨F1,Nat.le_refl _,E1,hL2.fr F1 oQ (by simp;omega),hlo2,oQ⟩;rcases hG with⟨b,rfl,hR⟩|hG
  ·have h5:d.stage≠5:=by rcases hR with h|h|h|h<;>omega
   refine⟨h5,?_⟩
   cases b with
   |nil=>
    refine CallT.mono (hbad hA hD hR) ?_;rintro v w3 ⟨F,hb|⟨rfl,d',crc',rs',hD',hlt,hg⟩⟩
    ·exact⟨F,.inr hb⟩
    ·exact⟨F,.inl ⟨rfl,d',crc',rs',hD',hlt,.inr hg⟩⟩
   |cons ch b=>
    have hD':=hD;rw[qZ,List.append_assoc]at hD';refine CallT.mono (RightAt.step hR hD' hk hW hH hok F1 (Nat.le_refl _)) ?_;rintro v w3 ⟨rfl,F,d',crc',hD2,hR2⟩;exact⟨F,.inl ⟨rfl,d',crc',_,hD2,wT,.inl ⟨b,rfl,hR2⟩⟩⟩
  ·obtain⟨h5,hc⟩:=after hA hD hG
   refine⟨h5,CallT.mono hc ?_⟩;rintro v w3 ⟨F,hb⟩;exact⟨F,.inr hb⟩
end
section
variable{w w' w0:wQ}{E:Er}{Q Q':Nat ->Prop}
structure Made (k W H:Nat) (L:Bool) (pal:List Px) (cl:List Nat) (fl xs zs d0:bQ) (dr:List (bQ)):Prop where
 hk:k<15
 hW:1<=W/\W<=20
 hH:1<=H/\H<=20
 ok:yW (qE k).2 (qE k).1 pal cl
 rows:RowsOf (mH W H (qE k).2 (qE k).1 L) (gF fl) xs
 zl:tE xs zs
 flat:(d0::dr).flatten=zs
 ne:∀x∈d0::dr,x≠[]
 zlen:zs.length<=2097152
 xlen:xs.length<32768
def xV(k W H:Nat)(L:Bool)(pal:List Px)(cl:List Nat)(d0:bQ)(dr:List (bQ)):List Ch:=zK W H (qE k).2 (qE k).1 L pal cl++xZ (d0::dr)++[(xW,[])]
section
variable{k W H:Nat}{L:Bool}{pal:List Px}{cl:List Nat}{fl xs zs d0:bQ}{dr:List (bQ)}
theorem Made.okc(M:Made k W H L pal cl fl xs zs d0 dr):kA (xV k W H L pal cl d0 dr)/\(qU (xV k W H L pal cl d0 dr)).length<1099511627776:=by
 have hzp:0<zs.length:=by
  obtain⟨_,_,_,_,hz⟩:=M.zl;rw[hz];simp
 obtain⟨_,h1,h2,_⟩:=nJ (W:=W) (H:=H) (L:=L) M.hk M.ok hzp M.zlen M.flat M.ne;exact⟨h1,h2⟩
theorem Made.whole{q:pQ}{l c:Nat}{file:bQ}(M:Made k W H L pal cl fl xs zs d0 dr)(hV:Env w E)(hf:file=qU (xV k W H L pal cl d0 dr))(hx:Has w q (bv file))(hl:l=file.length):CallT Pg 28 #[.slice q l c] w fun v w'=>v= .bool true/\Fr [] w w':=
 qCy hf hx hl (by rw[hl,hf];exact M.okc.2) hV.tab hV.errs hV.lo hV.lace hV.ety M.hk M.hW M.hH M.ok M.rows M.zl M.flat M.ne M.zlen M.xlen
end
theorem nU{k W H:Nat}{L:Bool}{pal:List Px}{cl:List Nat}{v:Value}(hk:k<15)(hW:1<=W/\W<=20)(hH:1<=H/\H<=20)(hok:yW (qE k).2 (qE k).1 pal cl)(hF:oR w0 W H (qE k).2 (qE k).1 L pal cl v w):
  ∃fl xs zs d0 dr,Made k W H L pal cl fl xs zs d0 dr/\dL w0 (qU (xV k W H L pal cl d0 dr)) v w:=by
 obtain⟨fs,xs,zs,ds,_,hrows,hZ,hds,hne,hzl,hR⟩:=hF;have hD16:(qE k).2<=16:=by have:=(vO hk).1;omega
 cases ds with
 |nil=>
  obtain⟨bl,out,_,_,hz⟩:=hZ;rw[hz]at hds;simp at hds
 |cons d0 dr=>exact⟨fs,xs,zs,d0,dr,⟨hk,hW,hH,hok,hrows,hZ,hds,hne,hzl,aS hrows hW.2 hH.2 hD16⟩,hR⟩
theorem kZ{p:pQ}{l c:Nat}{R:vPq}{X:World ->Prop}(hR:R (.bool true) w)(hX:l<=1000 ->X w):
  IfC (decide ((l:Int)>(2147483647:Int))) (R (.bool true) w) (CallT Pg 22 #[.slice p l c] w fun v w2=>Exists fun b:Bool=>And (v= .bool b) (IfC (!b) (R (.bool true) w2) (X w2))):=by
 refine qG (fun _ =>hR) (fun _ =>CallT.mono c22 ?_);rintro v w2 ⟨rfl,rfl⟩;refine⟨_,rfl,?_⟩
 by_cases h:l<=1000
 ·rw[decide_eq_true h];exact hX h
 ·rw[decide_eq_false h];exact hR
end
section
variable{w w' w0:wQ}{E:Er}{k W H:Nat}{L:Bool}{pal:List Px}{cl:List Nat}{fl xs zs d0:bQ}{dr:List (bQ)}{p q:pQ}{l c c':Nat}{cs:List Ch}{hd dd:bQ}{nm:bQ}
end
section
variable{w w' w0:wQ}{E:Er}{k W H:Nat}{L:Bool}{pal:List Px}{cl:List Nat}{fl xs zs d0:bQ}{dr:List (bQ)}{p q:pQ}{l c c':Nat}{cs:List Ch}{hd dd:bQ}{nm:bQ}
end
section
variable{w w' w0:wQ}
end
section
variable{w w' w0 wB:wQ}{E:Er}{k W H:Nat}{L:Bool}{pal:List Px}{cl:List Nat}{fl xs zs d0:bQ}{dr:List (bQ)}{p q:pQ}{l c c':Nat}{cs ds:List Ch}{hd dd:bQ}{nm:bQ}{s:Sl}
end
section
variable{w w' w0 wB:wQ}{E:Er}{k W H:Nat}{L:Bool}{pal:List Px}{cl:List Nat}{fl xs zs d0:bQ}{dr:List (bQ)}{p q:pQ}{l c c':Nat}{cs ds es:List Ch}{hd dd:bQ}{nm:bQ}{s:Sl}{db rb kb crc:Nat}{d:Dec}{rs:bQ}
end
section
variable{w w' w0 wB:wQ}{E:Er}{k W H:Nat}{L:Bool}{pal:List Px}{cl:List Nat}{fl xs zs d0:bQ}{dr:List (bQ)}{p q:pQ}{l c c':Nat}{cs ds es r:List Ch}{hd dd:bQ}{nm:bQ}{s:Sl}{db rb kb crc:Nat}{d:Dec}{rs:bQ}
end
section
variable{w w' w0 wB:wQ}{E:Er}{k W H D C:Nat}{L:Bool}{pal:List Px}{cl:List Nat}{fl xs zs d0:bQ}{dr:List (bQ)}{p q:pQ}{l c c':Nat}{cs ds es r:List Ch}{hd dd:bQ}{nm:bQ}{s:Sl}{db rb kb crc:Nat}{d:Dec}{rs:bQ}
end
section
variable{w w' w0 wB:wQ}{E:Er}{k W H D C:Nat}{L:Bool}{pal:List Px}{cl:List Nat}{fl xs zs d0:bQ}{dr:List (bQ)}{p q:pQ}{l c c':Nat}{cs ds es r:List Ch}{hd dd:bQ}{nm:bQ}{s:Sl}{db rb kb crc:Nat}{d:Dec}{rs:bQ}
end
section
variable{w w' w0 w1 wB:wQ}{E:Er}{k W H D C:Nat}{L:Bool}{pal:List Px}{cl:List Nat}{fl xs zs d0:bQ}{dr:List (bQ)}{p q:pQ}{l c c':Nat}{cs ds es r:List Ch}{hd dd:bQ}{nm:bQ}{s:Sl}{db rb kb crc:Nat}{d:Dec}{rs:bQ}
theorem qFq{tail:bQ}(M:Made k W H L pal cl fl xs zs d0 dr)(hA:Stp w0 w1 E db rb kb)(hR:RightAt w1 db k W H L pal cl d [])(hD:Dst w1 db rb kb p d crc (chs (xZ (d0::dr))++tail)):
  CallT Pg 60 #[.pointer (some ⟨db,0,none⟩),.bool false] w1 fun v w2=>Fr [rb] w0 w2/\v= .nilIface/\∃d' crc',Dst w2 db rb kb p d' crc' tail/\d'.stage=4:=by
 obtain⟨hh,hs,hp3,hut⟩:=hR.ready M.ok;refine CallT.mono (iK hD M.hk M.hW M.hH hA.errs hA.lo hA.lace hh hs hp3 hut M.rows M.zl M.flat M.ne M.zlen M.xlen) ?_;rintro v w2 ⟨rfl,F,nn,dd,crc',h4,hD',_⟩;exact⟨hA.fr F,rfl,dd,crc',hD',h4⟩
theorem qCa:0<(chs (xZ (d0::dr))).length:=by
 rw[show xZ (d0::dr)=(nIDAT,d0)::xZ dr from rfl,qZ,List.length_append,xA rfl];omega
end
section
variable{w w' w0 w1 wB:wQ}{E:Er}{k W H D C:Nat}{L:Bool}{pal:List Px}{cl:List Nat}{fl xs zs d0:bQ}{dr:List (bQ)}{p q:pQ}{l c c':Nat}{cs ds es r:List Ch}{hd dd:bQ}{nm:bQ}{s:Sl}{db rb kb crc:Nat}{d:Dec}{rs:bQ}
end
section
variable{w w' w0 w1 wB:wQ}{E:Er}{k W H D C:Nat}{L:Bool}{pal:List Px}{cl:List Nat}{fl xs zs d0:bQ}{dr:List (bQ)}{p q:pQ}{l c c':Nat}{cs ds es r:List Ch}{hd dd:bQ}{nm:bQ}{db rb kb crc:Nat}{d:Dec}{rs:bQ}
theorem qGq{t:Option Bool}{s:Nat×Nat×bQ}{e0 rest ys:bQ}(hk:k<15)(hW:1<=W/\W<=20)(hH:1<=H/\H<=20)(hok:yW (qE k).2 (qE k).1 pal cl)(hA:Stp w0 w1 E db rb kb)(hR:RightAt w1 db k W H L pal cl d [])(hD:Dst w1 db rb kb p d crc (qV nIDAT e0++rest))(he0:e0.length<4294967296)
  (hF:Flow e0.length (yV 0 nIDAT) (e0++(xR (jJ (nIDAT++e0))++rest)) ys s)(hAt:cQ s)(hpre:ys<+:zs)(hor:ys=zs\/∃b,t=some b/\oN b s)(hs0:t=none ->s.1=0)(hZ:tE xs zs)(hxl:xs.length<32768):
  CallT Pg 60 #[.pointer (some ⟨db,0,none⟩),.bool false] w1 fun v w2=>Fr [rb] w0 w2/\
   ((v= .nilIface/\∃dd crc' rs',Dst w2 db rb kb p dd crc' (rs'.drop 4)/\dd.stage=4/\Flow 0 crc' rs' [] s/\4<=rs'.length/\be4 rs' 0=crc'/\(t=none ->GoodRows (if L then 1 else 0) W H (chN (qE k).1*(qE k).2) xs))\/
    (ErrD E v/\(t≠some false ->(∀crc rs,Flow 0 crc rs [] s ->4<=rs.length) ->∃sv,v= .iface 125 (.string sv))/\(t=none ->(∀crc rs,Flow 0 crc rs [] s ->4<=rs.length/\be4 rs 0=crc) ->¬GoodRows (if L then 1 else 0) W H (chN (qE k).1*(qE k).2) xs))):=by
 obtain⟨hh,hs,hp3,hut⟩:=hR.ready hok;obtain⟨bl,out,hS,hP,hzs⟩:=hZ;obtain⟨pt,IT,bpp,cp,hPK,hIT⟩:=pk_of hk d.useT hut;have hcb:=jT hk;have hd:Hd d (cbN (qE k).1 (qE k).2) (qE k).2 W H d.useT IT:=by
  refine⟨hh.W_,hh.H_,hh.D_,hh.cb_,rfl,fun e=> ?_,hW,hH⟩;obtain⟨_,n,cs,g,hpal,_,_,_,hn256⟩:=hp3 (hIT.1 e);rw[hpal];exact⟨rfl,hn256⟩
 obtain⟨h1,h2,h3,h4⟩:=yA (nm:=nIDAT) (d:=e0) (rest:=rest) rfl he0;have hsp:d.stage=1 ->¬(7<=d.cb/\d.cb<=10):=fun e hc=>by
  have:=hh.cb_;exact(hp3 (hcb.2.2 oQ)).1 e
 refine hD.c60 oQ fun w3 tmp s' F1 n1 D1=> ?_;rw[h2];have hnx:zT d nIDAT= .idat:=by
  unfold zT;rw[if_neg dQ,if_neg dQ,if_neg dQ,if_pos rfl,if_neg oQ,if_neg (fun hc=>hsp hc.1 hc.2),if_neg oQ]
 rw[hnx];dsimp only;intro hs4;subst hs4;rw[if_neg dQ,h1];rw[h2,h3]at D1;have hne':=hD.ne;have hlow:=hA.errs.low;have hlo:=hA.lo;have hd1:Hd {d with tmp:=tmp,stage:=4} (cbN (qE k).1 (qE k).2) (qE k).2 W H d.useT IT:=⟨hd.W_,hd.H_,hd.D_,hd.cb_,hd.u_,hd.pal,hd.lW,hd.lH⟩;have hlace:d.lace=0\/d.lace=1:=by rw[hh.lace_];cases L<;>simp
 refine CallT.mono (D1.c79 (t:=t) (s:=s) (ys:=ys) hPK (hA.errs.fr F1 (by simp;omega)) hlo he0 hF hAt (by rw[<-hzs];exact hpre) (by rw[<-hzs];exact hor) hxl hS hP (hA.lace.fr F1 oQ (by simp;omega)) hd1 hlace hs0) ?_;rintro v w2 ⟨F2,n2,⟨ib,pb,ex,dd,crc',rs',rfl,hI,hQ,l1,l2,hsd,hD',hFl,c1,c2,hG⟩|⟨he,hf,hg⟩⟩
 ·refine⟨hA.fr (F1.trans F2),.inl ⟨rfl,dd,crc',rs',hD',?_,hFl,c1,c2,fun e=> ?_⟩⟩
  ·obtain⟨a,b,rfl⟩:=hsd
   rfl
  ·have:=hG e
   rw[show({d with tmp:=tmp,stage:=4}:Dec).lace=d.lace from rfl,hh.lace_]at this;exact this
 ·refine⟨hA.fr (F1.trans F2),.inr ⟨he,hf,fun e hall=> ?_⟩⟩
  have:=hg e hall;rw[show({d with tmp:=tmp,stage:=4}:Dec).lace=d.lace from rfl,hh.lace_]at this;exact this
theorem wO{v:Value}{C:Int ->Prop}(h:∃sv,v= .iface 125 (.string sv))(hC:C 1):Bad E C v:=by obtain⟨sv,rfl⟩:=h;exact Bad.of125 hC
end
section
variable{w w' w0 w1 wB:wQ}{E:Er}{k W H D C:Nat}{L:Bool}{pal:List Px}{cl:List Nat}{fl xs zs d0:bQ}{dr:List (bQ)}{p q:pQ}{l c c':Nat}{cs ds es r:List Ch}{hd dd:bQ}{nm:bQ}{s:Sl}{db rb kb crc:Nat}{d:Dec}{rs:bQ}
end
section
variable{w w' w0 w1 wB:wQ}{E:Er}{k W H D C:Nat}{L:Bool}{pal:List Px}{cl:List Nat}{fl xs zs d0:bQ}{dr:List (bQ)}{p q:pQ}{l c c':Nat}{rb:Nat}
theorem qDx{n:Nat}(hn32:n<4294967296){ss:List Nat}(hx:HasW w p (ss.map fun(s:Nat)=> .int .u16 (s:Int)))(hl:l=ss.length)(hb:l<=1000)(hV:Env w E){K:pQ ->Nat ->Nat ->Bool ->World ->Prop}
  (hK:∀{W H:Nat} {L:Bool} {pal:List Px} {cl:List Nat} {fl xs zs d0:bQ} {dr:List (bQ)},Made (n%15) W H L pal cl fl xs zs d0 dr ->∀p l c w',Fr [] w w' ->Own w' (hn w) 5 1 p l c (bv (qU (xV (n%15) W H L pal cl d0 dr))) ->l=(qU (xV (n%15) W H L pal cl d0 dr)).length ->K p l c true w'):
  CallT Pg 27 #[.int .u32 n,.slice p l c] w fun v w1=>Exists fun p':pQ=>Exists fun l':Nat=>Exists fun c':Nat=>And (v= .slice p' l' c') (CallT Pg 28 #[.slice p' l' c'] w1 fun v' w2=>Exists fun b:Bool=>And (v'= .bool b) (K p' l' c' b w2)):=by
 refine CallT.mono (c27 hn32 hx hl hb) ?_;rintro v w1 ⟨W,H,L,pal,cl,hW,hH,hok,hF⟩;obtain⟨fl,xs,zs,d0,dr,M,f,q,c',rfl,ho⟩:=nU oQ hW hH hok hF;refine⟨_,_,_,rfl,CallT.mono (M.whole (hV.fr0 f) rfl ho.has rfl) ?_⟩;rintro v w2 ⟨rfl,f2⟩;exact⟨_,rfl,hK M _ _ _ _ (f.trans f2) (ho.fr0 f2) rfl⟩
theorem qLc{a b:Nat}(hb:b≠0):a^^^b≠a:=fun h=>by
 have h1:a^^^(a^^^b)=a^^^a:=by rw[h]
 rw[<-Nat.xor_assoc,Nat.xor_self,Nat.zero_xor]at h1;exact hb h1
end
section
variable{w w' w0 w1 wB:wQ}{E:Er}{k W H D C:Nat}{L:Bool}{pal:List Px}{cl:List Nat}{fl xs zs d0:bQ}{dr:List (bQ)}{p q:pQ}{l c c':Nat}{cs ds es r:List Ch}{hd dd:bQ}{nm:bQ}{db rb kb crc:Nat}{d:Dec}{rs:bQ}
def qKn(nm dd qs:bQ):bQ:=xR dd.length++(nm++dd)++qs
theorem qKz(nm dd:bQ):qV nm dd=qKn nm dd (xR (jJ (nm++dd))):=rfl
theorem qKo{nm d qs rest:bQ}(hn:nm.length=4)(hd:d.length<4294967296):
  be4 (qKn nm d qs++rest) 0=d.length/\((qKn nm d qs++rest).drop 4).take 4=nm/\(qKn nm d qs++rest).drop 8=d++(qs++rest)/\8+qs.length<=(qKn nm d qs++rest).length:=by
 have e:qKn nm d qs++rest=xR d.length++(nm++(d++(qs++rest))):=by simp[qKn]
 have h4:∀n,(xR n).length=4:=fun _ =>rfl;refine⟨?_,?_,?_,?_⟩
 ·rw[e,vF (by rw[h4];decide)]
  exact vA hd
 ·rw[e,List.drop_append_of_le_length (by rw[h4];decide),show(xR d.length).drop 4=[]from rfl,List.nil_append,List.take_append_of_le_length oQ,List.take_of_length_le oQ]
 ·rw[e,<-List.append_assoc,List.drop_append_of_le_length (by simp[h4,hn])]
  rw[List.drop_of_length_le (by simp[h4,hn])];rfl
 ·rw[e];simp only[List.length_append,h4];omega
theorem qKp{d qs rest:bQ}(hq:qs.length=4):(d++(qs++rest)).take d.length=d/\be4 ((d++(qs++rest)).drop d.length) 0=be4 qs 0/\(d++(qs++rest)).drop (d.length+4)=rest/\d.length+4<=(d++(qs++rest)).length:=by
 refine⟨sQ,?_,?_,by simp only[List.length_append];omega⟩
 ·rw[List.drop_left,vF oQ]
 ·rw[<-List.drop_drop,List.drop_left,<-hq,List.drop_left]
theorem qLd{W H k:Nat}{L:Bool}{qs rest:bQ}{b:Bool}(h:Dst w db rb kb p d crc (qKn nIHDR (xT W H (qE k).2 (qE k).1 L) qs++rest))(hq:qs.length=4)(hqn:be4 qs 0≠jJ (nIHDR++xT W H (qE k).2 (qE k).1 L))(hs:d.stage=0)(hW:1<=W/\W<=64)(hH:1<=H/\H<=64)(hk:k<15):
  CallT Pg 60 #[.pointer (some ⟨db,0,none⟩),.bool b] w fun v w'=>Refuse 125 v/\Fr [rb,kb,db] w w':=by
 obtain⟨hl,hv,e0,e4,e8,e9⟩:=aE (L:=L) hW hH hk;generalize xT W H (qE k).2 (qE k).1 L=hd at*;obtain⟨a1,a2,a3,a4⟩:=qKo (nm:=nIHDR) (d:=hd) (qs:=qs) (rest:=rest) rfl oQ;obtain⟨b1,b2,b3,b4⟩:=qKp (d:=hd) (rest:=rest) hq;refine h.c60 oQ ?_;intro w1 tmp s F n h1;rw[a2]at h1⊢;rw[a3]at h1;rw[a1,hl];rw[show zT d nIHDR= .call 75 1 by unfold zT;rw[if_pos rfl,if_neg (by simp[hs])]];show s=1 ->_;rintro rfl;rw[hl]at b1 b2 b3 b4;refine CallT.mono (h1.c75 oQ ?_) ?_
 ·intro h2 h3
  rw[show be4 (hd++(qs++rest)) 0=be4 hd 0 from vF oQ,show be4 (hd++(qs++rest)) 4=be4 hd 4 from vF oQ,e0,e4];have:W*H<=64*64:=Nat.mul_le_mul hW.2 hH.2;omega
 ·rintro v w' ⟨F',n',hm⟩
  rw[b1,hv]at hm;obtain⟨hm,_⟩:=hm;rw[b2,jK,if_neg hqn]at hm;exact⟨hm,F.trans F'⟩
theorem qLe{D:Nat}{pal:List Px}{qs rest:bQ}{b:Bool}(h:Dst w db rb kb p d crc (qKn xX (xL pal) qs++rest))(hq:qs.length=4)(hqn:be4 qs 0≠jJ (xX++xL pal))(hs:d.stage=1)(hD:d.D=D)(hD':D=1\/D=2\/D=4\/D=8\/D=16)(hcb:7<=d.cb/\d.cb<=10)(hp0:0<pal.length)(hp2:pal.length<=256)(hpD:pal.length<=2^D):
  CallT Pg 60 #[.pointer (some ⟨db,0,none⟩),.bool b] w fun v w'=>Refuse 125 v/\Fr [rb,kb,db] w w':=by
 have hsl:=vP pal;obtain⟨a1,a2,a3,a4⟩:=qKo (nm:=xX) (d:=xL pal) (qs:=qs) (rest:=rest) rfl oQ;obtain⟨b1,b2,b3,b4⟩:=qKp (d:=xL pal) (rest:=rest) hq;refine h.c60 oQ ?_;intro w1 tmp s F n h1;rw[a2]at h1⊢;rw[a3]at h1;rw[a1];rw[show zT d xX= .call 76 2 by unfold zT;rw[if_neg dQ,if_pos rfl,if_neg (by simp[hs])]];show s=2 ->_;rintro rfl;refine CallT.mono (h1.c76 (D:=D) oQ hD hD' (by dsimp only;omega) (fun _ =>by omega)) ?_;rintro v w' hm;rw[if_neg oQ,b1,b2,b3,jK,if_neg hqn]at hm;exact⟨hm.2.1,F.trans hm.1⟩
theorem qLf{n:Nat}{cs:List (Bool×Px)}{al qs rest:bQ}{b:Bool}(h:Dst w db rb kb p d crc (qKn xJ al qs++rest))(hq:qs.length=4)(hqn:be4 qs 0≠jJ (xJ++al))(hs:d.stage=2)(hcb:7<=d.cb/\d.cb<=10)(hpal:kH w db d.pal n cs)(hcs:∀c∈cs,c.1=false)(ha0:0<al.length)(ha2:al.length<=256):
  CallT Pg 60 #[.pointer (some ⟨db,0,none⟩),.bool b] w fun v w'=>Refuse 125 v/\(∀g,d.pal.a=some ⟨g,0,none⟩ ->Fr [rb,kb,db,g] w w'):=by
 obtain⟨a1,a2,a3,a4⟩:=qKo (nm:=xJ) (d:=al) (qs:=qs) (rest:=rest) rfl oQ;obtain⟨b1,b2,b3,b4⟩:=qKp (d:=al) (rest:=rest) hq;refine h.c60 oQ ?_;intro w1 tmp s F n h1;rw[a2]at h1⊢;rw[a3]at h1;rw[a1];rw[show zT d xJ= .call 78 3 by unfold zT;rw[if_neg dQ,if_neg dQ,if_pos rfl,if_pos hcb,if_neg (by simp[hs])]];show s=3 ->_;rintro rfl;have hne:=h.ne;obtain⟨g,hpe,hg,hrow,hcl,hn⟩:=hpal;have hrow1:=F.row hrow (by simp;omega);refine CallT.mono (h1.c78P (len:=al.length) ⟨g,hpe,hg,hrow1,hcl,hn⟩ hcs oQ ha0 (by dsimp only;omega) (fun _ =>by omega)) ?_;rintro v w' hm;rw[if_neg oQ,b1,b2,b3,jK,if_neg hqn]at hm;exact⟨hm.2.1,fun g hg=>(F.mono sQ).trans (hm.1 g hg)⟩
theorem badCLR{al qs rest:bQ}{b:Bool}(h:Dst w db rb kb p d crc (qKn xJ al qs++rest))(hq:qs.length=4)(hqn:be4 qs 0≠jJ (xJ++al))(hs:d.stage=1)(hc:(al.length=2/\(d.cb=1\/d.cb=2\/d.cb=3\/d.cb=4\/d.cb=12))\/(al.length=6/\(d.cb=6\/d.cb=14))):
  CallT Pg 60 #[.pointer (some ⟨db,0,none⟩),.bool b] w fun v w'=>Refuse 125 v/\Fr [rb,kb,db] w w':=by
 have hal:al.length<4294967296:=oQ;obtain⟨h1,h2,h3,h4⟩:=qKo (nm:=xJ) (d:=al) (qs:=qs) (rest:=rest) rfl hal;obtain⟨b1,b2,b3,b4⟩:=qKp (d:=al) (rest:=rest) hq;refine h.c60 oQ fun w1 tmp s F1 n1 D1=> ?_;rw[h2];have hnx:zT d xJ= .call 78 3:=by
  unfold zT;rw[if_neg dQ,if_neg dQ,if_pos rfl,if_neg oQ];rcases hc with⟨_,hc⟩|⟨_,hc⟩
  ·rw[if_neg oQ,if_neg oQ]
  ·rw[if_pos oQ,if_neg oQ]
 rw[hnx];dsimp only;intro hs3;subst hs3;rw[h1];rw[h2,h3]at D1;have fin:∀n,al.length=n ->∀v w2,cU w1 db rb kb p {d with tmp:=tmp,stage:=3} (yV 0 xJ) (al++(qs++rest)) n v w2 ->Refuse 125 v/\Fr [rb,kb,db] w w2:=by
  rintro n rfl v w2 ⟨F2,n2,hv,_⟩;rw[b1,b2,jK,if_neg hqn]at hv;exact⟨hv,F1.trans F2⟩
 rcases hc with⟨e,hc⟩|⟨e,hc⟩
 ·rw[e]
  exact CallT.mono (D1.c78G hc (by rw[List.length_append,List.length_append];omega)) (fin 2 e)
 ·rw[e]
  exact CallT.mono (D1.c78T hc (by rw[List.length_append,List.length_append];omega)) (fin 6 e)
theorem RightAt.badSum{c:Ch}{r:List Ch}{qs tail:bQ}(h:RightAt w db k W H L pal cl d (c::r))(hD:Dst w db rb kb p d crc (qKn c.1 c.2 qs++tail))(hq:qs.length=4)(hqn:be4 qs 0≠jJ (c.1++c.2))(hk:k<15)(hW:1<=W/\W<=20)(hH:1<=H/\H<=20)(hok:yW (qE k).2 (qE k).1 pal cl)(F0:Fr [rb] w0 w)(hkb:hn w0<=kb):
  CallT Pg 60 #[.pointer (some ⟨db,0,none⟩),.bool false] w fun v w'=>Refuse 125 v/\Fr [rb] w0 w':=by
 have hne:=hD.ne;have hcb:=jT hk;have fr:∀{w':wQ},Fr [rb,kb,db] w w' ->Fr [rb] w0 w':=fun f=>F0.trans' f (fun x hx hlt=>by simp at hx⊢;omega);rcases h with⟨h0,hu,_,hr⟩|⟨h1,hu,hh,hr⟩|⟨h2,hC,hu,hh,hP,hr⟩|⟨_,_,_,_,hr⟩
 ·rw[vY]at hr
  obtain⟨rfl,rfl⟩:=List.cons.inj hr;exact CallT.mono (qLd hD hq hqn h0 oQ oQ hk) fun v w2 h=>⟨h.1,fr h.2⟩
 ·by_cases hC:(qE k).1=3
  ·rw[dW hok hC]at hr
   obtain⟨rfl,rfl⟩:=List.cons.inj hr;obtain⟨q1,q2,q3⟩:=hok.pal3 hC;exact CallT.mono (qLe hD hq hqn h1 hh.D_ (vO hk).1 (by rw[hh.cb_];have:=hcb.2.1 hC;omega) oQ oQ q3) fun v w2 h=>⟨h.1,fr h.2⟩
  ·rw[qCh hok hC]at hr
   by_cases hcl:0<cl.length
   ·rw[if_pos hcl]at hr
    obtain⟨rfl,rfl⟩:=List.cons.inj hr;have hl:=hok.cll.resolve_left (List.length_pos_iff.1 hcl);have h02:(qE k).1=0\/(qE k).1=2:=by
     by_cases h0:(qE k).1=0
     ·exact .inl h0
     ·by_cases h2:(qE k).1=2
      ·exact .inr h2
      ·exact absurd (hok.cl0 h0 h2) (List.length_pos_iff.1 hcl)
    have hcc:=qFj hk;refine CallT.mono (badCLR hD hq hqn h1 ?_) fun v w2 h=>⟨h.1,fr h.2⟩;rw[mE,hl,hh.cb_];rcases h02 with h0|h2
    ·refine .inl ⟨by rw[h0];rfl,?_⟩
     have:=hcc.1 h0;omega
    ·refine .inr ⟨by rw[h2];rfl,?_⟩
     have:=hcc.2 h2;omega
   ·rw[if_neg hcl]at hr
    cases hr
 ·by_cases ha:zG pal=true
  ·rw[if_pos ha]at hr
   obtain⟨rfl,rfl⟩:=List.cons.inj hr;obtain⟨q1,q2,q3⟩:=hok.pal3 hC;have hal:(xM pal).length=pal.length:=by simp[xM]
   obtain⟨g,hpal,hdg,hrow,hcl,hn256⟩:=hP;refine CallT.mono (qLf (al:=xM pal) hD hq hqn h2 (by rw[hh.cb_];have:=hcb.2.1 hC;omega) ⟨g,hpal,hdg,hrow,hcl,hn256⟩ (mN _ _) oQ oQ) ?_;rintro v w2 ⟨hv,hF⟩;have F:=hF g (by rw[hpal]);exact⟨hv,F0.trans' F (fun x hx hlt=>by simp at hx⊢;omega)⟩
  ·rw[if_neg ha]at hr
   cases hr
 ·cases hr
theorem badEnd{qs tail:bQ}(hA:Stp w0 w1 E db rb kb)(h:Dst w1 db rb kb p d crc (qKn xW [] qs++tail))(hq:qs.length=4)(hqn:be4 qs 0≠jJ xW)(hs:d.stage=4){C:Int ->Prop}(hC:C 1):
  CallT Pg 60 #[.pointer (some ⟨db,0,none⟩),.bool false] w1 fun v w2=>Fr [rb] w0 w2/\Bad E C v:=by
 obtain⟨h1,h2,h3,h4⟩:=qKo (nm:=xW) (d:=[]) (qs:=qs) (rest:=tail) rfl dQ;refine h.c60 oQ fun w3 tmp s F1 n1 D1=> ?_;rw[h2];have hnx:zT d xW= .call 80 5:=by
  unfold zT;rw[if_neg dQ,if_neg dQ,if_neg dQ,if_neg dQ,if_pos rfl,if_neg (by rw[hs];decide)]
 rw[hnx];dsimp only;intro hs5;subst hs5;rw[h1];rw[h2,h3,pI,List.nil_append]at D1;have hne:=h.ne;have hlow:=hA.errs.low;have hlo:=hA.lo;have hord:=hA.ord;refine CallT.mono (D1.c80 (len:=0) (hA.errs.fr F1 (by simp;omega)) hA.lo) ?_;rintro v w2 ⟨f2,n2,⟨rfl,_,_,hc,_⟩|⟨_,_,hf,_⟩⟩
 ·rw[vF oQ]at hc
  exact absurd hc hqn
 ·obtain⟨sv,rfl⟩:=hf (.inr (by rw[List.length_append];omega))
  exact⟨hA.fr (F1.trans f2),Bad.of125 hC⟩
theorem qKu{e qs tail:bQ}(he:e≠[])(hel:e.length<4294967296):∀(ds:List (bQ)) {c:Nat},c<4294967296 ->(∀d∈ds,d≠[]/\d.length<4294967296) ->Flow 0 c (xR c++(chs (xZ ds)++(qKn nIDAT e qs++tail))) (ds.flatten++e) (0,jJ (nIDAT++e),qs++tail)
 |[],c,hc,_ =>by
  have e1:xR c++(chs (xZ [])++(qKn nIDAT e qs++tail))=xR c++(xR e.length++(nIDAT++(e++(qs++tail)))):=by
   simp[chs,xZ,qKn]
  rw[e1];have b4:be4 (xR c++(xR e.length++(nIDAT++(e++(qs++tail))))) 4=e.length:=by
   rw[qIk,vF (by rw[xG];omega),vA hel]
  have hpos:0<e.length:=List.length_pos_iff.2 he;refine Flow.next (by rw[b4];exact hpos) (by simp only[List.length_append,xG];simp[nIDAT];omega) (by rw[vF (by rw[xG];omega),vA hc]) rfl ?_;rw[b4];show Flow e.length (yV 0 nIDAT) (e++_) _ _;rw[List.flatten_nil,List.nil_append,<-List.append_nil e];rw[List.append_nil e];have:=mF (d:=e) (c:=yV 0 nIDAT) (Flow.done 0 (yV (yV 0 nIDAT) e) (qs++tail));rw[List.append_nil,jK]at this;exact this
 |d::ds,c,hc,hd=>by
  obtain⟨hne,hlen⟩:=hd d sQ;have hcl:=jU (nIDAT++d);have h2:=qKu (qs:=qs) (tail:=tail) he hel ds (c:=jJ (nIDAT++d)) hcl (fun x hx=>hd x (by simp[hx]));have e1:xR c++(chs (xZ (d::ds))++(qKn nIDAT e qs++tail))=xR c++(xR d.length++(nIDAT++(d++(xR (jJ (nIDAT++d))++(chs (xZ ds)++(qKn nIDAT e qs++tail)))))):=by
   rw[show xZ (d::ds)=(nIDAT,d)::xZ ds from rfl,qZ];simp[qV]
  rw[e1];have b4:be4 (xR c++(xR d.length++(nIDAT++(d++(xR (jJ (nIDAT++d))++(chs (xZ ds)++(qKn nIDAT e qs++tail))))))) 4=d.length:=by
   rw[qIk,vF (by rw[xG];omega),vA hlen]
  have hpos:0<d.length:=List.length_pos_iff.2 hne;refine Flow.next (by rw[b4];exact hpos) (by simp only[List.length_append,xG];simp[nIDAT];omega) (by rw[vF (by rw[xG];omega),vA hc]) rfl ?_;rw[b4];show Flow d.length (yV 0 nIDAT) (d++_) _ _;rw[List.flatten_cons,List.append_assoc];refine mF ?_;rw[jK];exact h2
end
section
variable{w w' w0 w1 wB:wQ}{E:Er}{k W H D C:Nat}{L:Bool}{pal:List Px}{cl:List Nat}{fl xs zs d0:bQ}{dr:List (bQ)}{p q:pQ}{l c c':Nat}{cs ds es r:List Ch}{hd dd:bQ}{nm:bQ}{db rb kb crc:Nat}{d:Dec}{rs:bQ}
theorem qLg{t:Option Bool}{s:Nat×Nat×bQ}{e0 qs rest ys:bQ}(hq:qs.length=4)(hk:k<15)(hW:1<=W/\W<=20)(hH:1<=H/\H<=20)(hok:yW (qE k).2 (qE k).1 pal cl)(hA:Stp w0 w1 E db rb kb)(hR:RightAt w1 db k W H L pal cl d [])(hD:Dst w1 db rb kb p d crc (qKn nIDAT e0 qs++rest))(he0:e0.length<4294967296)
  (hF:Flow e0.length (yV 0 nIDAT) (e0++(qs++rest)) ys s)(hAt:cQ s)(hpre:ys<+:zs)(hor:ys=zs\/∃b,t=some b/\oN b s)(hs0:t=none ->s.1=0)(hZ:tE xs zs)(hxl:xs.length<32768):
  CallT Pg 60 #[.pointer (some ⟨db,0,none⟩),.bool false] w1 fun v w2=>Fr [rb] w0 w2/\
   ((v= .nilIface/\∃dd crc' rs',Dst w2 db rb kb p dd crc' (rs'.drop 4)/\dd.stage=4/\Flow 0 crc' rs' [] s/\4<=rs'.length/\be4 rs' 0=crc'/\(t=none ->GoodRows (if L then 1 else 0) W H (chN (qE k).1*(qE k).2) xs))\/
    (ErrD E v/\(t≠some false ->(∀crc rs,Flow 0 crc rs [] s ->4<=rs.length) ->∃sv,v= .iface 125 (.string sv))/\(t=none ->(∀crc rs,Flow 0 crc rs [] s ->4<=rs.length/\be4 rs 0=crc) ->¬GoodRows (if L then 1 else 0) W H (chN (qE k).1*(qE k).2) xs))):=by
 obtain⟨hh,hs,hp3,hut⟩:=hR.ready hok;obtain⟨bl,out,hS,hP,hzs⟩:=hZ;obtain⟨pt,IT,bpp,cp,hPK,hIT⟩:=pk_of hk d.useT hut;have hcb:=jT hk;have hd:Hd d (cbN (qE k).1 (qE k).2) (qE k).2 W H d.useT IT:=by
  refine⟨hh.W_,hh.H_,hh.D_,hh.cb_,rfl,fun e=> ?_,hW,hH⟩;obtain⟨_,n,cs,g,hpal,_,_,_,hn256⟩:=hp3 (hIT.1 e);rw[hpal];exact⟨rfl,hn256⟩
 obtain⟨h1,h2,h3,h4⟩:=qKo (nm:=nIDAT) (d:=e0) (qs:=qs) (rest:=rest) rfl he0;have hsp:d.stage=1 ->¬(7<=d.cb/\d.cb<=10):=fun e hc=>by
  have:=hh.cb_;exact(hp3 (hcb.2.2 oQ)).1 e
 refine hD.c60 oQ fun w3 tmp s' F1 n1 D1=> ?_;rw[h2];have hnx:zT d nIDAT= .idat:=by
  unfold zT;rw[if_neg dQ,if_neg dQ,if_neg dQ,if_pos rfl,if_neg oQ,if_neg (fun hc=>hsp hc.1 hc.2),if_neg oQ]
 rw[hnx];dsimp only;intro hs4;subst hs4;rw[if_neg dQ,h1];rw[h2,h3]at D1;have hne':=hD.ne;have hlow:=hA.errs.low;have hlo:=hA.lo;have hd1:Hd {d with tmp:=tmp,stage:=4} (cbN (qE k).1 (qE k).2) (qE k).2 W H d.useT IT:=⟨hd.W_,hd.H_,hd.D_,hd.cb_,hd.u_,hd.pal,hd.lW,hd.lH⟩;have hlace:d.lace=0\/d.lace=1:=by rw[hh.lace_];cases L<;>simp
 refine CallT.mono (D1.c79 (t:=t) (s:=s) (ys:=ys) hPK (hA.errs.fr F1 (by simp;omega)) hlo he0 hF hAt (by rw[<-hzs];exact hpre) (by rw[<-hzs];exact hor) hxl hS hP (hA.lace.fr F1 oQ (by simp;omega)) hd1 hlace hs0) ?_;rintro v w2 ⟨F2,n2,⟨ib,pb,ex,dd,crc',rs',rfl,hI,hQ,l1,l2,hsd,hD',hFl,c1,c2,hG⟩|⟨he,hf,hg⟩⟩
 ·refine⟨hA.fr (F1.trans F2),.inl ⟨rfl,dd,crc',rs',hD',?_,hFl,c1,c2,fun e=> ?_⟩⟩
  ·obtain⟨a,b,rfl⟩:=hsd
   rfl
  ·have:=hG e
   rw[show({d with tmp:=tmp,stage:=4}:Dec).lace=d.lace from rfl,hh.lace_]at this;exact this
 ·refine⟨hA.fr (F1.trans F2),.inr ⟨he,hf,fun e hall=> ?_⟩⟩
  have:=hg e hall;rw[show({d with tmp:=tmp,stage:=4}:Dec).lace=d.lace from rfl,hh.lace_]at this;exact this
theorem qLi{l c i:Nat}{ch:Ch}{qs file:bQ}(M:Made k W H L pal cl fl xs zs d0 dr)(hi:(xV k W H L pal cl d0 dr)[i]? =some ch)(hq:qs.length=4)(hqn:be4 qs 0≠jJ (ch.1++ch.2))(hV:Env w E)
  (hfile:file=sigL++(chs ((xV k W H L pal cl d0 dr).take i)++(qKn ch.1 ch.2 qs++chs ((xV k W H L pal cl d0 dr).drop (i+1)))))(hx:Has w q (bv file))(hl:l=file.length)(hlb:l<1099511627776):
  CallT Pg 29 #[.slice q l c,.int .i64 1] w fun v w'=>v= .bool true/\Fr [] w w':=by
 have hld:(xZ (d0::dr)).length=dr.length+1:=by simp[xZ]
 have eM:xV k W H L pal cl d0 dr=zK W H (qE k).2 (qE k).1 L pal cl++(xZ (d0::dr)++[(xW,[])]):=by unfold xV;rw[List.append_assoc]
 have hdl:∀x∈d0::dr,x≠[]/\x.length<4294967296:=by
  intro x hx';refine⟨M.ne x hx',?_⟩;have h1:x.length<=(d0::dr).flatten.length:=aI hx';have h2:=M.zlen;rw[M.flat]at h1;omega
 generalize hT:chs ((xV k W H L pal cl d0 dr).drop (i+1))=T at*;generalize hfo:zK W H (qE k).2 (qE k).1 L pal cl=fo at*
 by_cases h1:i<fo.length
 ·have et:(xV k W H L pal cl d0 dr).take i=fo.take i:=by rw[eM,List.take_append_of_le_length oQ]
  rw[eM,List.getElem?_append_left h1]at hi;obtain⟨hlt,he⟩:=List.getElem?_eq_some_iff.1 hi;have ed:fo.drop i=ch::fo.drop (i+1):=by rw[List.drop_eq_getElem_cons hlt,he]
  rw[et]at hfile;refine gP (a:=fo.take i) (r:=ch::fo.drop (i+1)) (bad:=qKn ch.1 ch.2 qs++T) hfile hx hl hlb hV (by rw[hfo,<-ed,List.take_append_drop]) M.hk M.hW M.hH M.ok (fun _ _ _ =>False) (fun{w0 w1 db rb kb p d crc} hA hD hR=> ?_) (fun _ _ h=>h.elim);exact CallT.mono (hR.badSum hD hq hqn M.hk M.hW M.hH M.ok hA.F0 hA.hkb) fun v w2 h=>⟨h.2,.inl (h.1.bad rfl)⟩
 ·obtain⟨j,rfl⟩:∃j,i=fo.length+j:=⟨i -fo.length,oQ⟩
  rw[eM,List.getElem?_append_right oQ,Nat.add_sub_cancel_left]at hi;have hb4:∀T:bQ,be4 (qs++T) 0=be4 qs 0:=fun T=>vF oQ
  by_cases hj:j<=dr.length
  ·rw[List.getElem?_append_left oQ]at hi
   obtain⟨e,hje,rfl⟩:∃e,(d0::dr)[j]? =some e/\(nIDAT,e)=ch:=by
    rw[xZ,List.getElem?_map]at hi
    cases hh:(d0::dr)[j]? with
    |none=>rw[hh]at hi;cases hi
    |some e=>rw[hh]at hi;exact⟨e,rfl,Option.some.inj hi⟩
   obtain⟨hlt,he⟩:=List.getElem?_eq_some_iff.1 hje;have hsp:(d0::dr)=(d0::dr).take j++(e::(d0::dr).drop (j+1)):=by rw[<-he,<-List.drop_eq_getElem_cons hlt,List.take_append_drop]
   have hmem:e∈d0::dr:=by rw[<-he];exact List.getElem_mem hlt
   have hdat:xZ (d0::dr)=xZ ((d0::dr).take j)++xZ ((d0::dr).drop j):=by rw[xZ,xZ,xZ,<-List.map_append,List.take_append_drop]
   have hltk:(xZ ((d0::dr).take j)).length=j:=by simp[xZ];omega
   have et:(xV k W H L pal cl d0 dr).take (fo.length+j)=fo++xZ ((d0::dr).take j):=by
    rw[eM,List.take_length_add_append,hdat,List.append_assoc,List.take_append_of_le_length oQ,List.take_of_length_le oQ]
   have hz:((d0::dr).take j).flatten++e<+:zs:=by
    rw[<-M.flat];refine⟨((d0::dr).drop (j+1)).flatten,?_⟩;have h:=congrArg List.flatten hsp;rw[List.flatten_append,List.flatten_cons]at h;rw[List.append_assoc];exact h.symm
   have hin:∀x∈(d0::dr).take j,x≠[]/\x.length<4294967296:=fun x hx'=>hdl x (List.mem_of_mem_take hx');rw[et]at hfile;generalize(d0::dr).take j=az at*;have hbs:oN true (0,jJ (nIDAT++e),qs++T):= .inr ⟨rfl,.inr (.inl ⟨rfl,by show 4<=(qs++T).length;rw[List.length_append];omega,by show be4 (qs++T) 0≠_;rw[hb4];exact hqn⟩)⟩;obtain⟨hne,hel⟩:=hdl e hmem;refine gP (a:=fo) (r:=[]) (bad:=chs (xZ az)++(qKn nIDAT e qs++T)) (by rw[hfile,xU];simp only[List.append_assoc]) hx hl hlb hV (by rw[hfo,List.append_nil]) M.hk M.hW M.hH M.ok (fun _ _ _ =>False) (fun{w0 w1 db rb kb p d crc} hA hD hR=> ?_) (fun _ _ h=>h.elim);have fin:∀v w2,(Fr [rb] w0 w2/\
   ((v= .nilIface/\∃dd crc' rs',Dst w2 db rb kb p dd crc' (rs'.drop 4)/\dd.stage=4/\Flow 0 crc' rs' [] (0,jJ (nIDAT++e),qs++T)/\4<=rs'.length/\be4 rs' 0=crc'/\(some true=none ->GoodRows (if L then 1 else 0) W H (chN (qE k).1*(qE k).2) xs))\/
    (ErrD E v/\(some true≠some false ->(∀crc rs,Flow 0 crc rs [] (0,jJ (nIDAT++e),qs++T) ->4<=rs.length) ->∃sv,v= .iface 125 (.string sv))/\(some true=none ->(∀crc rs,Flow 0 crc rs [] (0,jJ (nIDAT++e),qs++T) ->4<=rs.length/\be4 rs 0=crc) ->¬GoodRows (if L then 1 else 0) W H (chN (qE k).1*(qE k).2) xs)))) ->Fr [rb] w0 w2/\(Bad E (·=1) v\/(v= .nilIface/\∃d' crc' rs',Dst w2 db rb kb p d' crc' rs'/\rs'.length<(chs (xZ az)++(qKn nIDAT e qs++T)).length/\False)):=by
    rintro v w2 ⟨F,⟨_,dd',crc',rs',_,_,hFl,_,hc,_⟩|⟨_,hf,_⟩⟩
    ·obtain⟨rfl,rfl⟩:=lJ hFl
     rw[hb4]at hc;exact absurd hc hqn
    ·refine⟨F,.inl (wO (hf dQ fun crc rs hFl=> ?_) rfl)⟩
     obtain⟨rfl,rfl⟩:=lJ hFl;rw[List.length_append];omega
   cases az with
   |nil=>
    have hD':Dst w1 db rb kb p d crc (qKn nIDAT e qs++T):=by simpa [xZ,chs]using hD
    refine CallT.mono (qLg (t:=some true) (s:=(0,jJ (nIDAT++e),qs++T)) (ys:=e) hq M.hk M.hW M.hH M.ok hA hR hD' hel ?_ (.inl rfl) (by simpa using hz) (.inr ⟨true,rfl,hbs⟩) (fun e=>by cases e) M.zl M.xlen) fin;have:=mF (d:=e) (c:=yV 0 nIDAT) (Flow.done 0 (yV (yV 0 nIDAT) e) (qs++T));rw[List.append_nil,jK]at this;exact this
   |cons e0 er=>
    rw[show chs (xZ (e0::er))++(qKn nIDAT e qs++T)=qV nIDAT e0++(chs (xZ er)++(qKn nIDAT e qs++T)) by rw[show xZ (e0::er)=(nIDAT,e0)::xZ er from rfl,qZ,List.append_assoc]]at hD;refine CallT.mono (qGq (t:=some true) (s:=(0,jJ (nIDAT++e),qs++T)) (ys:=e0++(er.flatten++e)) M.hk M.hW M.hH M.ok hA hR hD (hin e0 sQ).2 ?_ (.inl rfl) ?_ (.inr ⟨true,rfl,hbs⟩) (fun e=>by cases e) M.zl M.xlen) fin
    ·refine mF ?_
     rw[jK];exact qKu hne hel er (jU _) (fun x hx'=>hin x (by simp[hx']))
    ·rw[<-List.append_assoc]
     exact hz
  ·have hjl:j<(xZ (d0::dr)++[(xW,[])]).length:=(List.getElem?_eq_some_iff.1 hi).1
   rw[List.length_append,List.length_singleton,hld]at hjl;obtain rfl:j=dr.length+1:=oQ;rw[List.getElem?_append_right oQ,hld,Nat.sub_self]at hi;obtain rfl:(xW,[])=ch:=Option.some.inj hi;have et:(xV k W H L pal cl d0 dr).take (fo.length+(dr.length+1))=fo++xZ (d0::dr):=by
    rw[eM,List.take_length_add_append,List.take_append_of_le_length oQ,List.take_of_length_le oQ]
   rw[et]at hfile;refine gP (a:=fo) (r:=[]) (bad:=chs (xZ (d0::dr))++(qKn xW [] qs++T)) (by rw[hfile,xU];simp only[List.append_assoc]) hx hl hlb hV (by rw[hfo,List.append_nil]) M.hk M.hW M.hH M.ok (fun d _ rs=>d.stage=4/\rs=qKn xW [] qs++T) (fun{w0 w1 db rb kb p d crc} hA hD hR=> ?_) (fun{w0 w1 db rb kb p d crc rs} hA hD hG=> ?_)
   ·refine CallT.mono (qFq M hA hR hD) ?_
    rintro v w2 ⟨F,rfl,d',crc',hD',h4⟩;exact⟨F,.inr ⟨rfl,d',crc',_,hD',by have:=qCa (d0:=d0) (dr:=dr);simp only[List.length_append];omega,h4,rfl⟩⟩
   ·obtain⟨h4,rfl⟩:=hG
    exact⟨oQ,badEnd (C:=(·=1)) hA hD hq (by rw[<-List.append_nil xW];exact hqn) h4 rfl⟩
end
def wp18(x0:Int)(x1:pQ)(x1l:Nat)(x1c:Nat)(x2:Int)(x3:Int)(R:vPq)(w:wQ):Prop:=IfC (decide ((x1l:Int)>(2147483647:Int))) (R (.bool true) w) (CallT Pg 22 #[.slice x1 x1l x1c] w fun s k=>∃l,And (s= .bool l) (IfC (!l) (R (.bool true) k) (CallT Pg 27 #[.int .u32 x0,.slice x1 x1l x1c] k fun t u=>∃b c j,And (t= .slice b c j) (CallT Pg 28 #[.slice b c j] u fun v y=>∃m,And (v= .bool m) (CallT Pg 26 #[.slice b c j] y fun z n=>∃o d A,And (z= .slice o d A) (zH (d:Int) (And (0<=Int.tmod (wIq x2) (d:Int)/\Int.tmod (wIq x2) (d:Int)<(d:Int)) (qN o fun B=>LdI n (qI B ((Int.tmod (wIq x2) (d:Int)).toNat) 1) .i64 fun a=>qO n fun i=>And (0<=a/\a<(c:Int)) (qN b fun C=>LdI i (qI C a.toNat 1) .u8 fun e=>ShC 24 (And (0<=wIq (a+1)/\wIq (a+1)<(c:Int)) (qN b fun D=>LdI i (qI D ((wIq (a+1)).toNat) 1) .u8 fun f=>ShC 16 (And (0<=wIq (a+2)/\wIq (a+2)<(c:Int)) (qN b fun E=>LdI i (qI E ((wIq (a+2)).toNat) 1) .u8 fun g=>ShC 8 (And (0<=wIq (a+3)/\wIq (a+3)<(c:Int)) (qN b fun F=>LdI i (qI F ((wIq (a+3)).toNat) 1) .u8 fun h=>zH 32 (qO i fun p=>zH 8 (And (0<=wIq ((wIq ((wIq (a+8))+(bOr .i64 (bOr .i64 (bOr .i64 (xP .i64 (wIq e) 24) (xP .i64 (wIq f) 16)) (xP .i64 (wIq g) 8)) (wIq h))))+(wIq (Int.tdiv (Int.tmod (wIq x3) (32:Int)) 8)))/\wIq ((wIq ((wIq (a+8))+(bOr .i64 (bOr .i64 (bOr .i64 (xP .i64 (wIq e) 24) (xP .i64 (wIq f) 16)) (xP .i64 (wIq g) 8)) (wIq h))))+(wIq (Int.tdiv (Int.tmod (wIq x3) (32:Int)) 8)))<(c:Int)) (qN b fun G=>LdI p (qI G ((wIq ((wIq ((wIq (a+8))+(bOr .i64 (bOr .i64 (bOr .i64 (xP .i64 (wIq e) 24) (xP .i64 (wIq f) 16)) (xP .i64 (wIq g) 8)) (wIq h))))+(wIq (Int.tdiv (Int.tmod (wIq x3) (32:Int)) 8)))).toNat) 1) .u8 fun H=>zH 8 (ShC (Int.tmod (Int.tmod (wIq x3) (32:Int)) 8) (And (0<=wIq ((wIq ((wIq (a+8))+(bOr .i64 (bOr .i64 (bOr .i64 (xP .i64 (wIq e) 24) (xP .i64 (wIq f) 16)) (xP .i64 (wIq g) 8)) (wIq h))))+(wIq (Int.tdiv (Int.tmod (wIq x3) (32:Int)) 8)))/\wIq ((wIq ((wIq (a+8))+(bOr .i64 (bOr .i64 (bOr .i64 (xP .i64 (wIq e) 24) (xP .i64 (wIq f) 16)) (xP .i64 (wIq g) 8)) (wIq h))))+(wIq (Int.tdiv (Int.tmod (wIq x3) (32:Int)) 8)))<(c:Int)) (qN b fun I=>qB p (qI I ((wIq ((wIq ((wIq (a+8))+(bOr .i64 (bOr .i64 (bOr .i64 (xP .i64 (wIq e) 24) (xP .i64 (wIq f) 16)) (xP .i64 (wIq g) 8)) (wIq h))))+(wIq (Int.tdiv (Int.tmod (wIq x3) (32:Int)) 8)))).toNat) 1) (.int .u8 (uP .u8 H (xP .u8 (1:Int) (Int.tmod (Int.tmod (wIq x3) (32:Int)) 8)))) fun q=>IfC m (CallT Pg 29 #[.slice b c j,iQq 1] q fun J K=>∃r,And (J= .bool r) (R (.bool r) K)) (R (.bool false) q))))))))))))))))))))))
theorem call18{x0:Int}{x1:pQ}{x1l:Nat}{x1c:Nat}{x2:Int}{x3:Int}{R:vPq}{w:wQ}(h:wp18 x0 x1 x1l x1c x2 x3 R w):CallT Pg 18 #[.int .u32 x0,.slice x1 x1l x1c,.int .u8 x2,.int .u16 x3] w R:=cVq [] Tryz.func18 h
section
variable{w w':wQ}{E:Er}{p q:pQ}{l c:Nat}
theorem qKx{xs:bQ}{x:UInt8}{j:Nat}(hl:xs.length=4)(hj:j<4)(hx:x.toNat≠gb xs j):be4 (xs.set j x) 0≠be4 xs 0:=by
 have hg:=nL xs j x oQ;have h0:=yD xs 0;have h1:=yD xs 1;have h2:=yD xs 2;have h3:=yD xs 3;have hx8:x.toNat<256:=x.toNat_lt;unfold be4;rw[hg,hg,hg,hg];obtain rfl|rfl|rfl|rfl:=(by omega:j=0\/j=1\/j=2\/j=3)<;>simp<;>omega
theorem qKt{r:List Ch}{ch:Ch}:∀{a:List Ch} {at_ :Nat},kA a ->(gI at_ (a++ch::r))[a.length]? =some (at_ +(chs a).length)
 |[],at_,_ =>by simp[gI,chs]
 |x::a,at_,h=>by
  have hc:=xA (data:=x.2) (h x sQ).1;have:=qKt (r:=r) (ch:=ch) (a:=a) (at_ :=at_ +12+x.2.length) (fun y hy=>h y (by simp[hy]));rw[List.cons_append,gI,List.length_cons,List.getElem?_cons_succ,this,qZ,List.length_append,hc]
  congr 1
  omega
theorem qLh{a b c d:Nat}(ha:a<256)(hb:b<256)(hc:c<256)(hd:d<256):bOr .i64 (bOr .i64 (bOr .i64 (xP .i64 (wrap .i64 (a:Int)) 24) (xP .i64 (wrap .i64 (b:Int)) 16)) (xP .i64 (wrap .i64 (c:Int)) 8)) (wrap .i64 (d:Int))=((a*16777216+b*65536+c*256+d:Nat):Int):=by
 simp (disch:=omega) only[qA,tP,Int.reduceToNat,Int.reducePow,or24_i64,or16_i64,or8_i64];omega
theorem c18{n m t:Nat}(hn32:n<4294967296)(hm:m<256)(ht:t<65536){ss:List Nat}(hx:HasW w p (ss.map fun(s:Nat)=> .int .u16 (s:Int)))(hl:l=ss.length)(hV:Env w E):CallT Pg 18 #[.int .u32 n,.slice p l c,.int .u8 m,.int .u16 t] w fun v w'=>v= .bool true/\Fr [] w w':=by
 apply call18;unfold wp18 wIq iQq;refine kZ (R:=fun v w'=>v= .bool true/\Fr [] w w') ⟨rfl,Fr.refl _ _⟩ fun hb=> ?_;refine qDx hn32 hx hl hb hV fun{W H L pal cl fl xs zs d0 dr} M p1 l1 c1 w1 F1 ho hl1=> ?_;obtain⟨hokc,hlb⟩:=M.okc;have hT:=fun{q:pQ} {l c i:Nat} {ch:Ch} {qs file:bQ} {w:wQ}=>qLi (w:=w) (E:=E) (q:=q) (l:=l) (c:=c) (i:=i) (ch:=ch) (qs:=qs) (file:=file) M;have hcl:0<(xV (n%15) W H L pal cl d0 dr).length:=by unfold xV;rw[List.length_append,List.length_singleton];omega
 generalize xV (n%15) W H L pal cl d0 dr=cs at*;refine CallT.mono (c26 ho.has hl1 oQ hokc) ?_;rintro _ w2 ⟨f2,p2,c2,rfl,ho2⟩;have hcsl:cs.length<1099511627776:=by
  have h1:(qU cs).length=8+(chs cs).length:=by rw[qU,List.length_append,yB]
  have h2:=yN hokc;omega
 refine⟨_,_,_,rfl,xF oQ ?_⟩;have hi:m%cs.length<cs.length:=Nat.mod_lt _ hcl;rw[qA oQ oQ,xQ];generalize m%cs.length=i at*;obtain⟨ch,hch⟩:∃ch,cs[i]? =some ch:=⟨_,List.getElem?_eq_getElem hi⟩;have hsp:cs=cs.take i++(ch::cs.drop (i+1)):=by
  obtain⟨_,e⟩:=List.getElem?_eq_some_iff.1 hch;rw[<-e,<-List.drop_eq_getElem_cons hi,List.take_append_drop]
 obtain⟨hn4,hdl⟩:=hokc ch (by rw[hsp];simp);have hok1:kA (cs.take i):=fun y hy=>hokc y (List.mem_of_mem_take hy);have hbe:=bX (a:=cs.take i) (r:=cs.drop (i+1)) hdl;have hpl:=qKt (r:=cs.drop (i+1)) (ch:=ch) (at_ :=8) hok1;rw[<-hsp]at hbe hpl;rw[List.length_take,Nat.min_eq_left oQ]at hpl;have efb:qU cs=(sigL++(chs (cs.take i)++(xR ch.2.length++(ch.1++ch.2))))++(xR (jJ (ch.1++ch.2))++chs (cs.drop (i+1))):=by
  refine(congrArg qU hsp).trans ?_;rw[qU,xU,qZ,qKz,qKn];simp only[List.append_assoc]
 have hpre:(sigL++(chs (cs.take i)++(xR ch.2.length++(ch.1++ch.2)))).length=8+(chs (cs.take i)).length+8+ch.2.length:=by
  simp only[List.length_append,yB,xG,hn4];omega
 have hfl:(qU cs).length=8+(chs (cs.take i)).length+8+ch.2.length+(4+(chs (cs.drop (i+1))).length):=by
  rw[efb,List.length_append,hpre,List.length_append,xG]
 refine IdxI (n:=((8+(chs (cs.take i)).length:Nat):Int)) ho2.has oQ oQ (by rw[Int.toNat_natCast,iv,List.getElem?_map,hpl];rfl) ?_;generalize hP:8+(chs (cs.take i)).length=P at*;refine qH fun w3 f3 n3=> ?_;have F3:Fr [] w w3:=(F1.trans f2).trans f3;have ho3:=(ho.fr0 f2).fr0 f3;have hff:sigL++(chs (cs.take i)++(xR ch.2.length++(ch.1++ch.2)))=sigL++(chs (cs.take i)++(xR ch.2.length++(ch.1++ch.2))):=rfl;generalize hfb:qU cs=fb at*;refine gM ho3.has hl1 oQ oQ ?_;rw[bI dQ];have e1:wrap .i64 ((P:Int)+(1:Int))=((P+1:Nat):Int):=by rw[qA oQ oQ];omega
 have e2:wrap .i64 ((P:Int)+(2:Int))=((P+2:Nat):Int):=by rw[qA oQ oQ];omega
 have e3:wrap .i64 ((P:Int)+(3:Int))=((P+3:Nat):Int):=by rw[qA oQ oQ];omega
 have e8:wrap .i64 ((P:Int)+(8:Int))=((P+8:Nat):Int):=by rw[qA oQ oQ];omega
 rw[e1,e2,e3,e8];refine gM ho3.has hl1 oQ oQ ?_;rw[bI dQ];refine gM ho3.has hl1 oQ oQ ?_;rw[bI dQ];refine gM ho3.has hl1 oQ oQ ?_;simp only[Int.toNat_natCast];have eS:bOr .i64 (bOr .i64 (bOr .i64 (xP .i64 (wrap .i64 (gb fb P:Int)) 24) (xP .i64 (wrap .i64 (gb fb (P+1):Int)) 16)) (xP .i64 (wrap .i64 (gb fb (P+2):Int)) 8)) (wrap .i64 (gb fb (P+3):Int))=((ch.2.length:Nat):Int):=by
  rw[qLh (yD _ _) (yD _ _) (yD _ _) (yD _ _),<-hbe]
  rfl
 rw[eS];have eT:Int.tmod (wrap .i64 (t:Int)) (32:Int)=((t%32:Nat):Int):=by rw[qA oQ oQ];exact xQ t 32
 rw[eT];have hk:t%32<32:=Nat.mod_lt _ dQ;generalize t%32=k at*;rw[show Int.tdiv (k:Int) (8:Int)=((k/8:Nat):Int)from vR k 8,show Int.tmod (k:Int) (8:Int)=((k%8:Nat):Int)from xQ k 8];have hj:k/8<4:=oQ;have hs:k%8<8:=Nat.mod_lt _ dQ;generalize k/8=j at*;generalize k%8=s at*;have eQ:wrap .i64 (wrap .i64 (((P+8:Nat):Int)+((ch.2.length:Nat):Int))+wrap .i64 (j:Int))=((P+8+ch.2.length+j:Nat):Int):=by
  rw[qA (n:=(j:Int)) oQ oQ,qA (n:=((P+8:Nat):Int)+((ch.2.length:Nat):Int)) oQ oQ,qA oQ oQ];omega
 rw[eQ];refine xF dQ (qH fun w4 f4 n4=>xF dQ ?_);have F4:=F3.trans f4;have ho4:=ho3.fr0 f4;refine gM ho4.has hl1 oQ oQ ?_;rw[Int.toNat_natCast];refine xF dQ ?_;rw[bI oQ];refine⟨⟨oQ,oQ⟩,?_⟩;have hgq:gb fb (P+8+ch.2.length+j)=gb (xR (jJ (ch.1++ch.2))) j:=by
  rw[efb,<-hpre,vH,yH (by rw[xG];exact hj)]
 have h2:(2:Nat)^s<256:=Nat.pow_lt_pow_right dQ (show s<8 from hs);have h2p:0<(2:Nat)^s:=Nat.pow_pos dQ;have hgb:=yD fb (P+8+ch.2.length+j);have hz:gb fb (P+8+ch.2.length+j)^^^2^s<256:=Nat.xor_lt_two_pow (n:=8) hgb h2;have ey:Value.int .u8 (uP .u8 (gb fb (P+8+ch.2.length+j):Int) (xP .u8 (1:Int) (s:Int)))=u8v (UInt8.ofNat (gb fb (P+8+ch.2.length+j)^^^2^s)):=by
  have e2:(1:Int)*2^s=((2^s:Nat):Int):=by rw[Int.one_mul];norm_cast
  rw[shl_u8 oQ oQ,Int.toNat_natCast,e2,uT oQ oQ,qBh oQ oQ oQ oQ];simp only[Int.toNat_natCast,u8v,UInt8.toNat_ofNat'];rw[Nat.mod_eq_of_lt (show _ <2^8 from hz)]
 rw[ey];refine cS F4 ho4 oQ fun w5 F5 f5 ho5=> ?_;rw[mC]at ho5;have hxt:(UInt8.ofNat (gb fb (P+8+ch.2.length+j)^^^2^s)).toNat=gb (xR (jJ (ch.1++ch.2))) j^^^2^s:=by
  rw[UInt8.toNat_ofNat',Nat.mod_eq_of_lt (show _ <2^8 from hz),hgq]
 generalize UInt8.ofNat (gb fb (P+8+ch.2.length+j)^^^2^s)=x at*;have hset:fb.set (P+8+ch.2.length+j) x=sigL++(chs (cs.take i)++(qKn ch.1 ch.2 ((xR (jJ (ch.1++ch.2))).set j x)++chs (cs.drop (i+1)))):=by
  rw[efb,List.set_append_right _ _ oQ,hpre,Nat.add_sub_cancel_left,List.set_append_left _ _ (by rw[xG];exact hj),qKn];simp only[List.append_assoc]
 have hqn:be4 ((xR (jJ (ch.1++ch.2))).set j x) 0≠jJ (ch.1++ch.2):=by
  have h:=qKx (x:=x) (xG (jJ (ch.1++ch.2))) hj (by rw[hxt];exact qLc oQ);rw[vA (jU _)]at h;exact h
 refine xC (CallT.mono (hT hch (by rw[List.length_set,xG]) hqn (hV.fr0 F5) hset ho5.has (by rw[List.length_set];exact hl1) oQ) ?_);rintro _ w6 ⟨rfl,f6⟩;exact⟨_,rfl,rfl,F5.trans f6⟩
end
end Go.Proofs
