/- Contracts of the law and of what it walks -/
import Derived.Test.YtklagmhonmbdgaaGreatDoorK4
set_option maxRecDepth 1000000
set_option linter.unusedVariables false
set_option linter.unusedSimpArgs false
set_option maxHeartbeats 4000000
namespace Go.Proofs
open Go Go.V
open Go.IntKind (wrap)
section
variable{w w' w0:wQ}{rb db kb crc k W H:Nat}{L:Bool}{p:pQ}{E:Er}{pal:List Px}{cl:List Nat}{d:Dec}
structure Env (w:wQ) (E:Er):Prop where
 tab:Tab w
 errs:Errs w E
 lo:E.n0<=hn w
 lace:LaceAt w E.n0
 ety:ETyp w
theorem Env.fr0(h:Env w E)(f:Fr [] w w'):Env w' E:=⟨h.tab.fr f sQ,h.errs.fr f sQ,Nat.le_trans h.lo f.size,h.lace.fr f (by have:=h.errs.low;omega) sQ,h.ety.fr0 f⟩
end
section
variable{w w0 w1 w2:wQ}{rb db kb crc k W H:Nat}{L:Bool}{p q:pQ}{E:Er}{pal:List Px}{cl:List Nat}{d:Dec}
end
section
variable{w w' w0:wQ}{E:Er}{Q Q':Nat ->Prop}
theorem c30n{b o l c:Nat}{cs:List Ch}(hx:Has w (some ⟨b,o,none⟩) (bv (qU cs)))(hl:l=(qU cs).length)(hb:l<1099511627776)(hlc:l<=c)(hok:kA cs):
  CallT Pg 30 #[.slice (some ⟨b,o,none⟩) l c] w fun v w'=>∃vs,PcHas (·=b) w' vs cs/\RetR 53 2 w cs.length vs v w':=by
 apply call30;unfold wp30 wIq iQq;rw[zI];have hblt:b<hn w:=by obtain⟨_,T,arr,h1,_⟩:=hx;exact zR h1
 refine qP (fun z w'=>Fr [] w w'/\∃a r vs,cs=a++r/\z.2.1=((8+(chs a).length:Nat):Int)/\z.1.len=a.length/\PcHas (·=b) w' vs a/\Own w' (hn w) 53 2 z.1.a z.1.len z.1.cap vs)
  (fun z _ =>l+1 -z.2.1.toNat) ⟨Fr.alloc _ _ _,[],cs,[],rfl,by simp[chs],rfl,trivial,Own.new (w:=w) (e:=53) (size:=2) (cs:= #[]) (l:=0) (Nat.le_refl _) sQ⟩ ?_
 rintro⟨⟨q,n,m⟩,k,⟨⟩⟩ w1 ⟨hf,a,r,vs,rfl,rfl,rfl,hpc,ho⟩;simp only at ho;have hlen:l=8+(chs a).length+(chs r).length:=by rw[hl];simp[qU,sigL,xU];omega
 have ha:=yN (rC hok);have hr:=yN (mM hok);refine qG (fun h=> ?_) (fun h=> ?_)
 ·simp only at h
  rw[qA oQ oQ]at h
  cases r with
  |nil=>simp only[vJ,List.length_nil]at hlen;omega
  |cons ch r=>
   obtain⟨h4,hd⟩:=hok ch sQ;have hcl:=xA (data:=ch.2) h4;simp only[qZ,List.length_append]at hlen;dsimp only;refine CallT.mono (c46 (hx.fr0 hf) hl oQ oQ oQ) ?_;rintro _ _ ⟨rfl,rfl⟩;rw[Int.toNat_natCast,bX hd];refine⟨_,rfl,?_⟩;rw[zY];have hf2:=hf.drewR.drewR;have hx2:=hx.fr0 hf2;have e0:bv (qU (a++ch::r))=bv (sigL++chs a++xR ch.2.length)++(bv ch.1++bv (ch.2++xR (jJ (ch.1++ch.2))++chs r)):=by
    rw[lI,<-bv_append,<-bv_append];simp[qV]
   have e1:bv (qU (a++ch::r))=bv (sigL++chs a++xR ch.2.length++ch.1)++(bv ch.2++bv (xR (jJ (ch.1++ch.2))++chs r)):=by
    rw[lI,<-bv_append,<-bv_append];simp[qV]
   have hx3:=hx2;rw[e0]at hx2;rw[e1]at hx3;have g0:=Has.sub hx2;have g1:=Has.sub hx3;simp only[bv_length,List.length_append,xG,h4]at g0 g1;have es:sigL.length=8:=rfl;simp only[es]at g0 g1;simp (disch:=omega) only[qA];have t1:((((8+(chs a).length:Nat):Int)+4).toNat)=8+(chs a).length+4:=oQ;have t2:((((8+(chs a).length:Nat):Int)+8).toNat)=8+(chs a).length+4+4:=oQ;have t3:((((8+(chs a).length:Nat):Int)+8+(ch.2.length:Int)).toNat)=8+(chs a).length+4+4+ch.2.length:=oQ;simp only[t1,t2,t3];rw[slAdd_one _ _ _ _ oQ,slAdd_one _ _ _ _ oQ];refine⟨⟨oQ,oQ⟩,⟨oQ,oQ⟩,⟨oQ,oQ⟩,⟨oQ,oQ⟩,?_⟩;refine rX (xs:=ch.1) g0 oQ ?_;refine tD ok50 hf2 ((ho.fr0 (Fr.drew _ _)).fr0 (Fr.drew _ _)) sQ (by simp[Value.oneCell']) oQ ?_;intro q' m' w3 hf3 hf3' ho3;have hq:∀b',b'=b ->b'∉xD q:=by
    intro b' e hmem;have:=ho.blk _ hmem;omega
   refine⟨⟨hf3,a++[ch],r,_,sQ,?_,sQ,?_,ho3⟩,oQ⟩
   ·simp only[xU,qZ,vJ,List.length_append,List.append_nil,hcl];omega
   ·refine PcHas.snoc (g1.fr hf3' ?_) oQ sQ (by intro a ha;cases ha;rfl) (((hpc.fr (Fr.drew [] _) sQ).fr (Fr.drew [] _) sQ).fr hf3' hq)
    intro a' ha';cases ha';exact hq _ rfl
 ·simp only at h
  rw[qA oQ oQ]at h
  cases r with
  |cons ch r=>
   exfalso
   obtain⟨h4,hd⟩:=hok ch sQ;have hcl:=xA (data:=ch.2) h4;simp only[qZ,List.length_append]at hlen;omega
  |nil=>exact⟨vs,by simpa using hpc,hf,q,m,sQ,by simpa using ho⟩
theorem PcHas.drop:∀{n:Nat} {vs:List Value} {cs:List Ch},PcHas Q w vs cs ->PcHas Q w (vs.drop (n*2)) (cs.drop n)
 |0,vs,cs,h=>by simpa using h
 |n+1,[],[],h=>by simpa using h
 |n+1,.string _ :: .slice _ _ _ ::r,_ ::cs,⟨_,_,_,_,_,h6⟩=>by
  have:=PcHas.drop (n:=n) h6;rw[show(n+1)*2=n*2+1+1 by omega]
  simpa using this
theorem Own.from{base e size n l c:Nat}{p:pQ}{vs:List Value}(h:Own w base e size p l c vs)(hn:n<l):Has w (qR p c n size) (vs.drop (n*size)):=by
 obtain⟨hl,⟨_,h0,_⟩|⟨g,arr,rfl,hb,hg,hlc,hsz,hx⟩⟩:=h
 ·omega
 ·unfold qR
  rw[if_neg oQ];show Has w (some ((⟨g,0,none⟩:Addr).add (n*size))) _;rw[yP,Nat.zero_add];refine⟨rfl,e,arr,hg,fun j v hj=> ?_⟩;rw[List.getElem?_drop]at hj;exact hx _ _ hj
structure Made (k W H:Nat) (L:Bool) (pal:List Px) (cl:List Nat) (fl xs zs d0:bQ) (dr:List (bQ)):Prop where
 hk:k<15
 hW:1<=W/\W<=20
 hH:1<=H/\H<=20
 ok:yW (qE k).2 (qE k).1 pal cl
 rows:RowsOf (mH W H (qE k).2 (qE k).1 L) (gF fl) xs
 zl:tE xs zs
 flat:(d0::dr).flatten=zs
 ne:∀x∈d0::dr,x≠[]
 zlen:zs.length<=2097152
 xlen:xs.length<32768
def xV(k W H:Nat)(L:Bool)(pal:List Px)(cl:List Nat)(d0:bQ)(dr:List (bQ)):List Ch:=zK W H (qE k).2 (qE k).1 L pal cl++xZ (d0::dr)++[(xW,[])]
section
variable{k W H:Nat}{L:Bool}{pal:List Px}{cl:List Nat}{fl xs zs d0:bQ}{dr:List (bQ)}
theorem Made.okc(M:Made k W H L pal cl fl xs zs d0 dr):kA (xV k W H L pal cl d0 dr)/\(qU (xV k W H L pal cl d0 dr)).length<1099511627776:=by
 have hzp:0<zs.length:=by
  obtain⟨_,_,_,_,hz⟩:=M.zl;rw[hz];simp
 obtain⟨_,h1,h2,_⟩:=nJ (W:=W) (H:=H) (L:=L) M.hk M.ok hzp M.zlen M.flat M.ne;exact⟨h1,h2⟩
theorem Made.whole{q:pQ}{l c:Nat}{file:bQ}(M:Made k W H L pal cl fl xs zs d0 dr)(hV:Env w E)(hf:file=qU (xV k W H L pal cl d0 dr))(hx:Has w q (bv file))(hl:l=file.length):CallT Pg 28 #[.slice q l c] w fun v w'=>v= .bool true/\Fr [] w w':=
 qCy hf hx hl (by rw[hl,hf];exact M.okc.2) hV.tab hV.errs hV.lo hV.lace hV.ety M.hk M.hW M.hH M.ok M.rows M.zl M.flat M.ne M.zlen M.xlen
end
theorem nU{k W H:Nat}{L:Bool}{pal:List Px}{cl:List Nat}{v:Value}(hk:k<15)(hW:1<=W/\W<=20)(hH:1<=H/\H<=20)(hok:yW (qE k).2 (qE k).1 pal cl)(hF:oR w0 W H (qE k).2 (qE k).1 L pal cl v w):
  ∃fl xs zs d0 dr,Made k W H L pal cl fl xs zs d0 dr/\dL w0 (qU (xV k W H L pal cl d0 dr)) v w:=by
 obtain⟨fs,xs,zs,ds,_,hrows,hZ,hds,hne,hzl,hR⟩:=hF;have hD16:(qE k).2<=16:=by have:=(vO hk).1;omega
 cases ds with
 |nil=>
  obtain⟨bl,out,_,_,hz⟩:=hZ;rw[hz]at hds;simp at hds
 |cons d0 dr=>exact⟨fs,xs,zs,d0,dr,⟨hk,hW,hH,hok,hrows,hZ,hds,hne,hzl,aS hrows hW.2 hH.2 hD16⟩,hR⟩
def Pcs(w0 w:wQ)(p:pQ)(l c:Nat)(cs:List Ch):Prop:=∃b vs,Own w (hn w0) 53 2 p l c vs/\PcHas (·=b) w vs cs/\l=cs.length/\hn w0<=b/\b<hn w/\∀x∈xD p,b<x
theorem qDn{p:pQ}{base l c:Nat}{cs:List Ch}(h:Own w base 5 1 p l c (bv (qU cs)))(hl:l=(qU cs).length):∃b,p=some ⟨b,0,none⟩/\l<=c/\base<=b/\b<hn w:=by
 obtain⟨b,rfl,h1⟩:=pW h (by rw[hl];simp[qU,yB];omega);have:=h.at rfl;exact⟨b,rfl,h1,this.2.2.1,this.2.2.2⟩
theorem qBz{k W H:Nat}{L:Bool}{pal:List Px}{cl:List Nat}{fl xs zs d0:bQ}{dr:List (bQ)}{p:pQ}{l c:Nat}(M:Made k W H L pal cl fl xs zs d0 dr)(F:Fr [] w0 w)(h:Own w (hn w0) 5 1 p l c (bv (qU (xV k W H L pal cl d0 dr))))(hl:l=(qU (xV k W H L pal cl d0 dr)).length)
  {K:pQ ->Nat ->Nat ->World ->Prop}(hK:∀p l c w',Fr [] w0 w' ->Fr [] w w' ->Pcs w0 w' p l c (xV k W H L pal cl d0 dr) ->K p l c w'):
  CallT Pg 30 #[.slice p l c] w fun v w'=>Exists fun p':pQ=>Exists fun l':Nat=>Exists fun c':Nat=>And (v= .slice p' l' c') (K p' l' c' w'):=by
 obtain⟨b,rfl,hlc,hb0,hb1⟩:=qDn h hl;refine CallT.mono (c30n h.has hl (by rw[hl];exact M.okc.2) hlc M.okc.1) ?_;rintro v w' ⟨vs,hpc,f,q,c',rfl,ho⟩;refine⟨_,_,_,rfl,hK _ _ _ _ (F.trans f) f ⟨b,vs,ho.base_le F.size,hpc,rfl,hb0,Nat.lt_of_lt_of_le hb1 f.size,fun x hx=> ?_⟩⟩;have:=(ho.blk x hx).1;omega
theorem Pcs.glue{p:pQ}{l c:Nat}{cs:List Ch}(h:Pcs w0 w p l c cs)(hok:kA cs)(hb:(qU cs).length<1099511627776):CallT Pg 31 #[.slice p l c] w (dL w (qU cs)):=by
 obtain⟨b,vs,ho,hpc,hl,_,hb1,_⟩:=h;exact c31 ho.has hpc (fun x hx=>by have:x=b:=hx;omega) hl hb hok
theorem uA{k W H:Nat}{L:Bool}{pal:List Px}{cl:List Nat}{fl xs zs d0:bQ}{dr:List (bQ)}{p:pQ}{l c:Nat}(M:Made k W H L pal cl fl xs zs d0 dr)(hV:Env w0 E)(F:Fr [] w0 w)(h:Pcs w0 w p l c (xV k W H L pal cl d0 dr))
  {K:Bool ->World ->Prop}(hK:∀w',Fr [] w0 w' ->Fr [] w w' ->K true w'):
  CallT Pg 31 #[.slice p l c] w fun v w1=>Exists fun p':pQ=>Exists fun l':Nat=>Exists fun c':Nat=>And (v= .slice p' l' c') (CallT Pg 28 #[.slice p' l' c'] w1 fun v' w2=>Exists fun b:Bool=>And (v'= .bool b) (K b w2)):=by
 refine CallT.mono (h.glue M.okc.1 M.okc.2) ?_;rintro v w1 ⟨f,q,c',rfl,ho⟩;refine⟨_,_,_,rfl,CallT.mono (M.whole (hV.fr0 (F.trans f)) rfl ho.has rfl) ?_⟩;rintro v w2 ⟨rfl,f2⟩;exact⟨_,rfl,hK w2 ((F.trans f).trans f2) (f.trans f2)⟩
theorem lN{p:pQ}{l c:Nat}{vs:List Value}{cs:List Ch}{code:Int}(hV:Env w0 E)(F:Fr [] w0 w)(hp:Has w p vs)(hpc:PcHas Q w vs cs)(hQ:∀b,Q b ->b<hn w)(hl:l=cs.length)(hok:kA cs)(hb:(qU cs).length<1099511627776)
  (ht:∀{w1:wQ} {q:pQ} {c:Nat},Env w1 E ->Has w1 q (bv (qU cs)) ->CallT Pg 29 #[.slice q (qU cs).length c,.int .i64 code] w1 fun v w'=>v= .bool true/\Fr [] w1 w')
  {K:Bool ->World ->Prop}(hK:∀w',Fr [] w0 w' ->K true w'):
  CallT Pg 31 #[.slice p l c] w fun v w1=>Exists fun p':pQ=>Exists fun l':Nat=>Exists fun c':Nat=>And (v= .slice p' l' c') (CallT Pg 29 #[.slice p' l' c',.int .i64 code] w1 fun v' w2=>Exists fun b:Bool=>And (v'= .bool b) (K b w2)):=by
 refine CallT.mono (c31 hp hpc hQ hl hb hok) ?_;rintro v w1 ⟨f,q,c',rfl,ho⟩;refine⟨_,_,_,rfl,CallT.mono (ht (hV.fr0 (F.trans f)) ho.has) ?_⟩;rintro v w2 ⟨rfl,f2⟩;exact⟨_,rfl,hK w2 ((F.trans f).trans f2)⟩
theorem kZ{p:pQ}{l c:Nat}{R:vPq}{X:World ->Prop}(hR:R (.bool true) w)(hX:l<=1000 ->X w):
  IfC (decide ((l:Int)>(2147483647:Int))) (R (.bool true) w) (CallT Pg 22 #[.slice p l c] w fun v w2=>Exists fun b:Bool=>And (v= .bool b) (IfC (!b) (R (.bool true) w2) (X w2))):=by
 refine qG (fun _ =>hR) (fun _ =>CallT.mono c22 ?_);rintro v w2 ⟨rfl,rfl⟩;refine⟨_,rfl,?_⟩
 by_cases h:l<=1000
 ·rw[decide_eq_true h];exact hX h
 ·rw[decide_eq_false h];exact hR
theorem gH{n:Nat}(hn32:n<4294967296){p:pQ}{l c:Nat}{ss:List Nat}(hx:HasW w p (ss.map fun(s:Nat)=> .int .u16 (s:Int)))(hl:l=ss.length)(hb:l<=1000){K:pQ ->Nat ->Nat ->World ->Prop}
  (hK:∀{W H:Nat} {L:Bool} {pal:List Px} {cl:List Nat} {fl xs zs d0:bQ} {dr:List (bQ)},Made (n%15) W H L pal cl fl xs zs d0 dr ->∀p l c w',Fr [] w w' ->Pcs w w' p l c (xV (n%15) W H L pal cl d0 dr) ->K p l c w'):
  CallT Pg 27 #[.int .u32 n,.slice p l c] w fun v w1=>Exists fun p':pQ=>Exists fun l':Nat=>Exists fun c':Nat=>And (v= .slice p' l' c') (CallT Pg 30 #[.slice p' l' c'] w1 fun v' w2=>Exists fun p2:pQ=>Exists fun l2:Nat=>Exists fun c2:Nat=>And (v'= .slice p2 l2 c2) (K p2 l2 c2 w2)):=by
 refine CallT.mono (c27 hn32 hx hl hb) ?_;rintro v w1 ⟨W,H,L,pal,cl,hW,hH,hok,hF⟩;obtain⟨fl,xs,zs,d0,dr,M,f,q,c',rfl,ho⟩:=nU oQ hW hH hok hF;exact⟨_,_,_,rfl,qBz M f ho rfl fun p l c w' F _ h=>hK M p l c w' F h⟩
end
def wp13(x0:Int)(x1:pQ)(x1l:Nat)(x1c:Nat)(R:vPq)(w:wQ):Prop:=IfC (decide ((x1l:Int)>(2147483647:Int))) (R (.bool true) w) (CallT Pg 22 #[.slice x1 x1l x1c] w fun r d=>∃e,And (r= .bool e) (IfC (!e) (R (.bool true) d) (CallT Pg 27 #[.int .u32 x0,.slice x1 x1l x1c] d fun s t=>∃f g h,And (s= .slice f g h) (CallT Pg 30 #[.slice f g h] t fun u v=>∃c a b,And (u= .slice c a b) (CallT Pg 31 #[.slice c a b] v fun y z=>∃i j k,And (y= .slice i j k) (CallT Pg 28 #[.slice i j k] z fun A l=>∃m,And (A= .bool m) (IfC m (And (0<=(1:Int)/\(1:Int)<=(a:Int)) (CallT Pg 31 #[.slice (qR c b 1 2) (a -1) (b -1)] l fun B C=>∃n o p,And (B= .slice n o p) (CallT Pg 29 #[.slice n o p,iQq 1] C fun D E=>∃q,And (D= .bool q) (R (.bool q) E)))) (R (.bool false) l))))))))
theorem call13{x0:Int}{x1:pQ}{x1l:Nat}{x1c:Nat}{R:vPq}{w:wQ}(h:wp13 x0 x1 x1l x1c R w):CallT Pg 13 #[.int .u32 x0,.slice x1 x1l x1c] w R:=cVq [] Tryz.func13 h
section
variable{w w' w0:wQ}{E:Er}{k W H:Nat}{L:Bool}{pal:List Px}{cl:List Nat}{fl xs zs d0:bQ}{dr:List (bQ)}{p q:pQ}{l c c':Nat}{cs:List Ch}{hd dd:bQ}{nm:bQ}
theorem c13{n:Nat}(hn32:n<4294967296){ss:List Nat}(hx:HasW w p (ss.map fun(s:Nat)=> .int .u16 (s:Int)))(hl:l=ss.length)(hV:Env w E):CallT Pg 13 #[.int .u32 n,.slice p l c] w fun v w'=>v= .bool true/\Fr [] w w':=by
 apply call13;unfold wp13 iQq;refine kZ (R:=fun v w'=>v= .bool true/\Fr [] w w') ⟨rfl,Fr.refl _ _⟩ fun hb=> ?_;refine gH hn32 hx hl hb fun{W H L pal cl fl xs zs d0 dr} M p1 l1 c1 w1 F1 h1=> ?_;refine uA M hV F1 h1 fun w2 F2 f2=>xC ?_;obtain⟨b,vs,ho,hpc,hl1,hb0,hb1,hb2⟩:=h1;obtain⟨hok,hlen⟩:=M.okc;obtain⟨nm,dd,rest,hcs,hnm⟩:∃nm dd rest,xV (n%15) W H L pal cl d0 dr=(nIHDR,xT W H (qE (n%15)).2 (qE (n%15)).1 L)::(nm,dd)::rest/\(nm=xX\/nm=xJ\/nm=nIDAT\/nm=xW):=by
  unfold xV zK
  split
  ·exact⟨_,_,_,rfl,.inl rfl⟩
  ·split
   ·exact⟨_,_,_,rfl,.inr (.inl rfl)⟩
   ·split
    ·exact⟨_,_,_,rfl,.inr (.inl rfl)⟩
    ·exact⟨_,_,_,rfl,.inr (.inr (.inl rfl))⟩
 rw[hcs]at hpc hl1 hok hlen;rw[List.length_cons,List.length_cons]at hl1;refine⟨⟨oQ,oQ⟩,?_⟩;have hok':kA ((nm,dd)::rest):=fun x hx=>hok x (by simp at hx⊢;exact .inr hx);have hlen':(qU ((nm,dd)::rest)).length<1099511627776:=by
  rw[qU,qZ,List.length_append,List.length_append]at hlen;rw[qU,List.length_append];omega
 refine lN (Q:=(·=b)) (cs:=(nm,dd)::rest) hV F2 (Own.from (n:=1) (ho.fr0 f2) oQ) ((hpc.fr f2 sQ).drop (n:=1)) (fun x hx=>by have:=f2.size;omega) (by simp;omega) hok' hlen' (fun{w1 q c} hV1 hx1=> ?_) fun w3 F3=>⟨rfl,F3⟩;have e:qU ((nm,dd)::rest)=sigL++(qV nm dd++chs rest):=by rw[qU,qZ]
 rw[e]at hx1 hlen'⊢;exact qEk hx1 rfl hlen' hnm (hok' (nm,dd) sQ).2 hV1.tab hV1.errs hV1.lo hV1.lace hV1.ety
end
section
variable{w w' w0:wQ}{E:Er}{k W H:Nat}{L:Bool}{pal:List Px}{cl:List Nat}{fl xs zs d0:bQ}{dr:List (bQ)}{p q:pQ}{l c c':Nat}{cs:List Ch}{hd dd:bQ}{nm:bQ}
end
section
variable{w w' w0:wQ}
end
section
variable{w w' w0 wB:wQ}{E:Er}{k W H:Nat}{L:Bool}{pal:List Px}{cl:List Nat}{fl xs zs d0:bQ}{dr:List (bQ)}{p q:pQ}{l c c':Nat}{cs ds:List Ch}{hd dd:bQ}{nm:bQ}{s:Sl}
end
section
variable{w w' w0 wB:wQ}{E:Er}{k W H:Nat}{L:Bool}{pal:List Px}{cl:List Nat}{fl xs zs d0:bQ}{dr:List (bQ)}{p q:pQ}{l c c':Nat}{cs ds es:List Ch}{hd dd:bQ}{nm:bQ}{s:Sl}{db rb kb crc:Nat}{d:Dec}{rs:bQ}
end
section
variable{w w' w0 wB:wQ}{E:Er}{k W H:Nat}{L:Bool}{pal:List Px}{cl:List Nat}{fl xs zs d0:bQ}{dr:List (bQ)}{p q:pQ}{l c c':Nat}{cs ds es r:List Ch}{hd dd:bQ}{nm:bQ}{s:Sl}{db rb kb crc:Nat}{d:Dec}{rs:bQ}
end
section
variable{w w' w0 wB:wQ}{E:Er}{k W H D C:Nat}{L:Bool}{pal:List Px}{cl:List Nat}{fl xs zs d0:bQ}{dr:List (bQ)}{p q:pQ}{l c c':Nat}{cs ds es r:List Ch}{hd dd:bQ}{nm:bQ}{s:Sl}{db rb kb crc:Nat}{d:Dec}{rs:bQ}
end
section
variable{w w' w0 wB:wQ}{E:Er}{k W H D C:Nat}{L:Bool}{pal:List Px}{cl:List Nat}{fl xs zs d0:bQ}{dr:List (bQ)}{p q:pQ}{l c c':Nat}{cs ds es r:List Ch}{hd dd:bQ}{nm:bQ}{s:Sl}{db rb kb crc:Nat}{d:Dec}{rs:bQ}
end
section
variable{w w' w0 w1 wB:wQ}{E:Er}{k W H D C:Nat}{L:Bool}{pal:List Px}{cl:List Nat}{fl xs zs d0:bQ}{dr:List (bQ)}{p q:pQ}{l c c':Nat}{cs ds es r:List Ch}{hd dd:bQ}{nm:bQ}{s:Sl}{db rb kb crc:Nat}{d:Dec}{rs:bQ}
end
section
variable{w w' w0 w1 wB:wQ}{E:Er}{k W H D C:Nat}{L:Bool}{pal:List Px}{cl:List Nat}{fl xs zs d0:bQ}{dr:List (bQ)}{p q:pQ}{l c c':Nat}{cs ds es r:List Ch}{hd dd:bQ}{nm:bQ}{s:Sl}{db rb kb crc:Nat}{d:Dec}{rs:bQ}
end
section
variable{w w' w0 w1 wB:wQ}{E:Er}{k W H D C:Nat}{L:Bool}{pal:List Px}{cl:List Nat}{fl xs zs d0:bQ}{dr:List (bQ)}{p q:pQ}{l c c':Nat}{cs ds es r:List Ch}{hd dd:bQ}{nm:bQ}{db rb kb crc:Nat}{d:Dec}{rs:bQ}
end
section
variable{w w' w0 w1 wB:wQ}{E:Er}{k W H D C:Nat}{L:Bool}{pal:List Px}{cl:List Nat}{fl xs zs d0:bQ}{dr:List (bQ)}{p q:pQ}{l c c':Nat}{cs ds es r:List Ch}{hd dd:bQ}{nm:bQ}{s:Sl}{db rb kb crc:Nat}{d:Dec}{rs:bQ}
end
section
variable{w w' w0 w1 wB:wQ}{E:Er}{k W H D C:Nat}{L:Bool}{pal:List Px}{cl:List Nat}{fl xs zs d0:bQ}{dr:List (bQ)}{p q:pQ}{l c c':Nat}{rb:Nat}
end
end Go.Proofs
