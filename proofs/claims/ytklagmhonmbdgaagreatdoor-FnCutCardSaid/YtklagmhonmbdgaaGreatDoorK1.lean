/- Steps of the proofs: contracts of the functions, for all their arguments that meet what each names -/
import Derived.Laws.Strings
import Derived.Test.YtklagmhonmbdgaaGreatDoorK0
set_option maxRecDepth 1000000
set_option linter.unusedVariables false
set_option linter.unusedSimpArgs false
set_option maxHeartbeats 4000000
namespace Go.Proofs
open Go Go.V
open Go.IntKind (wrap)
def wp87(x0:pQ)(x0l:Nat)(x0c:Nat)(x1:Int)(x2:Int)(R:vPq)(w:wQ):Prop:=xB (fun(c:(Int×Unit) ->World ->Prop)=>c (0,()) w) (fun a d e=>qO d fun b=>IfC (decide (x2<=x1)) (IfC (decide (a.1<(258:Int))) (IfC (decide ((wIq (x1+a.1))<(x0l:Int))) (And (0<=wIq (x1+a.1)/\wIq (x1+a.1)<(x0l:Int)) (qN x0 fun f=>LdI b (qH f ((wIq (x1+a.1)).toNat) 1) .u8 fun g=>And (0<=wIq ((wIq (x1+a.1)) -x2)/\wIq ((wIq (x1+a.1)) -x2)<(x0l:Int)) (qN x0 fun h=>LdI b (qH h ((wIq ((wIq (x1+a.1)) -x2)).toNat) 1) .u8 fun i=>IfC (g==i) (e (wIq (a.1+1),()) b) (R (iQq a.1) b)))) (R (iQq a.1) b)) (R (iQq a.1) b)) (R (iQq a.1) b))
theorem call87{x0:pQ}{x0l:Nat}{x0c:Nat}{x1:Int}{x2:Int}{R:vPq}{w:wQ}(h:wp87 x0 x0l x0c x1 x2 R w):CallT Pg 87 #[.slice x0 x0l x0c,.int .i64 x1,.int .i64 x2] w R:=cVq [(6,[(7,.i .i64)],[0,1,2,6])] Tryz.func87 h
def wp89(x0:Addr)(x1:Int)(x2:Int)(R:vPq)(w:wQ):Prop:=xB (fun(o:(Int×Int×Unit) ->World ->Prop)=>o (257,(258:Int),()) w) (fun a c d=>IfC (decide (a.2.1<=(285:Int))) (CallT Pg 99 #[iQq a.2.1] c fun p e=>∃f q,And (p= .tuple #[iQq f,iQq q]) (IfC (decide (f<=x1)) (d (a.2.1,wIq (a.2.1+1),()) e) (d (a.1,wIq (a.2.1+1),()) e))) (CallT Pg 99 #[iQq a.1] c fun r s=>∃g h,And (r= .tuple #[iQq g,iQq h]) (CallT Pg 88 #[.pointer (some x0),iQq a.1] s fun t u=>And (t= .tuple #[]) (CallT Pg 66 #[.pointer (some x0),iQq (wIq (x1 -g)),iQq h] u fun v y=>And (v= .tuple #[]) (xB (fun(z:(Int×Int×Unit) ->World ->Prop)=>z (0,(1:Int),()) y) (fun b i j=>IfC (decide (b.2.1<(30:Int))) (CallT Pg 100 #[iQq b.2.1] i fun A k=>∃l B,And (A= .tuple #[iQq l,iQq B]) (IfC (decide (l<=x2)) (j (b.2.1,wIq (b.2.1+1),()) k) (j (b.1,wIq (b.2.1+1),()) k))) (CallT Pg 100 #[iQq b.1] i fun C D=>∃m n,And (C= .tuple #[iQq m,iQq n]) (CallT Pg 98 #[.pointer (some x0),iQq b.1,iQq 5] D fun E F=>And (E= .tuple #[]) (CallT Pg 66 #[.pointer (some x0),iQq (wIq (x2 -m)),iQq n] F fun G H=>And (G= .tuple #[]) (R (.tuple #[]) H))))))))))
theorem call89{x0:Addr}{x1:Int}{x2:Int}{R:vPq}{w:wQ}(h:wp89 x0 x1 x2 R w):CallT Pg 89 #[.pointer (some x0),.int .i64 x1,.int .i64 x2] w R:=cVq [(6,[(6,.i .i64),(7,.i .i64)],[0,1,2]),(35,[(6,.i .i64),(12,.i .i64)],[0,2])] Tryz.func89 h
def wp67(x0:Addr)(x1:pQ)(x1l:Nat)(x1c:Nat)(x2:Int)(x3:Int)(x4:pQ)(x4l:Nat)(x4c:Nat)(R:vPq)(w:wQ):Prop:=xB (fun(j:(Int×Unit) ->World ->Prop)=>j (x2,()) w) (fun b e f=>IfC (decide (b.1<x3)) (xB (fun(k:(Int×Int×Int×Unit) ->World ->Prop)=>k (0,(0:Int),(0:Int),()) e) (fun a c g=>IfC (decide (a.2.2.1<(x4l:Int))) (And (0<=a.2.2.1/\a.2.2.1<(x4l:Int)) (qN x4 fun l=>LdI c (qH l a.2.2.1.toNat 1) .i64 fun h=>CallT Pg 87 #[.slice x1 x1l x1c,iQq b.1,iQq h] c fun m i=>∃d,And (m=iQq d) (IfC (decide ((yU d (wIq (x3 -b.1)))>a.1)) (g (yU d (wIq (x3 -b.1)),h,wIq (a.2.2.1+1),()) i) (g (a.1,a.2.1,wIq (a.2.2.1+1),()) i)))) (IfC (decide (a.1<(3:Int))) (And (0<=b.1/\b.1<(x1l:Int)) (qN x1 fun n=>LdI c (qH n b.1.toNat 1) .u8 fun o=>CallT Pg 88 #[.pointer (some x0),iQq (wIq o)] c fun p q=>And (p= .tuple #[]) (f (wIq (b.1+1),()) q))) (CallT Pg 89 #[.pointer (some x0),iQq a.1,iQq a.2.1] c fun r s=>And (r= .tuple #[]) (f (wIq (b.1+a.1),()) s))))) (CallT Pg 88 #[.pointer (some x0),iQq 256] e fun t u=>And (t= .tuple #[]) (R (.tuple #[]) u)))
theorem call67{x0:Addr}{x1:pQ}{x1l:Nat}{x1c:Nat}{x2:Int}{x3:Int}{x4:pQ}{x4l:Nat}{x4c:Nat}{R:vPq}{w:wQ}(h:wp67 x0 x1 x1l x1c x2 x3 x4 x4l x4c R w):CallT Pg 67 #[.pointer (some x0),.slice x1 x1l x1c,.int .i64 x2,.int .i64 x3,.slice x4 x4l x4c] w R:=cVq [(4,[(10,.i .i64)],[0,1,3,4]),(18,[(11,.i .i64),(12,.i .i64),(22,.i .i64)],[0,1,3,4,10,20,21])] Tryz.func67 h
def wp68(x0:pQ)(x0l:Nat)(x0c:Nat)(R:vPq)(w:wQ):Prop:=xB (fun(d:(Int×Int×Int×Unit) ->World ->Prop)=>d (1,(0:Int),(0:Int),()) w) (fun a b e=>IfC (decide (a.2.2.1<(x0l:Int))) (And (0<=a.2.2.1/\a.2.2.1<(x0l:Int)) (qN x0 fun f=>LdI b (qH f a.2.2.1.toNat 1) .u8 fun c=>zQ 65521 (zQ 65521 (e (Int.tmod (wrap .u32 (a.1+(wrap .u32 c))) (65521:Int),Int.tmod (wrap .u32 (a.2.1+(Int.tmod (wrap .u32 (a.1+(wrap .u32 c))) (65521:Int)))) (65521:Int),wIq (a.2.2.1+1),()) b)))) (ShC 16 (R (.int .u32 (bOr .u32 (xJ .u32 a.2.1 16) a.1)) b)))
theorem call68{x0:pQ}{x0l:Nat}{x0c:Nat}{R:vPq}{w:wQ}(h:wp68 x0 x0l x0c R w):CallT Pg 68 #[.slice x0 x0l x0c] w R:=cVq [(8,[(3,.i .u32),(4,.i .u32),(9,.i .i64)],[2,7,8])] Tryz.func68 h
section
variable{w:wQ}
theorem WR.fr{w0 w w':wQ}{Z:gI}{g:Nat}{bits:List Bool}(h:WR w0 Z w g bits)(hf:Fr [] w w'):WR w0 Z w' g bits:=by
 obtain⟨h1,h2,p,l,c,out,h3,h4,h5,h6,h7⟩:=h;exact⟨h1.trans hf,h2,p,l,c,out,hf.row0 h3,h4.fr0 hf,h5,h6,h7.fr hf sQ (fun x hx=> .inl hx)⟩
theorem c87{p:pQ}{l c at_ far:Nat}{xs:bQ}(hx:Has w p (bv xs))(hl:l=xs.length)(ha:at_ <=l)(hb:l<1099511627776)(hfar:1<=far)(hfb:far<65536):
  CallT Pg 87 #[.slice p l c,.int .i64 at_,.int .i64 far] w fun v w'=>∃n:Nat,v= .int .i64 n/\Fr [] w w'/\n<=258/\at_ +n<=l/\(n=0\/far<=at_)/\∀j,j<n ->gb xs (at_ +j)=gb xs (at_ +j -far):=by
 apply call87;unfold wp87 wIq iQq;refine qP (fun z w'=>Fr [] w w'/\∃n:Nat,z.1=n/\n<=258/\at_ +n<=l/\(n=0\/far<=at_)/\∀j,j<n ->gb xs (at_ +j)=gb xs (at_ +j -far)) (fun z _ =>258 -z.1.toNat)
  ⟨Fr.refl _ _,0,rfl,oQ,oQ,.inl rfl,fun j hj=>by omega⟩ ?_
 rintro⟨n',⟨⟩⟩ w1 ⟨hf,n,rfl,h1,h2,h3,h4⟩;dsimp only;refine qE fun w2 hf2 _ => ?_;have hf':=hf.trans hf2;have done:∃m:Nat,Value.int .i64 (n:Int)= .int .i64 m/\Fr [] w w2/\m<=258/\at_ +m<=l/\(m=0\/far<=at_)/\∀j,j<m ->gb xs (at_ +j)=gb xs (at_ +j -far):=⟨n,rfl,hf',h1,h2,h3,h4⟩;refine qF (fun ha1=>qF (fun ha2=>qF (fun ha3=> ?_) (fun _ =>done)) (fun _ =>done)) (fun _ =>done);rw[qA oQ oQ]at ha3;rw[qA (n:=(at_ :Int)+n) oQ oQ,qA oQ oQ];refine gV (hx.fr0 hf') hl oQ oQ ?_;refine gV (hx.fr0 hf') hl oQ oQ ?_;have e1:((at_ :Int)+n).toNat=at_ +n:=oQ;have e2:((at_ :Int)+n -far).toNat=at_ +n -far:=oQ;rw[e1,e2];refine qX (fun h=> ?_) (fun _ =>done);simp only[beq_iff_eq]at h;rw[qA oQ oQ];refine⟨⟨hf',n+1,sQ,oQ,oQ,.inr oQ,fun j hj=> ?_⟩,oQ⟩
 by_cases hjn:j=n
 ·subst hjn;omega
 ·exact h4 j oQ
def yB(s:Nat×Nat)(xs:bQ):Nat×Nat:=xs.foldl (fun s v=>((s.1+v.toNat)%65521,(s.2+(s.1+v.toNat)%65521)%65521)) s
def adlerL(xs:bQ):Nat:=(yB (1,0) xs).2*65536+(yB (1,0) xs).1
theorem sL{xs:bQ}{s:Nat×Nat}(h1:s.1<65521)(h2:s.2<65521):(yB s xs).1<65521/\(yB s xs).2<65521:=by
 induction xs generalizing s with
 |nil=>exact⟨h1,h2⟩
 |cons v r ih=>exact ih (Nat.mod_lt _ dQ) (Nat.mod_lt _ dQ)
theorem aU(xs:bQ):adlerL xs<4294967296:=by
 have:=sL (xs:=xs) (s:=(1,0)) dQ dQ;unfold adlerL;omega
theorem nV{s:Nat×Nat}{xs:bQ}{i:Nat}(h:i<xs.length):
  yB s (xs.take (i+1))=(((yB s (xs.take i)).1+gb xs i)%65521,((yB s (xs.take i)).2+((yB s (xs.take i)).1+gb xs i)%65521)%65521):=by
 rw[List.take_succ_eq_append_getElem h];simp only[yB,List.foldl_append,List.foldl_cons,List.foldl_nil];simp[gb,List.getD,h]
theorem c68{p:pQ}{l c:Nat}{xs:bQ}(hx:Has w p (bv xs))(hl:l=xs.length)(hb:l<4611686018427387904):
  CallT Pg 68 #[.slice p l c] w fun v w'=>v= .int .u32 (adlerL xs)/\w'=w:=by
 apply call68;unfold wp68 wIq;refine qP (fun z w'=>w'=w/\∃i:Nat,i<=l/\z.2.2.1=i/\z.1=(yB (1,0) (xs.take i)).1/\z.2.1=(yB (1,0) (xs.take i)).2) (fun z _ =>l -z.2.2.1.toNat) ⟨rfl,0,oQ,rfl,by simp[yB],by simp[yB]⟩ ?_;rintro⟨x,y,k,⟨⟩⟩ w' ⟨rfl,i,hi,rfl,rfl,rfl⟩;have hlt:=sL (xs:=xs.take i) (s:=(1,0)) dQ dQ;dsimp only;refine qF (fun h=> ?_) (fun h=> ?_)
 ·have hi':i<xs.length:=oQ
  refine gV hx hl oQ h (xK dQ (xK dQ ?_));have hg:=yC xs i;have hs:=nV (s:=(1,0)) hi';generalize(yB (1,0) (xs.take i)).1=a at*;generalize(yB (1,0) (xs.take i)).2=b at*;rw[Int.toNat_natCast,xV (n:=(gb xs i:Int)) oQ oQ,show(a:Int)+(gb xs i:Int)=((a+gb xs i:Nat):Int) by omega,xV (n:=((a+gb xs i:Nat):Int)) oQ oQ];have e1:Int.tmod ((a+gb xs i:Nat):Int) 65521=(((a+gb xs i)%65521:Nat):Int):=zG _ 65521;rw[e1,show(b:Int)+(((a+gb xs i)%65521:Nat):Int)=((b+(a+gb xs i)%65521:Nat):Int) by omega,xV oQ oQ];have e2:Int.tmod ((b+(a+gb xs i)%65521:Nat):Int) 65521=(((b+(a+gb xs i)%65521)%65521:Nat):Int):=zG _ 65521;rw[e2,qA oQ oQ];refine⟨⟨rfl,i+1,oQ,sQ,by rw[hs],by rw[hs]⟩,oQ⟩
 ·have:i=xs.length:=oQ
  subst this;rw[List.take_length]at*;refine qU dQ ⟨?_,rfl⟩;rw[gB dQ dQ];have e:((yB (1,0) xs).2:Int)*2^(16:Int).toNat=(((yB (1,0) xs).2*65536:Nat):Int):=by simp
  rw[e,xV oQ oQ,sE oQ oQ oQ oQ oQ];simp[adlerL]
inductive Tok where
 |lit (x:UInt8)
 |mat (s e ds de:Nat)
def yD:Tok ->List Bool
 | .lit x=>jU x.toNat
 | .mat s e ds de=>jU s++bitsL e (lenOf s).2++wordL ds 5++bitsL de (zD ds).2
def copyN(h:bQ)(d:Nat):Nat ->bQ
 |0=>h
 |n+1=>copyN (h++[h.getD (h.length -d) 0]) d n
def kV(h:bQ):Tok ->bQ
 | .lit x=>h++[x]
 | .mat s e ds de=>copyN h ((zD ds).1+de) ((lenOf s).1+e)
def tokOk(h:bQ):Tok ->Prop
 | .lit _ =>True
 | .mat s e ds de=>257<=s/\s<=285/\e<2^(lenOf s).2/\ds<=29/\de<2^(zD ds).2/\(zD ds).1+de<=h.length/\(zD ds).1+de<=32768/\(lenOf s).1+e<=258
def gG:bQ ->List Tok ->Prop
 |_,[]=>True
 |h,t::r=>tokOk h t/\gG (kV h t) r
def vF(h:bQ)(ts:List Tok):bQ:=ts.foldl kV h
theorem sJ{t:Tok}:∀{ts:List Tok} {h:bQ},gG h ts ->tokOk (vF h ts) t ->gG h (ts++[t])
 |[],_,_,h2=>⟨h2,trivial⟩
 |_ ::_,_,⟨h1,h1'⟩,h2=>⟨h1,sJ h1' h2⟩
theorem mY(h:bQ)(ts:List Tok)(t:Tok):vF h (ts++[t])=kV (vF h ts) t:=by simp[vF]
theorem dZ{xs:bQ}{d:Nat}:∀{n a:Nat},1<=d ->d<=a ->a+n<=xs.length ->(∀j,j<n ->gb xs (a+j)=gb xs (a+j -d)) ->copyN (xs.take a) d n=xs.take (a+n)
 |0,_,_,_,_,_ =>rfl
 |n+1,a,hd,hda,hl,he=>by
  have h0:=he 0 oQ;have hlen:(xs.take a).length=a:=by simp;omega
  have e1:(xs.take a).getD ((xs.take a).length -d) 0=xs[a]'oQ:=by
   rw[hlen];have hg1:gb xs (a -d)=(xs[a -d]'oQ).toNat:=bH (List.getElem?_eq_getElem oQ);have hg2:gb xs a=(xs[a]'oQ).toNat:=bH (List.getElem?_eq_getElem oQ);simp only[Nat.add_zero]at h0;rw[hg1,hg2]at h0;have:=UInt8.toNat_inj.1 h0;rw[this];simp[List.getD,List.getElem?_take,show a -d<a by omega,show a -d<xs.length by omega]
  rw[copyN,e1];have e2:xs.take a++[xs[a]'oQ]=xs.take (a+1):=(List.take_succ_eq_append_getElem oQ).symm;rw[e2,dZ (n:=n) (a:=a+1) hd oQ oQ (fun j hj=>by have:=he (j+1) oQ;rw[show a+1+j=a+(j+1) by omega];exact this)]
  congr 1;omega
theorem qCj:∀s:Nat,257<=s ->s<285 ->(lenOf (s+1)).1<=(lenOf s).1+2^(lenOf s).2:=by
 intro s h1 h2;have key:∀s:Fin 285,257<=s.val ->(lenOf (s.val+1)).1<=(lenOf s.val).1+2^(lenOf s.val).2:=dQ;exact key ⟨s,h2⟩ h1
theorem eK:∀k:Nat,k<29 ->(zD (k+1)).1<=(zD k).1+2^(zD k).2:=by
 intro k h;have key:∀k:Fin 29,(zD (k.val+1)).1<=(zD k.val).1+2^(zD k.val).2:=dQ;exact key ⟨k,h⟩
theorem tY:∀s:Nat,257<=s ->s<=285 ->(lenOf s).1<=258/\(lenOf s).2<=5:=by
 intro s h1 h2;have key:∀s:Fin 286,257<=s.val ->(lenOf s.val).1<=258/\(lenOf s.val).2<=5:=dQ;exact key ⟨s,oQ⟩ h1
theorem gX:∀k:Nat,k<=29 ->(zD k).1<=32768/\(zD k).2<=13:=by
 intro k h;have key:∀k:Fin 30,(zD k.val).1<=32768/\(zD k.val).2<=13:=dQ;exact key ⟨k,oQ⟩
theorem c89{w0:wQ}{Z:gI}{g:Nat}{bits:List Bool}{len dist:Nat}(hw:WR w0 Z w g bits)(hb:bits.length<274877906944)(h3:3<=len)(hl:len<=258)(hd1:1<=dist)(hd:dist<=24576):
  CallT Pg 89 #[.pointer (some ⟨g,0,none⟩),.int .i64 len,.int .i64 dist] w fun u w'=>u= .tuple #[]/\∃s e ds de,257<=s/\s<=285/\(lenOf s).1+e=len/\e<2^(lenOf s).2/\ds<=29/\(zD ds).1+de=dist/\de<2^(zD ds).2/\WR w0 Z w' g (bits++yD (.mat s e ds de)):=by
 apply call89;unfold wp89 wIq iQq;refine qP (fun z w'=>w'=w/\∃s k:Nat,z.1=s/\z.2.1=k/\k<=286/\257<=s/\s<k/\(lenOf s).1<=len/\∀j,s<j ->j<k ->len<(lenOf j).1) (fun z _ =>286 -z.2.1.toNat)
  ⟨rfl,257,258,rfl,rfl,oQ,oQ,oQ,by simpa [lenOf]using h3,fun j h1 h2=>by omega⟩ ?_
 rintro⟨s',k',⟨⟩⟩ w ⟨rfl,s,k,rfl,rfl,hk,hs,hsk,hbase,hnext⟩;dsimp only;refine qF (fun h=> ?_) (fun h=> ?_)
 ·refine CallT.mono (c99 oQ oQ) ?_
  rintro _ _ ⟨rfl,rfl⟩;refine⟨_,_,rfl,?_⟩;rw[qA oQ oQ];refine qF (fun h'=> ?_) (fun h'=> ?_)
  ·exact⟨⟨rfl,k,k+1,rfl,sQ,oQ,oQ,oQ,oQ,fun j h1 h2=>by omega⟩,oQ⟩
  ·refine⟨⟨rfl,s,k+1,rfl,sQ,oQ,oQ,oQ,oQ,fun j h1 h2=> ?_⟩,oQ⟩
   by_cases hj:j=k
   ·subst hj;omega
   ·exact hnext j h1 oQ
 ·have hk':k=286:=oQ
  subst hk';have hsm:=tY s hs oQ;have he:len -(lenOf s).1<2^(lenOf s).2:=by
   by_cases h5:s=285
   ·subst h5;have:(lenOf 285)=(258,0):=rfl
    rw[this];simp;omega
   ·have:=hnext (s+1) oQ oQ
    have:=qCj s hs oQ;omega
  refine CallT.mono (c99 hs oQ) ?_;rintro _ _ ⟨rfl,rfl⟩;refine⟨_,_,rfl,?_⟩;refine CallT.mono (c88 hw oQ oQ) ?_;rintro _ w1 ⟨rfl,hw1⟩;refine⟨rfl,?_⟩;have hsl:=gC s;rw[qA oQ oQ,show(len:Int) -((lenOf s).1:Int)=((len -(lenOf s).1:Nat):Int) by omega];refine CallT.mono (c66 hw1 (by simp only[List.length_append];omega) oQ oQ) ?_;rintro _ w2 ⟨rfl,hw2⟩;refine⟨rfl,?_⟩;refine qP (fun z w'=>w'=w2/\∃s k:Nat,z.1=s/\z.2.1=k/\k<=30/\s<k/\(zD s).1<=dist/\∀j,s<j ->j<k ->dist<(zD j).1) (fun z _ =>30 -z.2.1.toNat)
   ⟨rfl,0,1,rfl,rfl,oQ,oQ,by simpa [zD]using hd1,fun j h1 h2=>by omega⟩ ?_
  rintro⟨s',k',⟨⟩⟩ w2 ⟨rfl,ds,k,rfl,rfl,hk,hsk',hbase',hnext'⟩;dsimp only;refine qF (fun h=> ?_) (fun h=> ?_)
  ·refine CallT.mono (c100 oQ) ?_
   rintro _ _ ⟨rfl,rfl⟩;refine⟨_,_,rfl,?_⟩;rw[qA oQ oQ];refine qF (fun h'=> ?_) (fun h'=> ?_)
   ·exact⟨⟨rfl,k,k+1,rfl,sQ,oQ,oQ,oQ,fun j h1 h2=>by omega⟩,oQ⟩
   ·refine⟨⟨rfl,ds,k+1,rfl,sQ,oQ,oQ,oQ,fun j h1 h2=> ?_⟩,oQ⟩
    by_cases hj:j=k
    ·subst hj;omega
    ·exact hnext' j h1 oQ
  ·have hk':k=30:=oQ
   subst hk';have hdm:=gX ds oQ;have hde:dist -(zD ds).1<2^(zD ds).2:=by
    by_cases h5:ds=29
    ·subst h5;have:(zD 29)=(24577,13):=rfl
     rw[this]at hbase';simp at hbase';omega
    ·have:=hnext' (ds+1) oQ oQ
     have:=eK ds oQ;omega
   refine CallT.mono (c100 oQ) ?_;rintro _ _ ⟨rfl,rfl⟩;refine⟨_,_,rfl,?_⟩;refine CallT.mono (c98 hw2 (by simp only[List.length_append,bitsL_length];omega) oQ (n:=5) oQ) ?_;rintro _ w3 ⟨rfl,hw3⟩;refine⟨rfl,?_⟩;rw[qA oQ oQ,show(dist:Int) -((zD ds).1:Int)=((dist -(zD ds).1:Nat):Int) by omega];refine CallT.mono (c66 hw3 (by simp only[List.length_append,bitsL_length,wordL_length];omega) oQ oQ) ?_;rintro _ w4 ⟨rfl,hw4⟩;refine⟨rfl,rfl,s,len -(lenOf s).1,ds,dist -(zD ds).1,hs,oQ,oQ,he,oQ,oQ,hde,?_⟩
   simpa [yD,List.append_assoc]using hw4
theorem kT(a b:Nat):yU (a:Int) (b:Int)=((min a b:Nat):Int):=by unfold yU;split<;>omega
theorem qFg(a b:Nat):vJ (a:Int) (b:Int)=((max a b:Nat):Int):=by unfold vJ;split<;>omega
def farA:vQ:= #[.int .i64 1,.int .i64 2,.int .i64 3,.int .i64 4,.int .i64 6,.int .i64 8,.int .i64 12,.int .i64 17,.int .i64 33,.int .i64 65]
theorem qHg{i:Nat}(h:i<10):∃f:Nat,farA[i]? =some (.int .i64 f)/\1<=f/\f<=65:=by
 have:i=0\/i=1\/i=2\/i=3\/i=4\/i=5\/i=6\/i=7\/i=8\/i=9:=oQ;rcases this with rfl|rfl|rfl|rfl|rfl|rfl|rfl|rfl|rfl|rfl
 ·exact⟨1,rfl,oQ,oQ⟩
 ·exact⟨2,rfl,oQ,oQ⟩
 ·exact⟨3,rfl,oQ,oQ⟩
 ·exact⟨4,rfl,oQ,oQ⟩
 ·exact⟨6,rfl,oQ,oQ⟩
 ·exact⟨8,rfl,oQ,oQ⟩
 ·exact⟨12,rfl,oQ,oQ⟩
 ·exact⟨17,rfl,oQ,oQ⟩
 ·exact⟨33,rfl,oQ,oQ⟩
 ·exact⟨65,rfl,oQ,oQ⟩
theorem c67{w0:wQ}{Z:gI}{g fb:Nat}{bits:List Bool}{p:pQ}{l c fr to:Nat}{xs:bQ}(hw:WR w0 Z w g bits)(hfb:(fb,3,farA)∈Z)(hx:Has w0 p (bv xs))(hl:l=xs.length)(h1:fr<=to)(h2:to<=l)
  (hb:bits.length+32*l<137438953472):
  CallT Pg 67 #[.pointer (some ⟨g,0,none⟩),.slice p l c,.int .i64 fr,.int .i64 to,.slice (some ⟨fb,0,none⟩) 10 10] w fun u w'=>u= .tuple #[]/\
   ∃ts,gG (xs.take fr) ts/\vF (xs.take fr) ts=xs.take to/\(ts.flatMap yD).length<=32*(to -fr)/\WR w0 Z w' g (bits++ts.flatMap yD++jU 256):=by
 apply call67;unfold wp67 wIq iQq;refine qP (fun z w'=>∃(at_ :Nat) (ts:List Tok),z.1=at_ /\fr<=at_ /\at_ <=to/\gG (xs.take fr) ts/\vF (xs.take fr) ts=xs.take at_ /\(ts.flatMap yD).length<=32*(at_ -fr)/\WR w0 Z w' g (bits++ts.flatMap yD)) (fun z _ =>to -z.1.toNat)
  ⟨fr,[],rfl,oQ,oQ,trivial,rfl,sQ,by simpa using hw⟩ ?_
 rintro⟨at',⟨⟩⟩ w1 ⟨at_,ts,rfl,ha1,ha2,hok,hout,hlen,hw1⟩;dsimp only;refine qF (fun h=> ?_) (fun h=> ?_)
 ·refine qP (fun z w'=>∃n d i:Nat,z.1=n/\z.2.1=d/\z.2.2.1=i/\i<=10/\at_ +n<=to/\n<=258/\(n=0\/(1<=d/\d<=65/\d<=at_ /\∀j,j<n ->gb xs (at_ +j)=gb xs (at_ +j -d)))/\WR w0 Z w' g (bits++ts.flatMap yD)) (fun z _ =>10 -z.2.2.1.toNat)
   ⟨0,0,0,rfl,rfl,rfl,oQ,oQ,oQ,.inl rfl,hw1⟩ ?_
  rintro⟨n',d',i',⟨⟩⟩ w2 ⟨n,d,i,rfl,rfl,rfl,hi,hn,hn2,hnd,hw2⟩;dsimp only;have hxw:=hx.fr0 hw2.1;refine qF (fun h'=> ?_) (fun h'=> ?_)
  ·obtain⟨f,hf,hf1,hf2⟩:=qHg (i:=i) oQ
   have hZ:hp w2 fb=Row 3 farA:=by
    obtain⟨_,_,p',l',c',out,_,_,_,_,hk⟩:=hw2;exact(hk _ hfb).1
   refine IdxI (Has.of_row hZ) oQ h' (by rw[Int.toNat_natCast];simpa using hf) ?_;refine CallT.mono (c87 hxw hl oQ oQ hf1 oQ) ?_;rintro _ w3 ⟨m,rfl,hf3,hm1,hm2,hm3,hm4⟩;refine⟨_,rfl,?_⟩;rw[qA (n:=(to:Int) -at_) oQ oQ,show(to:Int) -(at_ :Int)=((to -at_ :Nat):Int) by omega,kT,qA oQ oQ];refine qF (fun hgt=> ?_) (fun hgt=> ?_)
   ·exact⟨⟨min m (to -at_),f,i+1,rfl,rfl,sQ,oQ,oQ,oQ,.inr ⟨hf1,hf2,oQ,fun j hj=>hm4 j oQ⟩,hw2.fr hf3⟩,oQ⟩
   ·exact⟨⟨n,d,i+1,rfl,rfl,sQ,oQ,oQ,oQ,hnd,hw2.fr hf3⟩,oQ⟩
  ·refine qF (fun h3=> ?_) (fun h3=> ?_)
   ·refine gV hxw hl oQ oQ ?_
    have hg:=yC xs at_;rw[Int.toNat_natCast,qA oQ oQ];refine CallT.mono (c88 hw2 (by simp only[List.length_append];omega) oQ) ?_;rintro _ w3 ⟨rfl,hw3⟩;refine⟨rfl,?_⟩;rw[qA oQ oQ];have hsl:=gC (gb xs at_);have hge:gb xs at_ =(xs[at_]'oQ).toNat:=bH (List.getElem?_eq_getElem oQ);refine⟨⟨at_ +1,ts++[.lit (xs[at_]'oQ)],sQ,oQ,oQ,sJ (t:= .lit (xs[at_]'oQ)) hok trivial,?_,?_,?_⟩,oQ⟩
    ·rw[mY,hout];exact(List.take_succ_eq_append_getElem oQ).symm
    ·simp only[List.flatMap_append,List.length_append,List.flatMap_cons,List.flatMap_nil,List.append_nil,yD,<-hge];omega
    ·simpa [yD,<-hge,List.append_assoc]using hw3
   ·rcases hnd with h0|⟨hd1,hd2,hd3,hd4⟩
    ·omega
    ·refine CallT.mono (c89 hw2 (by simp only[List.length_append];omega) oQ hn2 hd1 oQ) ?_
     rintro _ w3 ⟨rfl,s,e,ds,de,k1,k2,k3,k4,k5,k6,k7,hw3⟩;refine⟨rfl,?_⟩;rw[qA oQ oQ];have hsl:=gC s;have hsm:=tY s k1 k2;have hdm:=gX ds k5;have hlt:(xs.take at_).length=at_ :=by simp;omega
     refine⟨⟨at_ +n,ts++[.mat s e ds de],sQ,oQ,oQ,sJ hok ?_,?_,?_,?_⟩,oQ⟩
     ·rw[hout];exact⟨k1,k2,k4,k5,k7,oQ,oQ,oQ⟩
     ·rw[mY,hout]
      show copyN (xs.take at_) ((zD ds).1+de) ((lenOf s).1+e)=_;rw[k3,k6];exact dZ hd1 hd3 oQ hd4
     ·simp only[List.flatMap_append,List.length_append,List.flatMap_cons,List.flatMap_nil,List.append_nil,yD,bitsL_length,wordL_length];omega
     ·simpa [List.append_assoc]using hw3
 ·have:at_ =to:=oQ
  subst this;refine CallT.mono (c88 (s:=256) hw1 (by simp only[List.length_append];omega) oQ) ?_;rintro _ w3 ⟨rfl,hw3⟩;exact⟨rfl,rfl,ts,hok,hout,hlen,hw3⟩
end
def wp56(x0:pQ)(x0l:Nat)(x0c:Nat)(x1:Int)(x2:Int)(R:vPq)(w:wQ):Prop:=qL w (.cells #[.slice none 0 0,iQq 0] 139) fun b q=>xB (fun(r:(Int×Unit) ->World ->Prop)=>r (0,()) q) (fun a d f=>xH (fun(aj:(Unit)) (g:wQ)=>xH (fun(s:(Int×Unit)) (t:wQ)=>CallT Pg 65 #[.pointer (some ⟨b,0,none⟩),iQq s.1] t fun u h=>And (u= .tuple #[]) (zQ (yU (vJ x1 (1:Int)) (60000:Int)) (zQ 8 (ShC (Int.tmod (wIq (Int.tdiv a.1 (yU (vJ x1 (1:Int)) (60000:Int)))) (8:Int)) (IfC ((zF .i64 (qY .i64 x2 (Int.tmod (wIq (Int.tdiv a.1 (yU (vJ x1 (1:Int)) (60000:Int)))) (8:Int))) (1:Int))==1) (CallT Pg 66 #[.pointer (some ⟨b,0,none⟩),iQq 1,iQq 2] h fun v y=>And (v= .tuple #[]) (qL y (.cells #[iQq 1,iQq 2,iQq 3,iQq 4,iQq 6,iQq 8,iQq 12,iQq 17,iQq 33,iQq 65] 3) fun z A=>CallT Pg 67 #[.pointer (some ⟨b,0,none⟩),.slice x0 x0l x0c,iQq a.1,iQq (yU (wIq (a.1+(yU (vJ x1 (1:Int)) (60000:Int)))) (x0l:Int)),.slice (some ⟨z,0,none⟩) 10 10] A fun B C=>And (B= .tuple #[]) (f (wIq (a.1+(yU (vJ x1 (1:Int)) (60000:Int))),()) C))) (CallT Pg 66 #[.pointer (some ⟨b,0,none⟩),iQq 0,iQq 2] h fun D i=>And (D= .tuple #[]) (LdI i ⟨b,0+1,none⟩ .i64 fun E=>zQ 8 (zQ 8 (CallT Pg 66 #[.pointer (some ⟨b,0,none⟩),iQq 0,iQq (Int.tmod (wIq ((8:Int) -(Int.tmod E 8))) (8:Int))] i fun F G=>And (F= .tuple #[]) (CallT Pg 66 #[.pointer (some ⟨b,0,none⟩),iQq (wIq ((yU (wIq (a.1+(yU (vJ x1 (1:Int)) (60000:Int)))) (x0l:Int)) -a.1)),iQq 16] G fun H I=>And (H= .tuple #[]) (CallT Pg 66 #[.pointer (some ⟨b,0,none⟩),iQq (wIq ((65535:Int) -(wIq ((yU (wIq (a.1+(yU (vJ x1 (1:Int)) (60000:Int)))) (x0l:Int)) -a.1)))),iQq 16] I fun J K=>And (J= .tuple #[]) (And (0<=yU (wIq (a.1+(yU (vJ x1 (1:Int)) (60000:Int)))) (x0l:Int)/\yU (wIq (a.1+(yU (vJ x1 (1:Int)) (60000:Int)))) (x0l:Int)<=(x0c:Int)) (And (0<=a.1/\a.1<=yU (wIq (a.1+(yU (vJ x1 (1:Int)) (60000:Int)))) (x0l:Int)) (xB (fun(L:(Int×Unit) ->World ->Prop)=>L (0,()) K) (fun c e M=>IfC (decide (c.1<((((yU (wIq (a.1+(yU (vJ x1 (1:Int)) (60000:Int)))) (x0l:Int)).toNat) -a.1.toNat:Nat):Int))) (And (0<=c.1/\c.1<((((yU (wIq (a.1+(yU (vJ x1 (1:Int)) (60000:Int)))) (x0l:Int)).toNat) -a.1.toNat:Nat):Int)) (qN (qQ x0 x0c a.1.toNat 1) fun N=>LdI e (qH N c.1.toNat 1) .u8 fun O=>CallT Pg 66 #[.pointer (some ⟨b,0,none⟩),iQq (wIq O),iQq 8] e fun P Q=>And (P= .tuple #[]) (M (wIq (c.1+1),()) Q))) (f (wIq (a.1+(yU (vJ x1 (1:Int)) (60000:Int))),()) e)))))))))))))))) (fun j=>IfC ((yU (wIq (a.1+(yU (vJ x1 (1:Int)) (60000:Int)))) (x0l:Int))==(x0l:Int)) (j (1,()) g) (j (0,()) g))) (fun k=>IfC (a.1==0) (k (()) d) (IfC (decide (a.1<(x0l:Int))) (k (()) d) (qL d (.cells #[.int .u8 120,.int .u8 1] 5) fun S l=>qS l ⟨b,0,none⟩ fun T U V=>yF Pg l #[33,33] 33 (.slice (some ⟨S,0,none⟩) 2 2) (.slice T U V) fun X Y Z aa=>CallT Pg 68 #[.slice x0 x0l x0c] aa fun ab ac=>∃m,And (ab= .int .u32 m) (CallT Pg 34 #[.int .u32 m] ac fun ad ae=>∃n o p,And (ad= .slice n o p) (yF Pg ae #[33,33] 33 (.slice X Y Z) (.slice n o p) fun af ag ah ai=>R (.slice af ag ah) ai))))))
theorem call56{x0:pQ}{x0l:Nat}{x0c:Nat}{x1:Int}{x2:Int}{R:vPq}{w:wQ}(h:wp56 x0 x0l x0c x1 x2 R w):CallT Pg 56 #[.slice x0 x0l x0c,.int .i64 x1,.int .i64 x2] w R:=cVq [(10,[(8,.i .i64)],[0,1,2,6,7]),(11,[],[0,1,2,7,8]),(23,[(10,.i .i64)],[0,1,2,7,8,9]),(52,[(85,.i .i64)],[0,1,2,6,7,8,83,84])] Tryz.func56 h
section
variable{w:wQ}
inductive Blk where
 |stored (last:Bool) (d:bQ)
 |fixed (last:Bool) (ts:List Tok)
def Blk.last:Blk ->Bool
 | .stored l _ =>l
 | .fixed l _ =>l
def yV(d:bQ):List Bool:=d.flatMap fun x=>bitsL x.toNat 8
def yT(pos:Nat):Blk ->List Bool
 | .stored l d=>[l]++bitsL 0 2++bitsL 0 ((8 -(pos+3)%8)%8)++bitsL d.length 16++bitsL (65535 -d.length) 16++yV d
 | .fixed l ts=>[l]++bitsL 1 2++ts.flatMap yD++jU 256
def uT(h:bQ):Blk ->bQ
 | .stored _ d=>h++d
 | .fixed _ ts=>vF h ts
def qAn(h:bQ):Blk ->Prop
 | .stored _ d=>d.length<=65535
 | .fixed _ ts=>gG h ts
def xS:Nat ->List Blk ->List Bool
 |_,[]=>[]
 |pos,b::r=>yT pos b++xS (pos+(yT pos b).length) r
def rQ:bQ ->List Blk ->Prop
 |_,[]=>True
 |h,b::r=>qAn h b/\rQ (uT h b) r
def vY(h:bQ)(bl:List Blk):bQ:=bl.foldl uT h
theorem rC(b:Blk):∀(bl:List Blk) (pos:Nat),xS pos (bl++[b])=xS pos bl++yT (pos+(xS pos bl).length) b
 |[],pos=>by simp[xS]
 |c::r,pos=>by simp[xS,rC b r,Nat.add_assoc]
theorem tT{b:Blk}:∀{bl:List Blk} {h:bQ},rQ h bl ->qAn (vY h bl) b ->rQ h (bl++[b])
 |[],_,_,h2=>⟨h2,trivial⟩
 |_ ::_,_,⟨h1,h1'⟩,h2=>⟨h1,tT h1' h2⟩
theorem mJ(h:bQ)(bl:List Blk)(b:Blk):vY h (bl++[b])=uT (vY h bl) b:=by simp[vY]
@[simp] theorem byteBits_length (d:bQ):(yV d).length=8*d.length:=by
 induction d with
 |nil=>rfl
 |cons x r ih=>simp only[yV,List.flatMap_cons,List.length_append,bitsL_length,List.length_cons]at*;omega
def kG(xs:bQ)(bl:List Blk):Prop:=rQ [] bl/\vY [] bl=xs/\(∀la,Blk.stored la []∈bl ->xs=[])/\∃bi b,bl=bi++[b]/\b.last=true/\∀x∈bi,x.last=false
def gE(xs zs:bQ):Prop:=∃bl out,kG xs bl/\rN out (xS 0 bl)/\zs=[120,1]++out++xI (adlerL xs)
theorem Sub_ld{p:pQ}{c at_ :Nat}{xs:bQ}(hx:Has w p (bv xs))(hc:xs.length<=c){k:Nat}(h:at_ +k<xs.length){K:Int ->Prop}(hK:K (gb xs (at_ +k))):qN (qQ p c at_ 1) fun a=>LdI w (qH a k 1) .u8 K:=by
 obtain⟨b,o,rfl,_⟩:=hx.some (kZ h);rw[slAdd_one _ _ _ _ oQ,PtrC_some,elemAt_one];have:=qDg hx (kZ h) hK;rw[PtrC_some,elemAt_one]at this;rw[Nat.add_assoc];exact this
theorem WR.add{w0 w w':wQ}{Z:gI}{g:Nat}{bits:List Bool}{T:TypeId}{arr:vQ}(h:WR w0 Z w g bits)(hf:Fr [] w w')(hr:hp w' (hn w)=Row T arr):WR w0 ((hn w,T,arr)::Z) w' g bits:=by
 obtain⟨h1,h2,p,l,c,out,h3,h4,h5,h6,h7⟩:=h;refine⟨h1.trans hf,h2,p,l,c,out,hf.row0 h3,h4.fr0 hf,h5,h6,fun z hz=> ?_⟩;rcases List.mem_cons.1 hz with rfl|hz
 ·refine⟨hr,fun hx=> ?_⟩
  rcases List.mem_cons.1 hx with hx|hx
  ·have:=zM h3;simp only at hx;omega
  ·have:=h4.blk _ hx;omega
 ·exact(h7.fr hf sQ (fun x hx=> .inl hx)) z hz
theorem WR.drop{w0 w:wQ}{Z:gI}{g:Nat}{bits:List Bool}(h:WR w0 Z w g bits):WR w0 [] w g bits:=by
 obtain⟨h1,h2,p,l,c,out,h3,h4,h5,h6,h7⟩:=h;exact⟨h1,h2,p,l,c,out,h3,h4,h5,h6,fun z hz=>by cases hz⟩
theorem WR.row{w0 w:wQ}{Z:gI}{g:Nat}{bits:List Bool}(h:WR w0 Z w g bits):∃p l c,hp w g=Row 139 #[.slice p l c,.int .i64 (bits.length:Int)]:=by
 obtain⟨h1,h2,p,l,c,out,h3,h4,h5,h6,h7⟩:=h;exact⟨p,l,c,h3⟩
theorem c56{p:pQ}{l c size ways:Nat}{xs:bQ}(hx:Has w p (bv xs))(hl:l=xs.length)(hlc:l<=c)(hb:l<=16777216)(hs:size<=65535):
  CallT Pg 56 #[.slice p l c,.int .i64 size,.int .i64 ways] w fun v w'=>∃zs,gE xs zs/\zs.length<=8*l+64/\fV w zs v w':=by
 apply call56;unfold wp56 wIq iQq;refine qG fun w1 hg hf1 hn1=> ?_;have hW:WR w [] w1 (hn w) []:=⟨hf1,Nat.le_refl _,none,0,0,[],hg,by simpa using Own.nil w1 (hn w) 5 1,by simp[xX],⟨rfl,fun i=>by simp[gb]⟩,fun z hz=>by cases hz⟩;obtain⟨sz,hsz,hsz1,hsz2⟩:∃sz:Nat,yU (vJ (size:Int) 1) 60000=(sz:Int)/\1<=sz/\sz<=60000:=by
  refine⟨min (max size 1) 60000,?_,oQ,oQ⟩;have e1:vJ (size:Int) 1=((max size 1:Nat):Int):=qFg size 1;rw[e1];exact kT _ 60000
 simp only[hsz];refine qP (fun z w'=>∃(at_ :Nat) (bl:List Blk),z.1=at_ /\at_ <=l+65535/\rQ [] bl/\(xS 0 bl).length<=64*min at_ l+(if at_ =0 then 0 else 64)/\WR w [] w' (hn w) (xS 0 bl)/\
   ((at_ <=l/\(at_ <l\/at_ =0)/\(∀x∈bl,x.last=false)/\vY [] bl=xs.take at_ /\(∀la,Blk.stored la []∈bl ->xs=[]))\/(l<=at_ /\0<at_ /\kG xs bl))) (fun z _ =>l+1 -z.1.toNat)
  ⟨0,[],rfl,oQ,trivial,by simp[xS],hW,.inl ⟨oQ,.inr rfl,sQ,rfl,sQ⟩⟩ ?_
 rintro⟨at',⟨⟩⟩ w4 ⟨at_,bl,rfl,hat,hok,hlen,hw4,hst⟩;dsimp only;have hlen':(xS 0 bl).length<=64*l+64:=by split at hlen<;>omega
 refine qJ (fun _ w'=>w'=w4/\(at_ <l\/at_ =0)) ?_ ?_
 ·rintro _ w4 ⟨rfl,hcont⟩
  have hst':at_ <=l/\(∀x∈bl,x.last=false)/\vY [] bl=xs.take at_ /\(∀la,Blk.stored la []∈bl ->xs=[]):=by
   rcases hst with⟨a1,_,a3,a4,a5⟩|⟨a1,a2,_⟩
   ·exact⟨a1,a3,a4,a5⟩
   ·omega
  obtain⟨hal,hlast,hout,hne⟩:=hst';obtain⟨to,hto,hto2⟩:∃to:Nat,yU (wrap .i64 ((at_ :Int)+(sz:Int))) (l:Int)=(to:Int)/\to=min (at_ +sz) l:=by
   refine⟨min (at_ +sz) l,?_,rfl⟩;rw[qA oQ oQ,show(at_ :Int)+(sz:Int)=((at_ +sz:Nat):Int) by omega,kT]
  simp only[hto];have fin:∀(b:Blk) (w':wQ),qAn (xs.take at_) b ->uT (xs.take at_) b=xs.take to ->b.last=decide (to=l) ->((yT (xS 0 bl).length b).length<=8*(to -at_)+42\/(yT (xS 0 bl).length b).length<=32*(to -at_)+12) ->
    WR w [] w' (hn w) (xS 0 bl++yT (xS 0 bl).length b) ->
    (∃(at2:Nat) (bl:List Blk),wrap .i64 ((at_ :Int)+(sz:Int))=at2/\at2<=l+65535/\rQ [] bl/\(xS 0 bl).length<=64*min at2 l+(if at2=0 then 0 else 64)/\WR w [] w' (hn w) (xS 0 bl)/\
     ((at2<=l/\(at2<l\/at2=0)/\(∀x∈bl,x.last=false)/\vY [] bl=xs.take at2/\(∀la,Blk.stored la []∈bl ->xs=[]))\/(l<=at2/\0<at2/\kG xs bl)))/\l+1 -(wrap .i64 ((at_ :Int)+(sz:Int))).toNat<l+1 -(at_ :Int).toNat:=by
   intro b w' h1 h2 h3 h4 h5;have hbo:=rC b bl 0;rw[Nat.zero_add]at hbo;have hne2:∀la,Blk.stored la []∈bl++[b] ->xs=[]:=by
    intro la hm;rcases List.mem_append.1 hm with hm|hm
    ·exact hne la hm
    ·simp at hm
     subst hm;simp only[uT,List.append_nil]at h2;have:=congrArg List.length h2;simp only[List.length_take]at this;exact List.eq_nil_of_length_eq_zero oQ
   rw[qA oQ oQ];refine⟨⟨at_ +sz,bl++[b],sQ,oQ,tT hok (by rw[hout];exact h1),?_,by rw[hbo];exact h5,?_⟩,oQ⟩
   ·rw[hbo,List.length_append,if_neg oQ]
    split at hlen<;>omega
   ·by_cases hfin:to=l
    ·right
     refine⟨oQ,oQ,tT hok (by rw[hout];exact h1),?_,hne2,bl,b,rfl,by rw[h3];simp[hfin],hlast⟩;rw[mJ,hout,h2,hfin,hl,List.take_length]
    ·left
     refine⟨oQ,oQ,?_,?_,hne2⟩
     ·intro x hx
      rcases List.mem_append.1 hx with hx|hx
      ·exact hlast x hx
      ·simp at hx;subst hx;rw[h3];simp[hfin]
     ·rw[mJ,hout,h2];congr 1;omega
  refine qJ (fun z w'=>w'=w4/\z.1=(if decide (to=l)=true then 1 else 0:Int)) ?_ ?_
  ·rintro⟨lv,⟨⟩⟩ w4 ⟨rfl,rfl⟩
   dsimp only;refine CallT.mono (c65 hw4 oQ _) ?_;rintro _ w5 ⟨rfl,hw5⟩;refine⟨rfl,?_⟩;refine xK oQ (xK dQ ?_);have hmod:∀n:Int,0<=n ->0<=Int.tmod n 8:=fun n hn=>Int.tmod_nonneg _ hn;have e1:Int.tdiv (at_ :Int) (sz:Int)=((at_ /sz:Nat):Int):=vR _ _;have hq:at_ /sz<=at_ :=Nat.div_le_self _ _;rw[e1];generalize at_ /sz=qq at*;rw[qA (n:=(qq:Int)) oQ oQ];refine qU (hmod _ oQ) ?_;have hlo:to -at_ <=65535:=oQ;refine qX (fun _ => ?_) (fun _ => ?_)
   ·refine CallT.mono (c66 (v:=1) (n:=2) hw5 (by simp;omega) oQ oQ) ?_
    rintro _ w6 ⟨rfl,hw6⟩;refine⟨rfl,?_⟩;refine qG fun w7 hb7 hf7 hn7=> ?_;have hw7:=hw6.add hf7 hb7;refine CallT.mono (c67 (fr:=at_) (to:=to) hw7 (by simp[farA]) hx hl oQ oQ (by simp;omega)) ?_;rintro _ w8 ⟨rfl,ts,ht1,ht2,ht3,hw8⟩;refine⟨rfl,fin (.fixed (decide (to=l)) ts) w8 ht1 ht2 rfl (.inr ?_) ?_⟩
    ·have hsl:=gC 256
     simp only[yT,List.length_append,bitsL_length,List.length_cons,List.length_nil];omega
    ·simpa [yT,List.append_assoc]using hw8.drop
   ·refine CallT.mono (c66 (v:=0) (n:=2) hw5 (by simp;omega) oQ oQ) ?_
    rintro _ w6 ⟨rfl,hw6⟩;refine⟨rfl,?_⟩;obtain⟨q,ql,qc,hrow6⟩:=hw6.row;refine qC hrow6 rfl (xK dQ (xK dQ ?_));have hpos:(xS 0 bl++[decide (to=l)]++bitsL 0 2).length=(xS 0 bl).length+3:=by simp
    rw[hpos];have e2:Int.tmod (((xS 0 bl).length+3:Nat):Int) 8=((((xS 0 bl).length+3)%8:Nat):Int):=zG _ 8;have e3:(8:Int) -((((xS 0 bl).length+3)%8:Nat):Int)=((8 -((xS 0 bl).length+3)%8:Nat):Int):=oQ;have e4:Int.tmod ((8 -((xS 0 bl).length+3)%8:Nat):Int) 8=(((8 -((xS 0 bl).length+3)%8)%8:Nat):Int):=zG _ 8;rw[e2,e3,qA oQ oQ,e4];refine CallT.mono (c66 (v:=0) hw6 (by rw[hpos];omega) oQ oQ) ?_;rintro _ w7 ⟨rfl,hw7⟩;refine⟨rfl,?_⟩;rw[qA (n:=(to:Int) -at_) oQ oQ,show(to:Int) -(at_ :Int)=((to -at_ :Nat):Int) by omega,qA oQ oQ,show(65535:Int) -((to -at_ :Nat):Int)=((65535 -(to -at_):Nat):Int) by omega];refine CallT.mono (c66 (n:=16) hw7 (by simp;omega) oQ oQ) ?_;rintro _ w8 ⟨rfl,hw8⟩;refine⟨rfl,?_⟩;refine CallT.mono (c66 (n:=16) hw8 (by simp;omega) oQ oQ) ?_;rintro _ w9 ⟨rfl,hw9⟩;refine⟨rfl,⟨oQ,oQ⟩,⟨oQ,oQ⟩,?_⟩;rw[Int.toNat_natCast,Int.toNat_natCast];generalize hB:xS 0 bl++[decide (to=l)]++bitsL 0 2++bitsL 0 ((8 -((xS 0 bl).length+3)%8)%8)++bitsL (to -at_) 16++bitsL (65535 -(to -at_)) 16=B at*;have hBl:B.length<=(xS 0 bl).length+42:=by rw[<-hB];simp;omega
    refine qP (fun z w'=>∃k:Nat,z.1=k/\k<=to -at_ /\WR w [] w' (hn w) (B++yV ((xs.drop at_).take k))) (fun z _ =>to -at_ -z.1.toNat) ⟨0,rfl,oQ,by simpa [yV]using hw9⟩ ?_;rintro⟨k',⟨⟩⟩ w10 ⟨k,rfl,hk,hw10⟩;dsimp only;refine qF (fun h=> ?_) (fun h=> ?_)
    ·refine⟨⟨oQ,h⟩,?_⟩
     rw[Int.toNat_natCast];refine Sub_ld (hx.fr0 hw10.1) oQ oQ ?_;have hgl:=yC xs (at_ +k);rw[qA oQ oQ];refine CallT.mono (c66 (n:=8) hw10 (by simp;omega) oQ oQ) ?_;rintro _ w11 ⟨rfl,hw11⟩;refine⟨rfl,?_⟩;rw[qA oQ oQ];refine⟨⟨k+1,sQ,oQ,?_⟩,oQ⟩;have e5:(xs.drop at_).take (k+1)=(xs.drop at_).take k++[xs[at_ +k]'oQ]:=by
      rw[List.take_succ_eq_append_getElem (by simp;omega)];simp
     have e6:gb xs (at_ +k)=(xs[at_ +k]'oQ).toNat:=bH (List.getElem?_eq_getElem oQ);rw[e5];have e7:yV ((xs.drop at_).take k++[xs[at_ +k]'oQ])=yV ((xs.drop at_).take k)++bitsL (gb xs (at_ +k)) 8:=by simp[yV,e6]
     rw[e7,<-List.append_assoc];exact hw11
    ·have hke:k=to -at_ :=oQ
     subst hke;have hdl:((xs.drop at_).take (to -at_)).length=to -at_ :=by simp;omega
     refine fin (.stored (decide (to=l)) ((xs.drop at_).take (to -at_))) w10 (by show _ <=_;omega) ?_ rfl (.inl ?_) ?_
     ·show xs.take at_ ++(xs.drop at_).take (to -at_)=xs.take to
      rw[<-List.take_add];congr 1;omega
     ·simp only[yT,List.length_append,bitsL_length,List.length_cons,List.length_nil,byteBits_length,hdl];omega
     ·have:xS 0 bl++yT (xS 0 bl).length (.stored (decide (to=l)) ((xs.drop at_).take (to -at_)))=B++yV ((xs.drop at_).take (to -at_)):=by
       rw[<-hB];simp only[yT,hdl,List.append_assoc]
      rw[this];exact hw10
  ·intro J hJ
   refine qX (fun h=> ?_) (fun h=> ?_)
   ·simp only[beq_iff_eq]at h
    exact hJ _ _ ⟨rfl,by rw[if_pos (by simp;omega)]⟩
   ·simp only[beq_eq_false_iff_ne,ne_eq]at h
    exact hJ _ _ ⟨rfl,by rw[if_neg (by simp;omega)]⟩
 ·intro J hJ
  refine qX (fun h=> ?_) (fun h=> ?_)
  ·simp only[beq_iff_eq]at h
   exact hJ _ _ ⟨rfl,oQ⟩
  ·simp only[beq_eq_false_iff_ne,ne_eq]at h
   refine qF (fun h'=> ?_) (fun h'=> ?_)
   ·exact hJ _ _ ⟨rfl,oQ⟩
   ·have hS:kG xs bl:=by
     rcases hst with⟨_,a2,_⟩|⟨_,_,a3⟩
     ·omega
     ·exact a3
    obtain⟨hf4,hg4,q,ql,qc,out,hrow,hoq,hgq,hpk,_⟩:=hw4;refine qG fun w5 hb5 hf5 hn5=> ?_;have hf45:=hf4.trans hf5;refine qK (hf5.row0 hrow) rfl ?_;have hql:ql=out.length:=by have:=hoq.1;simpa using this.symm
    subst hql;have h4n:=hf4.size;have ho5:=Own.of_row (base:=hn w) (size:=1) (l:=2) hb5 h4n sQ;have hol:=hpk.1;refine vC (S:=[]) (w0:=w) jJ hf45 ho5 (hoq.fr0 hf5).has sQ (uK _) oQ (by intro h;subst h;exact hoq.none_iff.2.1) ?_;intro p6 c6 w6 hf6 _ ho6;refine CallT.mono (c68 (hx.fr0 hf6) hl oQ) ?_;rintro _ _ ⟨rfl,rfl⟩;refine⟨_,rfl,CallT.mono (c34 (aU _)) ?_⟩;rintro _ w7 ⟨hf7,p7,c7,rfl,ho7⟩;refine⟨_,_,_,rfl,?_⟩;refine vC (S:=[]) (w0:=w) jJ (hf6.trans hf7) (ho6.fr0 hf7) ho7.has sQ (uK _) (by simp only[qZ];omega) (by intro h;subst h;exact ho7.none_iff.2.1) ?_;intro p8 c8 w8 hf8 _ ho8;have e:([120,1]++out++xI (adlerL xs):bQ).length=2+out.length+(xI (adlerL xs)).length:=by simp;omega
    refine⟨_,⟨bl,out,hS,hpk,rfl⟩,by rw[e,qZ];omega,hf8,p8,c8,by rw[e],?_⟩;rw[e];have e2:bv ([120,1]++out++xI (adlerL xs))= #[Value.int .u8 120,.int .u8 1].toList++bv out++bv (xI (adlerL xs)):=by simp[u8v]
    rw[e2];exact ho8
end
def wp39(x0_0:Int)(x0_1:Int)(x0_2:Int)(x0_3:Int)(x0_4:Bool)(x1:pQ)(x1l:Nat)(x1c:Nat)(x2:pQ)(x2l:Nat)(x2c:Nat)(x3:pQ)(x3l:Nat)(x3c:Nat)(x4_0:pQ)(x4_0l:Nat)(x4_0c:Nat)(x4_1:Int)(x4_2:Int)(x4_3:pQ)(x4_3l:Nat)(x4_3c:Nat)(x5:pQ)(x5l:Nat)(x5c:Nat)(x6:pQ)(x6l:Nat)(x6c:Nat)(R:vPq)(w:wQ):Prop:=qL w (.cells #[iQq x0_0,iQq x0_1,iQq x0_2,iQq x0_3,.bool x0_4] 27) fun c cl=>qL cl (.cells #[.slice x4_0 x4_0l x4_0c,iQq x4_1,iQq x4_2,.slice x4_3 x4_3l x4_3c] 75) fun k D=>xH (fun(t:(Int×Unit)) (cm:wQ)=>xH (fun(E:(Sl×Unit)) (cn:wQ)=>CallT Pg 47 #[] cn fun co cp=>∃Z aa ab,And (co= .slice Z aa ab) (CallT Pg 48 #[.string ⟨#[73,72,68,82]⟩,.slice E.1.a E.1.len E.1.cap] cp fun cq cr=>∃ac ad ae,And (cq= .slice ac ad ae) (yF Pg cr #[33,33] 33 (.slice Z aa ab) (.slice ac ad ae) fun af ag ah cs=>qL cs (.cells #[] 5) fun ct cu=>qL cu (.cells #[] 5) fun cv cw=>xB (fun(cx:(Sl×Sl×Bool×Int×Unit) ->World ->Prop)=>cx ((⟨some ⟨ct,0,none⟩,0,0⟩:Sl),(⟨some ⟨cv,0,none⟩,0,0⟩:Sl),false,(0:Int),()) cw) (fun d l ai=>IfC (decide (d.2.2.2.1<(x2l:Int))) (And (0<=d.2.2.2.1/\d.2.2.2.1<(x2l:Int)) (qN x2 fun m=>LdI l (qH m d.2.2.2.1.toNat 4) .i64 fun cy=>LdI l ⟨(qH m d.2.2.2.1.toNat 4).block,(qH m d.2.2.2.1.toNat 4).off+1,none⟩ .i64 fun cz=>LdI l ⟨(qH m d.2.2.2.1.toNat 4).block,(qH m d.2.2.2.1.toNat 4).off+2,none⟩ .i64 fun da=>LdI l ⟨(qH m d.2.2.2.1.toNat 4).block,(qH m d.2.2.2.1.toNat 4).off+3,none⟩ .i64 fun db=>qL l (.cells (zc Pg 43) 43) fun h dc=>qB dc ⟨h,0,none⟩ (iQq cy) fun dd=>qB dd ⟨h,0+1,none⟩ (iQq cz) fun de=>qB de ⟨h,0+2,none⟩ (iQq da) fun df=>qB df ⟨h,0+3,none⟩ (iQq db) fun u=>LdI u ⟨h,0,none⟩ .i64 fun dg=>zQ 257 (LdI u ⟨h,0+1,none⟩ .i64 fun dh=>zQ 257 (LdI u ⟨h,0+2,none⟩ .i64 fun di=>zQ 257 (qL u (.cells #[.int .u8 (wrap .u8 (wIq (Int.tdiv dg 257))),.int .u8 (wrap .u8 (wIq (Int.tdiv dh 257))),.int .u8 (wrap .u8 (wIq (Int.tdiv di 257)))] 5) fun dj dk=>yF Pg dk #[33,33] 33 (.slice d.1.a d.1.len d.1.cap) (.slice (some ⟨dj,0,none⟩) 3 3) fun aj ak al am=>LdI am ⟨h,0+3,none⟩ .i64 fun dl=>zQ 257 (qL am (.cells #[.int .u8 (wrap .u8 (wIq (Int.tdiv dl 257)))] 5) fun dm dn=>yF Pg dn #[33,33] 33 (.slice d.2.1.a d.2.1.len d.2.1.cap) (.slice (some ⟨dm,0,none⟩) 1 1) fun ao ap aq F=>IfC d.2.2.1 (ai ((⟨aj,ak,al⟩:Sl),(⟨ao,ap,aq⟩:Sl),true,wIq (d.2.2.2.1+1),()) F) (LdI F ⟨h,0+3,none⟩ .i64 fun dp=>ai ((⟨aj,ak,al⟩:Sl),(⟨ao,ap,aq⟩:Sl),dp !=(65535:Int),wIq (d.2.2.2.1+1),()) F))))))) (xH (fun(n:(Sl×Unit)) (ar:wQ)=>xH (fun(o:(Sl×Unit)) (au:wQ)=>xH (fun(G:(Sl×Unit)) (dq:wQ)=>yF Pg dq #[33,33] 33 (.slice G.1.a G.1.len G.1.cap) (.slice x5 x5l x5c) fun dr ds dt du=>qO du fun p=>l4q p c fun dv dw dx dy=>LdB p ⟨c,0+4,none⟩ fun dz=>qS p ⟨k,0,none⟩ fun ea eb ec=>LdI p ⟨k,0+1,none⟩ .i64 fun av=>LdI p ⟨k,0+2,none⟩ .i64 fun aw=>CallT Pg 32 #[.agg #[iQq dv,iQq dw,iQq dx,iQq dy,.bool dz],.slice x1 x1l x1c,.slice ea eb ec] p fun ed H=>∃ax ay az,And (ed= .slice ax ay az) (LdI H ⟨k,0+2,none⟩ .i64 fun ee=>And ((iQq ee:Value)=iQq aw) (LdI H ⟨k,0+1,none⟩ .i64 fun ef=>And ((iQq ef:Value)=iQq av) (CallT Pg 56 #[.slice ax ay az,iQq av,iQq aw] H fun eg eh=>∃ba bb bc,And (eg= .slice ba bb bc) (xB (fun(ei:(Sl×Sl×Int×Unit) ->World ->Prop)=>ei ((⟨dr,ds,dt⟩:Sl),(⟨ba,bb,bc⟩:Sl),(0:Int),()) eh) (fun b q bd=>IfC (decide ((b.2.1.len:Int)>(0:Int))) (qS q ⟨k,0+3,none⟩ fun jd ej je=>IfC (decide (b.2.2.1<(ej:Int))) (qS q ⟨k,0+3,none⟩ fun ek el jf=>And (0<=b.2.2.1/\b.2.2.1<(el:Int)) (qN ek fun em=>LdI q (qH em b.2.2.1.toNat 1) .u8 fun j=>And (0<=yU (wIq j) (b.2.1.len:Int)/\yU (wIq j) (b.2.1.len:Int)<=(b.2.1.cap:Int)) (CallT Pg 48 #[.string ⟨#[73,68,65,84]⟩,.slice b.2.1.a ((yU (wIq j) (b.2.1.len:Int)).toNat) b.2.1.cap] q fun en eo=>∃be bf bg,And (en= .slice be bf bg) (yF Pg eo #[33,33] 33 (.slice b.1.a b.1.len b.1.cap) (.slice be bf bg) fun ep eq er es=>And (0<=yU (wIq j) (b.2.1.len:Int)/\yU (wIq j) (b.2.1.len:Int)<=(b.2.1.len:Int)) (bd ((⟨ep,eq,er⟩:Sl),(⟨qQ b.2.1.a b.2.1.cap ((yU (wIq j) (b.2.1.len:Int)).toNat) 1,b.2.1.len -((yU (wIq j) (b.2.1.len:Int)).toNat),b.2.1.cap -((yU (wIq j) (b.2.1.len:Int)).toNat)⟩:Sl),wIq (b.2.2.1+1),()) es))))) (And (0<=(b.2.1.len:Int)/\(b.2.1.len:Int)<=(b.2.1.cap:Int)) (CallT Pg 48 #[.string ⟨#[73,68,65,84]⟩,.slice b.2.1.a ((b.2.1.len:Int).toNat) b.2.1.cap] q fun et eu=>∃bh bi bj,And (et= .slice bh bi bj) (yF Pg eu #[33,33] 33 (.slice b.1.a b.1.len b.1.cap) (.slice bh bi bj) fun ev ew ex ey=>And (0<=(b.2.1.len:Int)/\(b.2.1.len:Int)<=(b.2.1.len:Int)) (bd ((⟨ev,ew,ex⟩:Sl),(⟨qQ b.2.1.a b.2.1.cap ((b.2.1.len:Int).toNat) 1,b.2.1.len -((b.2.1.len:Int).toNat),b.2.1.cap -((b.2.1.len:Int).toNat)⟩:Sl),wIq (b.2.2.1+1),()) ey))))) (yF Pg q #[33,33] 33 (.slice b.1.a b.1.len b.1.cap) (.slice x6 x6l x6c) fun ez fa fb fc=>CallT Pg 48 #[.string ⟨#[73,69,78,68]⟩,.slice none 0 0] fc fun fd fe=>∃bk bl bm,And (fd= .slice bk bl bm) (yF Pg fe #[33,33] 33 (.slice ez fa fb) (.slice bk bl bm) fun ff fg fh fi=>R (.slice ff fg fh) fi)))))))) (fun bn=>IfC (decide ((x3l:Int)>(0:Int))) (qL au (.cells #[] 5) fun fj fk=>xB (fun(fl:(Sl×Int×Unit) ->World ->Prop)=>fl ((⟨some ⟨fj,0,none⟩,0,0⟩:Sl),(0:Int),()) fk) (fun g I fm=>IfC (decide (g.2.1<(x3l:Int))) (And (0<=g.2.1/\g.2.1<(x3l:Int)) (qN x3 fun fn=>LdI I (qH fn g.2.1.toNat 1) .i64 fun bo=>ShC 8 (qL I (.cells #[.int .u8 (wrap .u8 (qY .i64 bo 8)),.int .u8 (wrap .u8 bo)] 5) fun fo fp=>yF Pg fp #[33,33] 33 (.slice g.1.a g.1.len g.1.cap) (.slice (some ⟨fo,0,none⟩) 2 2) fun fq fr fs ft=>fm ((⟨fq,fr,fs⟩:Sl),wIq (g.2.1+1),()) ft))) (CallT Pg 48 #[.string ⟨#[116,82,78,83]⟩,.slice g.1.a g.1.len g.1.cap] I fun fu fv=>∃bp bq br,And (fu= .slice bp bq br) (yF Pg fv #[33,33] 33 (.slice o.1.a o.1.len o.1.cap) (.slice bp bq br) fun fw fx fy fz=>bn ((⟨fw,fx,fy⟩:Sl),()) fz)))) (bn ((⟨o.1.a,o.1.len,o.1.cap⟩:Sl),()) au))) (fun bs=>IfC d.2.2.1 (CallT Pg 48 #[.string ⟨#[116,82,78,83]⟩,.slice d.2.1.a d.2.1.len d.2.1.cap] ar fun ga gb=>∃bt bu bv,And (ga= .slice bt bu bv) (yF Pg gb #[33,33] 33 (.slice n.1.a n.1.len n.1.cap) (.slice bt bu bv) fun gc gd ge gf=>bs ((⟨gc,gd,ge⟩:Sl),()) gf)) (bs ((⟨n.1.a,n.1.len,n.1.cap⟩:Sl),()) ar))) (fun bw=>IfC (decide ((x2l:Int)>(0:Int))) (CallT Pg 48 #[.string ⟨#[80,76,84,69]⟩,.slice d.1.a d.1.len d.1.cap] l fun gg gh=>∃bx bz ca,And (gg= .slice bx bz ca) (yF Pg gh #[33,33] 33 (.slice af ag ah) (.slice bx bz ca) fun gi gj gk gl=>bw ((⟨gi,gj,gk⟩:Sl),()) gl)) (bw ((⟨af,ag,ah⟩:Sl),()) l))))))) (fun v=>qO cm fun J=>l4q J c fun r i e f=>And (CallT Pg 34 #[.int .u32 (wrap .u32 r)] J fun gm s=>∃y z A,And (gm= .slice y z A) (LdI s ⟨c,0+3,none⟩ .i64 fun gn=>And ((iQq gn:Value)=iQq f) (LdI s ⟨c,0+2,none⟩ .i64 fun go=>And ((iQq go:Value)=iQq e) (LdI s ⟨c,0+1,none⟩ .i64 fun gp=>And ((iQq gp:Value)=iQq i) (And (CallT Pg 34 #[.int .u32 (wrap .u32 i)] s fun gq B=>∃K L M,And (gq= .slice K L M) (LdI B ⟨c,0+3,none⟩ .i64 fun gr=>And ((iQq gr:Value)=iQq f) (LdI B ⟨c,0+2,none⟩ .i64 fun gs=>And ((iQq gs:Value)=iQq e) (And (yF Pg B #[33,33] 33 (.slice y z A) (.slice K L M) fun gt gu gv N=>LdI N ⟨c,0+3,none⟩ .i64 fun gw=>And ((iQq gw:Value)=iQq f) (LdI N ⟨c,0+2,none⟩ .i64 fun gx=>And ((iQq gx:Value)=iQq e) (qL N (.cells #[.int .u8 (wrap .u8 e),.int .u8 (wrap .u8 f),.int .u8 0,.int .u8 0,.int .u8 t.1] 5) fun gy O=>LdI O ⟨c,0+1,none⟩ .i64 fun gz=>And ((iQq gz:Value)=iQq i) (LdI O ⟨c,0,none⟩ .i64 fun ha=>And ((iQq ha:Value)=iQq r) (yF Pg O #[33,33] 33 (.slice gt gu gv) (.slice (some ⟨gy,0,none⟩) 5 5) fun hb hc hd he=>v ((⟨hb,hc,hd⟩:Sl),()) he))))) (qL B (.cells #[.int .u8 (wrap .u8 e),.int .u8 (wrap .u8 f),.int .u8 0,.int .u8 0,.int .u8 t.1] 5) fun hf P=>LdI P ⟨c,0+1,none⟩ .i64 fun hg=>And ((iQq hg:Value)=iQq i) (LdI P ⟨c,0,none⟩ .i64 fun hh=>And ((iQq hh:Value)=iQq r) (yF Pg P #[33,33] 33 (.slice y z A) (.slice K L M) fun hi hj hk Q=>LdI Q ⟨c,0+3,none⟩ .i64 fun hl=>And ((iQq hl:Value)=iQq f) (LdI Q ⟨c,0+2,none⟩ .i64 fun hm=>And ((iQq hm:Value)=iQq e) (yF Pg Q #[33,33] 33 (.slice hi hj hk) (.slice (some ⟨hf,0,none⟩) 5 5) fun hn ho hp hq=>v ((⟨hn,ho,hp⟩:Sl),()) hq))))))))) (qL s (.cells #[.int .u8 (wrap .u8 e),.int .u8 (wrap .u8 f),.int .u8 0,.int .u8 0,.int .u8 t.1] 5) fun hr S=>LdI S ⟨c,0+1,none⟩ .i64 fun hs=>And ((iQq hs:Value)=iQq i) (LdI S ⟨c,0,none⟩ .i64 fun ht=>And ((iQq ht:Value)=iQq r) (CallT Pg 34 #[.int .u32 (wrap .u32 i)] S fun hu T=>∃cb cc cd,And (hu= .slice cb cc cd) (LdI T ⟨c,0+3,none⟩ .i64 fun hv=>And ((iQq hv:Value)=iQq f) (LdI T ⟨c,0+2,none⟩ .i64 fun hw=>And ((iQq hw:Value)=iQq e) (yF Pg T #[33,33] 33 (.slice y z A) (.slice cb cc cd) fun hx hy hz U=>LdI U ⟨c,0+3,none⟩ .i64 fun ia=>And ((iQq ia:Value)=iQq f) (LdI U ⟨c,0+2,none⟩ .i64 fun ib=>And ((iQq ib:Value)=iQq e) (yF Pg U #[33,33] 33 (.slice hx hy hz) (.slice (some ⟨hr,0,none⟩) 5 5) fun ic id ie ig=>v ((⟨ic,id,ie⟩:Sl),()) ig))))))))))))) (qL J (.cells #[.int .u8 (wrap .u8 e),.int .u8 (wrap .u8 f),.int .u8 0,.int .u8 0,.int .u8 t.1] 5) fun ih V=>LdI V ⟨c,0+1,none⟩ .i64 fun ii=>And ((iQq ii:Value)=iQq i) (LdI V ⟨c,0,none⟩ .i64 fun ij=>And ((iQq ij:Value)=iQq r) (CallT Pg 34 #[.int .u32 (wrap .u32 r)] V fun ik C=>∃ce cf cg,And (ik= .slice ce cf cg) (LdI C ⟨c,0+3,none⟩ .i64 fun il=>And ((iQq il:Value)=iQq f) (LdI C ⟨c,0+2,none⟩ .i64 fun im=>And ((iQq im:Value)=iQq e) (LdI C ⟨c,0+1,none⟩ .i64 fun io=>And ((iQq io:Value)=iQq i) (CallT Pg 34 #[.int .u32 (wrap .u32 i)] C fun ip X=>∃ch ci cj,And (ip= .slice ch ci cj) (LdI X ⟨c,0+3,none⟩ .i64 fun iq=>And ((iQq iq:Value)=iQq f) (LdI X ⟨c,0+2,none⟩ .i64 fun ir=>And ((iQq ir:Value)=iQq e) (yF Pg X #[33,33] 33 (.slice ce cf cg) (.slice ch ci cj) fun it iu iv Y=>LdI Y ⟨c,0+3,none⟩ .i64 fun iw=>And ((iQq iw:Value)=iQq f) (LdI Y ⟨c,0+2,none⟩ .i64 fun ix=>And ((iQq ix:Value)=iQq e) (yF Pg Y #[33,33] 33 (.slice it iu iv) (.slice (some ⟨ih,0,none⟩) 5 5) fun iy iz ja jb=>v ((⟨iy,iz,ja⟩:Sl),()) jb)))))))))))))) (fun ck=>LdB D ⟨c,0+4,none⟩ fun jc=>IfC jc (ck (1,()) D) (ck (0,()) D))
theorem call39{x0_0:Int}{x0_1:Int}{x0_2:Int}{x0_3:Int}{x0_4:Bool}{x1:pQ}{x1l:Nat}{x1c:Nat}{x2:pQ}{x2l:Nat}{x2c:Nat}{x3:pQ}{x3l:Nat}{x3c:Nat}{x4_0:pQ}{x4_0l:Nat}{x4_0c:Nat}{x4_1:Int}{x4_2:Int}{x4_3:pQ}{x4_3l:Nat}{x4_3c:Nat}{x5:pQ}{x5l:Nat}{x5c:Nat}{x6:pQ}{x6l:Nat}{x6c:Nat}{R:vPq}{w:wQ}(h:wp39 x0_0 x0_1 x0_2 x0_3 x0_4 x1 x1l x1c x2 x2l x2c x3 x3l x3c x4_0 x4_0l x4_0c x4_1 x4_2 x4_3 x4_3l x4_3c x5 x5l x5c x6 x6l x6c R w):CallT Pg 39 #[.agg #[.int .i64 x0_0,.int .i64 x0_1,.int .i64 x0_2,.int .i64 x0_3,.bool x0_4],.slice x1 x1l x1c,.slice x2 x2l x2c,.slice x3 x3l x3c,.agg #[.slice x4_0 x4_0l x4_0c,.int .i64 x4_1,.int .i64 x4_2,.slice x4_3 x4_3l x4_3c],.slice x5 x5l x5c,.slice x6 x6l x6c] w R:=cVq [(4,[(15,.i .u8)],[1,2,3,5,6,7,11]),(10,[(16,.sl)],[1,2,3,5,6,7,11]),(20,[(18,.sl),(19,.sl),(20,.b),(56,.i .i64)],[1,2,3,5,6,7,11,14,17,54,55]),(37,[(17,.sl)],[1,3,5,6,7,11,19,20]),(43,[(17,.sl)],[1,3,5,6,7,11]),(49,[(17,.sl)],[1,5,6,7,11]),(59,[(19,.sl),(107,.i .i64)],[1,5,6,7,11,14,17,105,106]),(82,[(17,.sl),(25,.sl),(26,.i .i64)],[6,11,14])] Tryz.func39 h
def wp22(x0:pQ)(x0l:Nat)(x0c:Nat)(R:vPq)(w:wQ):Prop:=R (.bool (decide ((x0l:Int)<=(1000:Int))):Value) w
theorem call22{x0:pQ}{x0l:Nat}{x0c:Nat}{R:vPq}{w:wQ}(h:wp22 x0 x0l x0c R w):CallT Pg 22 #[.slice x0 x0l x0c] w R:=cVq [] Tryz.func22 h
def wp37(x0:Int)(R:vPq)(w:wQ):Prop:=zQ 15 (IfC (decide ((Int.tmod (wIq x0) 15)<(5:Int))) (qO w fun a=>ShC (Int.tmod (wIq x0) 15) (R (.tuple #[iQq 0,iQq (xJ .i64 (1:Int) (Int.tmod (wIq x0) 15))]:Value) a)) (IfC (decide ((Int.tmod (wIq x0) 15)<(7:Int))) (qO w fun b=>ShC (wIq ((Int.tmod (wIq x0) 15) -5)) (R (.tuple #[iQq 2,iQq (xJ .i64 (8:Int) (wIq ((Int.tmod (wIq x0) 15) -5)))]:Value) b)) (IfC (decide ((Int.tmod (wIq x0) 15)<(11:Int))) (qO w fun c=>ShC (wIq ((Int.tmod (wIq x0) 15) -7)) (R (.tuple #[iQq 3,iQq (xJ .i64 (1:Int) (wIq ((Int.tmod (wIq x0) 15) -7)))]:Value) c)) (IfC (decide ((Int.tmod (wIq x0) 15)<(13:Int))) (qO w fun d=>ShC (wIq ((Int.tmod (wIq x0) 15) -11)) (R (.tuple #[iQq 4,iQq (xJ .i64 (8:Int) (wIq ((Int.tmod (wIq x0) 15) -11)))]:Value) d)) (qO w fun e=>ShC (wIq ((Int.tmod (wIq x0) 15) -13)) (R (.tuple #[iQq 6,iQq (xJ .i64 (8:Int) (wIq ((Int.tmod (wIq x0) 15) -13)))]:Value) e))))))
theorem call37{x0:Int}{R:vPq}{w:wQ}(h:wp37 x0 R w):CallT Pg 37 #[.int .u8 x0] w R:=cVq [] Tryz.func37 h
section
variable{w:wQ}
abbrev Px:=UInt8×UInt8×UInt8×UInt8
def mN(d:Px):List Value:=[.int .i64 (257*d.1.toNat:Nat),.int .i64 (257*d.2.1.toNat:Nat),.int .i64 (257*d.2.2.1.toNat:Nat),.int .i64 (257*d.2.2.2.toNat:Nat)]
def tD(l:List Px):List Value:=l.flatMap mN
def xM(l:List Px):bQ:=l.flatMap fun d=>[d.1,d.2.1,d.2.2.1]
def xO(l:List Px):bQ:=l.map fun d=>d.2.2.2
def zH(l:List Px):Bool:=l.any fun d=>d.2.2.2 !=255
def zW(l:List Nat):bQ:=l.flatMap fun v=>[UInt8.ofNat (v/256),UInt8.ofNat v]
def zO(W H D C:Nat)(L:Bool):bQ:=xI W++xI H++[UInt8.ofNat D,UInt8.ofNat C,0,0,if L then 1 else 0]
def zJ:bQ:=[73,72,68,82]
def vE:bQ:=[80,76,84,69]
def zC:bQ:=[116,82,78,83]
def nIDAT:bQ:=[73,68,65,84]
def zY:bQ:=[73,69,78,68]
def zU(W H D C:Nat)(L:Bool)(pal:List Px)(cl:List Nat):List Ch:=
 (zJ,zO W H D C L)::((if 0<pal.length then [(vE,xM pal)]else [])++((if zH pal then [(zC,xO pal)]else [])++(if 0<cl.length then [(zC,zW cl)]else [])))
def zI(ds:List (bQ)):List Ch:=ds.map fun d=>(nIDAT,d)
theorem jE(cs:List Ch)(c:Ch):xD (cs++[c])=xD cs++qV c.1 c.2:=by simp[xD,zL,xN,uU]
theorem lQ:xD []=sigL:=by simp[xD,chs]
theorem gJ{w0 w wc:wQ}{p q:pQ}{l c lc cc:Nat}{cs:List Ch}{nm d:bQ}(hf:Fr [] w0 w)(ho:Own w (hn w0) 5 1 p l c (bv (xD cs)))(hl:l=(xD cs).length)
  (hfc:Fr [] w wc)(hlc:lc=(qV nm d).length)(hoc:Own wc (hn w) 5 1 q lc cc (bv (qV nm d)))(hb:(xD cs).length+(qV nm d).length<=1099511627776)
  {K:pQ ->Nat ->Nat ->World ->Prop}(hK:∀p' c' w',Fr [] w0 w' ->Fr (xX p) wc w' ->Own w' (hn w0) 5 1 p' (xD (cs++[(nm,d)])).length c' (bv (xD (cs++[(nm,d)]))) ->(∀x∈xX p',x∈xX p\/hn wc<=x) ->K p' (xD (cs++[(nm,d)])).length c' w'):
  yF Pg wc #[33,33] 33 (.slice p l c) (.slice q lc cc) K:=by
 subst hl;subst hlc;refine uO (S:=[]) (w0:=w0) jJ (hf.trans hfc) (ho.fr0 hfc) hoc.has sQ (uK _) hb (by intro h;subst h;exact hoc.none_iff.2.1) ?_;intro p' c' w' h1 h2 h3 h4;have e:xD (cs++[(nm,d)])=xD cs++qV nm d:=jE cs (nm,d);have e2:(xD (cs++[(nm,d)])).length=(xD cs).length+(qV nm d).length:=by rw[e,List.length_append]
 have:=hK p' c' w' h1 h2 (by rw[e2,e,bv_append];exact h3) h4;rw[e2]at this;exact this
theorem qAt{l:List Px}:∀{k:Nat} {d:Px},l[k]? =some d ->(tD l)[k*4]? =some (.int .i64 (257*d.1.toNat:Nat))/\(tD l)[k*4+1]? =some (.int .i64 (257*d.2.1.toNat:Nat))/\(tD l)[k*4+2]? =some (.int .i64 (257*d.2.2.1.toNat:Nat))/\(tD l)[k*4+3]? =some (.int .i64 (257*d.2.2.2.toNat:Nat)):=by
 induction l with
 |nil=>intro k d h;simp at h
 |cons x r ih=>
  intro k d h
  cases k with
  |zero=>simp at h;subst h;simp[tD,mN]
  |succ k=>
   have:=ih (k:=k) (d:=d) (by simpa using h);have e:tD (x::r)=mN x++tD r:=by simp[tD]
   have hlen:(mN x).length=4:=rfl;rw[e];refine⟨?_,?_,?_,?_⟩
   ·rw[List.getElem?_append_right oQ,show(k+1)*4 -(mN x).length=k*4 by omega];exact this.1
   ·rw[List.getElem?_append_right oQ,show(k+1)*4+1 -(mN x).length=k*4+1 by omega];exact this.2.1
   ·rw[List.getElem?_append_right oQ,show(k+1)*4+2 -(mN x).length=k*4+2 by omega];exact this.2.2.1
   ·rw[List.getElem?_append_right oQ,show(k+1)*4+3 -(mN x).length=k*4+3 by omega];exact this.2.2.2
theorem zc43:zc Pg 43= #[.int .i64 0,.int .i64 0,.int .i64 0,.int .i64 0]:=by kernel_rfl
theorem nE(x:UInt8):Value.int .u8 (wrap .u8 (wrap .i64 (Int.tdiv ((257*x.toNat:Nat):Int) 257)))=u8v x:=by
 have hx:=UInt8.toNat_lt x;have e:Int.tdiv ((257*x.toNat:Nat):Int) 257=((257*x.toNat/257:Nat):Int):=vR _ 257;rw[e,show 257*x.toNat/257=x.toNat by omega,qA oQ oQ,uN oQ oQ];rfl
theorem vI(l:List Px):(xM l).length=3*l.length:=by
 induction l with
 |nil=>rfl
 |cons x r ih=>simp only[xM,List.flatMap_cons,List.length_append,List.length_cons,List.length_nil]at*;omega
theorem qFf{W H D C:Nat}{L:Bool}(hW:W<=64)(hH:H<=64)(hD:D<=16):(rV W H D C L).sum<=229824:=by
 have hcN:=tV C;have one:∀p,p<7 ->(uD W H D C L p).sum<=32832:=by
  intro p hp;obtain⟨hDX,hDY,_,_⟩:=bT L hp;have h1:=sM (X:=(zN L p).1) (W:=W) hDX;have h2:=sM (X:=(zN L p).2.1) (W:=H) hDY;unfold uD;dsimp only
  split
  ·simp
  ·rw[List.sum_replicate_nat]
   have h3:rowB C D (vH (zN L p).1 (zN L p).2.2.1 W)+1<=513:=by
    have h1:vH (zN L p).1 (zN L p).2.2.1 W*chN C<=64*4:=Nat.mul_le_mul oQ hcN.2;have h2:vH (zN L p).1 (zN L p).2.2.1 W*chN C*D<=64*4*16:=Nat.mul_le_mul h1 hD;unfold rowB;omega
   have:=Nat.mul_le_mul (show vH (zN L p).2.1 (zN L p).2.2.2 H<=64 by omega) h3;omega
 have all:∀n,n<=7 ->((List.range n).flatMap (uD W H D C L)).sum<=n*32832:=by
  intro n
  induction n with
  |zero=>intro _;simp
  |succ n ih=>
   intro hn;have:=ih oQ;have:=one n oQ;rw[List.range_succ,List.flatMap_append,List.sum_append_nat];simp only[List.flatMap_cons,List.flatMap_nil,List.append_nil];omega
 have h7:nPass L<=7:=by unfold nPass;split<;>omega
 have:=all (nPass L) h7;unfold rV;omega
theorem RowsOf.length{ls:List Nat}{kind:Nat ->Nat}{xs:bQ}(h:RowsOf ls kind xs):xs.length=ls.sum:=by
 obtain⟨rows,rfl,h2,_⟩:=h;rw[<-h2,List.length_flatten]
theorem Has.adv{p:pQ}{cap n:Nat}{xs:bQ}(h:Has w p (bv xs))(hc:xs.length<=cap)(hn:n<=xs.length):Has w (qQ p cap n 1) (bv (xs.drop n)):=by
 cases p with
 |none=>
  have:xs=[]:=dV (xs:=xs) (ys:=[]) h;subst this;unfold qQ
  split<;>simp[Has]
 |some a=>
  unfold qQ
  split
  ·rename_i e
   have:xs.drop n=[]:=List.drop_eq_nil_of_le oQ;rw[this];obtain⟨h0,T,arr,h1,_⟩:=h;exact⟨h0,T,arr,h1,fun j v hj=>by simp at hj⟩
  ·obtain⟨b,o,s⟩:=a
   have h0:=h.1;simp only at h0;subst h0;have:=Has.slice h n (xs.length -n);rw[Nat.mul_one,Option.map_some,yQ];have e:bv (xs.drop n)=((bv xs).drop n).take (xs.length -n):=by
    rw[List.take_of_length_le sQ];simp[bv,List.map_drop]
   rw[e];exact this
theorem Has.pre{p:pQ}{xs:bQ}{n:Nat}(h:Has w p (bv xs)):Has w p (bv (xs.take n)):=by
 cases p with
 |none=>
  have:xs=[]:=dV (xs:=xs) (ys:=[]) h;subst this;simp[Has]
 |some a=>
  obtain⟨h0,T,arr,h1,h2⟩:=h;refine⟨h0,T,arr,h1,fun j v hj=>h2 j v ?_⟩;simp only[bv,List.map_take,List.getElem?_take]at hj
  split at hj
  ·exact hj
  ·cases hj
theorem nZ(p:pQ)(c n:Nat):xX (qQ p c n 1)=xX p:=by
 unfold qQ
 split
 ·rfl
 ·cases p with
  |none=>rfl
  |some a=>simp[xX];unfold Addr.add;split<;>rfl
theorem c39{W H D C:Nat}{L:Bool}{b o l c:Nat}{ns:List Int}{pp:pQ}{pc:Nat}{pal:List Px}{cp:pQ}{cc:Nat}{cl:List Nat}{fp:pQ}{fc:Nat}{fs:bQ}{size ways:Nat}{up:pQ}{uc:Nat}{us:bQ}
  (hW:1<=W/\W<=64)(hH:1<=H/\H<=64)(hD:D=1\/D=2\/D=4\/D=8\/D=16)
  (hx:Has w (some ⟨b,o,none⟩) (tQ ns))(hl:l=ns.length)(hnn:ns.length=W*H*chN C)(hlc:l<=c)
  (hpal:Has w pp (tD pal))(hpl:pal.length<=256)(hcl:Has w cp (iv cl))(hcll:cl.length<=16)
  (hfs:Has w fp (bv fs))(hfl:fs.length<65536)(hsz:size<=65535)(hus:Has w up (bv us))(hul:us.length<65536)(hu1:∀u∈us,1<=u.toNat):
  CallT Pg 39 #[shp W H D C L,.slice (some ⟨b,o,none⟩) l c,.slice pp pal.length pc,.slice cp cl.length cc,.agg #[.slice fp fs.length fc,.int .i64 size,.int .i64 ways,.slice up us.length uc],.slice none 0 0,.slice none 0 0] w
   fun v w'=>∃xs zs ds,RowsOf (rV W H D C L) (kY fs) xs/\gE xs zs/\ds.flatten=zs/\(∀d∈ds,d≠[])/\zs.length<=2097152/\fV w (xD (zU W H D C L pal cl++zI ds++[(zY,[])])) v w':=by
 apply call39;unfold wp39 l4q wIq iQq;refine qG fun w1 hS1 hf1 hn1=> ?_;refine qG fun wB hB hf2 hn2=> ?_;have hS:=hf2.row0 hS1;have hwB:=hf1.trans hf2;have hx:=hx.fr0 hwB;have hpal:=hpal.fr0 hwB;have hcl:=hcl.fr0 hwB;have hfs:=hfs.fr0 hwB;have hus:=hus.fr0 hwB;generalize hn w=rS at*;generalize hn w1=rB at*;refine qJ (fun z w'=>w'=wB/\z.1=(if L then 1 else 0:Int)) ?_ ?_
 ·rintro⟨lv,⟨⟩⟩ wB ⟨rfl,rfl⟩
  dsimp only;refine qJ (fun z w'=>Fr [] wB w'/\Own w' (hn wB) 5 1 z.1.a z.1.len z.1.cap (bv (zO W H D C L))/\z.1.len=13) ?_ ?_
  ·rintro⟨⟨ph,lh,chh⟩,⟨⟩⟩ w9 ⟨F9,hh,rfl⟩
   dsimp only at*;have hhl:(zO W H D C L).length=13:=rfl;refine CallT.mono c47 ?_;rintro _ w12 ⟨hf12,p13,c15,rfl,ho13⟩;refine⟨_,_,_,rfl,?_⟩;have F12:=F9.trans hf12;refine CallT.mono (c48 (nm:=zJ) (xs:=zO W H D C L) (hh.fr0 hf12).has rfl oQ dQ (by intro h;subst h;exact(hh.fr0 hf12).none_iff.2.1)) ?_;rintro _ w17 ⟨hf17,p18,c20,rfl,ho18⟩;refine⟨_,_,_,rfl,?_⟩;have hcl0:=xE (nm:=zJ) (data:=zO W H D C L) rfl;refine gJ (cs:=[]) (nm:=zJ) (d:=zO W H D C L) F12 (by rw[lQ];exact ho13.base_le F9.size) rfl hf17 rfl ho18 (by rw[lQ,hcl0,hhl];decide) ?_;intro p21 c23 w24 F24 _ ho21 _;rw[List.nil_append]at*;have hlen21:(xD [(zJ,zO W H D C L)]).length=33:=by rw[<-List.nil_append [(zJ,zO W H D C L)],jE,List.length_append,lQ,hcl0,hhl];rfl
   have hblk21:=ho21.blk;refine qG fun w26 hA hf26 hn26=> ?_;refine qG fun w28 hBb hf28 hn28=> ?_;have hoA:=(Own.of_row (base:=hn w24) (size:=1) (l:=0) hA (Nat.le_refl _) sQ).fr0 hf28;have hoB:=Own.of_row (base:=hn w24) (size:=1) (l:=0) hBb oQ sQ;refine qP (fun z w'=>Fr [] w24 w'/\∃k:Nat,z.2.2.2.1=k/\k<=pal.length/\z.1.len=(xM (pal.take k)).length/\Own w' (hn w24) 5 1 z.1.a z.1.len z.1.cap (bv (xM (pal.take k)))/\
     z.2.1.len=(xO (pal.take k)).length/\Own w' (hn w24) 5 1 z.2.1.a z.2.1.len z.2.1.cap (bv (xO (pal.take k)))/\z.2.2.1=zH (pal.take k)/\(∀x∈xX z.1.a,x∉xX z.2.1.a)) (fun z _ =>pal.length -z.2.2.2.1.toNat)
    ⟨hf26.trans hf28,0,rfl,oQ,rfl,by simpa [xM]using hoA,rfl,by simpa [xO]using hoB,rfl,fun x hx hx'=>by simp[xX]at hx hx';omega⟩ ?_
   rintro⟨⟨pA,lA,cA⟩,⟨pB,lB,cB⟩,any,k',⟨⟩⟩ w30 ⟨hf30,k,rfl,hk,rfl,hoA,rfl,hoB,rfl,hAB⟩;dsimp only at*;have F30:=F24.trans hf30;have hshl:(xM (pal.take k)).length=3*k:=by rw[vI];simp;omega
   have hall:(xO (pal.take k)).length=k:=by simp[xO];omega
   refine qF (fun h=> ?_) (fun h=> ?_)
   ·obtain⟨d,hd⟩:∃d,pal[k]? =some d:=⟨pal[k]'oQ,List.getElem?_eq_getElem oQ⟩
    obtain⟨v1,v2,v3,v4⟩:=qAt hd;have hp30:=hpal.fr0 F30;obtain⟨bb,oo,q1,k1⟩:=Has.some hp30 v1;obtain⟨bb2,oo2,q2,k2⟩:=Has.some hp30 v2;obtain⟨bb3,oo3,q3,k3⟩:=Has.some hp30 v3;obtain⟨bb4,oo4,q4,k4⟩:=Has.some hp30 v4;subst q1
    cases q2;cases q3;cases q4
    refine⟨⟨oQ,h⟩,?_⟩;rw[PtrC_some,Int.toNat_natCast,xW];dsimp only;simp only[<-Nat.add_assoc]at k2 k3 k4;rw[yZ,k1,RdI_some,yZ,k2,RdI_some,yZ,k3,RdI_some,yZ,k4,RdI_some,zc43];refine qG fun w39 h39 hf39 hn39=> ?_;refine qD h39 sQ fun w40 h40 hf40 hn40=> ?_;refine qD h40 sQ fun w41 h41 hf41 hn41=> ?_;refine qD h41 sQ fun w42 h42 hf42 hn42=> ?_;refine qD h42 sQ fun w43 h43 hf43 hn43=> ?_;have h43:hp w43 (hn w30)=Row 43 #[.int .i64 (257*d.1.toNat:Nat),.int .i64 (257*d.2.1.toNat:Nat),.int .i64 (257*d.2.2.1.toNat:Nat),.int .i64 (257*d.2.2.2.toNat:Nat)]:=h43;have h30n:hn w30<=hn w30:=Nat.le_refl _;have hf3043:Fr [] w30 w43:=(((hf39.new1 hf40 h30n).new1 hf41 h30n).new1 hf42 h30n).new1 hf43 h30n;refine qC h43 rfl (xK dQ (qC h43 rfl (xK dQ (qC h43 rfl (xK dQ ?_)))));rw[nE,nE,nE];have hblkA:=hoA.blk;have hblkB:=hoB.blk;have h3043:=hf3043.size;have hr43:=zM h43;refine dB jJ (hf30.trans hf3043) (hoA.fr0 hf3043) (cs:= #[u8v d.1,u8v d.2.1,u8v d.2.2.1]) (m:=3) rfl (by simp[u8v,Value.oneCell']) oQ ?_;intro p49 c51 w52 hf52 hf52' ho52 hsrc52;have hr52:=hf52'.row h43 fun hx=>by have:=hblkA _ hx;omega
    refine qC hr52 rfl (xK dQ ?_);rw[nE];have hoB52:=(hoB.fr0 hf3043).fr hf52' fun a ha hx=>hAB _ hx (by rw[ha];exact uQ);have h4352:=hf52'.size;refine dB jJ hf52 hoB52 (cs:= #[u8v d.2.2.2]) (m:=1) rfl (by simp[u8v,Value.oneCell']) oQ ?_;intro p56 c58 w59 hf59 hf59' ho59 hsrc59;have hr59:=hf59'.row hr52 fun hx=>by have:=hblkB _ hx;omega
    have hd52:∀x∈xX p49,x∉xX pB:=fun x hx hx'=>by
     have:=hblkB _ hx';rcases hsrc52 _ hx with h|h
     ·exact hAB _ h hx'
     ·omega
    have ho49:=ho52.fr hf59' fun a ha hx=>hd52 _ (by rw[ha];exact uQ) hx;have hblk49:=ho52.blk;have hdis:∀x∈xX p49,x∉xX p56:=fun x hx hx'=>by
     rcases hsrc59 _ hx' with h|h
     ·exact hd52 x hx h
     ·have:=hblk49 _ hx;omega
    have et:pal.take (k+1)=pal.take k++[d]:=by
     rw[List.take_succ_eq_append_getElem oQ]
     congr 2
     have:=List.getElem?_eq_getElem (l:=pal) (i:=k) oQ;rw[this]at hd;exact Option.some.inj hd
    have es:xM (pal.take (k+1))=xM (pal.take k)++[d.1,d.2.1,d.2.2.1]:=by rw[et];simp[xM]
    have ea:xO (pal.take (k+1))=xO (pal.take k)++[d.2.2.2]:=by rw[et];simp[xO]
    have en:zH (pal.take (k+1))=(zH (pal.take k)||d.2.2.2 !=255):=by rw[et];simp[zH]
    have hlast:(((257*d.2.2.2.toNat:Nat):Int) !=65535)=(d.2.2.2 !=255):=by
     have hx:=UInt8.toNat_lt d.2.2.2
     by_cases h5:d.2.2.2=255
     ·rw[h5];rfl
     ·have h6:d.2.2.2.toNat≠255:=fun e=>h5 (UInt8.toNat_inj.1 e)
      have h7:((257*d.2.2.2.toNat:Nat):Int)≠65535:=oQ;rw[bne_iff_ne.2 h5,bne_iff_ne.2 h7]
    simp (disch:=omega) only[qA];refine qX (fun hany=> ?_) (fun hany=>qC hr59 rfl ?_)
    ·exact⟨⟨hf59,k+1,sQ,oQ,by rw[es];simp,by rw[es,bv_append];exact ho49,by rw[ea];simp,by rw[ea,bv_append];exact ho59,by rw[en,hany];rfl,hdis⟩,oQ⟩
    ·exact⟨⟨hf59,k+1,sQ,oQ,by rw[es];simp,by rw[es,bv_append];exact ho49,by rw[ea];simp,by rw[ea,bv_append];exact ho59,by rw[en,hany,hlast];rfl,hdis⟩,oQ⟩
   ·have hke:k=pal.length:=oQ
    subst hke;rw[List.take_length]at*;have hn24:=hf30.size;have hblkB:=hoB.blk;have hplc:=xE (nm:=vE) (data:=xM pal) rfl;have hshl':=vI pal;refine qJ (fun z w'=>Fr [] wB w'/\z.1.len=(xD ([(zJ,zO W H D C L)]++if 0<pal.length then [(vE,xM pal)]else [])).length/\z.1.len<=813/\
      Own w' (hn wB) 5 1 z.1.a z.1.len z.1.cap (bv (xD ([(zJ,zO W H D C L)]++if 0<pal.length then [(vE,xM pal)]else [])))/\Own w' (hn w24) 5 1 pB (xO pal).length cB (bv (xO pal))/\(∀x∈xX pB,x∉xX z.1.a)) ?_ ?_
    ·rintro⟨⟨q1,m1,k1⟩,⟨⟩⟩ w62 ⟨F62,rfl,hm1,ho61,hoB62,hdB⟩
     dsimp only at*;generalize hcs1:[(zJ,zO W H D C L)]++(if 0<pal.length then [(vE,xM pal)]else [])=cs1 at*;have halc:=xE (nm:=zC) (data:=xO pal) rfl;refine qJ (fun z w'=>Fr [] wB w'/\z.1.len=(xD (cs1++if zH pal then [(zC,xO pal)]else [])).length/\z.1.len<=1081/\
       Own w' (hn wB) 5 1 z.1.a z.1.len z.1.cap (bv (xD (cs1++if zH pal then [(zC,xO pal)]else [])))) ?_ ?_
     ·rintro⟨⟨q2,m2,k2⟩,⟨⟩⟩ w65 ⟨F65,rfl,hm2,ho64⟩
      dsimp only at*;generalize hcs2:cs1++(if zH pal then [(zC,xO pal)]else [])=cs2 at*;have hcll2:∀l:List Nat,(zW l).length=2*l.length:=fun l=>by
       induction l with
       |nil=>rfl
       |cons x r ih=>simp only[zW,List.flatMap_cons,List.length_append,List.length_cons,List.length_nil]at*;omega
      have hclc:=xE (nm:=zC) (data:=zW cl) rfl;refine qJ (fun z w'=>Fr [] wB w'/\z.1.len=(xD (cs2++if 0<cl.length then [(zC,zW cl)]else [])).length/\z.1.len<=1125/\
        Own w' (hn wB) 5 1 z.1.a z.1.len z.1.cap (bv (xD (cs2++if 0<cl.length then [(zC,zW cl)]else [])))) ?_ ?_
      ·rintro⟨⟨q3,m3,k3⟩,⟨⟩⟩ w68 ⟨F68,rfl,hm3,ho67⟩
       dsimp only at*;have hfore:cs2++(if 0<cl.length then [(zC,zW cl)]else [])=zU W H D C L pal cl:=by
        rw[<-hcs2,<-hcs1];simp[zU,List.append_assoc]
       rw[hfore]at ho67 hm3⊢;refine uO (S:=[]) (w0:=wB) (q:=none) (m:=0) (d:=0) (news:=[]) jJ F68 ho67 (show Has w68 none []from rfl) sQ sQ oQ sQ ?_;intro p70 c72 w73 F73 _ ho70 _;rw[List.append_nil,Nat.add_zero]at ho70;refine qE fun w74 hf74 hn74=> ?_;have F74:=F73.trans hf74;have hS74:=F74.row0 hS;have hB74:=F74.row0 hB;refine qC hS74 rfl (qC hS74 rfl (qC hS74 rfl (qC hS74 rfl (zB hS74 rfl (qK hB74 rfl (qC hB74 rfl (qC hB74 rfl ?_)))))));refine CallT.mono (c32 hW hH hD (hx.fr0 F74) hl hnn hlc (hfs.fr0 F74) rfl hfl) ?_;rintro _ w86 ⟨xs,hR,hf86,p87,c89,rfl,ho87⟩;have F86:=F74.trans hf86;have hB86:=F86.row0 hB;have hxl:xs.length<=229824:=by rw[hR.length];exact qFf hW.2 hH.2 oQ
       have hxc:xs.length<=c89:=by
        rcases ho87 with⟨_,⟨_,h0,_⟩|⟨_,_,_,_,_,h1,_⟩⟩<;>omega
       refine⟨_,_,_,rfl,qC hB86 rfl ⟨rfl,qC hB86 rfl ⟨rfl,?_⟩⟩⟩;refine CallT.mono (c56 ho87.has rfl hxc oQ hsz) ?_;rintro _ w93 ⟨zs,hZ,hzl,hf93,p94,c96,rfl,ho94⟩;refine⟨_,_,_,rfl,?_⟩;have F93:=F86.trans hf93;have hblk94:=ho94.blk;have ho93:=(ho70.fr0 hf74).fr0 (hf86.trans hf93);have hblk70:=ho70.blk;have h7374:=hf74.size;have h7486:=hf86.size;have hzc:zs.length<=c96:=by
        rcases ho94 with⟨_,⟨_,h0,_⟩|⟨_,_,_,_,_,h1,_⟩⟩<;>omega
       refine qP (fun z w'=>Fr [] wB w'/\∃(k:Nat) (ds:List (bQ)) (rest:bQ),z.2.2.1=k/\k<=zs.length/\k+rest.length<=zs.length/\z.1.len=(xD (zU W H D C L pal cl++zI ds)).length/\z.1.len+13*rest.length<=1125+13*zs.length/\
         Own w' (hn wB) 5 1 z.1.a z.1.len z.1.cap (bv (xD (zU W H D C L pal cl++zI ds)))/\Has w' z.2.1.a (bv rest)/\z.2.1.len=rest.length/\rest.length<=z.2.1.cap/\(z.2.1.a=none ->z.2.1.cap=0)/\
         ds.flatten++rest=zs/\(∀d∈ds,d≠[])/\(∀x∈xX z.2.1.a,x<hn w'/\x∉xX z.1.a)) (fun z _ =>z.2.1.len)
        ⟨F93,0,[],zs,rfl,oQ,oQ,by simp[zI],by dsimp only;omega,by simpa [zI]using ho93,ho94.has,rfl,hzc,by intro h;dsimp only at h;subst h;exact ho94.none_iff.2.1,sQ,sQ,fun x hx=>by
         have:=hblk94 x hx;exact⟨oQ,fun hx'=>by have:=hblk70 x hx';omega⟩⟩ ?_
       rintro⟨⟨qo,lo,co⟩,⟨qa,la,ca⟩,k',⟨⟩⟩ w98 ⟨F98,k,ds,rest,rfl,hkz,hkr,rfl,hlo,hoo,har,rfl,hrc,hnone,hflat,hne,hdis⟩;dsimp only at*;have step:∀(n:Nat),1<=n ->n<=rest.length ->CallT Pg 48 #[.string ⟨nIDAT.toArray⟩,.slice qa n ca] w98 fun v w119=>∃(p120:pQ) (l121 c122:Nat),v= .slice p120 l121 c122/\
         yF Pg w119 #[33,33] 33 (.slice qo (xD (zU W H D C L pal cl++zI ds)).length co) (.slice p120 l121 c122) fun p l c w'=>(Fr [] wB w'/\∃(k2:Nat) (ds:List (bQ)) (rest2:bQ),wrap .i64 ((k:Int)+1)=k2/\k2<=zs.length/\k2+rest2.length<=zs.length/\l=(xD (zU W H D C L pal cl++zI ds)).length/\l+13*rest2.length<=1125+13*zs.length/\
          Own w' (hn wB) 5 1 p l c (bv (xD (zU W H D C L pal cl++zI ds)))/\Has w' (qQ qa ca n 1) (bv rest2)/\rest.length -n=rest2.length/\rest2.length<=ca -n/\(qQ qa ca n 1=none ->ca -n=0)/\
          ds.flatten++rest2=zs/\(∀d∈ds,d≠[])/\(∀x∈xX (qQ qa ca n 1),x<hn w'/\x∉xX p))/\rest.length -n<rest.length:=by
        intro n h1 h2;have htk:(rest.take n).length=n:=by simp;omega
        refine CallT.mono (c48 (nm:=nIDAT) (xs:=rest.take n) (Has.pre har) htk.symm oQ dQ hnone) ?_;rintro _ w119 ⟨hf119,p120,c122,rfl,ho120⟩;refine⟨_,_,_,rfl,?_⟩;have hcl1:=xE (nm:=nIDAT) (data:=rest.take n) rfl;refine gJ (cs:=zU W H D C L pal cl++zI ds) (nm:=nIDAT) (d:=rest.take n) F98 hoo rfl hf119 rfl ho120 oQ ?_;intro p' c' w' F' hf' ho' hsrc;have h98:=hf119.size;have h119:=hf'.size;have ed:zU W H D C L pal cl++zI ds++[(nIDAT,rest.take n)]=zU W H D C L pal cl++zI (ds++[rest.take n]):=by simp[zI]
        have el:(xD (zU W H D C L pal cl++zI ds++[(nIDAT,rest.take n)])).length=(xD (zU W H D C L pal cl++zI ds)).length+(qV nIDAT (rest.take n)).length:=by rw[jE,List.length_append]
        have hdl:(rest.drop n).length=rest.length -n:=by simp
        refine⟨⟨F',k+1,ds++[rest.take n],rest.drop n,by rw[qA oQ oQ];simp,oQ,oQ,by rw[ed],oQ,by rw[<-ed];exact ho',?_,oQ,oQ,?_,by simp[<-hflat],?_,?_⟩,oQ⟩
        ·exact Has.adv ((har.fr0 hf119).fr hf' fun a ha hx=>(hdis _ (by rw[ha];exact uQ)).2 hx) hrc h2
        ·intro hs
         have:qa=none:=by
          unfold qQ at hs
          split at hs
          ·exact hs
          ·cases qa with
           |none=>rfl
           |some a=>simp at hs
         have:=hnone this;omega
        ·intro d hd
         rcases List.mem_append.1 hd with hd|hd
         ·exact hne d hd
         ·simp at hd;subst hd;intro e;rw[e]at htk;simp at htk;omega
        ·intro x hx
         rw[nZ]at hx;have:=hdis x hx;refine⟨oQ,fun hx'=> ?_⟩;rcases hsrc _ hx' with h|h
         ·exact this.2 h
         ·omega
       have hBs:=F98.row0 hB;refine qF (fun hr0=>qK hBs rfl (qF (fun hku=>qK hBs rfl ?_) (fun hku=> ?_))) (fun hr0=> ?_)
       ·refine gV (hus.fr0 F98) rfl oQ hku ?_
        have hu:1<=gb us k:=by
         have:=List.getElem?_eq_getElem (l:=us) (i:=k) oQ;rw[bH this];exact hu1 _ (List.getElem_mem _)
        have hg:=yC us k;rw[Int.toNat_natCast,qA (n:=(gb us k:Int)) oQ oQ,kT];refine⟨⟨oQ,oQ⟩,?_⟩;rw[Int.toNat_natCast];refine CallT.mono (step (min (gb us k) rest.length) oQ oQ) ?_;rintro v w' ⟨p,l,c,rfl,hA⟩;refine⟨_,_,_,rfl,?_⟩;obtain⟨p',l',c',w'',h1,h2⟩:=hA;exact⟨p',l',c',w'',h1,⟨oQ,oQ⟩,h2⟩
       ·refine⟨⟨oQ,oQ⟩,?_⟩
        rw[Int.toNat_natCast];refine CallT.mono (step rest.length oQ oQ) ?_;rintro v w' ⟨p,l,c,rfl,hA⟩;refine⟨_,_,_,rfl,?_⟩;obtain⟨p',l',c',w'',h1,h2⟩:=hA;exact⟨p',l',c',w'',h1,⟨oQ,oQ⟩,h2⟩
       ·have hr:rest=[]:=List.length_eq_zero_iff.1 oQ
        subst hr;refine uO (S:=[]) (w0:=wB) (q:=none) (m:=0) (d:=0) (news:=[]) jJ F98 hoo (show Has w98 none []from rfl) sQ sQ oQ sQ ?_;intro p127 c129 w130 F130 _ ho127 _;rw[List.append_nil,Nat.add_zero]at ho127;refine CallT.mono (c48 (p:=none) (l:=0) (c:=0) (nm:=zY) (xs:=[]) rfl rfl oQ dQ sQ) ?_;rintro _ w132 ⟨hf132,p133,c135,rfl,ho133⟩;refine⟨_,_,_,rfl,?_⟩;have hcl1:=xE (nm:=zY) (data:=[]) rfl;refine gJ (cs:=zU W H D C L pal cl++zI ds) (nm:=zY) (d:=[]) F130 ho127 rfl hf132 rfl ho133 oQ ?_;intro p' c' w' F' _ ho' _;exact⟨xs,zs,ds,hR,hZ,by simpa using hflat,hne,oQ,hwB.trans F',p',c',rfl,ho'.base_le hwB.size⟩
      ·intro J hJ
       have h65:hn w65<=hn w65:=Nat.le_refl _;refine qF (fun hc0=> ?_) (fun hc0=> ?_)
       ·refine qG fun w141 h141 hf141 hn141=> ?_
        have ho141:=Own.of_row (base:=hn w65) (size:=1) (l:=0) h141 h65 sQ;refine qP (fun z w'=>Fr [] w65 w'/\∃k:Nat,z.2.1=k/\k<=cl.length/\z.1.len=(zW (cl.take k)).length/\Own w' (hn w65) 5 1 z.1.a z.1.len z.1.cap (bv (zW (cl.take k)))) (fun z _ =>cl.length -z.2.1.toNat)
         ⟨hf141,0,rfl,oQ,rfl,by simpa [zW]using ho141⟩ ?_
        rintro⟨⟨pc,lc,cc'⟩,k',⟨⟩⟩ w143 ⟨hf143,k,rfl,hk,rfl,hoc⟩;dsimp only at*;have F143:=F65.trans hf143;refine qF (fun hkc=> ?_) (fun hkc=> ?_)
        ·have hv:(iv cl)[k]? =some (.int .i64 ((cl[k]'oQ:Nat):Int)):=by simp[iv,List.getElem?_eq_getElem (show k<cl.length by omega)]
         refine IdxI (hcl.fr0 F143) oQ hkc (by rw[Int.toNat_natCast];exact hv) ?_;have et:cl.take (k+1)=cl.take k++[cl[k]'oQ]:=List.take_succ_eq_append_getElem oQ;generalize cl[k]'oQ=v at*;have hb1:Value.int .u8 (wrap .u8 (qY .i64 (v:Int) 8))=u8v (UInt8.ofNat (v/256)):=by
          have e8:qY .i64 (v:Int) ((8:Nat):Int)=((v/2^8:Nat):Int):=jT .i64 v 8 dQ;rw[show(8:Int)=((8:Nat):Int)from rfl,e8,jL,jP];congr 1
         have hb2:Value.int .u8 (wrap .u8 (v:Int))=u8v (UInt8.ofNat v):=by rw[jL,jP];congr 1
         rw[hb1,hb2];have h2k:(zW (cl.take k)).length=2*k:=by rw[hcll2];simp;omega
         refine qU dQ (gU jJ hf143 hoc (cs:= #[u8v (UInt8.ofNat (v/256)),u8v (UInt8.ofNat v)]) (m:=2) rfl (by simp[u8v,Value.oneCell']) oQ ?_);intro p' c' w153 hf153 _ ho153;have es:zW (cl.take (k+1))=zW (cl.take k)++[UInt8.ofNat (v/256),UInt8.ofNat v]:=by rw[et];simp[zW]
         rw[qA oQ oQ];exact⟨⟨hf153,k+1,sQ,oQ,by rw[es];simp,by rw[es,bv_append];exact ho153⟩,oQ⟩
        ·have:k=cl.length:=oQ
         subst this;rw[List.take_length]at*;have h2k:=hcll2 cl;refine CallT.mono (c48 (nm:=zC) (xs:=zW cl) hoc.has rfl oQ dQ (by intro h;subst h;exact hoc.none_iff.2.1)) ?_;rintro _ w155 ⟨hf155,p156,c158,rfl,ho156⟩;refine⟨_,_,_,rfl,?_⟩;refine gJ (cs:=cs2) (nm:=zC) (d:=zW cl) F143 (ho64.fr0 hf143) rfl hf155 rfl ho156 oQ ?_;intro p' c' w' F' _ ho' _;have e:(xD (cs2++[(zC,zW cl)])).length=(xD cs2).length+(qV zC (zW cl)).length:=by rw[jE,List.length_append]
         refine hJ _ _ ⟨F',by rw[if_pos oQ],by dsimp only;omega,by rw[if_pos oQ];exact ho'⟩
       ·exact hJ _ _ ⟨F65,by rw[if_neg oQ,List.append_nil],by dsimp only;omega,by rw[if_neg oQ,List.append_nil];exact ho64⟩
     ·intro J hJ
      refine qX (fun hany=> ?_) (fun hany=> ?_)
      ·have hal:(xO pal).length=pal.length:=by simp[xO]
       refine CallT.mono (c48 (nm:=zC) (xs:=xO pal) hoB62.has rfl oQ dQ (by intro h;subst h;exact hoB62.none_iff.2.1)) ?_;rintro _ w164 ⟨hf164,p165,c167,rfl,ho165⟩;refine⟨_,_,_,rfl,?_⟩;refine gJ (cs:=cs1) (nm:=zC) (d:=xO pal) F62 ho61 rfl hf164 rfl ho165 oQ ?_;intro p' c' w' F' _ ho' _;have e:(xD (cs1++[(zC,xO pal)])).length=(xD cs1).length+(qV zC (xO pal)).length:=by rw[jE,List.length_append]
       exact hJ _ _ ⟨F',by rw[if_pos hany],by dsimp only;omega,by rw[if_pos hany];exact ho'⟩
      ·exact hJ _ _ ⟨F62,by rw[hany];simp,by dsimp only;omega,by rw[hany];simpa using ho61⟩
    ·intro J hJ
     refine qF (fun hp0=> ?_) (fun hp0=> ?_)
     ·refine CallT.mono (c48 (nm:=vE) (xs:=xM pal) hoA.has rfl oQ dQ (by intro h;subst h;exact hoA.none_iff.2.1)) ?_
      rintro _ w173 ⟨hf173,p174,c176,rfl,ho174⟩;refine⟨_,_,_,rfl,?_⟩;refine gJ (cs:=[(zJ,zO W H D C L)]) (nm:=vE) (d:=xM pal) F30 (ho21.fr0 hf30) rfl hf173 rfl ho174 oQ ?_;intro p' c' w' F' hf' ho' hsrc;have h173:=hf173.size;have e:(xD ([(zJ,zO W H D C L)]++[(vE,xM pal)])).length=(xD [(zJ,zO W H D C L)]).length+(qV vE (xM pal)).length:=by rw[jE,List.length_append]
      refine hJ _ _ ⟨F',by rw[if_pos oQ],by dsimp only;omega,by rw[if_pos oQ];exact ho',(hoB.fr0 hf173).fr hf' fun a ha hx=> ?_,fun x hx hx'=> ?_⟩
      ·have:=hblkB a.block (by rw[ha];exact uQ);have:=hblk21 _ hx;omega
      ·have:=hblkB x hx
       rcases hsrc _ hx' with h|h
       ·have:=hblk21 _ h;omega
       ·omega
     ·refine hJ _ _ ⟨F30,by rw[if_neg oQ];rfl,by dsimp only;omega,by rw[if_neg oQ];exact ho21.fr0 hf30,hoB,fun x hx hx'=> ?_⟩
      have:=hblkB x hx;have:=hblk21 x hx';omega
  ·intro J hJ
   have ht:(#[Value.int .u8 (wrap .u8 (D:Int)),.int .u8 (wrap .u8 (C:Int)),.int .u8 0,.int .u8 0,.int .u8 (if L=true then 1 else 0)]:vQ)=(bv [UInt8.ofNat D,UInt8.ofNat C,0,0,if L then 1 else 0]).toArray:=by
    have e1:∀n:Nat,Value.int .u8 (wrap .u8 (n:Int))=u8v (UInt8.ofNat n):=fun n=>by rw[jL,jP];congr 1
    rw[e1,e1]
    cases L<;>simp[u8v]
   have hend:∀{wX wY:wQ} {p q:pQ} {c d:Nat},Fr [] wB wX ->Own wX (hn wB) 5 1 p (4+4) c (bv (xI W)++bv (xI H)) ->Has wX q (bv [UInt8.ofNat D,UInt8.ofNat C,0,0,if L then 1 else 0]) ->(q=none ->d=0) ->
     yF Pg wX #[33,33] 33 (.slice p (4+4) c) (.slice q 5 d) fun p l c w'=>J ((⟨p,l,c⟩:Sl),()) w':=by
    intro wX wY p q c d F ho hq hd;refine vC (S:=[]) (w0:=wB) jJ F ho hq sQ (uK _) oQ hd ?_;intro p' c' w' F' _ ho';exact hJ _ _ ⟨F',by simpa [zO,List.append_assoc]using ho',rfl⟩
   refine qE fun w3 hf3 hn3=> ?_;have hS3:=hf3.row0 hS;refine qC hS3 rfl (qC hS3 rfl (qC hS3 rfl (qC hS3 rfl ?_)));have hW32:wrap .u32 (W:Int)=W:=xV oQ oQ;have hH32:wrap .u32 (H:Int)=H:=xV oQ oQ;rw[hW32,hH32,ht];refine⟨?_,?_⟩
   ·refine CallT.mono (c34 oQ) ?_
    rintro _ w4 ⟨hf4,p4,c4,rfl,ho4⟩;have F4:=hf3.trans hf4;have hS4:=F4.row0 hS;have hn3':=hf3.size;have ho4:=ho4.base_le hn3';refine⟨_,_,_,rfl,qC hS4 rfl ⟨rfl,qC hS4 rfl ⟨rfl,qC hS4 rfl ⟨rfl,?_,?_⟩⟩⟩⟩
    ·refine CallT.mono (c34 oQ) ?_
     rintro _ w5 ⟨hf5,p5,c5,rfl,ho5⟩;have F5:=F4.trans hf5;have hS5:=F5.row0 hS;refine⟨_,_,_,rfl,qC hS5 rfl ⟨rfl,qC hS5 rfl ⟨rfl,?_,?_⟩⟩⟩
     ·refine vC (S:=[]) (w0:=wB) jJ F5 (ho4.fr0 hf5) ho5.has sQ (uK _) (by simp[qZ]) (by intro h;subst h;exact ho5.none_iff.2.1) ?_
      intro p6 c6 w6 F6 _ ho6;have hS6:=F6.row0 hS;refine qC hS6 rfl ⟨rfl,qC hS6 rfl ⟨rfl,?_⟩⟩;refine qG fun w7 hb7 hf7 hn7=> ?_;have F7:=F6.trans hf7;have hS7:=F7.row0 hS;refine qC hS7 rfl ⟨rfl,qC hS7 rfl ⟨rfl,?_⟩⟩;exact hend (wY:=w7) F7 (ho6.fr0 hf7) (Has.of_row hb7) sQ
     ·refine qG fun w7 hb7 hf7 hn7=> ?_
      have F7:=F5.trans hf7;have hS7:=F7.row0 hS;refine qC hS7 rfl ⟨rfl,qC hS7 rfl ⟨rfl,?_⟩⟩;have hblk4:=ho4.blk;have h45:=hf5.size;refine vC (S:=[]) (w0:=wB) jJ F7 ((ho4.fr0 hf5).fr0 hf7) (ho5.fr0 hf7).has sQ (uK _) (by simp[qZ]) (by intro h;subst h;exact ho5.none_iff.2.1) ?_;intro p6 c6 w6 F6 hf6 ho6;have hS6:=F6.row0 hS;refine qC hS6 rfl ⟨rfl,qC hS6 rfl ⟨rfl,?_⟩⟩;exact hend (wY:=w6) F6 ho6 (Has.of_row (hf6.row hb7 fun hx=>by have:=hblk4 _ hx;omega)) sQ
    ·refine qG fun w5 hb5 hf5 hn5=> ?_
     have F5:=F4.trans hf5;have hS5:=F5.row0 hS;refine qC hS5 rfl ⟨rfl,qC hS5 rfl ⟨rfl,?_⟩⟩;refine CallT.mono (c34 oQ) ?_;rintro _ w6 ⟨hf6,p6,c6,rfl,ho6⟩;have F6:=F5.trans hf6;have hS6:=F6.row0 hS;refine⟨_,_,_,rfl,qC hS6 rfl ⟨rfl,qC hS6 rfl ⟨rfl,?_⟩⟩⟩;have hblk4:=ho4.blk;refine vC (S:=[]) (w0:=wB) jJ F6 ((ho4.fr0 hf5).fr0 hf6) ho6.has sQ (uK _) (by simp[qZ]) (by intro h;subst h;exact ho6.none_iff.2.1) ?_;intro p7 c7 w7 F7 hf7 ho7;have hS7:=F7.row0 hS;refine qC hS7 rfl ⟨rfl,qC hS7 rfl ⟨rfl,?_⟩⟩;exact hend (wY:=w7) F7 ho7 (Has.of_row (hf7.row (hf6.row0 hb5) fun hx=>by have:=hblk4 _ hx;omega)) sQ
   ·refine qG fun w4 hb4 hf4 hn4=> ?_
    have F4:=hf3.trans hf4;have hS4:=F4.row0 hS;refine qC hS4 rfl ⟨rfl,qC hS4 rfl ⟨rfl,?_⟩⟩;refine CallT.mono (c34 oQ) ?_;rintro _ w5 ⟨hf5,p5,c5,rfl,ho5⟩;have F5:=F4.trans hf5;have hS5:=F5.row0 hS;have hB4:=F4.size;have hblk5:=ho5.blk;have hlt4:=zM hb4;refine⟨_,_,_,rfl,qC hS5 rfl ⟨rfl,qC hS5 rfl ⟨rfl,qC hS5 rfl ⟨rfl,?_⟩⟩⟩⟩;refine CallT.mono (c34 oQ) ?_;rintro _ w6 ⟨hf6,p6,c6,rfl,ho6⟩;have F6:=F5.trans hf6;have hS6:=F6.row0 hS;refine⟨_,_,_,rfl,qC hS6 rfl ⟨rfl,qC hS6 rfl ⟨rfl,?_⟩⟩⟩;refine vC (S:=[]) (w0:=wB) jJ F6 ((ho5.base_le hB4).fr0 hf6) ho6.has sQ (uK _) (by simp[qZ]) (by intro h;subst h;exact ho6.none_iff.2.1) ?_;intro p7 c7 w7 F7 hf7 ho7;have hS7:=F7.row0 hS;refine qC hS7 rfl ⟨rfl,qC hS7 rfl ⟨rfl,?_⟩⟩;exact hend (wY:=w7) F7 ho7 (Has.of_row (hf7.row ((hf5.trans hf6).row0 hb4) fun hx=>by have:=hblk5 _ hx;omega)) sQ
 ·intro J hJ
  refine zB hS rfl (qX (fun h=> ?_) (fun h=> ?_))
  ·exact hJ _ _ ⟨rfl,by simp[h]⟩
  ·exact hJ _ _ ⟨rfl,by simp[h]⟩
end
def wp23(x0:Int)(x1:pQ)(x1l:Nat)(x1c:Nat)(R:vPq)(w:wQ):Prop:=qL w (.cells (zc Pg 31) 31) fun b N=>zQ 15 (CallT Pg 37 #[.int .u8 (wrap .u8 (Int.tmod x0 15))] N fun O P=>∃f l,And (O= .tuple #[iQq f,iQq l]) (ShC 4 (zQ 20 (ShC 9 (zQ 20 (ShC 14 (qL P (.cells (zc Pg 31) 31) fun a Q=>qB Q ⟨a,0,none⟩ (iQq (wIq ((1:Int)+(wIq (Int.tmod (qY .u32 x0 4) 20))))) fun S=>qB S ⟨a,0+1,none⟩ (iQq (wIq ((1:Int)+(wIq (Int.tmod (qY .u32 x0 9) 20))))) fun T=>qB T ⟨a,0+2,none⟩ (iQq l) fun U=>qB U ⟨a,0+3,none⟩ (iQq f) fun V=>qB V ⟨a,0+4,none⟩ (.bool ((zF .u32 (qY .u32 x0 (14:Int)) 1)==1)) fun X=>qB X ⟨a,0+5,none⟩ (.slice none 0 0) fun Y=>qB Y ⟨a,0+6,none⟩ (.slice none 0 0) fun Z=>qB Z ⟨a,0+7,none⟩ (.slice none 0 0) fun aa=>qO aa fun ab=>ShC l (CallT Pg 38 #[iQq f] ab fun ac r=>∃n,And (ac=iQq n) (xH (fun(g:(Int×Unit)) (o:wQ)=>LdI o ⟨a,0,none⟩ .i64 fun ad=>LdI o ⟨a,0+1,none⟩ .i64 fun ae=>xB (fun(af:(Int×Unit) ->World ->Prop)=>af (0,()) o) (fun c h s=>IfC (decide (c.1<(wIq ((wIq (ad*ae))*n)))) (IfC (decide ((x1l:Int)>(0:Int))) (zQ (x1l:Int) (And (0<=Int.tmod c.1 (x1l:Int)/\Int.tmod c.1 (x1l:Int)<(x1l:Int)) (qN x1 fun ag=>LdI h (qH ag ((Int.tmod c.1 (x1l:Int)).toNat) 1) .u16 fun ah=>qO h fun t=>zQ g.1 (qS t ⟨a,0+5,none⟩ fun u v y=>qL t (.cells #[iQq (Int.tmod (wIq ah) g.1)] 3) fun ai z=>qS z ⟨a,0+5,none⟩ fun aj ak al=>And ((.slice aj ak al:Value)= .slice u v y) (yF Pg z #[28,28] 28 (.slice u v y) (.slice (some ⟨ai,0,none⟩) 1 1) fun am ao ap aq=>qB aq ⟨a,0+5,none⟩ (.slice am ao ap) fun ar=>s (wIq (c.1+1),()) ar))))) (qO h fun A=>zQ g.1 (qS A ⟨a,0+5,none⟩ fun B C D=>qL A (.cells #[iQq (Int.tmod (wIq (c.1*7)) g.1)] 3) fun au E=>qS E ⟨a,0+5,none⟩ fun av aw ax=>And ((.slice av aw ax:Value)= .slice B C D) (yF Pg E #[28,28] 28 (.slice B C D) (.slice (some ⟨au,0,none⟩) 1 1) fun ay az ba bb=>qB bb ⟨a,0+5,none⟩ (.slice ay az ba) fun bc=>s (wIq (c.1+1),()) bc)))) (xH (fun(bd:(Bool×Unit)) (d:wQ)=>IfC bd.1 (xB (fun(be:(Int×Unit) ->World ->Prop)=>be (0,()) d) (fun p e bf=>IfC (decide (p.1<n)) (qO e fun F=>ShC 21 (zQ 8 (zQ g.1 (qS F ⟨a,0+7,none⟩ fun G H I=>qL F (.cells #[iQq (Int.tmod (wIq ((wIq (p.1*5))+(wIq (Int.tmod (qY .u32 x0 21) 8)))) g.1)] 3) fun bg J=>qS J ⟨a,0+7,none⟩ fun bh bi bj=>And ((.slice bh bi bj:Value)= .slice G H I) (yF Pg J #[28,28] 28 (.slice G H I) (.slice (some ⟨bg,0,none⟩) 1 1) fun bk bl bm bn=>qB bn ⟨a,0+7,none⟩ (.slice bk bl bm) fun bo=>bf (wIq (p.1+1),()) bo))))) (l4q e a fun bp bq br bs=>LdB e ⟨a,0+4,none⟩ fun bt=>qS e ⟨a,0+5,none⟩ fun bu bv bw=>qS e ⟨a,0+6,none⟩ fun bx bz ca=>qS e ⟨a,0+7,none⟩ fun cb cc cd=>qB e ⟨b,0,none⟩ (iQq bp) fun ce=>qB ce ⟨b,0+1,none⟩ (iQq bq) fun cf=>qB cf ⟨b,0+2,none⟩ (iQq br) fun cg=>qB cg ⟨b,0+3,none⟩ (iQq bs) fun ch=>qB ch ⟨b,0+4,none⟩ (.bool bt) fun ci=>qB ci ⟨b,0+5,none⟩ (.slice bu bv bw) fun cj=>qB cj ⟨b,0+6,none⟩ (.slice bx bz ca) fun ck=>qB ck ⟨b,0+7,none⟩ (.slice cb cc cd) fun i=>l4q i b fun cl cm cn co=>LdB i ⟨b,0+4,none⟩ fun cp=>qS i ⟨b,0+5,none⟩ fun cq cr cs=>qS i ⟨b,0+6,none⟩ fun ct cu cv=>qS i ⟨b,0+7,none⟩ fun cw cx cy=>R (.agg #[iQq cl,iQq cm,iQq cn,iQq co,.bool cp,.slice cq cr cs,.slice ct cu cv,.slice cw cx cy]) i))) (l4q d a fun cz da db dc=>LdB d ⟨a,0+4,none⟩ fun dd=>qS d ⟨a,0+5,none⟩ fun de df dg=>qS d ⟨a,0+6,none⟩ fun dh di dj=>qS d ⟨a,0+7,none⟩ fun dk dl dm=>qB d ⟨b,0,none⟩ (iQq cz) fun dn=>qB dn ⟨b,0+1,none⟩ (iQq da) fun dp=>qB dp ⟨b,0+2,none⟩ (iQq db) fun dq=>qB dq ⟨b,0+3,none⟩ (iQq dc) fun dr=>qB dr ⟨b,0+4,none⟩ (.bool dd) fun ds=>qB ds ⟨b,0+5,none⟩ (.slice de df dg) fun dt=>qB dt ⟨b,0+6,none⟩ (.slice dh di dj) fun du=>qB du ⟨b,0+7,none⟩ (.slice dk dl dm) fun j=>l4q j b fun dv dw dx dy=>LdB j ⟨b,0+4,none⟩ fun dz=>qS j ⟨b,0+5,none⟩ fun ea eb ec=>qS j ⟨b,0+6,none⟩ fun ed ee ef=>qS j ⟨b,0+7,none⟩ fun eg eh ei=>R (.agg #[iQq dv,iQq dw,iQq dx,iQq dy,.bool dz,.slice ea eb ec,.slice ed ee ef,.slice eg eh ei]) j)) (fun q=>IfC (f==0) (ShC 20 (q ((zF .u32 (qY .u32 x0 (20:Int)) 1)==1,()) h)) (IfC (f==2) (ShC 20 (q ((zF .u32 (qY .u32 x0 (20:Int)) 1)==1,()) h)) (q (false,()) h)))))) (fun K=>IfC (f==3) (ShC 15 (zQ 9 (xB (fun(ej:(Int×Unit) ->World ->Prop)=>ej (0,()) r) (fun k m ek=>IfC (decide (k.1<(yU (xJ .i64 (1:Int) l) (wIq ((1:Int)+(wIq (Int.tmod (qY .u32 x0 15) 9))))))) (xH (fun(el:(Int×Unit)) (L:wQ)=>qS L ⟨a,0+6,none⟩ fun em en eo=>zQ 256 (zQ 256 (qL L (.cells #[iQq (wIq ((257:Int)*(Int.tmod (wIq (k.1*31)) 256))),iQq (wIq ((257:Int)*(Int.tmod (wIq (k.1*7)) 256))),iQq (wIq ((257:Int)*(wIq ((255:Int) -k.1)))),iQq el.1] 43) fun ep eq=>yF Pg eq #[29,29] 29 (.slice em en eo) (.slice (some ⟨ep,0,none⟩) 1 1) fun er es et eu=>qB eu ⟨a,0+6,none⟩ (.slice er es et) fun ev=>ek (wIq (k.1+1),()) ev))) (fun M=>ShC 19 (IfC ((zF .u32 (qY .u32 x0 (19:Int)) 1)==1) (zQ 256 (M (wIq ((257:Int)*(wIq ((255:Int) -(Int.tmod (wIq ((40:Int)*k.1)) (256:Int))))),()) m)) (M (65535,()) m)))) (qS m ⟨a,0+6,none⟩ fun ex ew ey=>K ((ew:Int),()) m))))) (K (xJ .i64 (1:Int) l,()) r)))))))))))
theorem call23{x0:Int}{x1:pQ}{x1l:Nat}{x1c:Nat}{R:vPq}{w:wQ}(h:wp23 x0 x1 x1l x1c R w):CallT Pg 23 #[.int .u32 x0,.slice x1 x1l x1c] w R:=cVq [(8,[(9,.i .i64)],[0,1,4,5,7,8]),(16,[(53,.i .i64)],[0,1,4,5,7,8,52]),(29,[(11,.i .i64)],[0,1,4,5,7,8,10,52,53]),(43,[(96,.i .i64)],[0,1,4,5,7,8,9,95]),(65,[(132,.b)],[0,4,7,8,9]),(71,[(134,.i .i64)],[0,4,7,9,133])] Tryz.func23 h
def wp24(x0_0:Int)(x0_1:Int)(x0_2:Int)(x0_3:Int)(x0_4:Bool)(x0_5:pQ)(x0_5l:Nat)(x0_5c:Nat)(x0_6:pQ)(x0_6l:Nat)(x0_6c:Nat)(x0_7:pQ)(x0_7l:Nat)(x0_7c:Nat)(x1:Int)(R:vPq)(w:wQ):Prop:=qL w (.cells #[iQq x0_0,iQq x0_1,iQq x0_2,iQq x0_3,.bool x0_4,.slice x0_5 x0_5l x0_5c,.slice x0_6 x0_6l x0_6c,.slice x0_7 x0_7l x0_7c] 31) fun c k=>ShC 3 (ShC 6 (ShC 9 (qL k (.cells #[.int .u8 (wrap .u8 (qY .u32 x1 3)),.int .u8 (wrap .u8 (qY .u32 x1 6)),.int .u8 (wrap .u8 (qY .u32 x1 9))] 5) fun l m=>ShC 12 (zQ 200 (ShC 20 (zQ 8 (qL m (.cells (zc Pg 75) 75) fun a n=>qB n ⟨a,0,none⟩ (.slice (some ⟨l,0,none⟩) 3 3) fun o=>qB o ⟨a,0+1,none⟩ (iQq (wIq ((50:Int)+(wIq (Int.tmod (qY .u32 x1 12) 200))))) fun p=>qB p ⟨a,0+2,none⟩ (iQq (wIq (Int.tmod (qY .u32 x1 20) 8))) fun q=>qB q ⟨a,0+3,none⟩ (.slice none 0 0) fun b=>ShC 24 (IfC ((zF .u32 (qY .u32 x1 (24:Int)) 1)==1) (ShC 25 (qL b (.cells #[.int .u8 (wrap .u8 ((wrap .u8 (qY .u32 x1 25))+1)),.int .u8 5] 5) fun r s=>qB s ⟨a,0+3,none⟩ (.slice (some ⟨r,0,none⟩) 2 2) fun d=>l4q d c fun t u v y=>LdB d ⟨c,0+4,none⟩ fun z=>qS d ⟨c,0+5,none⟩ fun A B C=>qS d ⟨c,0+6,none⟩ fun D E F=>qS d ⟨c,0+7,none⟩ fun G H I=>qS d ⟨a,0,none⟩ fun J K L=>LdI d ⟨a,0+1,none⟩ .i64 fun M=>LdI d ⟨a,0+2,none⟩ .i64 fun N=>qS d ⟨a,0+3,none⟩ fun O P Q=>CallT Pg 39 #[.agg #[iQq t,iQq u,iQq v,iQq y,.bool z],.slice A B C,.slice D E F,.slice G H I,.agg #[.slice J K L,iQq M,iQq N,.slice O P Q],.slice none 0 0,.slice none 0 0] d fun S T=>∃e f g,And (S= .slice e f g) (R (.slice e f g) T))) (l4q b c fun U V X Y=>LdB b ⟨c,0+4,none⟩ fun Z=>qS b ⟨c,0+5,none⟩ fun aa ab ac=>qS b ⟨c,0+6,none⟩ fun ad ae af=>qS b ⟨c,0+7,none⟩ fun ag ah ai=>qS b ⟨a,0,none⟩ fun aj ak al=>LdI b ⟨a,0+1,none⟩ .i64 fun am=>LdI b ⟨a,0+2,none⟩ .i64 fun ao=>qS b ⟨a,0+3,none⟩ fun ap aq ar=>CallT Pg 39 #[.agg #[iQq U,iQq V,iQq X,iQq Y,.bool Z],.slice aa ab ac,.slice ad ae af,.slice ag ah ai,.agg #[.slice aj ak al,iQq am,iQq ao,.slice ap aq ar],.slice none 0 0,.slice none 0 0] b fun au av=>∃h i j,And (au= .slice h i j) (R (.slice h i j) av))))))))))
theorem call24{x0_0:Int}{x0_1:Int}{x0_2:Int}{x0_3:Int}{x0_4:Bool}{x0_5:pQ}{x0_5l:Nat}{x0_5c:Nat}{x0_6:pQ}{x0_6l:Nat}{x0_6c:Nat}{x0_7:pQ}{x0_7l:Nat}{x0_7c:Nat}{x1:Int}{R:vPq}{w:wQ}(h:wp24 x0_0 x0_1 x0_2 x0_3 x0_4 x0_5 x0_5l x0_5c x0_6 x0_6l x0_6c x0_7 x0_7l x0_7c x1 R w):CallT Pg 24 #[.agg #[.int .i64 x0_0,.int .i64 x0_1,.int .i64 x0_2,.int .i64 x0_3,.bool x0_4,.slice x0_5 x0_5l x0_5c,.slice x0_6 x0_6l x0_6c,.slice x0_7 x0_7l x0_7c],.int .u32 x1] w R:=cVq [] Tryz.func24 h
def wp27(x0:Int)(x1:pQ)(x1l:Nat)(x1c:Nat)(R:vPq)(w:wQ):Prop:=CallT Pg 23 #[.int .u32 x0,.slice x1 x1l x1c] w fun r s=>∃a b c d e f g h i j k l m n,And (r= .agg #[iQq a,iQq b,iQq c,iQq d,.bool e,.slice f g h,.slice i j k,.slice l m n]) (CallT Pg 24 #[.agg #[iQq a,iQq b,iQq c,iQq d,.bool e,.slice f g h,.slice i j k,.slice l m n],.int .u32 (wrap .u32 ((wrap .u32 (x0*2654435761))+7))] s fun t u=>∃o p q,And (t= .slice o p q) (R (.slice o p q) u))
theorem call27{x0:Int}{x1:pQ}{x1l:Nat}{x1c:Nat}{R:vPq}{w:wQ}(h:wp27 x0 x1 x1l x1c R w):CallT Pg 27 #[.int .u32 x0,.slice x1 x1l x1c] w R:=cVq [] Tryz.func27 h
section
variable{w:wQ}
theorem c22{p:pQ}{l c:Nat}:CallT Pg 22 #[.slice p l c] w fun v w'=>v= .bool (decide (l<=1000))/\w'=w:=by
 apply call22;unfold wp22;refine⟨?_,rfl⟩
 congr 1
 exact decide_eq_decide.2 oQ
def qI(k:Nat):Nat×Nat:=if k<5 then(0,2^k)else if k<7 then(2,8*2^(k -5))else if k<11 then(3,2^(k -7))else if k<13 then(4,8*2^(k -11))else(6,8*2^(k -13))
theorem c37{k:Nat}(hk:k<15):CallT Pg 37 #[.int .u8 k] w fun v w'=>v= .tuple #[.int .i64 (qI k).1,.int .i64 (qI k).2]/\Fr [] w w':=by
 apply call37;obtain rfl|rfl|rfl|rfl|rfl|rfl|rfl|rfl|rfl|rfl|rfl|rfl|rfl|rfl|rfl:=(by omega:k=0\/k=1\/k=2\/k=3\/k=4\/k=5\/k=6\/k=7\/k=8\/k=9\/k=10\/k=11\/k=12\/k=13\/k=14)
 all_goals exact⟨rfl,Fr.drew _ _⟩
theorem zc31:zc Pg 31= #[.int .i64 0,.int .i64 0,.int .i64 0,.int .i64 0,.bool false,.slice none 0 0,.slice none 0 0,.slice none 0 0]:=by kernel_rfl
theorem ok29:fY Pg 29 43 4 32=true:=by kernel_rfl
def yK(W H D C:Int)(L:Bool)(s p c:Sl):vQ:= #[.int .i64 W,.int .i64 H,.int .i64 D,.int .i64 C,.bool L,.slice s.a s.len s.cap,.slice p.a p.len p.cap,.slice c.a c.len c.cap]
structure yG (D C:Nat) (pal:List Px) (cl:List Nat):Prop where
 pal3:C=3 ->1<=pal.length/\pal.length<=9/\pal.length<=2^D
 paln:C≠3 ->pal=[]
 cl0:C≠0 ->C≠2 ->cl=[]
 cll:cl=[]\/cl.length=chN C
 clv:∀v∈cl,v<2^D
theorem vV{k:Nat}(hk:k<15):((qI k).2=1\/(qI k).2=2\/(qI k).2=4\/(qI k).2=8\/(qI k).2=16)/\(qI k).1<=6:=by
 obtain rfl|rfl|rfl|rfl|rfl|rfl|rfl|rfl|rfl|rfl|rfl|rfl|rfl|rfl|rfl:=(by omega:k=0\/k=1\/k=2\/k=3\/k=4\/k=5\/k=6\/k=7\/k=8\/k=9\/k=10\/k=11\/k=12\/k=13\/k=14)<;>decide
theorem shl1D{D:Nat}(hD:D=1\/D=2\/D=4\/D=8\/D=16):xJ .i64 (1:Int) (D:Int)=((2^D:Nat):Int):=by
 obtain rfl|rfl|rfl|rfl|rfl:=hD<;>rfl
theorem qCo(l:List Px)(d:Px):tD (l++[d])=tD l++mN d:=by simp[tD]
def qDc(w:wQ)(D C:Nat)(v:Value)(w':wQ):Prop:=
 ∃(W H:Nat) (L:Bool) (s p c:Sl) (ns:List Int) (pal:List Px) (cl:List Nat),(1<=W/\W<=20)/\(1<=H/\H<=20)/\v= .agg (yK W H D C L s p c)/\Fr [] w w'/\
  Own w' (hn w) 3 1 s.a s.len s.cap (tQ ns)/\ns.length=W*H*chN C/\Own w' (hn w) 43 4 p.a p.len p.cap (tD pal)/\Own w' (hn w) 3 1 c.a c.len c.cap (iv cl)/\yG D C pal cl
theorem qEc(W H D C:Int)(L:Bool)(s p c s':Sl):(yK W H D C L s p c).setIfInBounds 5 (.slice s'.a s'.len s'.cap)=yK W H D C L s' p c:=by simp[yK]
theorem qEd(W H D C:Int)(L:Bool)(s p c s':Sl):(yK W H D C L s p c).setIfInBounds 6 (.slice s'.a s'.len s'.cap)=yK W H D C L s s' c:=by simp[yK]
theorem qEe(W H D C:Int)(L:Bool)(s p c s':Sl):(yK W H D C L s p c).setIfInBounds 7 (.slice s'.a s'.len s'.cap)=yK W H D C L s p s':=by simp[yK]
theorem nK{S:List Nat}{w0 wc:wQ}{r i:Nat}{T:TypeId}{arr:vQ}{p:pQ}{l c:Nat}{vs:List Value}{u:Int}(hf:Fr S w0 wc)(hS:hp wc r=Row T arr)(hr:r<hn w0)(hv:arr[i]? =some (.slice p l c))(ho:Own wc (hn w0) 3 1 p l c vs)
  (hbig:l+1<=1099511627776){K:World ->Prop}
  (hK:∀p' c' w',hp w' r=Row T (arr.setIfInBounds i (.slice p' (l+1) c')) ->Fr (r::xX p) wc w' ->Fr (r::S) w0 w' ->Own w' (hn w0) 3 1 p' (l+1) c' (vs++[.int .i64 u]) ->K w'):
  qS wc ⟨r,i,none⟩ fun p l c=>qL wc (.cells #[.int .i64 u] 3) fun r' w2=>qS w2 ⟨r,i,none⟩ fun p' l' c'=>And ((.slice p' l' c':Value)= .slice p l c) (yF Pg w2 #[28,28] 28 (.slice p l c) (.slice (some ⟨r',0,none⟩) 1 1) fun p2 l2 c2 w3=>qB w3 ⟨r,i,none⟩ (.slice p2 l2 c2) fun w4=>K w4):=by
 have hi:i<arr.size:=(Array.getElem?_eq_some_iff.1 hv).1;refine qK hS hv ?_;refine qG fun w2 h2 f2 n2=> ?_;have hS2:=f2.row0 hS;refine qK hS2 hv ?_;refine⟨rfl,?_⟩;refine uO ok28 (hf.trans (f2.mono sQ)) (ho.fr0 f2) (Has.of_row h2) rfl (by simp[Value.oneCell']) hbig sQ ?_;intro p' c' w3 F3 f3 ho3 hm;have hne:∀x∈xX p,hn w0<=x:=fun x hx=>(ho.blk x hx).1;have hne':∀x∈xX p',hn w0<=x:=fun x hx=>(ho3.blk x hx).1;have hS3:=f3.row hS2 (fun hx=>by have:=hne _ hx;omega);refine qD hS3 hi fun w4 h4 f4 n4=> ?_;refine hK p' c' w4 h4 ((f2.mono sQ).trans ((f3.mono (by simp;intro x hx;exact .inr hx)).trans (f4.mono sQ))) ((F3.mono (by simp;intro x hx;exact .inr hx)).trans (f4.mono sQ)) (ho3.fr f4 fun a ha hx=>by simp at hx;have:=ho3.at ha;omega)
theorem copyD{w:wQ}{r7 r1:Nat}{W H D C:Int}{L:Bool}{s p c:Sl}(hS:hp w r7=Row 31 (yK W H D C L s p c)){v0 v1 v2 v3 v4 v5 v6 v7:Value}(h1:hp w r1=Row 31 #[v0,v1,v2,v3,v4,v5,v6,v7])
  {K:Int ->Int ->Int ->Int ->Bool ->pQ ->Nat ->Nat ->pQ ->Nat ->Nat ->pQ ->Nat ->Nat ->World ->Prop}(hK:∀w',Fr [r1] w w' ->K W H D C L s.a s.len s.cap p.a p.len p.cap c.a c.len c.cap w'):
  (LdI w ⟨r7,0,none⟩ .i64 fun(n81:Int)=>LdI w ⟨r7,0+1,none⟩ .i64 fun(n82:Int)=>LdI w ⟨r7,0+2,none⟩ .i64 fun(n83:Int)=>LdI w ⟨r7,0+3,none⟩ .i64 fun(n84:Int)=>LdB w ⟨r7,0+4,none⟩ fun(b85:Bool)=>qS w ⟨r7,0+5,none⟩ fun(p86:pQ) (l87:Nat) (c88:Nat)=>qS w ⟨r7,0+6,none⟩ fun(p89:pQ) (l90:Nat) (c91:Nat)=>qS w ⟨r7,0+7,none⟩ fun(p92:pQ) (l93:Nat) (c94:Nat)=>qB w ⟨r1,0,none⟩ (.int .i64 n81) fun(w95:wQ)=>qB w95 ⟨r1,0+1,none⟩ (.int .i64 n82) fun(w96:wQ)=>qB w96 ⟨r1,0+2,none⟩ (.int .i64 n83) fun(w97:wQ)=>qB w97 ⟨r1,0+3,none⟩ (.int .i64 n84) fun(w98:wQ)=>qB w98 ⟨r1,0+4,none⟩ (.bool b85) fun(w99:wQ)=>qB w99 ⟨r1,0+5,none⟩ (.slice p86 l87 c88) fun(w100:wQ)=>qB w100 ⟨r1,0+6,none⟩ (.slice p89 l90 c91) fun(w101:wQ)=>qB w101 ⟨r1,0+7,none⟩ (.slice p92 l93 c94) fun(w102:wQ)=>LdI w102 ⟨r1,0,none⟩ .i64 fun(n103:Int)=>LdI w102 ⟨r1,0+1,none⟩ .i64 fun(n104:Int)=>LdI w102 ⟨r1,0+2,none⟩ .i64 fun(n105:Int)=>LdI w102 ⟨r1,0+3,none⟩ .i64 fun(n106:Int)=>LdB w102 ⟨r1,0+4,none⟩ fun(b107:Bool)=>qS w102 ⟨r1,0+5,none⟩ fun(p108:pQ) (l109:Nat) (c110:Nat)=>qS w102 ⟨r1,0+6,none⟩ fun(p111:pQ) (l112:Nat) (c113:Nat)=>qS w102 ⟨r1,0+7,none⟩ fun(p114:pQ) (l115:Nat) (c116:Nat)=>K n103 n104 n105 n106 b107 p108 l109 c110 p111 l112 c113 p114 l115 c116 w102):=by
 refine qC hS rfl (qC hS rfl (qC hS rfl (qC hS rfl (zB hS rfl (qK hS rfl (qK hS rfl (qK hS rfl ?_)))))));refine qD h1 sQ fun w9 h9 f9 n9=> ?_;refine qD h9 sQ fun w10 h10 f10 n10=> ?_;refine qD h10 sQ fun w11 h11 f11 n11=> ?_;refine qD h11 sQ fun w12 h12 f12 n12=> ?_;refine qD h12 sQ fun w13 h13 f13 n13=> ?_;refine qD h13 sQ fun w14 h14 f14 n14=> ?_;refine qD h14 sQ fun w15 h15 f15 n15=> ?_;refine qD h15 sQ fun w16 h16 f16 n16=> ?_;have hR:hp w16 r1=Row 31 (yK W H D C L s p c):=by
  simpa [yK]using h16
 refine qC hR rfl (qC hR rfl (qC hR rfl (qC hR rfl (zB hR rfl (qK hR rfl (qK hR rfl (qK hR rfl ?_)))))));exact hK w16 (f9.trans (f10.trans (f11.trans (f12.trans (f13.trans (f14.trans (f15.trans f16)))))))
def HasW(w:wQ)(p:pQ)(vs:List Value):Prop:=
 match p with
 |none=>vs=[]
 |some a=>∀(j:Nat) (v:Value),vs[j]? =some v ->a.spot=none/\w.cell? ⟨a.block,a.off+j,none⟩=some v
theorem qGs{w:wQ}{b o:Nat}{v:Value}(h:w.cell? ⟨b,o,none⟩=some v):b<hn w:=by
 rw[yO]at h;unfold hp at h;rcases Nat.lt_or_ge b (hn w)with h1|h1
 ·exact h1
 ·rw[Array.getElem?_eq_none (by exact h1)]at h
  cases h
theorem HasW.fr0{w w':wQ}{p:pQ}{vs:List Value}(h:HasW w p vs)(hf:Fr [] w w'):HasW w' p vs:=by
 cases p with
 |none=>exact h
 |some a=>
  intro j v hj;obtain⟨h0,h1⟩:=h j v hj;have hlt:=qGs h1;refine⟨h0,?_⟩;rw[yO]at h1⊢;rw[hf.hp0 hlt];exact h1
theorem IdxW{w:wQ}{p:pQ}{vs:List Value}{k:IntKind}(h:HasW w p vs){i:Int}{l:Nat}(h0:0<=i)(h1:i<l){n:Int}(hv:vs[i.toNat]? =some (.int k n)){K:Int ->Prop}(hK:K n):
  And (0<=i/\i<(l:Int)) (qN p fun a=>LdI w (qH a i.toNat 1) k K):=by
 refine⟨⟨h0,h1⟩,?_⟩
 cases p with
 |none=>have:vs=[]:=h;subst this;simp at hv
 |some a=>
  obtain⟨b,o,s⟩:=a;obtain⟨hs,hc⟩:=h _ _ hv;simp only at hs;subst hs;rw[PtrC_some,elemAt_one];exact⟨n,hc,hK⟩
theorem c23{n:Nat}(hn32:n<4294967296){p:pQ}{l c:Nat}{ss:List Nat}(hx:HasW w p (ss.map fun(s:Nat)=> .int .u16 (s:Int)))(hl:l=ss.length)(hb:l<=1000):
  CallT Pg 23 #[.int .u32 n,.slice p l c] w (qDc w (qI (n%15)).2 (qI (n%15)).1):=by
 apply call23;unfold wp23 l4q wIq iQq;refine qG fun w2 h1 hf1 hn1=> ?_;refine xK dQ ?_;have hk15:n%15<15:=oQ;have e15:wrap .u8 (Int.tmod (n:Int) 15)=((n%15:Nat):Int):=by
  rw[show Int.tmod (n:Int) 15=((n%15:Nat):Int)from zG n 15,uN oQ oQ]
 rw[e15];refine CallT.mono (c37 hk15) ?_;rintro _ w4 ⟨rfl,hf4⟩;refine⟨_,_,rfl,?_⟩;obtain⟨hD,hC⟩:=vV hk15;generalize(qI (n%15)).1=C at*;generalize(qI (n%15)).2=D at*;refine qU dQ (xK dQ (qU dQ (xK dQ (qU dQ ?_))));have shr:∀(k:Nat),k<=32 ->qY .u32 (n:Int) (k:Int)=((n/2^k:Nat):Int):=by
  intro k hk;rw[uB oQ oQ oQ];simp
 obtain⟨W,eW,hW⟩:∃W:Nat,wrap .i64 ((1:Int)+(wrap .i64 (Int.tmod (qY .u32 n (4:Int)) (20:Int))))=W/\1<=W/\W<=20:=by
  refine⟨1+n/2^4%20,?_,oQ,oQ⟩;rw[show qY .u32 (n:Int) (4:Int)=((n/2^4:Nat):Int)from shr 4 dQ,show Int.tmod ((n/2^4:Nat):Int) 20=((n/2^4%20:Nat):Int)from zG _ 20,qA (n:=((n/2^4%20:Nat):Int)) oQ oQ,qA oQ oQ];omega
 obtain⟨H,eH,hH⟩:∃W:Nat,wrap .i64 ((1:Int)+(wrap .i64 (Int.tmod (qY .u32 n (9:Int)) (20:Int))))=W/\1<=W/\W<=20:=by
  refine⟨1+n/2^9%20,?_,oQ,oQ⟩;rw[show qY .u32 (n:Int) (9:Int)=((n/2^9:Nat):Int)from shr 9 dQ,show Int.tmod ((n/2^9:Nat):Int) 20=((n/2^9%20:Nat):Int)from zG _ 20,qA (n:=((n/2^9%20:Nat):Int)) oQ oQ,qA oQ oQ];omega
 rw[eW,eH];generalize(zF .u32 (qY .u32 (n:Int) (14:Int)) (1:Int)==(1:Int))=L;refine qG fun w8 h8 hf8 hn8=> ?_;rw[zc31]at h1 h8;have F8:=(hf1.trans hf4).trans hf8;have h1:=hf8.row0 (hf4.row0 h1);have hr:hn w4=hn w+1\/hn w+1<=hn w4:=by have:=hf4.size;omega
 generalize hn w4=r7 at*;refine qD h8 sQ fun w9 h9 f9 n9=> ?_;refine qD h9 sQ fun w10 h10 f10 n10=> ?_;refine qD h10 sQ fun w11 h11 f11 n11=> ?_;refine qD h11 sQ fun w12 h12 f12 n12=> ?_;refine qD h12 sQ fun w13 h13 f13 n13=> ?_;refine qD h13 sQ fun w14 h14 f14 n14=> ?_;refine qD h14 sQ fun w15 h15 f15 n15=> ?_;refine qD h15 sQ fun w16 h16 f16 n16=> ?_;have hr':hn w<=r7:=oQ;have F16:Fr [] w w16:=(((((((F8.new1 f9 hr').new1 f10 hr').new1 f11 hr').new1 f12 hr').new1 f13 hr').new1 f14 hr').new1 f15 hr').new1 f16 hr';have F816:Fr [r7] w8 w16:=f9.trans (f10.trans (f11.trans (f12.trans (f13.trans (f14.trans (f15.trans f16))))));have h1:=F816.row1 h1 oQ;have hS:hp w16 r7=Row 31 (yK W H D C L ⟨none,0,0⟩ ⟨none,0,0⟩ ⟨none,0,0⟩):=by
  simpa [yK]using h16
 have hn16:r7<hn w16:=zM hS;clear h8 h9 h10 h11 h12 h13 h14 h15 h16 f9 f10 f11 f12 f13 f14 f15 f16 n9 n10 n11 n12 n13 n14 n15 n16 hf8 hf4 hf1 F8 F816 hn1 hn8;refine qE fun w17 hf17 _ => ?_;have F17:=F16.trans hf17;have hS:=hf17.row0 hS;have h1:=hf17.row0 h1;have hn17:r7<hn w17:=zM hS;clear hn16 F16 hf17;refine qU oQ ?_;refine CallT.mono c38n ?_;rintro _ w17 ⟨rfl,rfl⟩;refine⟨_,rfl,?_⟩;have hcN:=tV C;refine qJ (fun z w'=>Fr [] w w'/\Fr [r7] w17 w'/\∃(top:Nat) (p:Sl) (pal:List Px),z.1=top/\1<=top/\top<=2^D/\hp w' r7=Row 31 (yK W H D C L ⟨none,0,0⟩ p ⟨none,0,0⟩)/\
  Own w' (hn w17) 43 4 p.a p.len p.cap (tD pal)/\(C=3 ->1<=pal.length/\pal.length<=9/\pal.length<=2^D)/\(C≠3 ->pal=[])) ?_ ?_
 ·rintro⟨_,⟨⟩⟩ w22 ⟨F22,f22,top,pl,pal,rfl,ht1,htD,hS22,hop,hp3,hpn⟩
  dsimp only;have h1:=f22.row1 h1 oQ;refine qC hS22 rfl (qC hS22 rfl ?_);have hWH:W*H<=20*20:=Nat.mul_le_mul hW.2 hH.2;have hWHC:W*H*chN C<=400*4:=Nat.mul_le_mul hWH hcN.2;have eN:wrap .i64 (wrap .i64 ((W:Int)*(H:Int))*(chN C:Int))=((W*H*chN C:Nat):Int):=by
   rw[<-Int.natCast_mul,qA (n:=((W*H:Nat):Int)) oQ oQ,<-Int.natCast_mul,qA oQ oQ]
  rw[eN];generalize hN:W*H*chN C=N at*;have hn22:r7<hn w22:=zM hS22;refine qP (fun z w'=>Fr [] w w'/\Fr [r7] w22 w'/\∃(k:Nat) (s:Sl) (ns:List Int),z.1=k/\k<=N/\ns.length=k/\s.len=k/\hp w' r7=Row 31 (yK W H D C L s pl ⟨none,0,0⟩)/\Own w' (hn w22) 3 1 s.a s.len s.cap (tQ ns)) (fun z _ =>N -z.1.toNat)
   ⟨F22,Fr.refl _ _,0,⟨none,0,0⟩,[],rfl,oQ,rfl,rfl,hS22,Own.nil _ _ _ _⟩ ?_
  rintro⟨_,⟨⟩⟩ w27 ⟨F27,f27,k,s,ns,rfl,hkN,hns,hsl,hS27,hos⟩;dsimp only;refine qF (fun hlt=> ?_) (fun hge=> ?_)
  ·have add:∀(v:Int) (wd:wQ),Fr [] w27 wd ->zQ (top:Int) (qS wd ⟨r7,0+5,none⟩ fun(p33:pQ) (l34:Nat) (c35:Nat)=>qL wd (.cells #[.int .i64 (Int.tmod v top)] 3) fun(r36:Nat) (w37:wQ)=>qS w37 ⟨r7,0+5,none⟩ fun(p38:pQ) (l39:Nat) (c40:Nat)=>And ((.slice p38 l39 c40:Value)= .slice p33 l34 c35) (yF Pg w37 #[28,28] 28 (.slice p33 l34 c35) (.slice (some ⟨r36,0,none⟩) 1 1) fun(p41:pQ) (l42:Nat) (c43:Nat) (w44:wQ)=>qB w44 ⟨r7,0+5,none⟩ (.slice p41 l42 c43) fun(w45:wQ)=>
     (Fr [] w w45/\Fr [r7] w22 w45/\∃(k':Nat) (s:Sl) (ns:List Int),wrap .i64 ((k:Int)+(1:Int))=k'/\k'<=N/\ns.length=k'/\s.len=k'/\hp w45 r7=Row 31 (yK W H D C L s pl ⟨none,0,0⟩)/\Own w45 (hn w22) 3 1 s.a s.len s.cap (tQ ns))/\N -(wrap .i64 ((k:Int)+(1:Int))).toNat<N -(k:Int).toNat)):=by
    intro v wd hwd;refine xK oQ ?_;refine nK (w0:=w22) (S:=[r7]) (f27.trans (hwd.mono sQ)) (hwd.row0 hS27) hn22 rfl (hos.fr0 hwd) oQ ?_;intro p' c' w' hS' f' F' ho';rw[qA oQ oQ];refine⟨⟨F27.trans' (hwd.mono sQ|>.trans f') ?_,F'.mono sQ,k+1,⟨p',s.len+1,c'⟩,ns++[Int.tmod v top],sQ,oQ,by simp[hns],by simp[hsl],?_,?_⟩,oQ⟩
    ·intro x hx hlt
     simp at hx;rcases hx with rfl|hx
     ·omega
     ·have:=(hos.blk x hx).1;have:=F22.size;omega
    ·rw[hS'];exact congrArg (Row 31) (qEc _ _ _ _ _ _ _ _ ⟨p',s.len+1,c'⟩)
    ·simpa [tQ]using ho'
   refine qF (fun hpos=> ?_) (fun hneg=> ?_)
   ·refine xK oQ ?_
    rw[show Int.tmod (k:Int) (l:Int)=((k%l:Nat):Int)from zG k l];have hml:k%l<l:=Nat.mod_lt _ oQ;refine IdxW (hx.fr0 F27) oQ oQ (n:=((ss[k%l]'oQ:Nat):Int)) (by rw[Int.toNat_natCast,List.getElem?_map,List.getElem?_eq_getElem oQ];rfl) ?_;refine qE fun wd hwd _ => ?_;exact add _ wd hwd
   ·refine qE fun wd hwd _ => ?_
    exact add _ wd hwd
  ·have hkN':k=N:=oQ
   have fin:∀(wd:wQ) (cs:Sl) (cl:List Nat),Fr [] w wd ->Fr [r7] w27 wd ->Own wd (hn w27) 3 1 cs.a cs.len cs.cap (iv cl) ->yG D C pal cl ->∀w'',Fr [hn w] wd w'' ->qDc w D C (.agg (yK W H D C L s pl cs)) w'':=by
    intro wd cs cl Fd fd hoc hok w'' f'';have hs22:=F22.size;have hs17:=F17.size;have hs27:=F27.size;have h2227:=f27.size;refine⟨W,H,L,s,pl,cs,ns,pal,cl,hW,hH,rfl,Fd.new1 f'' (Nat.le_refl _),?_,oQ,?_,?_,hok⟩
    ·have:=(hos.fr fd fun a ha hx=>by simp at hx;have:=hos.at ha;omega)
     exact(this.fr f'' fun a ha hx=>by simp at hx;have:=hos.at ha;omega).base_le hs22
    ·have h2:=(hop.fr f27 fun a ha hx=>by simp at hx;have:=hop.at ha;omega)
     have h3:=(h2.fr fd fun a ha hx=>by simp at hx;have:=hop.at ha;omega);exact(h3.fr f'' fun a ha hx=>by simp at hx;have:=hop.at ha;omega).base_le hs17
    ·exact(hoc.fr f'' fun a ha hx=>by simp at hx;have:=hoc.at ha;omega).base_le hs27
   have h1d:∀wd,Fr [r7] w27 wd ->hp wd (hn w)=Row 31 _ :=fun wd f=>f.row1 (f27.row1 h1 oQ) oQ;refine qJ (fun z w'=>w'=w27/\(z.1=true ->C=0\/C=2)) ?_ ?_
   ·rintro⟨z,⟨⟩⟩ wj ⟨rfl,hz⟩
    dsimp only at*;refine qX (fun hzt=> ?_) (fun hzf=> ?_)
    ·have hn27:r7<hn wj:=zM hS27
     have hC02:=hz hzt;refine qP (fun z w'=>Fr [] w w'/\Fr [r7] wj w'/\∃(k:Nat) (cs:Sl) (cl:List Nat),z.1=k/\k<=chN C/\cl.length=k/\cs.len=k/\hp w' r7=Row 31 (yK W H D C L s pl cs)/\Own w' (hn wj) 3 1 cs.a cs.len cs.cap (iv cl)/\∀v∈cl,v<top) (fun z _ =>chN C -z.1.toNat)
      ⟨F27,Fr.refl _ _,0,⟨none,0,0⟩,[],rfl,oQ,rfl,rfl,hS27,Own.nil _ _ _ _,sQ⟩ ?_
     rintro⟨_,⟨⟩⟩ w64 ⟨F64,f64,j,cs,cl,rfl,hjN,hcl,hcsl,hS64,hoc,hcv⟩;dsimp only;refine qF (fun hlt=> ?_) (fun hge=> ?_)
     ·refine qE fun wd hwd _ => ?_
      refine qU dQ (xK dQ (xK oQ ?_));have e21:Int.tmod (qY .u32 (n:Int) (21:Int)) 8=((n/2^21%8:Nat):Int):=by
       rw[show qY .u32 (n:Int) (21:Int)=((n/2^21:Nat):Int)from shr 21 dQ,show Int.tmod ((n/2^21:Nat):Int) 8=((n/2^21%8:Nat):Int)from zG _ 8]
      have ev:Int.tmod (wrap .i64 ((wrap .i64 ((j:Int)*(5:Int)))+(wrap .i64 (Int.tmod (qY .u32 (n:Int) (21:Int)) (8:Int))))) (top:Int)=(((j*5+n/2^21%8)%top:Nat):Int):=by
       rw[e21,qA (n:=(j:Int)*5) oQ oQ,qA (n:=((n/2^21%8:Nat):Int)) oQ oQ,qA oQ oQ,<-zG]
       congr 1
      rw[ev];refine nK (w0:=wj) (S:=[r7]) (f64.trans (hwd.mono sQ)) (hwd.row0 hS64) hn27 rfl (hoc.fr0 hwd) oQ ?_;intro p' c' w' hS' f' F' ho';rw[qA oQ oQ];have hmt:(j*5+n/2^21%8)%top<top:=Nat.mod_lt _ oQ;refine⟨⟨F64.trans' (hwd.mono sQ|>.trans f') ?_,F'.mono sQ,j+1,⟨p',cs.len+1,c'⟩,cl++[(j*5+n/2^21%8)%top],sQ,oQ,by simp[hcl],by simp[hcsl],?_,?_,?_⟩,oQ⟩
      ·intro x hx hlt
       simp at hx;rcases hx with rfl|hx
       ·omega
       ·have:=(hoc.blk x hx).1;have:=F27.size;omega
      ·rw[hS'];exact congrArg (Row 31) (qEe _ _ _ _ _ _ _ _ ⟨p',cs.len+1,c'⟩)
      ·simpa [iv]using ho'
      ·intro v hv
       rcases List.mem_append.1 hv with h|h
       ·exact hcv v h
       ·exact(List.mem_singleton.1 h)▸hmt
     ·refine copyD hS64 (h1d _ f64) fun w'' f''=> ?_
      refine fin w64 cs cl F64 f64 hoc ⟨hp3,hpn,fun h0 h2=>by omega,.inr oQ,fun v hv=>by have:=hcv v hv;omega⟩ w'' f''
    ·refine copyD hS27 (h1d _ (Fr.refl _ _)) fun w'' f''=> ?_
     exact fin wj ⟨none,0,0⟩ [] F27 (Fr.refl _ _) (Own.nil _ _ _ _) ⟨hp3,hpn,fun _ _ =>rfl,.inl rfl,sQ⟩ w'' f''
   ·intro J62 hJ
    refine qX (fun h0=> ?_) (fun h0=> ?_)
    ·exact qU dQ (hJ _ _ ⟨rfl,fun _ => .inl (by have:=eq_of_beq h0;omega)⟩)
    ·refine qX (fun h2=> ?_) (fun h2=> ?_)
     ·exact qU dQ (hJ _ _ ⟨rfl,fun _ => .inr (by have:=eq_of_beq h2;omega)⟩)
     ·exact hJ _ _ ⟨rfl,fun h=>by cases h⟩
 ·intro J23 hJ23
  have hD16:2^D<=2^16:=Nat.pow_le_pow_right oQ oQ;have hD1:1<=2^D:=Nat.one_le_two_pow;rw[shl1D hD];refine qX (fun h3=> ?_) (fun h3=> ?_)
  ·have hC3:C=3:=by have:=eq_of_beq h3;omega
   refine qU dQ (xK dQ ?_);obtain⟨m,em,hm1,hm9,hmD⟩:∃m:Nat,yU ((2^D:Nat):Int) (wrap .i64 ((1:Int)+(wrap .i64 (Int.tmod (qY .u32 (n:Int) (15:Int)) (9:Int)))))=m/\1<=m/\m<=9/\m<=2^D:=by
    refine⟨min (2^D) (1+n/2^15%9),?_,oQ,oQ,oQ⟩;rw[show qY .u32 (n:Int) (15:Int)=((n/2^15:Nat):Int)from shr 15 dQ,show Int.tmod ((n/2^15:Nat):Int) 9=((n/2^15%9:Nat):Int)from zG _ 9,qA (n:=((n/2^15%9:Nat):Int)) oQ oQ,qA oQ oQ,<-kT]
    congr 1
   rw[em];refine qP (fun z w'=>Fr [] w w'/\Fr [r7] w17 w'/\∃(k:Nat) (p:Sl) (pal:List Px),z.1=k/\k<=m/\pal.length=k/\p.len=k/\hp w' r7=Row 31 (yK W H D C L ⟨none,0,0⟩ p ⟨none,0,0⟩)/\Own w' (hn w17) 43 4 p.a p.len p.cap (tD pal)) (fun z _ =>m -z.1.toNat)
    ⟨F17,Fr.refl _ _,0,⟨none,0,0⟩,[],rfl,oQ,rfl,rfl,hS,Own.nil _ _ _ _⟩ ?_
   rintro⟨_,⟨⟩⟩ w54 ⟨F54,f54,k,p,pal,rfl,hkm,hpl,hpsl,hS54,hop⟩;dsimp only;refine qF (fun hlt=> ?_) (fun hge=> ?_)
   ·refine qJ (fun z w'=>w'=w54/\∃a:UInt8,z.1=((257*a.toNat:Nat):Int)) ?_ ?_
    ·rintro⟨_,⟨⟩⟩ wj ⟨rfl,a,rfl⟩
     dsimp only;refine qK hS54 rfl ?_;refine xK dQ (xK dQ ?_);have e1:wrap .i64 ((257:Int)*(Int.tmod (wrap .i64 ((k:Int)*(31:Int))) (256:Int)))=((257*(UInt8.ofNat (k*31)).toNat:Nat):Int):=by
      rw[qA (n:=(k:Int)*31) oQ oQ,show((k:Int)*31)=((k*31:Nat):Int) by omega,show Int.tmod ((k*31:Nat):Int) 256=((k*31%256:Nat):Int)from zG _ 256,qA oQ oQ,UInt8.toNat_ofNat'];omega
     have e2:wrap .i64 ((257:Int)*(Int.tmod (wrap .i64 ((k:Int)*(7:Int))) (256:Int)))=((257*(UInt8.ofNat (k*7)).toNat:Nat):Int):=by
      rw[qA (n:=(k:Int)*7) oQ oQ,show((k:Int)*7)=((k*7:Nat):Int) by omega,show Int.tmod ((k*7:Nat):Int) 256=((k*7%256:Nat):Int)from zG _ 256,qA oQ oQ,UInt8.toNat_ofNat'];omega
     have e3:wrap .i64 ((257:Int)*(wrap .i64 ((255:Int) -(k:Int))))=((257*(UInt8.ofNat (255 -k)).toNat:Nat):Int):=by
      rw[qA (n:=(255:Int) -(k:Int)) oQ oQ,qA oQ oQ,UInt8.toNat_ofNat'];omega
     rw[e1,e2,e3];generalize UInt8.ofNat (k*31)=r,UInt8.ofNat (k*7)=g,UInt8.ofNat (255 -k)=b;refine dB (S:=[r7]) (w0:=w17) ok29 f54 hop (cs:=(mN (r,g,b,a)).toArray) (m:=1) rfl (by simp[mN,Value.oneCell']) oQ ?_;intro p' c' w4 F4 f4 ho4 _;have hS4:=f4.row hS54 (fun hx=>by have:=(hop.blk _ hx).1;omega);refine qD hS4 (by simp[yK]) fun w5 h5 f5 n5=> ?_;rw[qA oQ oQ];refine⟨⟨F54.trans' (S':=r7::xX p.a) ((f4.mono (by simp;intro x hx;exact .inr hx)).trans (f5.mono sQ)) ?_,F4.trans f5,k+1,⟨p',p.len+1,c'⟩,pal++[(r,g,b,a)],sQ,oQ,by simp[hpl],by simp[hpsl],?_,?_⟩,oQ⟩
     ·intro x hx hlt
      simp at hx;rcases hx with rfl|hx
      ·omega
      ·have:=(hop.blk x hx).1;have:=F17.size;omega
     ·rw[h5];exact congrArg (Row 31) (qEd _ _ _ _ _ _ _ _ ⟨p',p.len+1,c'⟩)
     ·rw[qCo]
      exact(by simpa using ho4:Own w4 (hn w17) 43 4 p' (p.len+1) c' (tD pal++mN (r,g,b,a))).fr f5 fun a ha hx=>by simp at hx;have:=ho4.at ha;omega
    ·intro J hJ
     refine qU dQ (qX (fun _ => ?_) (fun _ => ?_))
     ·refine xK dQ (hJ _ _ ⟨rfl,UInt8.ofNat (255 -40*k%256),?_⟩)
      rw[qA (n:=(40:Int)*(k:Int)) oQ oQ,show(40:Int)*(k:Int)=((40*k:Nat):Int) by omega,show Int.tmod ((40*k:Nat):Int) 256=((40*k%256:Nat):Int)from zG _ 256,qA (n:=(255:Int) -((40*k%256:Nat):Int)) oQ oQ,qA oQ oQ,UInt8.toNat_ofNat'];omega
     ·exact hJ _ _ ⟨rfl,255,rfl⟩
   ·refine qK hS54 rfl ?_
    refine hJ23 _ _ ⟨F54,f54,p.len,p,pal,rfl,oQ,oQ,hS54,hop,fun _ =>⟨oQ,oQ,oQ⟩,fun h=>absurd hC3 h⟩
  ·have hC3:C≠3:=fun e=>by subst e;simp at h3
   exact hJ23 _ _ ⟨F17,Fr.refl _ _,2^D,⟨none,0,0⟩,[],rfl,hD1,Nat.le_refl _,hS,Own.nil _ _ _ _,fun e=>absurd e hC3,fun _ =>rfl⟩
theorem zc75:zc Pg 75= #[.slice none 0 0,.int .i64 0,.int .i64 0,.slice none 0 0]:=by kernel_rfl
def nM(w:wQ)(W H D C:Nat)(L:Bool)(pal:List Px)(cl:List Nat)(v:Value)(w':wQ):Prop:=
 ∃fs xs zs ds,fs.length=3/\RowsOf (rV W H D C L) (kY fs) xs/\gE xs zs/\ds.flatten=zs/\(∀d∈ds,d≠[])/\zs.length<=2097152/\fV w (xD (zU W H D C L pal cl++zI ds++[(zY,[])])) v w'
theorem oR{base e l c:Nat}{p:pQ}{vs:List Value}(h:Own w base e 1 p l c vs)(hl:0<l):∃b,p=some ⟨b,0,none⟩/\l<=c:=by
 rcases h with⟨_,⟨rfl,rfl,_⟩|⟨g,arr,rfl,_,_,hlc,_⟩⟩
 ·omega
 ·exact⟨g,rfl,hlc⟩
theorem c24{m:Nat}(hm:m<4294967296){W H D C:Nat}{L:Bool}{s p c:Sl}{ns:List Int}{pal:List Px}{cl:List Nat}(hW:1<=W/\W<=20)(hH:1<=H/\H<=20)(hD:D=1\/D=2\/D=4\/D=8\/D=16){base:Nat}
  (hos:Own w base 3 1 s.a s.len s.cap (tQ ns))(hnn:ns.length=W*H*chN C)(hop:Own w base 43 4 p.a p.len p.cap (tD pal))(hoc:Own w base 3 1 c.a c.len c.cap (iv cl))(hok:yG D C pal cl):
  CallT Pg 24 #[.agg (yK W H D C L s p c),.int .u32 m] w (nM w W H D C L pal cl):=by
 have hcN:=tV C;have hsl:s.len=ns.length:=by have:=hos.1;simp[tQ]at this;omega
 have hpl:p.len=pal.length:=by
  have h1:=hop.1;have h2:(tD pal).length=4*pal.length:=by
   clear hop hok h1
   induction pal with
   |nil=>rfl
   |cons d r ih=>simp only[tD,List.flatMap_cons,List.length_append,mN,List.length_cons,List.length_nil]at*;omega
  omega
 have hcl:c.len=cl.length:=by have:=hoc.1;simp[iv]at this;omega
 have hpos:1<=W*H*chN C:=Nat.mul_le_mul (Nat.mul_le_mul hW.1 hH.1) hcN.1;obtain⟨bs,hbs,hsc⟩:=oR hos oQ;have hpal9:pal.length<=9:=by
  by_cases h:C=3
  ·exact(hok.pal3 h).2.1
  ·rw[hok.paln h];simp
 have hcl4:cl.length<=4:=by
  rcases hok.cll with h|h
  ·rw[h];simp
  ·omega
 apply call24;unfold wp24 l4q wIq iQq;refine qG fun w2 h1 f1 n1=> ?_;refine qU dQ (qU dQ (qU dQ ?_));obtain⟨y1,e1⟩:=zS (qY .u32 (m:Int) (3:Int));obtain⟨y2,e2⟩:=zS (qY .u32 (m:Int) (6:Int));obtain⟨y3,e3⟩:=zS (qY .u32 (m:Int) (9:Int));rw[e1,e2,e3];refine qG fun w4 h3 f3 n3=> ?_;refine qU dQ (xK dQ (qU dQ (xK dQ ?_)));have shr:∀(k:Nat),k<=32 ->qY .u32 (m:Int) (k:Int)=((m/2^k:Nat):Int):=by
  intro k hk;rw[uB oQ oQ oQ];simp
 obtain⟨size,eS,hS⟩:∃z:Nat,wrap .i64 ((50:Int)+(wrap .i64 (Int.tmod (qY .u32 (m:Int) (12:Int)) (200:Int))))=z/\z<=250:=by
  refine⟨50+m/2^12%200,?_,oQ⟩;rw[show qY .u32 (m:Int) (12:Int)=((m/2^12:Nat):Int)from shr 12 dQ,show Int.tmod ((m/2^12:Nat):Int) 200=((m/2^12%200:Nat):Int)from zG _ 200,qA (n:=((m/2^12%200:Nat):Int)) oQ oQ,qA oQ oQ];omega
 obtain⟨ways,eY⟩:∃z:Nat,wrap .i64 (Int.tmod (qY .u32 (m:Int) (20:Int)) (8:Int))=z:=by
  refine⟨m/2^20%8,?_⟩;rw[show qY .u32 (m:Int) (20:Int)=((m/2^20:Nat):Int)from shr 20 dQ,show Int.tmod ((m/2^20:Nat):Int) 8=((m/2^20%8:Nat):Int)from zG _ 8,qA oQ oQ]
 rw[eS,eY];refine qG fun w6 h5 f5 n5=> ?_;rw[zc75]at h5;refine qD h5 sQ fun w7 h7 f7 n7=> ?_;refine qD h7 sQ fun w8 h8 f8 n8=> ?_;refine qD h8 sQ fun w9 h9 f9 n9=> ?_;refine qD h9 sQ fun w10 h10 f10 n10=> ?_;have F10:Fr [] w w10:=(((((f1.trans f3).trans f5).new1 f7 oQ).new1 f8 oQ).new1 f9 oQ).new1 f10 oQ;have G10:Fr [hn w4] w4 w10:=(f5.mono sQ).trans (f7.trans (f8.trans (f9.trans f10)));have h1:=G10.row1 (f3.row0 h1) oQ;have h3:=G10.row1 h3 oQ;have h5:hp w10 (hn w4)=Row 75 #[.slice (some ⟨hn w2,0,none⟩) 3 3,.int .i64 size,.int .i64 ways,.slice none 0 0]:=by simpa using h10
 have hn10:hn w4<hn w10:=zM h5;generalize hn w4=r5 at*;generalize hr3:hn w2=r3 at*;have hfin:∀(wd:wQ) (up:pQ) (us:bQ) (uc:Nat),Fr [] w wd ->hp wd (hn w)=Row 31 (yK W H D C L s p c) ->hp wd r3=Row 5 #[u8v y1,u8v y2,u8v y3] ->Has wd up (bv us) ->us.length<65536 ->(∀u∈us,1<=u.toNat) ->
   CallT Pg 39 #[shp W H D C L,.slice s.a s.len s.cap,.slice p.a p.len p.cap,.slice c.a c.len c.cap,.agg #[.slice (some ⟨r3,0,none⟩) 3 3,.int .i64 size,.int .i64 ways,.slice up us.length uc],.slice none 0 0,.slice none 0 0] wd fun v w'=>Exists fun(p65:pQ)=>Exists fun(l66:Nat)=>Exists fun(c67:Nat)=>And (v= .slice p65 l66 c67) (nM w W H D C L pal cl (.slice p65 l66 c67) w'):=by
  intro wd up us uc Fd hd1 hd3 hu hul hu1;have hxd:=(hos.fr0 Fd).has;rw[hbs]at hxd⊢;rw[hpl,hcl];refine CallT.mono (c39 (W:=W) (H:=H) (D:=D) (C:=C) (fs:=[y1,y2,y3]) ⟨hW.1,oQ⟩ ⟨hH.1,oQ⟩ hD hxd hsl hnn hsc ((hop.fr0 Fd).has) oQ ((hoc.fr0 Fd).has) oQ (Has.of_row hd3) sQ oQ hu hul hu1) ?_;rintro _ w' ⟨xs,zs,ds,hr,hz,hd,hne,hzl,hf,q,qc,rfl,ho⟩;exact⟨_,_,_,rfl,[y1,y2,y3],xs,zs,ds,rfl,hr,hz,hd,hne,hzl,Fd.trans hf,q,qc,rfl,ho.base_le Fd.size⟩
 refine qU dQ (qX (fun _ => ?_) (fun _ => ?_))
 ·refine qU dQ ?_
  refine qG fun w12 h11 f11 n11=> ?_;refine qD (f11.row0 h5) sQ fun w13 h13 f13 n13=> ?_;have h5':hp w13 r5=Row 75 #[.slice (some ⟨r3,0,none⟩) 3 3,.int .i64 size,.int .i64 ways,.slice (some ⟨hn w10,0,none⟩) 2 2]:=by simpa using h13
  have h1':=f13.row1 (f11.row0 h1) oQ;have h3':=f13.row1 (f11.row0 h3) oQ;have h11':=f13.row1 h11 oQ;refine qC h1' rfl (qC h1' rfl (qC h1' rfl (qC h1' rfl (zB h1' rfl (qK h1' rfl (qK h1' rfl (qK h1' rfl ?_)))))));refine qK h5' rfl (qC h5' rfl (qC h5' rfl (qK h5' rfl ?_)));have eu:∃u:UInt8,Value.int .u8 (wrap .u8 ((wrap .u8 (qY .u32 (m:Int) (25:Int)))+(1:Int)))=u8v u/\1<=u.toNat:=by
   refine⟨UInt8.ofNat (m/2^25+1),?_,by rw[UInt8.toNat_ofNat'];omega⟩;rw[show qY .u32 (m:Int) (25:Int)=((m/2^25:Nat):Int)from shr 25 dQ,uN (n:=((m/2^25:Nat):Int)) oQ oQ,uN oQ oQ];simp only[u8v,UInt8.toNat_ofNat']
   congr 1;omega
  obtain⟨u,eu,hu1⟩:=eu;rw[eu]at h11';exact hfin w13 _ [u,5] 2 ((F10.trans f11).new1 f13 oQ) h1' h3' (Has.of_row h11') sQ (by intro x hx;simp at hx;rcases hx with rfl|rfl<;>first|exact hu1|decide)
 ·refine qC h1 rfl (qC h1 rfl (qC h1 rfl (qC h1 rfl (zB h1 rfl (qK h1 rfl (qK h1 rfl (qK h1 rfl ?_)))))))
  refine qK h5 rfl (qC h5 rfl (qC h5 rfl (qK h5 rfl ?_)));exact hfin w10 none [] 0 F10 h1 h3 rfl sQ sQ
theorem c27{n:Nat}(hn32:n<4294967296){p:pQ}{l c:Nat}{ss:List Nat}(hx:HasW w p (ss.map fun(s:Nat)=> .int .u16 (s:Int)))(hl:l=ss.length)(hb:l<=1000):
  CallT Pg 27 #[.int .u32 n,.slice p l c] w fun v w'=>∃W H L pal cl,(1<=W/\W<=20)/\(1<=H/\H<=20)/\yG (qI (n%15)).2 (qI (n%15)).1 pal cl/\nM w W H (qI (n%15)).2 (qI (n%15)).1 L pal cl v w':=by
 apply call27;unfold wp27 iQq;refine CallT.mono (c23 hn32 hx hl hb) ?_;rintro _ w2 ⟨W,H,L,s,pl,cs,ns,pal,cl,hW,hH,rfl,hf,hos,hnn,hop,hoc,hok⟩;refine⟨_,_,_,_,_,_,_,_,_,_,_,_,_,_,rfl,?_⟩;obtain⟨m,em,hm⟩:∃m:Nat,wrap .u32 ((wrap .u32 ((n:Int)*(2654435761:Int)))+(7:Int))=m/\m<4294967296:=by
  refine⟨(wrap .u32 ((wrap .u32 ((n:Int)*(2654435761:Int)))+(7:Int))).toNat,?_,?_⟩<;>rw[pK]<;>omega
 rw[em];refine CallT.mono (c24 hm hW hH (vV oQ).1 hos hnn hop hoc hok) ?_;rintro _ w' ⟨fs,xs,zs,ds,hfs,hr,hz,hd,hne,hzl,hf',q,qc,rfl,ho⟩;exact⟨_,_,_,rfl,W,H,L,pal,cl,hW,hH,hok,fs,xs,zs,ds,hfs,hr,hz,hd,hne,hzl,hf.trans hf',q,qc,rfl,ho.base_le hf.size⟩
end
def wp41(x0:pQ)(x0l:Nat)(x0c:Nat)(R:vPq)(w:wQ):Prop:=qL w (.cells #[.slice x0 x0l x0c,iQq 0,iQq (-1:Int)] 124) fun a b=>R (.pointer (some ⟨a,0,none⟩)) b
theorem call41{x0:pQ}{x0l:Nat}{x0c:Nat}{R:vPq}{w:wQ}(h:wp41 x0 x0l x0c R w):CallT Pg 41 #[.slice x0 x0l x0c] w R:=cVq [] Tryz.func41 h
def wp42(x0:pQ)(x0l:Nat)(x0c:Nat)(R:vPq)(w:wQ):Prop:=IfC x0.isNone (R (.slice none 0 0) w) (qL w (.cells #[] 5) fun a b=>yF Pg b #[33,33] 33 (.slice (some ⟨a,0,none⟩) 0 0) (.slice x0 x0l x0c) fun c d e f=>R (.slice c d e) f)
theorem call42{x0:pQ}{x0l:Nat}{x0c:Nat}{R:vPq}{w:wQ}(h:wp42 x0 x0l x0c R w):CallT Pg 42 #[.slice x0 x0l x0c] w R:=cVq [] Tryz.func42 h
def wp72(x0:pQ)(x0l:Nat)(x0c:Nat)(R:vPq)(w:wQ):Prop:=And (0<=(3:Int)/\(3:Int)<(x0l:Int)) (qN x0 fun b=>LdI w (aQq b 3) .u8 fun k=>qO w fun a=>And (0<=(3:Int)/\(3:Int)<(x0l:Int)) (qN x0 fun c=>LdI a (aQq c 3) .u8 fun d=>And (0<=(2:Int)/\(2:Int)<(x0l:Int)) (qN x0 fun e=>LdI a (aQq e 2) .u8 fun f=>ShC 8 (And (0<=(1:Int)/\(1:Int)<(x0l:Int)) (qN x0 fun g=>LdI a (aQq g 1) .u8 fun h=>ShC 16 (And (0<=(0:Int)/\(0:Int)<(x0l:Int)) (qN x0 fun i=>LdI a i .u8 fun j=>ShC 24 (R (.int .u32 (bOr .u32 (bOr .u32 (bOr .u32 (wrap .u32 d) (xJ .u32 (wrap .u32 f) 8)) (xJ .u32 (wrap .u32 h) 16)) (xJ .u32 (wrap .u32 j) 24))) a))))))))
theorem call72{x0:pQ}{x0l:Nat}{x0c:Nat}{R:vPq}{w:wQ}(h:wp72 x0 x0l x0c R w):CallT Pg 72 #[.slice x0 x0l x0c] w R:=cVq [] Tryz.func72 h
def wp73(x0:Addr)(R:vPq)(w:wQ):Prop:=qB w x0 (.int .u32 0) fun a=>R (.tuple #[]) a
theorem call73{x0:Addr}{R:vPq}{w:wQ}(h:wp73 x0 R w):CallT Pg 73 #[.pointer (some x0)] w R:=cVq [] Tryz.func73 h
def wp74(x0:Addr)(x1:pQ)(x1l:Nat)(x1c:Nat)(R:vPq)(w:wQ):Prop:=LdI w x0 .u32 fun d=>xB (fun(e:(Int×Int×Unit) ->World ->Prop)=>e (uS .u32 (if IntKind.signed .u32 then -1 else IntKind.max .u32) d,(0:Int),()) w) (fun a b f=>IfC (decide (a.2.1<(x1l:Int))) (And (0<=a.2.1/\a.2.1<(x1l:Int)) (qN x1 fun g=>LdI b (qH g a.2.1.toNat 1) .u8 fun c=>And (0<=uS .u8 (wrap .u8 a.1) c/\uS .u8 (wrap .u8 a.1) c<(256:Int)) (LdI b (qH ⟨3,0,none⟩ ((uS .u8 (wrap .u8 a.1) c).toNat) 1) .u32 fun h=>ShC 8 (f (uS .u32 h (qY .u32 a.1 8),wIq (a.2.1+1),()) b)))) (qB b x0 (.int .u32 (uS .u32 (if IntKind.signed .u32 then -1 else IntKind.max .u32) a.1)) fun i=>R (.tuple #[iQq (x1l:Int),.nilIface]:Value) i))
theorem call74{x0:Addr}{x1:pQ}{x1l:Nat}{x1c:Nat}{R:vPq}{w:wQ}(h:wp74 x0 x1 x1l x1c R w):CallT Pg 74 #[.pointer (some x0),.slice x1 x1l x1c] w R:=cVq [(8,[(6,.i .u32),(16,.i .i64)],[0,1,4,5,14,15])] Tryz.func74 h
def wp93(x0:Addr)(R:vPq)(w:wQ):Prop:=LdI w x0 .u32 fun a=>R (.int .u32 a) w
theorem call93{x0:Addr}{R:vPq}{w:wQ}(h:wp93 x0 R w):CallT Pg 93 #[.pointer (some x0)] w R:=cVq [] Tryz.func93 h
def wp189(x0:Addr)(x1:pQ)(x1l:Nat)(x1c:Nat)(R:vPq)(w:wQ):Prop:=qO w fun b=>LdI b (aQq x0 1) .i64 fun i=>qS b x0 fun p j q=>IfC (decide (i>=(j:Int))) (qO b fun d=>LdV d ⟨0,0,none⟩ fun k=>R (.tuple #[iQq 0,k]) d) (qB b (aQq x0 2) (iQq (-1:Int)) fun l=>qO l fun c=>qS c x0 fun m e f=>LdI c (aQq x0 1) .i64 fun a=>And (0<=a/\a<=(e:Int)) (jQ Pg c #[33,33] 3 (.slice x1 x1l x1c) (.slice (qQ m f a.toNat 1) (e -a.toNat) (f -a.toNat)) fun g h=>LdI h (aQq x0 1) .i64 fun n=>qB h (aQq x0 1) (iQq (wIq (n+g))) fun o=>R (.tuple #[iQq g,.nilIface]) o))
theorem call189{x0:Addr}{x1:pQ}{x1l:Nat}{x1c:Nat}{R:vPq}{w:wQ}(h:wp189 x0 x1 x1l x1c R w):CallT Pg 189 #[.pointer (some x0),.slice x1 x1l x1c] w R:=cVq [] Tryz.func189 h
def wp91(x0:Value)(x1:pQ)(x1l:Nat)(x1c:Nat)(x2:Int)(R:vPq)(w:wQ):Prop:=IfC (decide ((x1l:Int)<x2)) (qO w fun e=>LdV e ⟨4,0,none⟩ fun k=>R (.tuple #[iQq 0,k]) e) (xH (fun(b:(Int×Value×Unit)) (c:wQ)=>IfC (decide (b.1>=x2)) (R (.tuple #[iQq b.1,.nilIface]) c) (IfC (decide (b.1>(0:Int))) (LdV c ⟨0,0,none⟩ fun l=>kX Pg 82 (.tmp 41) (.tmp 42) b.2.1 l c fun m=>IfC m (LdV c ⟨1,0,none⟩ fun n=>R (.tuple #[iQq b.1,n]) c) (R (.tuple #[iQq b.1,b.2.1]) c)) (R (.tuple #[iQq b.1,b.2.1]) c))) (fun f=>xB (fun(o:(Int×Value×Unit) ->World ->Prop)=>o (0,(.nilIface:Value),()) w) (fun a d p=>xH (fun(v:(Unit)) (q:wQ)=>qO q fun g=>And (0<=a.1/\a.1<=(x1l:Int)) (∃h x18,And ((#[x0]:vQ)[0]? =some (.iface h x18)) (And (nN Pg g h x18 "Read") (vG Pg Gg g x0 "Read" [.slice (qQ x1 x1c a.1.toNat 1) (x1l -a.1.toNat) (x1c -a.1.toNat)] fun r s=>∃i j,And (r= .tuple #[iQq i,j]) (p (wIq (a.1+i),(j:Value),()) s))))) (fun t=>IfC (decide (a.1<x2)) (xR a.2.1 fun u=>IfC u (t (()) d) (f (a.1,(a.2.1:Value),()) d)) (f (a.1,(a.2.1:Value),()) d)))))
theorem call91{x0:Value}{x1:pQ}{x1l:Nat}{x1c:Nat}{x2:Int}{R:vPq}{w:wQ}(h:wp91 x0 x1 x1l x1c x2 R w):CallT Pg 91 #[x0,.slice x1 x1l x1c,.int .i64 x2] w R:=cVq [(10,[(6,.i .i64),(7,.v)],[2]),(12,[(6,.i .i64),(7,.v)],[0,1,2]),(13,[],[0,1,2,6])] Tryz.func91 h
def wp71(x0:Value)(x1:pQ)(x1l:Nat)(x1c:Nat)(R:vPq)(w:wQ):Prop:=CallT Pg 91 #[x0,.slice x1 x1l x1c,iQq (x1l:Int)] w fun c d=>∃a b,And (c= .tuple #[iQq a,b]) (R (.tuple #[iQq a,b]) d)
theorem call71{x0:Value}{x1:pQ}{x1l:Nat}{x1c:Nat}{R:vPq}{w:wQ}(h:wp71 x0 x1 x1l x1c R w):CallT Pg 71 #[x0,.slice x1 x1l x1c] w R:=cVq [] Tryz.func71 h
section
variable{w:wQ}
theorem uG{g o:Nat}{T:TypeId}{arr:vQ}(hg:hp w g=Row T arr){n cap:Nat}(ho:o+n<=arr.size){q:pQ}{m d:Nat}{xs:bQ}(hq:Has w q (bv xs))(hm:m=xs.length)(hb:m<4611686018427387904)
  {K:Int ->World ->Prop}(hK:∀w' arr',hp w' g=Row T arr' ->arr'.size=arr.size ->(∀j,arr'[j]? =if o<=j/\j<o+min m n then(bv xs)[j -o]? else arr[j]?) ->Fr [g] w w' ->hn w'=hn w ->K ((min m n:Nat):Int) w'):
  jQ Pg w #[33,33] 3 (.slice (some ⟨g,o,none⟩) n cap) (.slice q m d) K:=by
 obtain⟨ht,i,z,hi,hs,_⟩:=cC jJ;subst hm;have hlen:((bv xs).take (min xs.length n)).length=min xs.length n*i.size:=by simp[hs,Nat.min_comm]
 have hfit:o+0+((bv xs).take (min xs.length n)).length<=arr.size:=by rw[hlen,hs];omega
 have hst:=mC (P:=Pg) (vs:=(bv xs).take (min xs.length n)) (w:=w) (i:=0) (o:=o) hg hfit (fun v hv=>uK xs v (List.mem_of_mem_take hv));obtain⟨arr',h1,h2,h3⟩:=iL (vs:=(bv xs).take (min xs.length n)) (w:=w) (o:=o) hg oQ;have hfc:(Builtin.firstCells i.size (min xs.length n) (.slice q xs.length d)).run Pg w= .ok ((bv xs).take (min xs.length n)).toArray w:=by
  cases q with
  |none=>
   have:xs=[]:=dV (xs:=xs) (ys:=[]) hq;subst this
   simpa using run_firstCells_none (P:=Pg) (w:=w) i.size 0 0 d
  |some a=>exact run_firstCells_some (P:=Pg) w i.size _ a xs.length d _ hlen (fun j v hj=>hq.cells j v (by
    rw[List.getElem?_take]at hj
    split at hj
    ·exact hj
    ·cases hj))
 refine⟨((min xs.length n:Nat):Int),updL w g o ((bv xs).take (min xs.length n)),?_,?_⟩
 ·have e:Nat.min xs.length n=min xs.length n:=rfl
  simp only[Nat.add_zero]at hst;simp[Builtin.copy_,run_underlying ht,sizeOf,typeInfo,hi,Builtin.lenOf,e,hfc,hst,goInt]
  try rfl
 ·refine hK _ arr' h1 h2 ?_ (Fr.updL sQ) (qHj _ _ _ _)
  intro j;rw[h3 j,hlen,hs,Nat.mul_one]
  split
  ·rename_i hj
   rw[List.getElem?_take,if_pos oQ]
  ·rfl
def RdAt(w:wQ)(rb:Nat)(p:pQ)(rs:bQ):Prop:=
 ∃(l c pos:Nat) (pr:Int) (xs:bQ),hp w rb=Row 124 #[.slice p l c,.int .i64 pos,.int .i64 pr]/\Has w p (bv xs)/\l=xs.length/\l<=c/\l<1099511627776/\pos<=l/\rs=xs.drop pos
theorem RdAt.fr{S:List Nat}{w w':wQ}{rb:Nat}{p:pQ}{rs:bQ}(h:RdAt w rb p rs)(hf:Fr S w w')(h1:rb∉S)(h2:∀a,p=some a ->a.block∉S):RdAt w' rb p rs:=by
 obtain⟨l,c,pos,pr,xs,h3,h4,h5⟩:=h;exact⟨l,c,pos,pr,xs,hf.row h3 h1,h4.fr hf h2,h5⟩
theorem c41{p:pQ}{l c:Nat}{xs:bQ}(hx:Has w p (bv xs))(hl:l=xs.length)(hc:l<=c)(hb:l<1099511627776):CallT Pg 41 #[.slice p l c] w fun v w'=>v= .pointer (some ⟨hn w,0,none⟩)/\RdAt w' (hn w) p xs/\Fr [] w w'/\hn w<hn w':=by
 apply call41;unfold wp41 iQq;refine qG fun w1 h1 f1 n1=> ?_;exact⟨rfl,⟨l,c,0,-1,xs,h1,hx.fr0 f1,hl,hc,hb,oQ,rfl⟩,f1,oQ⟩
theorem c42{p:pQ}{l c:Nat}{xs:bQ}(hx:Has w p (bv xs))(hl:l=xs.length)(hb:l<1099511627776):CallT Pg 42 #[.slice p l c] w fun v w'=>Fr [] w w'/\∃q c',v= .slice q l c'/\Has w' q (bv xs)/\l<=c'/\(∀a,q=some a ->hn w<=a.block/\a.block<hn w'):=by
 apply call42;unfold wp42
 cases p with
 |none=>
  have:xs=[]:=dV (xs:=xs) (ys:=[]) hx;subst this;subst hl;exact⟨Fr.refl _ _,none,0,rfl,rfl,sQ,sQ⟩
 |some a=>
  refine qX (fun h=>by cases h) (fun _ => ?_);refine qG fun w2 h2 f2 n2=> ?_;refine vC (S:=[]) (w0:=w) jJ f2 (Own.of_row (l:=0) h2 (Nat.le_refl _) rfl) (hx.fr0 f2) (by simp[hl]) (uK xs) oQ sQ ?_;intro p' c' w' F f ho;rw[Nat.zero_add]at ho⊢;refine⟨F,p',c',rfl,by simpa using ho.has,?_,fun a ha=>by have:=ho.at ha;omega⟩;rcases ho.2 with⟨_,h,h'⟩|⟨_,_,_,_,_,h,_⟩<;>omega
theorem vX(b o cap:Nat):qQ (some ⟨b,o,none⟩) cap 0 1=some ⟨b,o,none⟩:=by
 unfold qQ
 split
 ·rfl
 ·simp[yQ]
def Put(arr:vQ)(o:Nat)(vs:List Value)(arr':vQ):Prop:=arr'.size=arr.size/\∀j,arr'[j]? =if o<=j/\j<o+vs.length then vs[j -o]? else arr[j]?
theorem c189{rb g o:Nat}{p:pQ}{rs:bQ}{T:TypeId}{arr:vQ}(hr:RdAt w rb p rs)(hg:hp w g=Row T arr){n cap:Nat}(ho:o+n<=arr.size)(hrg:rb≠g)(hpg:∀a,p=some a ->a.block≠g)(hpr:∀a,p=some a ->a.block≠rb)(hne:rs≠[]):
  CallT Pg 189 #[.pointer (some ⟨rb,0,none⟩),.slice (some ⟨g,o,none⟩) n cap] w fun v w'=>v= .tuple #[.int .i64 (min rs.length n:Nat),.nilIface]/\RdAt w' rb p (rs.drop n)/\Fr [rb,g] w w'/\hn w'=hn w/\
   ∃arr',hp w' g=Row T arr'/\Put arr o (bv (rs.take n)) arr':=by
 obtain⟨l,c,pos,pr,xs,h1,hx,hl,hlc,hb,hpos,rfl⟩:=hr;have hlt:pos<l:=by
  rcases Nat.lt_or_ge pos l with h|h
  ·exact h
  ·exact absurd (List.drop_eq_nil_of_le oQ) hne
 apply call189;unfold wp189 aQq wIq iQq;dsimp only;refine qE fun w1 f1 n1=> ?_;have h1':=f1.row0 h1;refine qC h1' rfl ?_;refine qK h1' rfl ?_;refine qF (fun h=>absurd h oQ) (fun _ => ?_);refine qD h1' sQ fun w8 h8 f8 n8=> ?_;refine qE fun w9 f9 n9=> ?_;have h9:hp w9 rb=Row 124 #[.slice p l c,.int .i64 pos,.int .i64 (-1)]:=by simpa using f9.row0 h8
 refine qK h9 rfl (qC h9 rfl ⟨⟨oQ,oQ⟩,?_⟩);have F9:Fr [rb] w w9:=(f1.mono sQ).trans (f8.trans (f9.mono sQ));have hx9:=hx.fr F9 (fun a ha=>by simpa using hpr a ha);have hg9:=F9.row1 hg (fun h=>hrg h.symm);have hsz:(((pos:Int)).toNat)=pos:=Int.toNat_natCast pos;rw[hsz];refine uG hg9 ho (Has.adv (n:=pos) hx9 oQ oQ) (m:=l -pos) (by simp[hl]) oQ ?_;intro w' arr' hg' hs' hj' f' n';have h15:=f'.row1 h9 hrg;refine qC h15 rfl ?_;refine qD h15 sQ fun w17 h17 f17 n17=> ?_;have e:wrap .i64 ((pos:Int)+((min (l -pos) n:Nat):Int))=((pos+min (l -pos) n:Nat):Int):=by
  rw[qA oQ oQ];omega
 rw[e]at h17;refine⟨?_,⟨l,c,pos+min (l -pos) n,-1,xs,by simpa using h17,?_,hl,hlc,hb,oQ,?_⟩,?_,oQ,arr',?_,hs',?_⟩
 ·simp[hl]
 ·exact(hx9.fr f' fun a ha=>by simpa using hpg a ha).fr f17 fun a ha=>by simpa using hpr a ha
 ·rw[List.drop_drop]
  rcases Nat.le_total n (l -pos)with h|h
  ·rw[Nat.min_eq_right h]
  ·rw[Nat.min_eq_left h,List.drop_eq_nil_of_le oQ,List.drop_eq_nil_of_le oQ]
 ·exact(F9.mono sQ).trans ((f'.mono sQ).trans (f17.mono sQ))
 ·exact f17.row1 hg' (fun h=>hrg h.symm)
 ·intro j
  rw[hj' j];have e2:(bv ((xs.drop pos).take n)).length=min (l -pos) n:=by simp[hl,Nat.min_comm]
  rw[e2]
  split
  ·rename_i hj
   simp only[bv,List.map_take,List.getElem?_take];rw[if_pos oQ]
  ·rfl
theorem c71{rb g o:Nat}{p:pQ}{rs:bQ}{T:TypeId}{arr:vQ}(hr:RdAt w rb p rs)(hg:hp w g=Row T arr){n cap:Nat}(ho:o+n<=arr.size)(hrg:rb≠g)(hpg:∀a,p=some a ->a.block≠g)(hpr:∀a,p=some a ->a.block≠rb)(hn0:0<n)(hnl:n<=rs.length)(hnb:n<1099511627776):
  CallT Pg 71 #[.iface 85 (.pointer (some ⟨rb,0,none⟩)),.slice (some ⟨g,o,none⟩) n cap] w fun v w'=>v= .tuple #[.int .i64 n,.nilIface]/\RdAt w' rb p (rs.drop n)/\Fr [rb,g] w w'/\hn w'=hn w/\
   ∃arr',hp w' g=Row T arr'/\Put arr o (bv (rs.take n)) arr':=by
 apply call71;unfold wp71 iQq;refine CallT.mono (R:=fun v w'=>v= .tuple #[.int .i64 n,.nilIface]/\RdAt w' rb p (rs.drop n)/\Fr [rb,g] w w'/\hn w'=hn w/\∃arr',hp w' g=Row T arr'/\Put arr o (bv (rs.take n)) arr') ?_ ?_
 ·apply call91
  unfold wp91 wIq iQq;refine qF (fun h=>absurd h oQ) (fun _ => ?_);refine qJ (fun z w'=>z=((n:Int),.nilIface,())/\RdAt w' rb p (rs.drop n)/\Fr [rb,g] w w'/\hn w'=hn w/\∃arr',hp w' g=Row T arr'/\Put arr o (bv (rs.take n)) arr') ?_ ?_
  ·rintro z w' ⟨rfl,h⟩
   refine qF (fun _ =>⟨rfl,h⟩) (fun h=>absurd (Int.le_refl _) h)
  ·intro J hJ
   refine qP (fun z w'=>(z=((0:Int),.nilIface,())/\w'=w)\/(z=((n:Int),.nilIface,())/\RdAt w' rb p (rs.drop n)/\Fr [rb,g] w w'/\hn w'=hn w/\∃arr',hp w' g=Row T arr'/\Put arr o (bv (rs.take n)) arr')) (fun z _ =>n -z.1.toNat) (.inl ⟨rfl,rfl⟩) ?_;rintro z w' (⟨rfl,rfl⟩|⟨rfl,h⟩)
   ·refine qJ (fun z w''=>w''=w') ?_ ?_
    ·rintro⟨⟩ _ rfl
     refine qE fun w1 f1 n1=>⟨⟨oQ,oQ⟩,_,_,rfl,rfl,85,.pointer (some ⟨rb,0,none⟩),189,.pointer (some ⟨rb,0,none⟩),rfl,rfl,?_⟩;show CallT Pg 189 #[.pointer (some ⟨rb,0,none⟩),.slice (qQ (some ⟨g,o,none⟩) cap 0 1) n cap] w1 _;rw[vX];refine CallT.mono (c189 (hr.fr f1 sQ sQ) (f1.row0 hg) ho hrg hpg hpr (by intro h;subst h;simp at hnl;omega)) ?_;rintro _ w2 ⟨rfl,hr2,f2,n2,arr',hg2,hp2⟩;have hmin:min rs.length n=n:=oQ;rw[hmin];refine⟨_,_,rfl,.inr ⟨?_,hr2,(f1.mono sQ).trans f2,oQ,arr',hg2,hp2⟩,?_⟩
     ·rw[qA oQ oQ];simp
     ·rw[qA oQ oQ];omega
    ·intro J' hJ'
     refine qF (fun _ =>hJ' _ _ rfl) (fun h=>absurd h (by dsimp only;omega))
   ·refine qJ (fun _ _ =>False) (fun _ _ h=>h.elim) ?_
    intro J' hJ';refine qF (fun h=>absurd h (by dsimp only;omega)) (fun _ => ?_);exact hJ _ _ ⟨rfl,h⟩
 ·rintro _ w' ⟨rfl,h⟩
  exact⟨_,_,rfl,rfl,h⟩
theorem oC(a b:Nat):vZ (a^^^b)=vZ a^^^vZ b:=by
 have h2:(a^^^b)/2=a/2^^^b/2:=Nat.xor_div_two;have h1:(a^^^b)%2=a%2^^^b%2:=Nat.xor_mod_two_pow (n:=1);have lc:∀p q r:Nat,p^^^(q^^^r)=q^^^(p^^^r):=fun p q r=>by rw[<-Nat.xor_assoc,Nat.xor_comm p q,Nat.xor_assoc]
 have cc:∀p q:Nat,p^^^(q^^^p)=q:=fun p q=>by rw[lc,Nat.xor_self,Nat.xor_zero]
 unfold vZ;rw[h1,h2];generalize a/2=A,b/2=B,(3988292384:Nat)=P;rcases Nat.mod_two_eq_zero_or_one a with ha|ha<;>rcases Nat.mod_two_eq_zero_or_one b with hb|hb<;>simp only[ha,hb]
 ·rfl
 ·simp[Nat.xor_assoc]
 ·simp[Nat.xor_assoc,Nat.xor_comm B P]
 ·have:(A^^^P)^^^(B^^^P)=A^^^B:=by rw[Nat.xor_assoc,cc]
  simp[this]
theorem qDz(n a b:Nat):jY n (a^^^b)=jY n a^^^jY n b:=by
 induction n generalizing a b with
 |zero=>rfl
 |succ n ih=>rw[jY,oC,ih];rfl
theorem qDx(n h:Nat):jY n (h*2^n)=h:=by
 induction n with
 |zero=>simp[jY]
 |succ n ih=>
  have:vZ (h*2^(n+1))=h*2^n:=by
   unfold vZ;rw[Nat.pow_succ,<-Nat.mul_assoc,if_neg oQ];omega
  rw[jY,this,ih]
theorem qDy(x v:Nat):jY 8 (x^^^v)=jY 8 ((x%256)^^^v)^^^(x/256):=by
 have hx:x=(x/256*2^8)^^^(x%256):=by
  apply Nat.eq_of_testBit_eq;intro i;rw[Nat.testBit_xor,Nat.mul_comm,Nat.testBit_two_pow_mul];have e1:=Nat.testBit_mod_two_pow x 8 i;have e2:=Nat.testBit_div_two_pow (i:=i -8) (n:=8) x;simp only[Nat.reducePow]at e1 e2;rw[e1,e2]
  by_cases hi:i<8
  ·have:¬8<=i:=oQ
   simp[hi,this]
  ·have:i -8+8=i:=oQ
   have h8:8<=i:=oQ;simp[hi,this,h8]
 have h:x^^^v=(x/256*2^8)^^^((x%256)^^^v):=by rw[<-Nat.xor_assoc,<-hx]
 rw[h,qDz,qDx,Nat.xor_comm]
def Tab(w:wQ):Prop:=∃T arr,hp w 3=Row T arr/\∀i,i<256 ->arr[i]? =some (.int .u32 (jY 8 i:Nat))
theorem Tab.fr{S:List Nat}{w w':wQ}(h:Tab w)(hf:Fr S w w')(h3:3∉S):Tab w':=by
 obtain⟨T,arr,h1,h2⟩:=h;exact⟨T,arr,hf.row h1 h3,h2⟩
def zR(x:Nat)(xs:bQ):Nat:=gW (x^^^4294967295) xs^^^4294967295
theorem iF{x:Nat}(h:x<4294967296)(xs:bQ):zR x xs<4294967296:=Nat.xor_lt_two_pow (n:=32) (dE (Nat.xor_lt_two_pow (n:=32) h dQ)) dQ
theorem oD(xs:bQ):zR 0 xs=vU xs:=by simp[zR,qAq]
theorem mM(x:Nat)(xs ys:bQ):zR (zR x xs) ys=zR x (xs++ys):=by
 unfold zR;rw[Nat.xor_assoc,Nat.xor_self,Nat.xor_zero];simp[gW]
theorem c72{b o l c:Nat}{xs:bQ}(hx:Has w (some ⟨b,o,none⟩) (bv xs))(hl:4<=xs.length)(hl':4<=l):CallT Pg 72 #[.slice (some ⟨b,o,none⟩) l c] w fun v w'=>v= .int .u32 (be4 xs 0)/\Fr [] w w'/\hn w'=hn w:=by
 apply call72;unfold wp72 aQq;obtain⟨_,T,arr,h,hj⟩:=hx;have hv:∀j,j<4 ->arr[o+j]? =some (.int .u8 (gb xs j)):=fun j hj4=>hj j _ (kZ oQ);refine⟨⟨oQ,oQ⟩,qC h (hv 3 oQ) ?_⟩;refine qE fun w1 f1 n1=> ?_;have h:=f1.row0 h;refine⟨⟨oQ,oQ⟩,qC h (hv 3 oQ) ⟨⟨oQ,oQ⟩,qC h (hv 2 oQ) ?_⟩⟩;refine qU dQ ⟨⟨oQ,oQ⟩,qC h (hv 1 oQ) ?_⟩;refine qU dQ ⟨⟨oQ,oQ⟩,qC h (hv 0 oQ) ?_⟩;refine qU dQ ⟨?_,f1,n1⟩;have ha:=yC xs 0;have hb:=yC xs 1;have hc:=yC xs 2;have hd:=yC xs 3;simp only[be4,Nat.zero_add];generalize gb xs 0=a,gb xs 1=b,gb xs 2=c,gb xs 3=d at*;have oc:∀{a b:Int},0<=a ->a<4294967296 ->0<=b ->b<4294967296 ->bOr .u32 a b=bOr .u32 b a:=fun ha ha' hb hb'=>by rw[bS ha ha' hb hb',bS hb hb' ha ha',Nat.or_comm]
 simp (disch:=omega) only[xV,gB,Int.reduceToNat,Int.reducePow];rw[oc (a:=(d:Int)) oQ oQ oQ oQ,iS (a:=(c:Int)*256) (b:=(d:Int)) oQ oQ oQ oQ oQ,oc (b:=(b:Int)*65536) oQ oQ oQ oQ,sE (a:=(b:Int)*65536) oQ oQ oQ oQ oQ,oc (b:=(a:Int)*16777216) oQ oQ oQ oQ,bR (a:=(a:Int)*16777216) oQ oQ oQ oQ oQ];refine congrArg (Value.int .u32) ?_;omega
theorem c73{kb:Nat}{x:Value}(hk:hp w kb=Row 113 #[x]):CallT Pg 73 #[.pointer (some ⟨kb,0,none⟩)] w fun v w'=>v= .tuple #[]/\hp w' kb=Row 113 #[.int .u32 0]/\Fr [kb] w w'/\hn w'=hn w:=by
 apply call73;unfold wp73;refine qD hk sQ fun w1 h1 f1 n1=> ?_;exact⟨rfl,by simpa using h1,f1,n1⟩
theorem c93{kb x:Nat}(hk:hp w kb=Row 113 #[.int .u32 x]):CallT Pg 93 #[.pointer (some ⟨kb,0,none⟩)] w fun v w'=>v= .int .u32 x/\w'=w:=by
 apply call93;unfold wp93;exact qC hk rfl ⟨rfl,rfl⟩
theorem c74{kb x:Nat}(hk:hp w kb=Row 113 #[.int .u32 x])(hx32:x<4294967296)(hT:Tab w){p:pQ}{l c:Nat}{xs:bQ}(hx:Has w p (bv xs))(hl:l=xs.length)(hb:l<4611686018427387904):
  CallT Pg 74 #[.pointer (some ⟨kb,0,none⟩),.slice p l c] w fun v w'=>v= .tuple #[.int .i64 l,.nilIface]/\hp w' kb=Row 113 #[.int .u32 (zR x xs)]/\Fr [kb] w w'/\hn w'=hn w:=by
 apply call74;unfold wp74 wIq iQq;refine qC hk rfl ?_;have e1:(if IntKind.signed .u32 then(-1:Int)else IntKind.max .u32)=4294967295:=dQ;rw[e1,sW oQ oQ oQ oQ,Int.toNat_natCast,show Int.toNat 4294967295=4294967295 from rfl];have hx0:4294967295^^^x<4294967296:=Nat.xor_lt_two_pow (n:=32) dQ hx32;refine qP (fun z w'=>w'=w/\∃i:Nat,i<=l/\z.2.1=i/\z.1=(gW (4294967295^^^x) (xs.take i):Nat)) (fun z _ =>l -z.2.1.toNat) ⟨rfl,0,oQ,rfl,by simp[gW]⟩ ?_;rintro⟨y,k,⟨⟩⟩ w' ⟨rfl,i,hi,rfl,rfl⟩;dsimp only;have hlt:=dE (xs:=xs.take i) hx0;refine qF (fun h=> ?_) (fun h=> ?_)
 ·have hi':i<xs.length:=oQ
  refine gV hx hl oQ h ?_;have hg:=yC xs i;have hs:=aZ (x:=4294967295^^^x) hi';rw[qDy]at hs;generalize hY:gW (4294967295^^^x) (xs.take i)=Y at*;rw[Int.toNat_natCast];have hz:Y%256^^^gb xs i<256:=Nat.xor_lt_two_pow (n:=8) oQ hg;have ez:uS .u8 (wrap .u8 (Y:Int)) (gb xs i:Int)=((Y%256^^^gb xs i:Nat):Int):=by
   rw[jP,qGk oQ oQ oQ oQ,Int.toNat_natCast]
   congr 2
  rw[ez];obtain⟨T,arr,h3,hj⟩:=hT;refine⟨⟨oQ,oQ⟩,?_⟩;rw[elemAt_one,Nat.zero_add,Int.toNat_natCast];refine qC h3 (hj _ hz) (qU dQ ?_);have es:qY .u32 (Y:Int) (8:Int)=((Y/256:Nat):Int):=by
   rw[uB oQ dQ dQ,Int.toNat_natCast]
   rfl
  rw[es,qA oQ oQ];have h8:=iE (n:=8) (x:=Y%256^^^gb xs i) oQ;refine⟨⟨rfl,i+1,oQ,sQ,?_⟩,oQ⟩;rw[sW oQ oQ oQ oQ,hs,Int.toNat_natCast,Int.toNat_natCast]
 ·have:i=xs.length:=oQ
  subst this;rw[List.take_length]at hlt⊢;refine qD hk sQ fun w1 h1 f1 n1=> ?_;refine⟨rfl,?_,f1,n1⟩;rw[h1,sW oQ oQ oQ oQ];simp[zR,Nat.xor_comm]
end
def wp59(x0:Addr)(R:vPq)(w:wQ):Prop:=qO w fun c=>LdV c x0 fun d=>And (0<=(8:Int)/\(8:Int)<=(768:Int)) (CallT Pg 71 #[d,.slice (some (aQq x0 10)) 8 768] c fun e a=>∃f b,And (e= .tuple #[iQq f,b]) (xR b fun g=>IfC (!g) (R (b:Value) a) (And (0<=(8:Int)/\(8:Int)<=(768:Int)) (B2S Pg a (some (aQq x0 10)) 8 768 fun h=>IfC (!(vK h ⟨#[137,80,78,71,13,10,26,10]⟩)) (R (.iface 125 (.string ⟨#[110,111,116,32,97,32,80,78,71,32,102,105,108,101]⟩)) a) (R (.nilIface) a)))))
theorem call59{x0:Addr}{R:vPq}{w:wQ}(h:wp59 x0 R w):CallT Pg 59 #[.pointer (some x0)] w R:=cVq [] Tryz.func59 h
def wp61(x0:Int)(R:vPq)(w:wQ):Prop:=IfC (decide ((7:Int)<=x0)) (R (.bool (decide (x0<=(10:Int))):Value) w) (R (.bool false) w)
theorem call61{x0:Int}{R:vPq}{w:wQ}(h:wp61 x0 R w):CallT Pg 61 #[.int .i64 x0] w R:=cVq [] Tryz.func61 h
def wp81(x0:Addr)(R:vPq)(w:wQ):Prop:=qO w fun b=>LdV b x0 fun j=>And (0<=(4:Int)/\(4:Int)<=(768:Int)) (CallT Pg 71 #[j,.slice (some (aQq x0 10)) 4 768] b fun k c=>∃l a,And (k= .tuple #[iQq l,a]) (xR a fun m=>IfC (!m) (R (a:Value) c) (qO c fun d=>And (0<=(4:Int)/\(4:Int)<=(768:Int)) (LdP d (aQq x0 2) fun e=>CallT Pg 72 #[.slice (some (aQq x0 10)) 4 768] d fun n f=>∃g,And (n= .int .u32 g) (LdP f (aQq x0 2) fun o=>And ((.pointer o:Value)= .pointer e) (And ((.pointer (some x0):Value)= .pointer (some x0)) (CallT Pg 93 #[.pointer e] f fun p h=>∃i,And (p= .int .u32 i) (IfC (g !=i) (R (.iface 125 (.string ⟨#[105,110,118,97,108,105,100,32,99,104,101,99,107,115,117,109]⟩)) h) (R (.nilIface) h)))))))))
theorem call81{x0:Addr}{R:vPq}{w:wQ}(h:wp81 x0 R w):CallT Pg 81 #[.pointer (some x0)] w R:=cVq [] Tryz.func81 h
def wp75(x0:Addr)(x1:Int)(R:vPq)(w:wQ):Prop:=IfC (x1 !=(13:Int)) (R (.iface 125 (.string ⟨#[98,97,100,32,73,72,68,82,32,108,101,110,103,116,104]⟩)) w) (qO w fun m=>LdV m x0 fun y=>And (0<=(13:Int)/\(13:Int)<=(768:Int)) (CallT Pg 71 #[y,.slice (some (aQq x0 10)) 13 768] m fun z n=>∃A i,And (z= .tuple #[iQq A,i]) (xR i fun B=>IfC (!B) (R (i:Value) n) (qO n fun o=>LdP o (aQq x0 2) fun C=>And (0<=(13:Int)/\(13:Int)<=(768:Int)) (CallT Pg 74 #[.pointer C,.slice (some (aQq x0 10)) 13 768] o fun D c=>∃E F,And (D= .tuple #[iQq E,F]) (And (0<=(10:Int)/\(10:Int)<(768:Int)) (LdI c ⟨x0.block,x0.off+10+10,none⟩ .u8 fun G=>IfC (G !=(0:Int)) (R (.iface 126 (.string ⟨#[99,111,109,112,114,101,115,115,105,111,110,32,109,101,116,104,111,100]⟩)) c) (And (0<=(11:Int)/\(11:Int)<(768:Int)) (LdI c ⟨x0.block,x0.off+10+11,none⟩ .u8 fun H=>IfC (H !=(0:Int)) (R (.iface 126 (.string ⟨#[102,105,108,116,101,114,32,109,101,116,104,111,100]⟩)) c) (xH (fun(ao:(Unit)) (p:wQ)=>And (0<=(12:Int)/\(12:Int)<(768:Int)) (LdI p ⟨x0.block,x0.off+10+12,none⟩ .u8 fun I=>qB p (aQq x0 778) (iQq (wIq I)) fun J=>And (0<=(4:Int)/\(4:Int)<=(768:Int)) (And (0<=(0:Int)/\(0:Int)<=(4:Int)) (CallT Pg 72 #[.slice (some (aQq x0 10)) 4 768] J fun K L=>∃d,And (K= .int .u32 d) (And (0<=(8:Int)/\(8:Int)<=(768:Int)) (And (0<=(4:Int)/\(4:Int)<=(8:Int)) (CallT Pg 72 #[.slice (some ⟨x0.block,x0.off+10+4,none⟩) 4 764] L fun M j=>∃e,And (M= .int .u32 e) (xH (fun(ap:(Unit)) (k:wQ)=>IfC ((wIq ((wIq (wrap .i32 d))*(wIq (wrap .i32 e)))) !=(wIq ((wIq (wrap .i32 d))*(wIq (wrap .i32 e))))) (R (.iface 126 (.string ⟨#[100,105,109,101,110,115,105,111,110,32,111,118,101,114,102,108,111,119]⟩)) k) (zQ 8 (IfC ((wIq ((wIq (wrap .i32 d))*(wIq (wrap .i32 e)))) !=(wIq (Int.tdiv (wIq ((wIq ((wIq (wrap .i32 d))*(wIq (wrap .i32 e))))*8)) (8:Int)))) (R (.iface 126 (.string ⟨#[100,105,109,101,110,115,105,111,110,32,111,118,101,114,102,108,111,119]⟩)) k) (qB k (aQq x0 7) (iQq 0) fun q=>And (0<=(8:Int)/\(8:Int)<(768:Int)) (LdI q ⟨x0.block,x0.off+10+8,none⟩ .u8 fun N=>qB q (aQq x0 5) (iQq (wIq N)) fun a=>xH (fun(aq:(Unit)) (l:wQ)=>LdI l (aQq x0 7) .i64 fun O=>IfC (O==0) (R (.iface 126 (.string ⟨#[98,105,116,32,100,101,112,116,104,32,97,110,100,32,99,111,108,111,114,32,116,121,112,101]⟩)) l) (qB l (aQq x0 3) (iQq (wIq (wrap .i32 d))) fun P=>qB P (aQq x0 4) (iQq (wIq (wrap .i32 e))) fun Q=>CallT Pg 81 #[.pointer (some x0)] Q fun S T=>∃r,And (S=r) (R (r:Value) T))) (fun b=>LdI a (aQq x0 5) .i64 fun f=>IfC (f==1) (And (0<=(9:Int)/\(9:Int)<(768:Int)) (LdI a ⟨x0.block,x0.off+10+9,none⟩ .u8 fun s=>IfC (s==0) (qB a (aQq x0 7) (iQq 1) fun U=>b (()) U) (IfC (s==3) (qB a (aQq x0 7) (iQq 7) fun V=>b (()) V) (b (()) a)))) (IfC (f==2) (And (0<=(9:Int)/\(9:Int)<(768:Int)) (LdI a ⟨x0.block,x0.off+10+9,none⟩ .u8 fun t=>IfC (t==0) (qB a (aQq x0 7) (iQq 2) fun X=>b (()) X) (IfC (t==3) (qB a (aQq x0 7) (iQq 8) fun Y=>b (()) Y) (b (()) a)))) (IfC (f==4) (And (0<=(9:Int)/\(9:Int)<(768:Int)) (LdI a ⟨x0.block,x0.off+10+9,none⟩ .u8 fun u=>IfC (u==0) (qB a (aQq x0 7) (iQq 3) fun Z=>b (()) Z) (IfC (u==3) (qB a (aQq x0 7) (iQq 9) fun aa=>b (()) aa) (b (()) a)))) (IfC (f==8) (And (0<=(9:Int)/\(9:Int)<(768:Int)) (LdI a ⟨x0.block,x0.off+10+9,none⟩ .u8 fun g=>IfC (g==0) (qB a (aQq x0 7) (iQq 4) fun ab=>b (()) ab) (IfC (g==2) (qB a (aQq x0 7) (iQq 6) fun ac=>b (()) ac) (IfC (g==3) (qB a (aQq x0 7) (iQq 10) fun ad=>b (()) ad) (IfC (g==4) (qB a (aQq x0 7) (iQq 5) fun ae=>b (()) ae) (IfC (g==6) (qB a (aQq x0 7) (iQq 11) fun af=>b (()) af) (b (()) a))))))) (IfC (f==16) (And (0<=(9:Int)/\(9:Int)<(768:Int)) (LdI a ⟨x0.block,x0.off+10+9,none⟩ .u8 fun h=>IfC (h==0) (qB a (aQq x0 7) (iQq 12) fun ag=>b (()) ag) (IfC (h==2) (qB a (aQq x0 7) (iQq 14) fun ah=>b (()) ah) (IfC (h==4) (qB a (aQq x0 7) (iQq 13) fun ai=>b (()) ai) (IfC (h==6) (qB a (aQq x0 7) (iQq 15) fun aj=>b (()) aj) (b (()) a)))))) (b (()) a))))))))))) (fun ak=>IfC (decide ((wrap .i32 d)<=(0:Int))) (R (.iface 125 (.string ⟨#[110,111,110,45,112,111,115,105,116,105,118,101,32,100,105,109,101,110,115,105,111,110]⟩)) j) (IfC (decide ((wrap .i32 e)<=(0:Int))) (R (.iface 125 (.string ⟨#[110,111,110,45,112,111,115,105,116,105,118,101,32,100,105,109,101,110,115,105,111,110]⟩)) j) (ak (()) j))))))))))) (fun v=>And (0<=(12:Int)/\(12:Int)<(768:Int)) (LdI c ⟨x0.block,x0.off+10+12,none⟩ .u8 fun al=>IfC (al !=(0:Int)) (And (0<=(12:Int)/\(12:Int)<(768:Int)) (LdI c ⟨x0.block,x0.off+10+12,none⟩ .u8 fun am=>IfC (am !=(1:Int)) (R (.iface 125 (.string ⟨#[105,110,118,97,108,105,100,32,105,110,116,101,114,108,97,99,101,32,109,101,116,104,111,100]⟩)) c) (v (()) c))) (v (()) c)))))))))))))
theorem call75{x0:Addr}{x1:Int}{R:vPq}{w:wQ}(h:wp75 x0 x1 R w):CallT Pg 75 #[.pointer (some x0),.int .u32 x1] w R:=cVq [(38,[],[0]),(52,[],[0,7,8]),(84,[],[0,7,8])] Tryz.func75 h
section
variable{w:wQ}
structure Dec where
 rd:Value
 img:Value
 crc:Value
 W:Int
 H:Int
 D:Int
 pal:Sl
 cb:Int
 stage:Int
 idat:Int
 tmp:bQ
 lace:Int
 useT:Bool
 tr:bQ
def Dec.cells(d:Dec):List Value:=d.rd::d.img::d.crc:: .int .i64 d.W:: .int .i64 d.H:: .int .i64 d.D:: .slice d.pal.a d.pal.len d.pal.cap:: .int .i64 d.cb:: .int .i64 d.stage:: .int .u32 d.idat::(bv d.tmp++(.int .i64 d.lace:: .bool d.useT::bv d.tr))
def Dec.arr(d:Dec):vQ:=d.cells.toArray
theorem Dec.at0(d:Dec):d.arr[0]? =some d.rd:=by simp[Dec.arr,Dec.cells]
theorem Dec.at1(d:Dec):d.arr[0+1]? =some d.img:=by simp[Dec.arr,Dec.cells]
theorem Dec.at2(d:Dec):d.arr[0+2]? =some d.crc:=by simp[Dec.arr,Dec.cells]
theorem Dec.at3(d:Dec):d.arr[0+3]? =some (.int .i64 d.W):=by simp[Dec.arr,Dec.cells]
theorem Dec.at4(d:Dec):d.arr[0+4]? =some (.int .i64 d.H):=by simp[Dec.arr,Dec.cells]
theorem Dec.at5(d:Dec):d.arr[0+5]? =some (.int .i64 d.D):=by simp[Dec.arr,Dec.cells]
theorem Dec.at6(d:Dec):d.arr[0+6]? =some (.slice d.pal.a d.pal.len d.pal.cap):=by simp[Dec.arr,Dec.cells]
theorem Dec.at7(d:Dec):d.arr[0+7]? =some (.int .i64 d.cb):=by simp[Dec.arr,Dec.cells]
theorem Dec.at8(d:Dec):d.arr[0+8]? =some (.int .i64 d.stage):=by simp[Dec.arr,Dec.cells]
theorem Dec.at9(d:Dec):d.arr[0+9]? =some (.int .u32 d.idat):=by simp[Dec.arr,Dec.cells]
theorem Dec.set3(d:Dec)(x:Int):d.arr.setIfInBounds (0+3) (.int .i64 x)=({d with W:=x}:Dec).arr:=by simp[Dec.arr,Dec.cells]
theorem Dec.set4(d:Dec)(x:Int):d.arr.setIfInBounds (0+4) (.int .i64 x)=({d with H:=x}:Dec).arr:=by simp[Dec.arr,Dec.cells]
theorem Dec.set5(d:Dec)(x:Int):d.arr.setIfInBounds (0+5) (.int .i64 x)=({d with D:=x}:Dec).arr:=by simp[Dec.arr,Dec.cells]
theorem Dec.set6(d:Dec)(x:Sl):d.arr.setIfInBounds (0+6) (.slice x.a x.len x.cap)=({d with pal:=x}:Dec).arr:=by simp[Dec.arr,Dec.cells]
theorem Dec.set7(d:Dec)(x:Int):d.arr.setIfInBounds (0+7) (.int .i64 x)=({d with cb:=x}:Dec).arr:=by simp[Dec.arr,Dec.cells]
theorem Dec.set8(d:Dec)(x:Int):d.arr.setIfInBounds (0+8) (.int .i64 x)=({d with stage:=x}:Dec).arr:=by simp[Dec.arr,Dec.cells]
theorem Dec.set9(d:Dec)(x:Int):d.arr.setIfInBounds (0+9) (.int .u32 x)=({d with idat:=x}:Dec).arr:=by simp[Dec.arr,Dec.cells]
theorem Dec.size(d:Dec):d.arr.size=12+d.tmp.length+d.tr.length:=by simp[Dec.arr,Dec.cells];omega
theorem Dec.atT(d:Dec){j:Nat}(h:j<d.tmp.length):d.arr[10+j]? =some (.int .u8 (gb d.tmp j)):=by
 have e:d.arr[10+j]? =(bv d.tmp++(.int .i64 d.lace:: .bool d.useT::bv d.tr))[j]? :=by
  rw[Nat.add_comm];simp[Dec.arr,Dec.cells]
 rw[e,List.getElem?_append_left (by simpa using h),kZ h]
theorem Dec.set778(d:Dec)(x:Int)(h:d.tmp.length=768):d.arr.setIfInBounds (0+778) (.int .i64 x)=({d with lace:=x}:Dec).arr:=by
 simp[Dec.arr,Dec.cells,List.set_append,h]
theorem Dec.set779(d:Dec)(x:Bool)(h:d.tmp.length=768):d.arr.setIfInBounds (0+779) (.bool x)=({d with useT:=x}:Dec).arr:=by
 simp[Dec.arr,Dec.cells,List.set_append,h]
theorem Dec.has(d:Dec){db:Nat}(h:hp w db=Row 119 d.arr)(o n:Nat):Has w (some ⟨db,10+o,none⟩) (bv ((d.tmp.drop o).take n)):=by
 refine⟨rfl,119,d.arr,h,fun j v hj=> ?_⟩;rw[kM,List.getElem?_take]at hj
 split at hj
 ·rw[List.getElem?_drop]at hj
  have hlt:o+j<d.tmp.length:=by
   rcases Nat.lt_or_ge (o+j) d.tmp.length with h|h
   ·exact h
   ·rw[List.getElem?_eq_none h]at hj;cases hj
  dsimp only;rw[Nat.add_assoc,d.atT hlt,<-kZ hlt,kM];exact hj
 ·cases hj
theorem Dec.put{d:Dec}{xs:bQ}{arr':vQ}(h:Put d.arr 10 (bv xs) arr')(hl:xs.length<=d.tmp.length):arr'=({d with tmp:=xs++d.tmp.drop xs.length}:Dec).arr:=by
 obtain⟨hs,hj⟩:=h;apply Array.ext_getElem?;intro j;rw[hj j];have hbl:(bv xs).length=xs.length:=bv_length xs;rw[hbl];simp only[Dec.arr,Dec.cells,List.getElem?_toArray];rcases Nat.lt_or_ge j 10 with h10|h10
 ·rw[if_neg oQ]
  obtain rfl|rfl|rfl|rfl|rfl|rfl|rfl|rfl|rfl|rfl:=(by omega:j=0\/j=1\/j=2\/j=3\/j=4\/j=5\/j=6\/j=7\/j=8\/j=9)<;>rfl
 ·obtain⟨k,rfl⟩:∃k,j=k+10:=⟨j -10,oQ⟩
  simp only[List.getElem?_cons_succ,Nat.add_sub_cancel];rw[bv_append,List.append_assoc]
  split
  ·rw[List.getElem?_append_left (by rw[bv_length];omega)]
  ·rw[List.getElem?_append_right (l₁:=bv xs) (by rw[bv_length];omega),bv_length]
   have:bv (d.tmp.drop xs.length)=(bv d.tmp).drop xs.length:=by simp[bv,List.map_drop]
   rw[this];rcases Nat.lt_or_ge k d.tmp.length with hk|hk
   ·rw[List.getElem?_append_left (by rw[bv_length];omega),List.getElem?_append_left (by simp;omega),List.getElem?_drop]
    congr 1;omega
   ·rw[List.getElem?_append_right (by rw[bv_length];omega),List.getElem?_append_right (by simp;omega)]
    simp only[bv_length,List.length_drop]
    congr 1;omega
structure Dst (w:wQ) (db rb kb:Nat) (p:pQ) (d:Dec) (crc:Nat) (rs:bQ):Prop where
 dec:hp w db=Row 119 d.arr
 htmp:d.tmp.length=768
 htr:d.tr.length=6
 rd:d.rd= .iface 85 (.pointer (some ⟨rb,0,none⟩))
 ck:d.crc= .pointer (some ⟨kb,0,none⟩)
 at_ :RdAt w rb p rs
 sum:hp w kb=Row 113 #[.int .u32 crc]
 crc32:crc<4294967296
 tab:Tab w
 ne:3<rb/\(∀a,p=some a ->3<a.block/\a.block<rb)/\rb<kb/\kb<db
namespace Dst
variable{db rb kb crc:Nat}{p:pQ}{d d':Dec}{rs:bQ}{w':wQ}
theorem fr0(h:Dst w db rb kb p d crc rs)(hf:Fr [] w w'):Dst w' db rb kb p d crc rs:=
 ⟨hf.row0 h.dec,h.htmp,h.htr,h.rd,h.ck,h.at_.fr hf sQ sQ,hf.row0 h.sum,h.crc32,h.tab.fr hf sQ,h.ne⟩
theorem fr{S:List Nat}(h:Dst w db rb kb p d crc rs)(hf:Fr S w w')(hS:∀x∈S,db<x):Dst w' db rb kb p d crc rs:=by
 have hne:=h.ne;have no:∀y,y<=db ->y∉S:=fun y hy hx=>by have:=hS y hx;omega
 exact⟨hf.row h.dec (no _ (Nat.le_refl _)),h.htmp,h.htr,h.rd,h.ck,h.at_.fr hf (no _ oQ) (fun a ha=>no _ (by have:=hne.2.1 a ha;omega)),hf.row h.sum (no _ oQ),h.crc32,h.tab.fr hf (no _ oQ),h.ne⟩
theorem upd(h:Dst w db rb kb p d crc rs)(hf:Fr [db] w w')(hd:hp w' db=Row 119 d'.arr)(e1:d'.rd=d.rd)(e2:d'.crc=d.crc)(e3:d'.tmp.length=768)(e4:d'.tr.length=6):Dst w' db rb kb p d' crc rs:=by
 have hne:=h.ne;exact⟨hd,e3,e4,e1.trans h.rd,e2.trans h.ck,h.at_.fr hf (by simp;omega) (fun a ha=>by have:=hne.2.1 a ha;simp;omega),hf.row1 h.sum oQ,h.crc32,h.tab.fr hf (by simp;omega),h.ne⟩
theorem read(h:Dst w db rb kb p d crc rs){n:Nat}(hn0:0<n)(hm:n<=768)(hnl:n<=rs.length):
  CallT Pg 71 #[d.rd,.slice (some ⟨db,0+10,none⟩) n 768] w fun v w'=>v= .tuple #[.int .i64 n,.nilIface]/\Dst w' db rb kb p {d with tmp:=rs.take n++d.tmp.drop n} crc (rs.drop n)/\Fr [rb,db] w w'/\hn w'=hn w:=by
 have hne:=h.ne;have hsz:=d.size;have h1:=h.htmp;have h2:=h.htr
 suffices H:∀u,u= .iface 85 (.pointer (some ⟨rb,0,none⟩)) ->CallT Pg 71 #[u,.slice (some ⟨db,0+10,none⟩) n 768] w fun v w'=>v= .tuple #[.int .i64 n,.nilIface]/\Dst w' db rb kb p {d with tmp:=rs.take n++d.tmp.drop n} crc (rs.drop n)/\Fr [rb,db] w w'/\hn w'=hn w from H _ h.rd
 rintro _ rfl;refine CallT.mono (c71 (o:=10) h.at_ h.dec oQ oQ (fun a ha=>by have:=hne.2.1 a ha;omega) (fun a ha=>by have:=hne.2.1 a ha;omega) hn0 hnl oQ) ?_;rintro _ w' ⟨rfl,hr,hf,hn',arr',hd,hp⟩;have hlen:(rs.take n).length=n:=by simp;omega
 have e:=Dec.put hp oQ;rw[hlen]at e;subst e;exact⟨rfl,⟨hd,by simp;omega,h2,h.rd,h.ck,hr,hf.row h.sum (by simp;omega),h.crc32,h.tab.fr hf (by simp;omega),h.ne⟩,hf,hn'⟩
theorem sums(h:Dst w db rb kb p d crc rs){o n cap:Nat}{q:Nat}(hq:q=10+o)(hm:o+n<=768):
  CallT Pg 74 #[.pointer (some ⟨kb,0,none⟩),.slice (some ⟨db,q,none⟩) n cap] w fun v w'=>v= .tuple #[.int .i64 n,.nilIface]/\Dst w' db rb kb p d (zR crc ((d.tmp.drop o).take n)) rs/\Fr [kb] w w'/\hn w'=hn w:=by
 have hne:=h.ne;have h1:=h.htmp;subst hq;refine CallT.mono (c74 (l:=n) h.sum h.crc32 h.tab (d.has h.dec o n) (by simp;omega) oQ) ?_;rintro _ w' ⟨rfl,hk,hf,hn'⟩;exact⟨rfl,⟨hf.row1 h.dec oQ,h.htmp,h.htr,h.rd,h.ck,h.at_.fr hf (by simp;omega) (fun a ha=>by have:=hne.2.1 a ha;simp;omega),hk,iF h.crc32 _,h.tab.fr hf (by simp;omega),h.ne⟩,hf,hn'⟩
theorem be4r(h:Dst w db rb kb p d crc rs){o l c q:Nat}(hq:q=10+o)(ho:o+4<=768)(hl:4<=l):CallT Pg 72 #[.slice (some ⟨db,q,none⟩) l c] w fun v w'=>v= .int .u32 (be4 d.tmp o)/\Fr [] w w'/\hn w'=hn w:=by
 have h1:=h.htmp;subst hq;refine CallT.mono (c72 (d.has h.dec o 4) (by simp;omega) hl) ?_;rintro _ w' ⟨rfl,hf⟩;refine⟨?_,hf⟩;have e:∀j,j<4 ->gb ((d.tmp.drop o).take 4) j=gb d.tmp (o+j):=by
  intro j hj;simp[gb,List.getD,List.getElem?_take,hj,List.getElem?_drop]
 simp only[be4,Nat.zero_add];rw[e 0 oQ,e 1 oQ,e 2 oQ,e 3 oQ]
 rfl
end Dst
theorem tA{xs ys:bQ}{i:Nat}(h:i<xs.length):gb (xs++ys) i=gb xs i:=by
 simp[gb,List.getD,List.getElem?_append_left h]
theorem yH{xs ys:bQ}{i:Nat}(h:i+4<=xs.length):be4 (xs++ys) i=be4 xs i:=by
 unfold be4;rw[tA oQ,tA oQ,tA oQ,tA oQ]
theorem mT{xs:bQ}{n i:Nat}(h:i<n):gb (xs.take n) i=gb xs i:=by
 simp[gb,List.getD,List.getElem?_take,h]
theorem vP{xs:bQ}{n i:Nat}(h:i+4<=n):be4 (xs.take n) i=be4 xs i:=by
 unfold be4;rw[mT oQ,mT oQ,mT oQ,mT oQ]
theorem c61{x:Int}:CallT Pg 61 #[.int .i64 x] w fun v w'=>v= .bool (decide (7<=x)&&decide (x<=10))/\w'=w:=by
 apply call61;unfold wp61;refine qF (fun h=> ?_) (fun h=> ?_)<;>simp[h]
theorem uH(xs ys:bQ):vK ⟨xs.toArray⟩ ⟨ys.toArray⟩=(xs==ys):=by
 unfold vK;rw[ByteArray.toList_eq,ByteArray.toList_eq]
theorem qR{K:Bool ->Prop}(h:K true):xR .nilIface K:=h
theorem yA{t:TypeId}{x:Value}{K:Bool ->Prop}(h:K false):xR (.iface t x) K:=h
theorem xA{X Y:Prop}(h:X):IfC true X Y:=h
theorem qM{X Y:Prop}(h:Y):IfC false X Y:=h
def Refuse(t:TypeId)(v:Value):Prop:=∃s:ByteArray,v= .iface t (.string s)/\(t=125 ->s.size<=100)
namespace Dst
variable{db rb kb crc:Nat}{p:pQ}{d d':Dec}{rs:bQ}{w':wQ}
theorem c81(h:Dst w db rb kb p d crc rs)(hl:4<=rs.length):
  CallT Pg 81 #[.pointer (some ⟨db,0,none⟩)] w fun v w'=>(if be4 rs 0=crc then v= .nilIface else Refuse 125 v)/\Dst w' db rb kb p {d with tmp:=rs.take 4++d.tmp.drop 4} crc (rs.drop 4)/\Fr [rb,db] w w'/\hn w'=hn w:=by
 apply call81;unfold wp81 aQq iQq;refine qE fun w1 f1 n1=> ?_;have h:=h.fr0 f1;refine qT h.dec d.at0 ⟨⟨dQ,dQ⟩,?_⟩;refine CallT.mono (h.read (n:=4) dQ dQ hl) ?_;rintro _ w4 ⟨rfl,h4,f4,n4⟩;refine⟨_,_,rfl,?_⟩;refine qR (qM ?_);refine qE fun w8 f8 n8=>⟨⟨dQ,dQ⟩,?_⟩;have h8:=h4.fr0 f8;refine zZ h8.dec ((Dec.at2 _).trans (congrArg some h8.ck)) ?_;refine CallT.mono (h8.be4r (o:=0) rfl dQ dQ) ?_;rintro _ w11 ⟨rfl,f11,n11⟩;have h11:=h8.fr0 f11;refine⟨_,rfl,zZ h11.dec ((Dec.at2 _).trans (congrArg some h11.ck)) ⟨rfl,rfl,?_⟩⟩;refine CallT.mono (c93 h11.sum) ?_;rintro _ _ ⟨rfl,rfl⟩;refine⟨_,rfl,?_⟩;have e:be4 (rs.take 4++d.tmp.drop 4) 0=be4 rs 0:=by rw[yH (by simp;omega),vP oQ]
 have F:Fr [rb,db] w _ :=(f1.mono sQ).trans (f4.trans ((f8.trans f11).mono sQ));dsimp only;rw[e];refine qX (fun hc=> ?_) (fun hc=> ?_)
 ·rw[if_neg (by intro he;rw[he]at hc;simp at hc)]
  exact⟨⟨_,rfl,(by first|decide|exact fun h=>absurd h dQ)⟩,h11,F,oQ⟩
 ·rw[if_pos (by simp at hc;omega)]
  exact⟨rfl,h11,F,oQ⟩
theorem c59(h:Dst w db rb kb p d crc rs)(hl:8<=rs.length):
  CallT Pg 59 #[.pointer (some ⟨db,0,none⟩)] w fun v w'=>(if rs.take 8=sigL then v= .nilIface else Refuse 125 v)/\Dst w' db rb kb p {d with tmp:=rs.take 8++d.tmp.drop 8} crc (rs.drop 8)/\Fr [rb,db] w w'/\hn w'=hn w:=by
 apply call59;unfold wp59 aQq iQq;refine qE fun w1 f1 n1=> ?_;have h:=h.fr0 f1;refine qT h.dec d.at0 ⟨⟨dQ,dQ⟩,?_⟩;refine CallT.mono (h.read (n:=8) dQ dQ hl) ?_;rintro _ w4 ⟨rfl,h4,f4,n4⟩;refine⟨_,_,rfl,?_⟩;have F:Fr [rb,db] w _ :=(f1.mono sQ).trans f4;refine qR (qM ?_);refine⟨⟨dQ,dQ⟩,?_⟩;have hb:=Dec.has _ h4.dec 0 8;have e:((rs.take 8++d.tmp.drop 8).drop 0).take 8=rs.take 8:=by
  rw[List.drop_zero,List.take_append_of_le_length (by simp;omega),List.take_of_length_le (by simp;omega)]
 dsimp only at hb;rw[e]at hb;refine rM hb (by simp;omega) ?_;have es:vK ⟨(rs.take 8).toArray⟩ ⟨#[137,80,78,71,13,10,26,10]⟩=(rs.take 8==sigL):=uH _ sigL;rw[es];refine qX (fun hc=> ?_) (fun hc=> ?_)
 ·have:¬rs.take 8=sigL:=by intro he;rw[he]at hc;simp at hc
  dsimp only;rw[if_neg this];exact⟨⟨_,rfl,(by first|decide|exact fun h=>absurd h dQ)⟩,h4,F,oQ⟩
 ·have:rs.take 8=sigL:=by simpa using hc
  dsimp only;rw[if_pos this];exact⟨rfl,h4,F,oQ⟩
end Dst
theorem qW{a b:Int}{X Y:Prop}(h1:a=b ->X)(h2:a≠b ->Y):IfC (a==b) X Y:=qX (fun h=>h1 (eq_of_beq h)) (fun h=>h2 fun e=>by subst e;simp at h)
theorem xU{a b:Int}{X Y:Prop}(h1:a≠b ->X)(h2:a=b ->Y):IfC (a !=b) X Y:=qX (fun h=>h1 fun e=>by subst e;simp at h) (fun h=>h2 (by simpa using h))
def cbN(C D:Nat):Nat:=
 if D=1 then(if C=0 then 1 else if C=3 then 7 else 0)else if D=2 then(if C=0 then 2 else if C=3 then 8 else 0)else if D=4 then(if C=0 then 3 else if C=3 then 9 else 0)
 else if D=8 then(if C=0 then 4 else if C=2 then 6 else if C=3 then 10 else if C=4 then 5 else if C=6 then 11 else 0)
 else if D=16 then(if C=0 then 12 else if C=2 then 14 else if C=4 then 13 else if C=6 then 15 else 0)else 0
theorem yN{a:Nat}(k:Nat){b:Int}(hb:b=(k:Int)){X Y:Prop}(h1:a=k ->X)(h2:a≠k ->Y):IfC ((a:Int)==b) X Y:=by
 subst hb;exact qW (fun h=>h1 (Int.ofNat.inj h)) (fun h=>h2 fun e=>h (congrArg _ e))
theorem qDq{C D:Nat}(h:D=1):cbN C D=if C=0 then 1 else if C=3 then 7 else 0:=by subst h;rfl
theorem qDr{C D:Nat}(h:D=2):cbN C D=if C=0 then 2 else if C=3 then 8 else 0:=by subst h;rfl
theorem qDs{C D:Nat}(h:D=4):cbN C D=if C=0 then 3 else if C=3 then 9 else 0:=by subst h;rfl
theorem aV{C D:Nat}(h:D=8):cbN C D=if C=0 then 4 else if C=2 then 6 else if C=3 then 10 else if C=4 then 5 else if C=6 then 11 else 0:=by subst h;rfl
theorem dY{C D:Nat}(h:D=16):cbN C D=if C=0 then 12 else if C=2 then 14 else if C=4 then 13 else if C=6 then 15 else 0:=by subst h;rfl
def kA(hs:bQ):Option Nat:=
 if gb hs 10≠0 then some 126 else if gb hs 11≠0 then some 126 else if gb hs 12≠0/\gb hs 12≠1 then some 125 else if be4 hs 0=0\/2147483648<=be4 hs 0 then some 125 else if be4 hs 4=0\/2147483648<=be4 hs 4 then some 125
 else if cbN (gb hs 9) (gb hs 8)=0 then some 126 else none
def Dec.head(d:Dec)(hs tmp:bQ):Dec:={d with W:=be4 hs 0,H:=be4 hs 4,D:=gb hs 8,cb:=cbN (gb hs 9) (gb hs 8),lace:=gb hs 12,tmp:=tmp}
theorem qGh{n:Nat}(h:n<4294967296):wrap .i32 (n:Int)=if n<2147483648 then(n:Int)else(n:Int) -4294967296:=by
 simp only[wrap,IntKind.bits,IntKind.signed];simp
 split<;>split<;>omega
def rO(w:wQ)(rb db:Nat)(u:Value)(n:Nat)(P:vPq):Prop:=∀w1,Fr [] w w1 ->CallT Pg 71 #[u,.slice (some ⟨db,0+10,none⟩) n 768] w1 fun v w'=>∃(m:Int) (e:Value),v= .tuple #[.int .i64 m,e]/\(∀K:Bool ->Prop,K false ->xR e K)/\Fr [rb,db] w1 w'/\hn w'=hn w1/\P e w'
theorem Dst.c75k{db rb kb crc:Nat}{p:pQ}{d:Dec}{rs:bQ}{P:vPq}(h:Dst w db rb kb p d crc rs)(hpx:13<=rs.length ->be4 rs 0<2147483648 ->be4 rs 4<2147483648 ->be4 rs 0*be4 rs 4<1152921504606846976)
  (hs:rs.length<13 ->rO w rb db d.rd 13 P)(hr:∀t v w',13<=rs.length ->kA (rs.take 13)=some t ->Refuse t v ->P v w')
  (h81:∀w1 tmp,13<=rs.length ->kA (rs.take 13)=none ->Dst w1 db rb kb p (d.head (rs.take 13) tmp) (zR crc (rs.take 13)) (rs.drop 13) ->Fr [rb,kb,db] w w1 ->CallT Pg 81 #[.pointer (some ⟨db,0,none⟩)] w1 fun v w'=>Fr [rb,db] w1 w'/\hn w'=hn w1/\P v w'):
  CallT Pg 75 #[.pointer (some ⟨db,0,none⟩),.int .u32 13] w fun v w'=>Fr [rb,kb,db] w w'/\hn w'=hn w/\P v w':=by
 apply call75;unfold wp75 aQq wIq iQq;refine xU (fun h=>absurd rfl h) (fun _ => ?_);refine qE fun w1 f1 n1=> ?_;have h:=h.fr0 f1;refine qT h.dec d.at0 ⟨⟨dQ,dQ⟩,?_⟩;rcases Nat.lt_or_ge rs.length 13 with hlt|hl
 ·refine CallT.mono (hs hlt w1 f1) ?_
  rintro _ w4 ⟨m,e,rfl,hE,f4,n4,hP⟩;exact⟨_,_,rfl,hE _ (xA ⟨(f1.mono sQ).trans (f4.mono sQ),oQ,hP⟩)⟩
 have hpx:=hpx hl;have hr:=fun t v w'=>hr t v w' hl;have h81:=fun w1 tmp=>h81 w1 tmp hl;refine CallT.mono (h.read (n:=13) dQ dQ oQ) ?_;rintro _ w4 ⟨rfl,h4,f4,n4⟩;refine⟨_,_,rfl,qR (qM ?_)⟩;refine qE fun w8 f8 n8=> ?_;have h8:=h4.fr0 f8;refine zZ h8.dec ((Dec.at2 _).trans (congrArg some h8.ck)) ⟨⟨dQ,dQ⟩,?_⟩;refine CallT.mono (h8.sums (o:=0) (n:=13) rfl dQ) ?_;rintro _ w11 ⟨rfl,h11,f11,n11⟩;have hn0:hn w11=hn w:=oQ;have F:Fr [rb,kb,db] w w11:=(f1.mono sQ).trans ((f4.mono sQ).trans ((f8.mono sQ).trans (f11.mono sQ)));refine⟨_,_,rfl,?_⟩;clear f1 f4 f8 f11 n1 n4 n8 n11 h4 h8 h;have hlen:(rs.take 13).length=13:=by simp;omega
 have e0:((({d with tmp:=rs.take 13++d.tmp.drop 13}:Dec).tmp.drop 0).take 13)=rs.take 13:=by
  show((rs.take 13++d.tmp.drop 13).drop 0).take 13=_;rw[List.drop_zero,List.take_append_of_le_length oQ,List.take_of_length_le oQ]
 rw[e0]at h11;have ht:∀j,j<13 ->({d with tmp:=rs.take 13++d.tmp.drop 13}:Dec).arr[0+10+j]? =some (.int .u8 (gb (rs.take 13) j)):=by
  intro j hj;have:=Dec.atT ({d with tmp:=rs.take 13++d.tmp.drop 13}:Dec) (j:=j) (by have:=h11.htmp;omega);rw[show gb (rs.take 13) j=gb ({d with tmp:=rs.take 13++d.tmp.drop 13}:Dec).tmp j from(tA oQ).symm];exact this
 have hb0:be4 (rs.take 13++d.tmp.drop 13) 0=be4 (rs.take 13) 0:=yH oQ;have hb4:be4 (rs.take 13++d.tmp.drop 13) 4=be4 (rs.take 13) 4:=yH oQ;have hpx:be4 (rs.take 13) 0<2147483648 ->be4 (rs.take 13) 4<2147483648 ->be4 (rs.take 13) 0*be4 (rs.take 13) 4<1152921504606846976:=by rw[vP oQ,vP oQ];exact hpx
 generalize rs.drop 13=r4 at*;generalize rs.take 13=hs at*;have hH:=iB hs 0;have hW:=iB hs 4;refine⟨⟨dQ,dQ⟩,qC h11.dec (ht 10 dQ) ?_⟩;refine xU (fun h10=>⟨F,hn0,?_⟩) (fun h10=> ?_)
 ·exact hr 126 _ _ (by unfold kA;rw[if_pos oQ]) ⟨_,rfl,(by first|decide|exact fun h=>absurd h dQ)⟩
 refine⟨⟨dQ,dQ⟩,qC h11.dec (ht 11 dQ) ?_⟩;refine xU (fun h11'=>⟨F,hn0,?_⟩) (fun h11'=> ?_)
 ·exact hr 126 _ _ (by unfold kA;rw[if_neg oQ,if_pos oQ]) ⟨_,rfl,(by first|decide|exact fun h=>absurd h dQ)⟩
 refine qJ (fun _ w'=>w'=w11/\(gb hs 12=0\/gb hs 12=1)) ?_ ?_
 ·rintro⟨⟩ w' ⟨rfl,h12⟩
  refine⟨⟨dQ,dQ⟩,qC h11.dec (ht 12 dQ) ?_⟩;refine qD h11.dec (by show 0+778<_;rw[Dec.size,h11.htmp,h11.htr];decide) fun w20 h20 f20 n20=> ?_;have hg:=yC hs 12;rw[qA oQ oQ]at h20;have h20':=h11.upd (d':={d with tmp:=hs++d.tmp.drop 13,lace:=gb hs 12}) f20 (h20.trans (congrArg (Row 119) (Dec.set778 _ _ h11.htmp))) rfl rfl h11.htmp h11.htr;refine⟨⟨dQ,dQ⟩,⟨dQ,dQ⟩,?_⟩;refine CallT.mono (h20'.be4r (o:=0) rfl dQ dQ) ?_;rintro _ w22 ⟨rfl,f22,n22⟩;have h22:=h20'.fr0 f22;refine⟨_,rfl,⟨dQ,dQ⟩,⟨dQ,dQ⟩,?_⟩;refine CallT.mono (h22.be4r (o:=4) rfl dQ dQ) ?_;rintro _ w25 ⟨rfl,f25,n25⟩;have h25:=h22.fr0 f25;refine⟨_,rfl,?_⟩;dsimp only;rw[hb0,hb4,qGh hH,qGh hW];have F25:Fr [rb,kb,db] w w25:=F.trans ((f20.mono sQ).trans ((f22.trans f25).mono sQ));have hn25:hn w25=hn w:=oQ;generalize hWn:be4 hs 0=W at*;generalize hHn:be4 hs 4=H at*;have hV:∀t,(W=0\/2147483648<=W\/H=0\/2147483648<=H) ->t=125 ->kA hs=some t:=by
   intro t ht he;subst he;unfold kA;rw[if_neg oQ,if_neg oQ,if_neg oQ,hWn,hHn]
   split
   ·rfl
   ·rw[if_pos oQ]
  refine qJ (fun _ w'=>w'=w25/\0<W/\W<2147483648/\0<H/\H<2147483648) ?_ ?_
  ·rintro⟨⟩ w' ⟨rfl,hW0,hW1,hH0,hH1⟩
   rw[if_pos hW1,if_pos hH1];have hWH:=hpx hW1 hH1;generalize hP:W*H=P at*;have eP:wrap .i64 (wrap .i64 (W:Int)*wrap .i64 (H:Int))=(P:Int):=by
    rw[qA (n:=(W:Int)) oQ oQ,qA (n:=(H:Int)) oQ oQ,<-Int.natCast_mul,hP,qA oQ oQ]
   have eP8:wrap .i64 (Int.tdiv (wrap .i64 ((P:Int)*8)) 8)=(P:Int):=by
    rw[qA (n:=(P:Int)*8) oQ oQ,show(P:Int)*8=((P*8:Nat):Int) by omega,show Int.tdiv ((P*8:Nat):Int) 8=((P*8/8:Nat):Int)from vR _ 8,qA oQ oQ];omega
   rw[eP,eP8];refine xU (fun hc=>absurd rfl hc) (fun _ =>xK dQ ?_);refine xU (fun hc=>absurd rfl hc) (fun _ => ?_);refine qD h25.dec (by show 0+7<_;rw[Dec.size,h25.htmp,h25.htr];decide) fun w30 h30 f30 n30=> ?_;have h30':=h25.upd (d':={d with tmp:=hs++d.tmp.drop 13,lace:=gb hs 12,cb:=0}) f30 (h30.trans (congrArg (Row 119) (Dec.set7 _ _))) rfl rfl h25.htmp h25.htr;have ht30:∀j,j<13 ->({d with tmp:=hs++d.tmp.drop 13,lace:=gb hs 12,cb:=0}:Dec).arr[0+10+j]? =some (.int .u8 (gb hs j)):=by
    intro j hj;have:=Dec.atT ({d with tmp:=hs++d.tmp.drop 13,lace:=gb hs 12,cb:=0}:Dec) (j:=j) (by have:=h30'.htmp;omega);rw[show gb hs j=gb ({d with tmp:=hs++d.tmp.drop 13,lace:=gb hs 12,cb:=0}:Dec).tmp j from(tA oQ).symm];exact this
   refine⟨⟨dQ,dQ⟩,qC h30'.dec (ht30 8 dQ) ?_⟩;refine qD h30'.dec (by show 0+5<_;rw[Dec.size,h30'.htmp,h30'.htr];decide) fun w32 h32 f32 n32=> ?_;have hg8:=yC hs 8;have hg9:=yC hs 9;rw[qA (n:=(gb hs 8:Int)) oQ oQ]at h32;have h32':=h30'.upd (d':={d with tmp:=hs++d.tmp.drop 13,lace:=gb hs 12,cb:=0,D:=gb hs 8}) f32 (h32.trans (congrArg (Row 119) (Dec.set5 _ _))) rfl rfl h30'.htmp h30'.htr;have ht32:∀j,j<13 ->({d with tmp:=hs++d.tmp.drop 13,lace:=gb hs 12,cb:=0,D:=gb hs 8}:Dec).arr[0+10+j]? =some (.int .u8 (gb hs j)):=by
    intro j hj;have:=Dec.atT ({d with tmp:=hs++d.tmp.drop 13,lace:=gb hs 12,cb:=0,D:=gb hs 8}:Dec) (j:=j) (by have:=h32'.htmp;omega);rw[show gb hs j=gb ({d with tmp:=hs++d.tmp.drop 13,lace:=gb hs 12,cb:=0,D:=gb hs 8}:Dec).tmp j from(tA oQ).symm];exact this
   have F32:Fr [rb,kb,db] w w32:=F25.trans ((f30.mono sQ).trans (f32.mono sQ));have hn32:hn w32=hn w:=oQ;refine qJ (fun _ w'=>Fr [db] w32 w'/\hn w'=hn w32/\hp w' db=Row 119 ({d with tmp:=hs++d.tmp.drop 13,lace:=gb hs 12,D:=gb hs 8,cb:=cbN (gb hs 9) (gb hs 8)}:Dec).arr) ?_ ?_
   ·rintro⟨⟩ w34 ⟨f34,n34,h34⟩
    have h34':=h32'.upd f34 h34 rfl rfl h32'.htmp h32'.htr;refine qC h34'.dec (Dec.at7 _) ?_;have F34:Fr [rb,kb,db] w w34:=F32.trans (f34.mono sQ);refine qW (fun hc=>⟨F34,oQ,?_⟩) (fun hc=> ?_)
    ·exact hr 126 _ _ (by unfold kA;rw[if_neg oQ,if_neg oQ,if_neg oQ,if_neg oQ,if_neg oQ,if_pos (by dsimp only at hc;omega)]) ⟨_,rfl,(by first|decide|exact fun h=>absurd h dQ)⟩
    rw[qA (n:=(W:Int)) oQ oQ,qA (n:=(H:Int)) oQ oQ];refine qD h34'.dec (by show 0+3<_;rw[Dec.size,h34'.htmp,h34'.htr];decide) fun w37 h37 f37 n37=> ?_;have h37':=h34'.upd (d':={d with tmp:=hs++d.tmp.drop 13,lace:=gb hs 12,D:=gb hs 8,cb:=cbN (gb hs 9) (gb hs 8),W:=W}) f37 (h37.trans (congrArg (Row 119) (Dec.set3 _ _))) rfl rfl h34'.htmp h34'.htr;refine qD h37'.dec (by show 0+4<_;rw[Dec.size,h37'.htmp,h37'.htr];decide) fun w38 h38 f38 n38=> ?_;have h38':=h37'.upd (d':={d with tmp:=hs++d.tmp.drop 13,lace:=gb hs 12,D:=gb hs 8,cb:=cbN (gb hs 9) (gb hs 8),W:=W,H:=H}) f38 (h38.trans (congrArg (Row 119) (Dec.set4 _ _))) rfl rfl h37'.htmp h37'.htr;have F38:=F34.trans ((f37.mono sQ).trans (f38.mono sQ));refine CallT.mono (h81 w38 (hs++d.tmp.drop 13) (by unfold kA;rw[if_neg oQ,if_neg oQ,if_neg oQ,if_neg oQ,if_neg oQ,if_neg (by dsimp only at hc;omega)]) (by unfold Dec.head;rw[hWn,hHn];exact h38') F38) ?_;rintro v w40 ⟨f40,n40,hP⟩;exact⟨_,rfl,F38.trans (f40.mono sQ),oQ,hP⟩
   ·intro J hJ
    refine qC h32'.dec (Dec.at5 _) ?_;have leaf:∀c:Nat,cbN (gb hs 9) (gb hs 8)=c ->qB w32 ⟨db,0+7,none⟩ (.int .i64 (c:Int)) fun w'=>J () w':=by
     intro c hc;refine qD h32'.dec (by show 0+7<_;rw[Dec.size,h32'.htmp,h32'.htr];decide) fun w' h' f' n'=>hJ _ _ ⟨f',n',?_⟩;rw[hc];exact h'.trans (congrArg (Row 119) (Dec.set7 _ _))
    have leaf0:cbN (gb hs 9) (gb hs 8)=0 ->J () w32:=by
     intro hc;refine hJ _ _ ⟨Fr.refl _ _,rfl,?_⟩;rw[hc];exact h32'.dec
    dsimp only;refine yN 1 rfl (fun a1=> ?_) (fun a1=> ?_)
    ·refine⟨⟨dQ,dQ⟩,qC h32'.dec (ht32 9 dQ) ?_⟩
     refine yN 0 rfl (fun b0=>leaf 1 (by rw[qDq a1,if_pos b0])) (fun b0=> ?_);refine yN 3 rfl (fun b3=>leaf 7 (by rw[qDq a1,if_neg b0,if_pos b3])) (fun b3=> ?_);exact leaf0 (by rw[qDq a1,if_neg b0,if_neg b3])
    refine yN 2 rfl (fun a2=> ?_) (fun a2=> ?_)
    ·refine⟨⟨dQ,dQ⟩,qC h32'.dec (ht32 9 dQ) ?_⟩
     refine yN 0 rfl (fun b0=>leaf 2 (by rw[qDr a2,if_pos b0])) (fun b0=> ?_);refine yN 3 rfl (fun b3=>leaf 8 (by rw[qDr a2,if_neg b0,if_pos b3])) (fun b3=> ?_);exact leaf0 (by rw[qDr a2,if_neg b0,if_neg b3])
    refine yN 4 rfl (fun a4=> ?_) (fun a4=> ?_)
    ·refine⟨⟨dQ,dQ⟩,qC h32'.dec (ht32 9 dQ) ?_⟩
     refine yN 0 rfl (fun b0=>leaf 3 (by rw[qDs a4,if_pos b0])) (fun b0=> ?_);refine yN 3 rfl (fun b3=>leaf 9 (by rw[qDs a4,if_neg b0,if_pos b3])) (fun b3=> ?_);exact leaf0 (by rw[qDs a4,if_neg b0,if_neg b3])
    refine yN 8 rfl (fun a8=> ?_) (fun a8=> ?_)
    ·refine⟨⟨dQ,dQ⟩,qC h32'.dec (ht32 9 dQ) ?_⟩
     refine yN 0 rfl (fun b0=>leaf 4 (by rw[aV a8,if_pos b0])) (fun b0=> ?_);refine yN 2 rfl (fun b2=>leaf 6 (by rw[aV a8,if_neg b0,if_pos b2])) (fun b2=> ?_);refine yN 3 rfl (fun b3=>leaf 10 (by rw[aV a8,if_neg b0,if_neg b2,if_pos b3])) (fun b3=> ?_);refine yN 4 rfl (fun b4=>leaf 5 (by rw[aV a8,if_neg b0,if_neg b2,if_neg b3,if_pos b4])) (fun b4=> ?_);refine yN 6 rfl (fun b6=>leaf 11 (by rw[aV a8,if_neg b0,if_neg b2,if_neg b3,if_neg b4,if_pos b6])) (fun b6=> ?_);exact leaf0 (by rw[aV a8,if_neg b0,if_neg b2,if_neg b3,if_neg b4,if_neg b6])
    refine yN 16 rfl (fun a16=> ?_) (fun a16=> ?_)
    ·refine⟨⟨dQ,dQ⟩,qC h32'.dec (ht32 9 dQ) ?_⟩
     refine yN 0 rfl (fun b0=>leaf 12 (by rw[dY a16,if_pos b0])) (fun b0=> ?_);refine yN 2 rfl (fun b2=>leaf 14 (by rw[dY a16,if_neg b0,if_pos b2])) (fun b2=> ?_);refine yN 4 rfl (fun b4=>leaf 13 (by rw[dY a16,if_neg b0,if_neg b2,if_pos b4])) (fun b4=> ?_);refine yN 6 rfl (fun b6=>leaf 15 (by rw[dY a16,if_neg b0,if_neg b2,if_neg b4,if_pos b6])) (fun b6=> ?_);exact leaf0 (by rw[dY a16,if_neg b0,if_neg b2,if_neg b4,if_neg b6])
    exact leaf0 (by unfold cbN;rw[if_neg a1,if_neg a2,if_neg a4,if_neg a8,if_neg a16])
  ·intro J hJ
   refine qF (fun hc=>⟨F25,hn25,?_⟩) (fun hc=>qF (fun hc'=>⟨F25,hn25,?_⟩) (fun hc'=>hJ _ _ ⟨rfl,?_⟩))
   ·exact hr 125 _ _ (hV 125 (by split at hc<;>omega) rfl) ⟨_,rfl,(by first|decide|exact fun h=>absurd h dQ)⟩
   ·exact hr 125 _ _ (hV 125 (by split at hc'<;>omega) rfl) ⟨_,rfl,(by first|decide|exact fun h=>absurd h dQ)⟩
   ·split at hc<;>split at hc'<;>omega
 ·intro J hJ
  refine⟨⟨dQ,dQ⟩,qC h11.dec (ht 12 dQ) ?_⟩;refine xU (fun h12=> ?_) (fun h12=>hJ _ _ ⟨rfl,oQ⟩);refine⟨⟨dQ,dQ⟩,qC h11.dec (ht 12 dQ) ?_⟩;refine xU (fun h12'=>⟨F,hn0,?_⟩) (fun h12'=>hJ _ _ ⟨rfl,oQ⟩);exact hr 125 _ _ (by unfold kA;rw[if_neg oQ,if_neg oQ,if_pos oQ]) ⟨_,rfl,(by first|decide|exact fun h=>absurd h dQ)⟩
theorem Dst.c75{db rb kb crc:Nat}{p:pQ}{d:Dec}{rs:bQ}(h:Dst w db rb kb p d crc rs)(hl:17<=rs.length)(hpx:be4 rs 0<2147483648 ->be4 rs 4<2147483648 ->be4 rs 0*be4 rs 4<1152921504606846976):
  CallT Pg 75 #[.pointer (some ⟨db,0,none⟩),.int .u32 13] w fun v w'=>Fr [rb,kb,db] w w'/\hn w'=hn w/\match kA (rs.take 13)with
   |some t=>Refuse t v
   |none=>(if be4 (rs.drop 13) 0=zR crc (rs.take 13)then v= .nilIface else Refuse 125 v)/\∃tmp,tmp.length=768/\Dst w' db rb kb p (d.head (rs.take 13) tmp) (zR crc (rs.take 13)) (rs.drop 17):=by
 refine h.c75k (fun _ =>hpx) (fun hlt=>absurd hlt oQ) (fun t v w' _ he hv=>by rw[he];exact hv) fun w1 tmp _ he D _ =>CallT.mono (D.c81 (by simp;omega)) ?_;rintro v w' ⟨hv,D',f,n⟩;rw[List.drop_drop]at D';refine⟨f,n,?_⟩;rw[he];exact⟨hv,_,D'.htmp,D'⟩
end
def wp76(x0:Addr)(x1:Int)(R:vPq)(w:wQ):Prop:=zQ 3 (xH (fun(ao:(Unit)) (v:wQ)=>qO v fun k=>LdV k x0 fun y=>And (0<=wIq ((3:Int)*(wIq (wrap .u32 (Int.tdiv x1 3))))/\wIq ((3:Int)*(wIq (wrap .u32 (Int.tdiv x1 3))))<=(768:Int)) (CallT Pg 71 #[y,.slice (some (aQq x0 10)) ((wIq ((3:Int)*(wIq (wrap .u32 (Int.tdiv x1 3))))).toNat) 768] k fun z l=>∃g j,And (z= .tuple #[iQq g,j]) (xR j fun A=>IfC (!A) (R (j:Value) l) (qO l fun m=>LdP m (aQq x0 2) fun B=>And (0<=g/\g<=(768:Int)) (CallT Pg 74 #[.pointer B,.slice (some (aQq x0 10)) g.toNat 768] m fun C d=>∃D E,And (C= .tuple #[iQq D,E]) (LdI d (aQq x0 7) .i64 fun a=>xH (fun(F:(Bool×Unit)) (c:wQ)=>IfC F.1 (And (0<=(256:Int)/\(256:Int)<=(256:Int)/\(256:Int)<=281474976710656/\(16:Int)*(256:Int)<=281474976710656) (qL c (.cells (uI Pg 131 256) 131) fun G H=>qB H (aQq x0 6) (.slice (some ⟨G,0,none⟩) 256 256) fun I=>xB (fun(J:(Int×Unit) ->World ->Prop)=>J (0,()) I) (fun b n K=>IfC (decide (b.1<(wIq (wrap .u32 (Int.tdiv x1 3))))) (qO n fun e=>qS e (aQq x0 6) fun L M ap=>And (0<=wIq ((wIq ((3:Int)*b.1))+0)/\wIq ((wIq ((3:Int)*b.1))+0)<(768:Int)) (LdI e (qH (aQq x0 10) ((wIq ((wIq ((3:Int)*b.1))+0)).toNat) 1) .u8 fun N=>And (0<=wIq ((wIq ((3:Int)*b.1))+1)/\wIq ((wIq ((3:Int)*b.1))+1)<(768:Int)) (LdI e (qH (aQq x0 10) ((wIq ((wIq ((3:Int)*b.1))+1)).toNat) 1) .u8 fun O=>And (0<=wIq ((wIq ((3:Int)*b.1))+2)/\wIq ((wIq ((3:Int)*b.1))+2)<(768:Int)) (LdI e (qH (aQq x0 10) ((wIq ((wIq ((3:Int)*b.1))+2)).toNat) 1) .u8 fun P=>And (0<=b.1/\b.1<(M:Int)) (qN L fun Q=>qB e (qH Q b.1.toNat 1) (.iface 133 (.agg #[.int .u8 N,.int .u8 O,.int .u8 P,.int .u8 255])) fun S=>K (wIq (b.1+1),()) S))))) (xB (fun(T:(Int×Unit) ->World ->Prop)=>T (wIq (wrap .u32 (Int.tdiv x1 3)),()) n) (fun f h U=>IfC (decide (f.1<(256:Int))) (qS h (aQq x0 6) fun V X aq=>And (0<=f.1/\f.1<(X:Int)) (qN V fun Y=>qB h (qH Y f.1.toNat 1) (.iface 133 (.agg #[.int .u8 0,.int .u8 0,.int .u8 0,.int .u8 255])) fun Z=>U (wIq (f.1+1),()) Z)) (qS h (aQq x0 6) fun aa ar o=>And (0<=wIq (wrap .u32 (Int.tdiv x1 3))/\wIq (wrap .u32 (Int.tdiv x1 3))<=(o:Int)) (qB h (aQq x0 6) (.slice aa ((wIq (wrap .u32 (Int.tdiv x1 3))).toNat) o) fun ab=>CallT Pg 81 #[.pointer (some x0)] ab fun ac ad=>∃p,And (ac=p) (R (p:Value) ad)))))))) (IfC (a==6) (IfC (a==6) (CallT Pg 81 #[.pointer (some x0)] c fun ae af=>∃q,And (ae=q) (R (q:Value) af)) (R (.iface 125 (.string ⟨#[80,76,84,69,44,32,99,111,108,111,114,32,116,121,112,101,32,109,105,115,109,97,116,99,104]⟩)) c)) (IfC (a==11) (IfC (a==11) (CallT Pg 81 #[.pointer (some x0)] c fun ag ah=>∃r,And (ag=r) (R (r:Value) ah)) (R (.iface 125 (.string ⟨#[80,76,84,69,44,32,99,111,108,111,114,32,116,121,112,101,32,109,105,115,109,97,116,99,104]⟩)) c)) (IfC (a==14) (IfC (a==14) (CallT Pg 81 #[.pointer (some x0)] c fun ai aj=>∃s,And (ai=s) (R (s:Value) aj)) (R (.iface 125 (.string ⟨#[80,76,84,69,44,32,99,111,108,111,114,32,116,121,112,101,32,109,105,115,109,97,116,99,104]⟩)) c)) (IfC (a==15) (CallT Pg 81 #[.pointer (some x0)] c fun ak al=>∃t,And (ak=t) (R (t:Value) al)) (R (.iface 125 (.string ⟨#[80,76,84,69,44,32,99,111,108,111,114,32,116,121,112,101,32,109,105,115,109,97,116,99,104]⟩)) c)))))) (fun i=>IfC (a==7) (i (a==7,()) d) (IfC (a==8) (i (a==8,()) d) (IfC (a==9) (i (a==9,()) d) (i (a==10,()) d)))))))))) (fun am=>zQ 3 (IfC ((Int.tmod x1 3) !=(0:Int)) (R (.iface 125 (.string ⟨#[98,97,100,32,80,76,84,69,32,108,101,110,103,116,104]⟩)) w) (IfC (decide ((wIq (wrap .u32 (Int.tdiv x1 3)))<=(0:Int))) (R (.iface 125 (.string ⟨#[98,97,100,32,80,76,84,69,32,108,101,110,103,116,104]⟩)) w) (IfC (decide ((wIq (wrap .u32 (Int.tdiv x1 3)))>(256:Int))) (R (.iface 125 (.string ⟨#[98,97,100,32,80,76,84,69,32,108,101,110,103,116,104]⟩)) w) (LdI w (aQq x0 5) .i64 fun u=>ShC (wrap .u64 u) (IfC (decide ((wIq (wrap .u32 (Int.tdiv x1 3)))>(xJ .i64 (1:Int) (wrap .u64 u)))) (R (.iface 125 (.string ⟨#[98,97,100,32,80,76,84,69,32,108,101,110,103,116,104]⟩)) w) (am (()) w))))))))
theorem call76{x0:Addr}{x1:Int}{R:vPq}{w:wQ}(h:wp76 x0 x1 R w):CallT Pg 76 #[.pointer (some x0),.int .u32 x1] w R:=cVq [(4,[],[0,5]),(28,[(67,.b)],[0,5,65]),(49,[(8,.i .i64)],[0,4,5]),(64,[(9,.i .i64)],[0,4,5])] Tryz.func76 h
def wp78(x0:Addr)(x1:Int)(R:vPq)(w:wQ):Prop:=LdI w (aQq x0 7) .i64 fun a=>xH (fun(V:(Bool×Unit)) (j:wQ)=>IfC V.1 (IfC (x1 !=(2:Int)) (R (.iface 125 (.string ⟨#[98,97,100,32,116,82,78,83,32,108,101,110,103,116,104]⟩)) j) (qO j fun t=>LdV t x0 fun X=>And (0<=x1/\x1<=(768:Int)) (CallT Pg 71 #[X,.slice (some (aQq x0 10)) x1.toNat 768] t fun Y u=>∃k o,And (Y= .tuple #[iQq k,o]) (xR o fun Z=>IfC (!Z) (R (o:Value) u) (qO u fun v=>LdP v (aQq x0 2) fun aa=>And (0<=k/\k<=(768:Int)) (CallT Pg 74 #[.pointer aa,.slice (some (aQq x0 10)) k.toNat 768] v fun ab ac=>∃ad ae,And (ab= .tuple #[iQq ad,ae]) (qO ac fun af=>And (0<=x1/\x1<=(768:Int)) (jQ Pg af #[33,33] 3 (.slice (some (aQq x0 780)) 6 6) (.slice (some (aQq x0 10)) x1.toNat 768) fun cy g=>LdI g (aQq x0 7) .i64 fun p=>IfC (p==1) (qO g fun y=>And (0<=(1:Int)/\(1:Int)<(6:Int)) (LdI y ⟨x0.block,x0.off+780+1,none⟩ .u8 fun ag=>And (0<=(1:Int)/\(1:Int)<(6:Int)) (qB y ⟨x0.block,x0.off+780+1,none⟩ (.int .u8 (wrap .u8 (ag*255))) fun ah=>qB ah (aQq x0 779) (.bool true) fun ai=>CallT Pg 81 #[.pointer (some x0)] ai fun aj ak=>∃z,And (aj=z) (R (z:Value) ak)))) (IfC (p==2) (qO g fun A=>And (0<=(1:Int)/\(1:Int)<(6:Int)) (LdI A ⟨x0.block,x0.off+780+1,none⟩ .u8 fun al=>And (0<=(1:Int)/\(1:Int)<(6:Int)) (qB A ⟨x0.block,x0.off+780+1,none⟩ (.int .u8 (wrap .u8 (al*85))) fun am=>qB am (aQq x0 779) (.bool true) fun ao=>CallT Pg 81 #[.pointer (some x0)] ao fun ap aq=>∃B,And (ap=B) (R (B:Value) aq)))) (IfC (p==3) (qO g fun C=>And (0<=(1:Int)/\(1:Int)<(6:Int)) (LdI C ⟨x0.block,x0.off+780+1,none⟩ .u8 fun ar=>And (0<=(1:Int)/\(1:Int)<(6:Int)) (qB C ⟨x0.block,x0.off+780+1,none⟩ (.int .u8 (wrap .u8 (ar*17))) fun au=>qB au (aQq x0 779) (.bool true) fun av=>CallT Pg 81 #[.pointer (some x0)] av fun aw ax=>∃D,And (aw=D) (R (D:Value) ax)))) (qB g (aQq x0 779) (.bool true) fun ay=>CallT Pg 81 #[.pointer (some x0)] ay fun az ba=>∃E,And (az=E) (R (E:Value) ba)))))))))))) (xH (fun(bb:(Bool×Unit)) (e:wQ)=>IfC bb.1 (IfC (x1 !=(6:Int)) (R (.iface 125 (.string ⟨#[98,97,100,32,116,82,78,83,32,108,101,110,103,116,104]⟩)) e) (qO e fun F=>LdV F x0 fun bc=>And (0<=x1/\x1<=(768:Int)) (CallT Pg 71 #[bc,.slice (some (aQq x0 10)) x1.toNat 768] F fun bd G=>∃l q,And (bd= .tuple #[iQq l,q]) (xR q fun be=>IfC (!be) (R (q:Value) G) (qO G fun H=>LdP H (aQq x0 2) fun bf=>And (0<=l/\l<=(768:Int)) (CallT Pg 74 #[.pointer bf,.slice (some (aQq x0 10)) l.toNat 768] H fun bg bh=>∃bi bj,And (bg= .tuple #[iQq bi,bj]) (qO bh fun bk=>And (0<=x1/\x1<=(768:Int)) (jQ Pg bk #[33,33] 3 (.slice (some (aQq x0 780)) 6 6) (.slice (some (aQq x0 10)) x1.toNat 768) fun cz bl=>qB bl (aQq x0 779) (.bool true) fun bm=>CallT Pg 81 #[.pointer (some x0)] bm fun bn bo=>∃I,And (bn=I) (R (I:Value) bo))))))))) (xH (fun(bp:(Bool×Unit)) (r:wQ)=>IfC bp.1 (IfC (decide (x1>(256:Int))) (R (.iface 125 (.string ⟨#[98,97,100,32,116,82,78,83,32,108,101,110,103,116,104]⟩)) r) (qO r fun J=>LdV J x0 fun bq=>And (0<=x1/\x1<=(768:Int)) (CallT Pg 71 #[bq,.slice (some (aQq x0 10)) x1.toNat 768] J fun br K=>∃c s,And (br= .tuple #[iQq c,s]) (xR s fun bs=>IfC (!bs) (R (s:Value) K) (qO K fun L=>LdP L (aQq x0 2) fun bt=>And (0<=c/\c<=(768:Int)) (CallT Pg 74 #[.pointer bt,.slice (some (aQq x0 10)) c.toNat 768] L fun bu m=>∃bv bw,And (bu= .tuple #[iQq bv,bw]) (xH (fun(da:(Unit)) (bx:wQ)=>xB (fun(bz:(Int×Unit) ->World ->Prop)=>bz (0,()) bx) (fun b h ca=>IfC (decide (b.1<c)) (qS h (aQq x0 6) fun cb cc db=>And (0<=b.1/\b.1<(cc:Int)) (qN cb fun cd=>LdV h (qH cd b.1.toNat 1) fun ce=>TA Pg h ce 131 133 false fun cf dc=>∃M N O P,And (cf= .agg #[.int .u8 M,.int .u8 N,.int .u8 O,.int .u8 P]) (qL h (.cells (zc Pg 133) 133) fun d cg=>qB cg ⟨d,0,none⟩ (.int .u8 M) fun ch=>qB ch ⟨d,0+1,none⟩ (.int .u8 N) fun ci=>qB ci ⟨d,0+2,none⟩ (.int .u8 O) fun cj=>qB cj ⟨d,0+3,none⟩ (.int .u8 P) fun ck=>qO ck fun f=>qS f (aQq x0 6) fun cl cm dd=>LdI f ⟨d,0,none⟩ .u8 fun cn=>LdI f ⟨d,0+1,none⟩ .u8 fun co=>LdI f ⟨d,0+2,none⟩ .u8 fun cp=>And (0<=b.1/\b.1<(768:Int)) (LdI f (qH (aQq x0 10) b.1.toNat 1) .u8 fun cq=>And (0<=b.1/\b.1<(cm:Int)) (qN cl fun cr=>qB f (qH cr b.1.toNat 1) (.iface 132 (.agg #[.int .u8 cn,.int .u8 co,.int .u8 cp,.int .u8 cq])) fun cs=>ca (wIq (b.1+1),()) cs))))) (CallT Pg 81 #[.pointer (some x0)] h fun ct cu=>∃Q,And (ct=Q) (R (Q:Value) cu)))) (fun S=>qS m (aQq x0 6) fun de cv df=>IfC (decide ((cv:Int)<c)) (qS m (aQq x0 6) fun cw dg T=>And (0<=c/\c<=(T:Int)) (qB m (aQq x0 6) (.slice cw c.toNat T) fun cx=>S (()) cx)) (S (()) m))))))))) (R (.iface 125 (.string ⟨#[116,82,78,83,44,32,99,111,108,111,114,32,116,121,112,101,32,109,105,115,109,97,116,99,104]⟩)) r)) (fun n=>IfC (a==7) (n (a==7,()) e) (IfC (a==8) (n (a==8,()) e) (IfC (a==9) (n (a==9,()) e) (n (a==10,()) e)))))) (fun U=>IfC (a==6) (U (a==6,()) j) (U (a==14,()) j)))) (fun i=>IfC (a==1) (i (a==1,()) w) (IfC (a==2) (i (a==2,()) w) (IfC (a==3) (i (a==3,()) w) (IfC (a==4) (i (a==4,()) w) (i (a==12,()) w)))))
theorem call78{x0:Addr}{x1:Int}{R:vPq}{w:wQ}(h:wp78 x0 x1 R w):CallT Pg 78 #[.pointer (some x0),.int .u32 x1] w R:=cVq [(6,[(18,.b)],[0,1,16]),(65,[(103,.b)],[0,1,16]),(95,[(148,.b)],[0,1]),(130,[],[0,9]),(139,[(11,.i .i64)],[0,4,9])] Tryz.func78 h
section
variable{w:wQ}
def jA(c:Bool×Px):Value:= .iface (if c.1 then 132 else 133) (.agg #[.int .u8 c.2.1.toNat,.int .u8 c.2.2.1.toNat,.int .u8 c.2.2.2.1.toNat,.int .u8 c.2.2.2.2.toNat])
def uC(w:wQ)(db:Nat)(pal:Sl)(n:Nat)(cs:List (Bool×Px)):Prop:=
 ∃g,pal=⟨some ⟨g,0,none⟩,n,256⟩/\db<g/\hp w g=Row 131 (cs.map jA).toArray/\cs.length=256/\n<=256
def jC(bs:bQ)(n:Nat):List (Bool×Px):=(List.range 256).map fun i=>if i<n then(false,(bs.getD (3*i) 0,bs.getD (3*i+1) 0,bs.getD (3*i+2) 0,255))else(false,(0,0,0,255))
theorem iV(bs:bQ)(n:Nat):(jC bs n).length=256:=by simp[jC]
theorem bV(bs:bQ)(n:Nat){i:Nat}(h:i<256):(jC bs n)[i]? =some (if i<n then(false,(bs.getD (3*i) 0,bs.getD (3*i+1) 0,bs.getD (3*i+2) 0,255))else(false,(0,0,0,255))):=by
 simp[jC,h]
theorem set_step{cs:List Value}{x v:Value}{k N:Nat}(hN:cs.length=N)(hk:cs[k]? =some v):(cs.take k++List.replicate (N -k) x).set k v=cs.take (k+1)++List.replicate (N -(k+1)) x:=by
 have hlt:k<cs.length:=(List.getElem?_eq_some_iff.1 hk).1;have e1:(cs.take k).length=k:=by simp;omega
 obtain⟨m,hm⟩:∃m,N -k=m+1:=⟨N -k -1,oQ⟩;rw[List.set_append_right _ _ oQ,e1,Nat.sub_self,hm,List.replicate_succ,List.set_cons_zero,show N -(k+1)=m by omega,List.take_add_one,hk];simp
theorem zc131:zc Pg 131= #[.nilIface]:=by kernel_rfl
theorem zr131:uI Pg 131 256=(List.replicate 256 Value.nilIface).toArray:=by
 rw[aI (by kernel_rfl) zc131,List.toArray_replicate]
theorem Dst.c76k{db rb kb crc:Nat}{p:pQ}{d:Dec}{rs:bQ}{P:vPq}(h:Dst w db rb kb p d crc rs){len D:Nat}(hlen:len<4294967296)(hD:d.D=D)(hD':D=1\/D=2\/D=4\/D=8\/D=16)(hcb:d.cb=7\/d.cb=8\/d.cb=9\/d.cb=10)
  (hs:rs.length<len ->len<=768 ->rO w rb db d.rd len P)(h81:∀w1 tmp pal,len<=rs.length ->len<=768 ->Dst w1 db rb kb p {d with tmp:=tmp,pal:=pal} (zR crc (rs.take len)) (rs.drop len) ->uC w1 db pal (len/3) (jC (rs.take len) (len/3)) ->Fr [rb,kb,db] w w1 ->CallT Pg 81 #[.pointer (some ⟨db,0,none⟩)] w1 fun v w'=>Fr [rb,db] w1 w'/\P v w'):
  CallT Pg 76 #[.pointer (some ⟨db,0,none⟩),.int .u32 len] w fun v w'=>if len%3≠0\/len/3=0\/256<len/3\/2^D<len/3 then Refuse 125 v/\w'=w else Fr [rb,kb,db] w w'/\P v w':=by
 apply call76;unfold wp76 aQq wIq iQq;have eN:wrap .i64 (wrap .u32 (Int.tdiv (len:Int) (3:Int)))=((len/3:Nat):Int):=by
  rw[show Int.tdiv (len:Int) 3=((len/3:Nat):Int)from vR _ 3,xV oQ oQ,qA oQ oQ]
 rw[eN];generalize hn3:len/3=n at*;refine xK dQ ?_;refine qJ (fun _ w'=>w'=w/\len%3=0/\0<n/\n<=256/\n<=2^D) ?_ ?_
 ·rintro⟨⟩ w' ⟨rfl,hm3,hn0,hn256,hnD⟩
  have e3:wrap .i64 ((3:Int)*(n:Int))=(len:Int):=by rw[qA oQ oQ];omega
  rw[e3];refine qE fun w4 f4 n4=> ?_;have h4:=h.fr0 f4;refine qT h4.dec d.at0 ⟨⟨oQ,oQ⟩,?_⟩;rw[Int.toNat_natCast];rcases Nat.lt_or_ge rs.length len with hlt|hl
  ·refine CallT.mono (hs hlt oQ w4 f4) ?_
   rintro _ w7 ⟨m,e,rfl,hE,f7,n7,hP⟩;refine⟨_,_,rfl,hE _ (xA ?_)⟩;dsimp only;rw[if_neg oQ];exact⟨(f4.mono sQ).trans (f7.mono sQ),hP⟩
  refine CallT.mono (h4.read (n:=len) oQ oQ oQ) ?_;rintro _ w7 ⟨rfl,h7,f7,n7⟩;refine⟨_,_,rfl,qR (qM ?_)⟩;refine qE fun w11 f11 n11=> ?_;have h11:=h7.fr0 f11;refine zZ h11.dec ((Dec.at2 _).trans (congrArg some h11.ck)) ⟨⟨oQ,oQ⟩,?_⟩;rw[Int.toNat_natCast];refine CallT.mono (h11.sums (o:=0) (n:=len) rfl oQ) ?_;rintro _ w14 ⟨rfl,h14,f14,n14⟩;have htl:(rs.take len).length=len:=by simp;omega
  have e0:((({d with tmp:=rs.take len++d.tmp.drop len}:Dec).tmp.drop 0).take len)=rs.take len:=by
   show((rs.take len++d.tmp.drop len).drop 0).take len=_;rw[List.drop_zero,List.take_append_of_le_length oQ,List.take_of_length_le oQ]
  rw[e0]at h14;refine⟨_,_,rfl,qC h14.dec (Dec.at7 _) ?_⟩;have F14:Fr [rb,kb,db] w' w14:=(f4.mono sQ).trans ((f7.mono sQ).trans ((f11.mono sQ).trans (f14.mono sQ)));refine qJ (fun z w'=>w'=w14/\z.1=true) ?_ ?_
  ·rintro⟨z,⟨⟩⟩ w19 ⟨rfl,rfl⟩
   refine xA ⟨dQ,?_⟩;refine qG fun w22 h22 f22 n22=> ?_;rw[zr131]at h22;have hg:db<hn w19:=zM h14.dec;have hgw:hn w'<=hn w19:=oQ;generalize hn w19=g at*;have h22d:=h14.fr0 f22;refine qD h22d.dec (by show 0+6<_;rw[Dec.size,h22d.htmp,h22d.htr];decide) fun w23 h23 f23 n23=> ?_;have h23d:=h22d.upd (d':={d with tmp:=rs.take len++d.tmp.drop len,pal:=⟨some ⟨g,0,none⟩,256,256⟩}) f23 (h23.trans (congrArg (Row 119) (Dec.set6 _ ⟨some ⟨g,0,none⟩,256,256⟩))) rfl rfl h22d.htmp h22d.htr;have h22g:=f23.row1 h22 (by show g≠db;omega);have F23:Fr [rb,kb,db] w' w23:=F14.trans ((f22.mono sQ).trans (f23.mono sQ));have hcl:=iV (rs.take len) n;have hca:=fun i h=>bV (rs.take len) n (i:=i) h;generalize hcs:jC (rs.take len) n=cs at*;have round:∀(k:Nat) (wk wd:wQ) (v:Value),k<256 ->Dst wk db rb kb p {d with tmp:=rs.take len++d.tmp.drop len,pal:=⟨some ⟨g,0,none⟩,256,256⟩} (zR crc (rs.take len)) (rs.drop len) ->Fr [g] w23 wk ->hp wk g=Row 131 ((cs.map jA).take k++List.replicate (256 -k) Value.nilIface).toArray ->(cs.map jA)[k]? =some v ->
     ∀K:World ->Prop,(∀w'',Dst w'' db rb kb p {d with tmp:=rs.take len++d.tmp.drop len,pal:=⟨some ⟨g,0,none⟩,256,256⟩} (zR crc (rs.take len)) (rs.drop len) ->Fr [g] w23 w'' ->hp w'' g=Row 131 ((cs.map jA).take (k+1)++List.replicate (256 -(k+1)) Value.nilIface).toArray ->K w'') ->
     qN (some ⟨g,0,none⟩) fun a=>qB wk (qH a ((k:Int).toNat) 1) v K:=by
    intro k wk wd v hk hd hf hrow hv K hK;rw[PtrC_some,elemAt_one,Int.toNat_natCast,Nat.zero_add];refine qD hrow (by simp;omega) fun w'' h'' f'' n''=>hK w'' (hd.fr f'' (by simp;omega)) (hf.trans f'') ?_;rw[h'',List.setIfInBounds_toArray,set_step (by simp[hcl]) hv]
   refine qP (fun z wk=>∃k:Nat,z.1=k/\k<=n/\Dst wk db rb kb p {d with tmp:=rs.take len++d.tmp.drop len,pal:=⟨some ⟨g,0,none⟩,256,256⟩} (zR crc (rs.take len)) (rs.drop len)/\Fr [g] w23 wk/\hp wk g=Row 131 ((cs.map jA).take k++List.replicate (256 -k) Value.nilIface).toArray) (fun z _ =>n -z.1.toNat)
    ⟨0,rfl,oQ,h23d,Fr.refl _ _,by simpa using h22g⟩ ?_
   rintro⟨_,⟨⟩⟩ wk ⟨k,rfl,hkn,hdk,hfk,hrk⟩;dsimp only;refine qF (fun hlt=> ?_) (fun hge=> ?_)
   ·refine qE fun wd fd nd=> ?_
    have hdd:=hdk.fr0 fd;refine qK hdd.dec (Dec.at6 _) ?_;have hk3:3*k+2<len:=oQ;have e0':wrap .i64 ((wrap .i64 ((3:Int)*(k:Int)))+(0:Int))=((3*k:Nat):Int):=by rw[qA (n:=3*(k:Int)) oQ oQ,qA oQ oQ];omega
    have e1':wrap .i64 ((wrap .i64 ((3:Int)*(k:Int)))+(1:Int))=((3*k+1:Nat):Int):=by rw[qA (n:=3*(k:Int)) oQ oQ,qA oQ oQ];omega
    have e2':wrap .i64 ((wrap .i64 ((3:Int)*(k:Int)))+(2:Int))=((3*k+2:Nat):Int):=by rw[qA (n:=3*(k:Int)) oQ oQ,qA oQ oQ];omega
    rw[e0',e1',e2'];have hat:∀j,j<len ->({d with tmp:=rs.take len++d.tmp.drop len,pal:=⟨some ⟨g,0,none⟩,256,256⟩}:Dec).arr[0+10+j]? =some (.int .u8 (gb (rs.take len) j)):=by
     intro j hj;have:=Dec.atT ({d with tmp:=rs.take len++d.tmp.drop len,pal:=⟨some ⟨g,0,none⟩,256,256⟩}:Dec) (j:=j) (by have:=hdd.htmp;omega);rw[show gb (rs.take len) j=gb ({d with tmp:=rs.take len++d.tmp.drop len,pal:=⟨some ⟨g,0,none⟩,256,256⟩}:Dec).tmp j from(tA oQ).symm];exact this
    refine⟨⟨oQ,oQ⟩,?_⟩;rw[elemAt_one,Int.toNat_natCast];refine qC hdd.dec (hat _ oQ) ⟨⟨oQ,oQ⟩,?_⟩;rw[elemAt_one,Int.toNat_natCast];refine qC hdd.dec (hat _ oQ) ⟨⟨oQ,oQ⟩,?_⟩;rw[elemAt_one,Int.toNat_natCast];refine qC hdd.dec (hat _ oQ) ⟨⟨oQ,by dsimp only;omega⟩,?_⟩;have hv:(cs.map jA)[k]? =some (Value.iface 133 (.agg #[.int .u8 (gb (rs.take len) (3*k):Nat),.int .u8 (gb (rs.take len) (3*k+1):Nat),.int .u8 (gb (rs.take len) (3*k+2):Nat),.int .u8 (255:Int)])):=by
     rw[List.getElem?_map,hca k oQ,if_pos oQ]
     rfl
    refine round k wd wd _ oQ hdd (hfk.trans (fd.mono sQ)) (fd.row0 hrk) hv _ ?_;intro w'' hd'' hf'' hr'';rw[qA oQ oQ];exact⟨⟨k+1,oQ,oQ,hd'',hf'',hr''⟩,oQ⟩
   ·have hkn':k=n:=oQ
    subst hkn';refine qP (fun z wj=>∃j:Nat,z.1=j/\k<=j/\j<=256/\Dst wj db rb kb p {d with tmp:=rs.take len++d.tmp.drop len,pal:=⟨some ⟨g,0,none⟩,256,256⟩} (zR crc (rs.take len)) (rs.drop len)/\Fr [g] w23 wj/\hp wj g=Row 131 ((cs.map jA).take j++List.replicate (256 -j) Value.nilIface).toArray) (fun z _ =>256 -z.1.toNat)
     ⟨k,rfl,oQ,oQ,hdk,hfk,hrk⟩ ?_
    rintro⟨_,⟨⟩⟩ wj ⟨j,rfl,hkj,hj256,hdj,hfj,hrj⟩;dsimp only;refine qF (fun hlt=> ?_) (fun hge=> ?_)
    ·refine qK hdj.dec (Dec.at6 _) ⟨⟨oQ,by dsimp only;omega⟩,?_⟩
     have hv:(cs.map jA)[j]? =some (Value.iface 133 (.agg #[.int .u8 (0:Int),.int .u8 (0:Int),.int .u8 (0:Int),.int .u8 (255:Int)])):=by
      rw[List.getElem?_map,hca j oQ,if_neg oQ]
      rfl
     refine round j wj wj _ oQ hdj hfj hrj hv _ ?_;intro w'' hd'' hf'' hr'';rw[qA oQ oQ];exact⟨⟨j+1,oQ,oQ,oQ,hd'',hf'',hr''⟩,oQ⟩
    ·have hj':j=256:=oQ
     subst hj';refine qK hdj.dec (Dec.at6 _) ⟨⟨oQ,by dsimp only;omega⟩,?_⟩;rw[Int.toNat_natCast];refine qD hdj.dec (by show 0+6<_;rw[Dec.size,hdj.htmp,hdj.htr];decide) fun w49 h49 f49 n49=> ?_;have h49d:=hdj.upd (d':={d with tmp:=rs.take len++d.tmp.drop len,pal:=⟨some ⟨g,0,none⟩,k,256⟩}) f49 (h49.trans (congrArg (Row 119) (Dec.set6 _ ⟨some ⟨g,0,none⟩,k,256⟩))) rfl rfl hdj.htmp hdj.htr;have hrow:=f49.row1 hrj (by show g≠db;omega);have F49:=(F23.trans' hfj (fun x hx hlt=>by simp at hx;omega)).trans (f49.mono (S':=[rb,kb,db]) sQ);rw[List.take_of_length_le (by simp[hcl]),Nat.sub_self,List.replicate_zero,List.append_nil]at hrow;refine CallT.mono (h81 _ _ _ hl oQ h49d ⟨g,rfl,hg,hrow,hcl,hn256⟩ F49) ?_;rintro _ w51 ⟨f51,hP⟩;refine⟨_,rfl,?_⟩;rw[if_neg oQ];exact⟨F49.trans (f51.mono sQ),hP⟩
  ·intro J hJ
   refine qW (fun e=>hJ _ _ ⟨rfl,by dsimp only at e⊢;simp[e]⟩) (fun h7'=>qW (fun e=>hJ _ _ ⟨rfl,by dsimp only at e⊢;simp[e]⟩) (fun h8'=>qW (fun e=>hJ _ _ ⟨rfl,by dsimp only at e⊢;simp[e]⟩) (fun h9'=>hJ _ _ ⟨rfl,?_⟩)));have:d.cb=10:=by rcases hcb with h|h|h|h<;>first|exact h|exact absurd h h7'|exact absurd h h8'|exact absurd h h9'
   simp[this]
 ·intro J hJ
  refine xK dQ ?_;rw[show Int.tmod (len:Int) 3=((len%3:Nat):Int)from zG _ 3];refine xU (fun hc=> ?_) (fun hc=> ?_)
  ·dsimp only;rw[if_pos (Or.inl oQ)];exact⟨⟨_,rfl,(by first|decide|exact fun h=>absurd h dQ)⟩,rfl⟩
  refine qF (fun hc2=> ?_) (fun hc2=> ?_)
  ·dsimp only;rw[if_pos (Or.inr (.inl oQ))];exact⟨⟨_,rfl,(by first|decide|exact fun h=>absurd h dQ)⟩,rfl⟩
  refine qF (fun hc3=> ?_) (fun hc3=> ?_)
  ·dsimp only;rw[if_pos (Or.inr (.inr (.inl oQ)))];exact⟨⟨_,rfl,(by first|decide|exact fun h=>absurd h dQ)⟩,rfl⟩
  refine qC h.dec (Dec.at5 _) ?_;rw[hD,zE oQ oQ];refine qU oQ ?_;rw[shl1D hD'];refine qF (fun hc4=> ?_) (fun hc4=>hJ _ _ ⟨rfl,oQ,oQ,oQ,oQ⟩);dsimp only;rw[if_pos (Or.inr (.inr (.inr oQ)))];exact⟨⟨_,rfl,(by first|decide|exact fun h=>absurd h dQ)⟩,rfl⟩
theorem Dst.c76{db rb kb crc:Nat}{p:pQ}{d:Dec}{rs:bQ}(h:Dst w db rb kb p d crc rs){len D:Nat}(hlen:len<4294967296)(hD:d.D=D)(hD':D=1\/D=2\/D=4\/D=8\/D=16)(hcb:d.cb=7\/d.cb=8\/d.cb=9\/d.cb=10)
  (hl:len<=768 ->len+4<=rs.length):
  CallT Pg 76 #[.pointer (some ⟨db,0,none⟩),.int .u32 len] w fun v w'=>if len%3≠0\/len/3=0\/256<len/3\/2^D<len/3 then Refuse 125 v/\w'=w else
   Fr [rb,kb,db] w w'/\(if be4 (rs.drop len) 0=zR crc (rs.take len)then v= .nilIface else Refuse 125 v)/\∃tmp pal,tmp.length=768/\Dst w' db rb kb p {d with tmp:=tmp,pal:=pal} (zR crc (rs.take len)) (rs.drop (len+4))/\uC w' db pal (len/3) (jC (rs.take len) (len/3)):=by
 refine CallT.mono (h.c76k (P:=fun v w'=>(if be4 (rs.drop len) 0=zR crc (rs.take len)then v= .nilIface else Refuse 125 v)/\∃tmp pal,tmp.length=768/\Dst w' db rb kb p {d with tmp:=tmp,pal:=pal} (zR crc (rs.take len)) (rs.drop (len+4))/\uC w' db pal (len/3) (jC (rs.take len) (len/3))) hlen hD hD' hcb (fun hlt h7=>absurd (hl h7) oQ) fun w1 tmp pal _ h7 D hP _ =>CallT.mono (D.c81 (by have:=hl h7;simp;omega)) ?_) fun v w' hv=>hv;rintro v w' ⟨hv,D',f,n⟩;rw[List.drop_drop]at D';obtain⟨g,e,hg,hrow,hP⟩:=hP;exact⟨f,hv,_,_,D'.htmp,D',g,e,hg,f.row hrow (by have:=h.ne;simp;omega),hP⟩
def yW(P:Program)(t:TypeId):Bool:=match P.underlying t with|some (.interface _)=>false|some _ =>true|none=>false
theorem yR{P:Program}{v:Value}{xt t:TypeId}{ok:Bool}{K:Value ->Bool ->Prop}(hs:yW P t=true)(h:K v true):TA P w (.iface t v) xt t ok K:=by
 unfold TA vTA;unfold yW at hs
 split at hs
 ·cases hs
 ·rename_i u hu e
  rw[e];have:Nat.beq t t=true:=by simp
  cases u<;>first|(exact absurd rfl (hu _))|(simp only[this];exact h)
 ·cases hs
theorem xG{P:Program}{v z:Value}{xt t t':TypeId}{K:Value ->Bool ->Prop}(hs:yW P t=true)(hne:Nat.beq t' t=false)(hz:zv P t=some z)(h:K z false):TA P w (.iface t' v) xt t true K:=by
 unfold TA vTA;unfold yW at hs
 split at hs
 ·cases hs
 ·rename_i u hu e
  rw[e]
  cases u<;>first|(exact absurd rfl (hu _))|(simp only[hne,hz];exact h)
 ·cases hs
theorem ni133:yW Pg 133=true:=by kernel_rfl
theorem ni132:yW Pg 132=true:=by kernel_rfl
theorem zc133:zc Pg 133= #[.int .u8 0,.int .u8 0,.int .u8 0,.int .u8 0]:=by kernel_rfl
theorem zc132:zc Pg 132= #[.int .u8 0,.int .u8 0,.int .u8 0,.int .u8 0]:=by kernel_rfl
def c0:Bool×Px:=(false,(0,0,0,0))
def gD(ts:bQ)(cs:List (Bool×Px)):List (Bool×Px):=(List.range 256).map fun i=>if i<ts.length then(true,((cs.getD i c0).2.1,(cs.getD i c0).2.2.1,(cs.getD i c0).2.2.2.1,ts.getD i 0))else cs.getD i c0
theorem nD(ts:bQ)(cs:List (Bool×Px)):(gD ts cs).length=256:=by simp[gD]
theorem aB(ts:bQ)(cs:List (Bool×Px)){i:Nat}(h:i<256):(gD ts cs)[i]? =some (if i<ts.length then(true,((cs.getD i c0).2.1,(cs.getD i c0).2.2.1,(cs.getD i c0).2.2.2.1,ts.getD i 0))else cs.getD i c0):=by
 simp[gD,h]
theorem qCu{A B:List Value}{v:Value}{k:Nat}(hAB:A.length=B.length)(hk:A[k]? =some v):(A.take k++B.drop k).set k v=A.take (k+1)++B.drop (k+1):=by
 have hlt:k<A.length:=(List.getElem?_eq_some_iff.1 hk).1;have e1:(A.take k).length=k:=by simp;omega
 rw[List.set_append_right _ _ oQ,e1,Nat.sub_self,List.drop_eq_getElem_cons (show k<B.length by omega),List.set_cons_zero,List.take_add_one,hk];simp
theorem Dst.c78k{db rb kb crc:Nat}{p:pQ}{d:Dec}{rs:bQ}{P:vPq}(h:Dst w db rb kb p d crc rs){len n:Nat}{cs:List (Bool×Px)}(hpal:uC w db d.pal n cs)(hcs:∀c∈cs,c.1=false)(hlen:len<4294967296)(hlen0:0<len)(hcb:d.cb=7\/d.cb=8\/d.cb=9\/d.cb=10)
  (hs:rs.length<len ->len<=256 ->rO w rb db d.rd len P)(h81:∀w1 tmp pal,len<=rs.length ->len<=256 ->Dst w1 db rb kb p {d with tmp:=tmp,pal:=pal} (zR crc (rs.take len)) (rs.drop len) ->pal.a=d.pal.a ->uC w1 db pal (max n len) (gD (rs.take len) cs) ->(∀g,d.pal.a=some ⟨g,0,none⟩ ->Fr [rb,kb,db,g] w w1) ->CallT Pg 81 #[.pointer (some ⟨db,0,none⟩)] w1 fun v w'=>Fr [rb,db] w1 w'/\P v w'):
  CallT Pg 78 #[.pointer (some ⟨db,0,none⟩),.int .u32 len] w fun v w'=>if 256<len then Refuse 125 v/\w'=w else(∀g,d.pal.a=some ⟨g,0,none⟩ ->Fr [rb,kb,db,g] w w')/\P v w':=by
 obtain⟨g,hpe,hg,hrow,hcl,hn256⟩:=hpal;apply call78;unfold wp78 aQq wIq iQq;refine qC h.dec (Dec.at7 _) ?_;have hcbn:∀x:Int,x<7\/10<x ->¬d.cb=x:=by intro x hx e;rcases hcb with h|h|h|h<;>omega
 refine qJ (fun z w'=>w'=w/\z.1=false) ?_ ?_
 ·rintro⟨z,⟨⟩⟩ w' ⟨rfl,rfl⟩
  refine qM ?_;refine qJ (fun z w''=>w''=w'/\z.1=false) ?_ ?_
  ·rintro⟨z,⟨⟩⟩ w'' ⟨rfl,rfl⟩
   refine qM ?_;refine qJ (fun z w'=>w'=w''/\z.1=true) ?_ ?_
   ·rintro⟨z,⟨⟩⟩ w' ⟨rfl,rfl⟩
    refine xA ?_;refine qF (fun hc=> ?_) (fun hc=> ?_)
    ·dsimp only;rw[if_pos oQ];exact⟨⟨_,rfl,(by first|decide|exact fun h=>absurd h dQ)⟩,rfl⟩
    refine qE fun w4 f4 n4=> ?_;have h4:=h.fr0 f4;refine qT h4.dec d.at0 ⟨⟨oQ,oQ⟩,?_⟩;rw[Int.toNat_natCast];rcases Nat.lt_or_ge rs.length len with hlt|hl
    ·refine CallT.mono (hs hlt oQ w4 f4) ?_
     rintro _ w7 ⟨m,e,rfl,hE,f7,n7,hP⟩;refine⟨_,_,rfl,hE _ (xA ?_)⟩;dsimp only;rw[if_neg oQ];exact⟨fun _ _ =>(f4.mono sQ).trans (f7.mono sQ),hP⟩
    refine CallT.mono (h4.read (n:=len) oQ oQ oQ) ?_;rintro _ w7 ⟨rfl,h7,f7,n7⟩;refine⟨_,_,rfl,qR (qM ?_)⟩;refine qE fun w11 f11 n11=> ?_;have h11:=h7.fr0 f11;refine zZ h11.dec ((Dec.at2 _).trans (congrArg some h11.ck)) ⟨⟨oQ,oQ⟩,?_⟩;rw[Int.toNat_natCast];refine CallT.mono (h11.sums (o:=0) (n:=len) rfl oQ) ?_;rintro _ w14 ⟨rfl,h14,f14,n14⟩;have htl:(rs.take len).length=len:=by simp;omega
    have e0:((({d with tmp:=rs.take len++d.tmp.drop len}:Dec).tmp.drop 0).take len)=rs.take len:=by
     show((rs.take len++d.tmp.drop len).drop 0).take len=_;rw[List.drop_zero,List.take_append_of_le_length oQ,List.take_of_length_le oQ]
    rw[e0]at h14;refine⟨_,_,rfl,?_⟩;have F14:Fr [rb,kb,db] w' w14:=(f4.mono sQ).trans ((f7.mono sQ).trans ((f11.mono sQ).trans (f14.mono sQ)));have hne:=h.ne;have hrow14:=F14.row hrow (by simp;omega);have hgn:g<hn w':=zM hrow;refine qJ (fun _ w''=>Fr [db] w14 w''/\Dst w'' db rb kb p {d with tmp:=rs.take len++d.tmp.drop len,pal:=⟨some ⟨g,0,none⟩,max n len,256⟩} (zR crc (rs.take len)) (rs.drop len)) ?_ ?_
    ·rintro⟨⟩ w87 ⟨f87,h87⟩
     have hrow87:=f87.row1 hrow14 oQ;have F87:Fr [rb,kb,db] w' w87:=F14.trans (f87.mono sQ);refine qP (fun z wk=>∃k:Nat,z.1=k/\k<=len/\Dst wk db rb kb p {d with tmp:=rs.take len++d.tmp.drop len,pal:=⟨some ⟨g,0,none⟩,max n len,256⟩} (zR crc (rs.take len)) (rs.drop len)/\Fr [g] w87 wk/\hp wk g=Row 131 (((gD (rs.take len) cs).map jA).take k++(cs.map jA).drop k).toArray) (fun z _ =>len -z.1.toNat)
      ⟨0,rfl,oQ,h87,Fr.refl _ _,by simpa using hrow87⟩ ?_
     rintro⟨_,⟨⟩⟩ wk ⟨k,rfl,hkn,hdk,hfk,hrk⟩;dsimp only;have hcl':=nD (rs.take len) cs;refine qF (fun hlt=> ?_) (fun hge=> ?_)
     ·refine qK hdk.dec (Dec.at6 _) ⟨⟨oQ,by dsimp only;omega⟩,?_⟩
      obtain⟨⟨cf,px⟩,hck⟩:∃c,cs[k]? =some c:=⟨_,List.getElem?_eq_getElem oQ⟩;have hcf:cf=false:=hcs _ (List.mem_of_getElem? hck);subst hcf;have hkr:(((gD (rs.take len) cs).map jA).take k++(cs.map jA).drop k).toArray[k]? =some (jA (false,px)):=by
       rw[List.getElem?_toArray,List.getElem?_append_right (by simp;omega)];simp only[List.length_take,List.length_map,hcl',List.getElem?_drop];rw[show k+(k -min k 256)=k by omega,List.getElem?_map,hck]
       rfl
      rw[PtrC_some,elemAt_one,Int.toNat_natCast,Nat.zero_add];refine qT hrk hkr ?_;refine yR (t:=133) ni133 ?_;refine⟨_,_,_,_,rfl,?_⟩;have hg2:g<hn wk:=zM hrk;refine qG fun w105 h105 f105 n105=> ?_;rw[zc133]at h105;generalize hq0:hn wk=q at*;refine qD h105 sQ fun w106 h106 f106 n106=> ?_;refine qD h106 sQ fun w107 h107 f107 n107=> ?_;refine qD h107 sQ fun w108 h108 f108 n108=> ?_;refine qD h108 sQ fun w109 h109 f109 n109=> ?_;refine qE fun w110 f110 n110=> ?_;have hq:hp w110 q=Row 133 #[.int .u8 px.1.toNat,.int .u8 px.2.1.toNat,.int .u8 px.2.2.1.toNat,.int .u8 px.2.2.2.toNat]:=by simpa using f110.row0 h109
      have Fq:Fr [] wk w110:=(((((f105.new1 f106 oQ).new1 f107 oQ).new1 f108 oQ).new1 f109 oQ)).trans f110;have hdq:=hdk.fr0 Fq;have hrq:=Fq.row0 hrk;refine qK hdq.dec (Dec.at6 _) (qC hq rfl (qC hq rfl (qC hq rfl ⟨⟨oQ,oQ⟩,?_⟩)));rw[elemAt_one];have hat:({d with tmp:=rs.take len++d.tmp.drop len,pal:=⟨some ⟨g,0,none⟩,max n len,256⟩}:Dec).arr[0+10+k]? =some (.int .u8 (gb (rs.take len) k)):=by
       have:=Dec.atT ({d with tmp:=rs.take len++d.tmp.drop len,pal:=⟨some ⟨g,0,none⟩,max n len,256⟩}:Dec) (j:=k) (by have:=hdq.htmp;omega);rw[show gb (rs.take len) k=gb ({d with tmp:=rs.take len++d.tmp.drop len,pal:=⟨some ⟨g,0,none⟩,max n len,256⟩}:Dec).tmp k from(tA oQ).symm];exact this
      refine qC hdq.dec hat ⟨⟨oQ,by dsimp only;omega⟩,?_⟩;have hv:((gD (rs.take len) cs).map jA)[k]? =some (Value.iface 132 (.agg #[.int .u8 px.1.toNat,.int .u8 px.2.1.toNat,.int .u8 px.2.2.1.toNat,.int .u8 (gb (rs.take len) k:Nat)])):=by
       rw[List.getElem?_map,aB _ _ oQ,if_pos oQ,show cs.getD k c0=(false,px) by simp[List.getD,hck]]
       rfl
      dsimp only;rw[PtrC_some,elemAt_one,Nat.zero_add];refine qD hrq (by simp[hcl,hcl'];omega) fun w119 h119 f119 n119=> ?_;rw[qA oQ oQ];refine⟨⟨k+1,oQ,oQ,hdq.fr f119 (by simp;omega),(hfk.trans (Fq.mono sQ)).trans f119,?_⟩,oQ⟩;rw[h119,List.setIfInBounds_toArray,qCu (by simp[hcl,hcl']) hv]
     ·have hkn':k=len:=oQ
      subst hkn';have hall:((gD (rs.take k) cs).map jA).take k++(cs.map jA).drop k=(gD (rs.take k) cs).map jA:=by
       apply List.ext_getElem?;intro j;rcases Nat.lt_or_ge j k with hj|hj
       ·rw[List.getElem?_append_left (by simp[hcl'];omega),List.getElem?_take,if_pos hj]
       ·rw[List.getElem?_append_right (by simp;omega),List.getElem?_drop]
        simp only[List.length_take,List.length_map,hcl'];rw[show k+(j -min k 256)=j by omega,List.getElem?_map,List.getElem?_map];rcases Nat.lt_or_ge j 256 with hj2|hj2
        ·rw[aB _ _ hj2,if_neg oQ,List.getElem?_eq_getElem (show j<cs.length by omega)]
         simp[List.getD,List.getElem?_eq_getElem (show j<cs.length by omega)]
        ·rw[List.getElem?_eq_none oQ,List.getElem?_eq_none oQ]
      rw[hall]at hrk;have FK:∀g',d.pal.a=some ⟨g',0,none⟩ ->Fr [rb,kb,db,g'] w' wk:=by
       intro g' hg';rw[hpe]at hg';simp at hg';subst hg';exact(F87.mono sQ).trans (hfk.mono sQ)
      refine CallT.mono (h81 _ _ _ hl oQ hdk (by rw[hpe]) ⟨g,rfl,hg,hrk,hcl',oQ⟩ FK) ?_;rintro _ w121 ⟨f121,hP⟩;refine⟨_,rfl,?_⟩;rw[if_neg oQ];exact⟨fun g' hg'=>(FK g' hg').trans (f121.mono sQ),hP⟩
    ·intro J hJ
     refine qK h14.dec (Dec.at6 _) ?_;refine qF (fun hlt=> ?_) (fun hge=> ?_)
     ·refine qK h14.dec (Dec.at6 _) ⟨⟨oQ,by dsimp only;rw[hpe];dsimp only;omega⟩,?_⟩
      dsimp only at hlt⊢;rw[hpe]at hlt⊢;dsimp only at hlt⊢;refine qD h14.dec (by show 0+6<_;rw[Dec.size,h14.htmp,h14.htr];decide) fun w49 h49 f49 n49=> ?_;refine hJ _ _ ⟨f49,h14.upd (d':={d with tmp:=rs.take len++d.tmp.drop len,pal:=⟨some ⟨g,0,none⟩,max n len,256⟩}) f49 ?_ rfl rfl h14.htmp h14.htr⟩;rw[show max n len=len by omega];exact h49.trans (congrArg (Row 119) (Dec.set6 _ ⟨some ⟨g,0,none⟩,len,256⟩))
     ·refine hJ _ _ ⟨Fr.refl _ _,?_⟩
      dsimp only at hge;rw[hpe]at hge;dsimp only at hge;rw[show max n len=n by omega,<-hpe];exact h14
   ·intro J hJ
    refine qW (fun e=>hJ _ _ ⟨rfl,by simp[e]⟩) (fun h7'=>qW (fun e=>hJ _ _ ⟨rfl,by simp[e]⟩) (fun h8'=>qW (fun e=>hJ _ _ ⟨rfl,by simp[e]⟩) (fun h9'=>hJ _ _ ⟨rfl,?_⟩)));have:d.cb=10:=oQ;simp[this]
  ·intro J hJ
   refine qW (fun e=>absurd e (hcbn 6 dQ)) (fun _ =>hJ _ _ ⟨rfl,?_⟩);have:=hcbn 14 dQ
   simpa using this
 ·intro J hJ
  refine qW (fun e=>absurd e (hcbn 1 dQ)) (fun _ =>qW (fun e=>absurd e (hcbn 2 dQ)) (fun _ =>qW (fun e=>absurd e (hcbn 3 dQ)) (fun _ =>qW (fun e=>absurd e (hcbn 4 dQ)) (fun _ =>hJ _ _ ⟨rfl,?_⟩))));have:=hcbn 12 dQ
  simpa using this
theorem Dst.c78P{db rb kb crc:Nat}{p:pQ}{d:Dec}{rs:bQ}(h:Dst w db rb kb p d crc rs){len n:Nat}{cs:List (Bool×Px)}(hpal:uC w db d.pal n cs)(hcs:∀c∈cs,c.1=false)(hlen:len<4294967296)(hlen0:0<len)(hcb:d.cb=7\/d.cb=8\/d.cb=9\/d.cb=10)
  (hl:len<=256 ->len+4<=rs.length):
  CallT Pg 78 #[.pointer (some ⟨db,0,none⟩),.int .u32 len] w fun v w'=>if 256<len then Refuse 125 v/\w'=w else
   (∀g,d.pal.a=some ⟨g,0,none⟩ ->Fr [rb,kb,db,g] w w')/\(if be4 (rs.drop len) 0=zR crc (rs.take len)then v= .nilIface else Refuse 125 v)/\∃tmp pal,tmp.length=768/\pal.a=d.pal.a/\Dst w' db rb kb p {d with tmp:=tmp,pal:=pal} (zR crc (rs.take len)) (rs.drop (len+4))/\uC w' db pal (max n len) (gD (rs.take len) cs):=by
 refine CallT.mono (h.c78k (P:=fun v w'=>(if be4 (rs.drop len) 0=zR crc (rs.take len)then v= .nilIface else Refuse 125 v)/\∃tmp pal,tmp.length=768/\pal.a=d.pal.a/\Dst w' db rb kb p {d with tmp:=tmp,pal:=pal} (zR crc (rs.take len)) (rs.drop (len+4))/\uC w' db pal (max n len) (gD (rs.take len) cs)) hpal hcs hlen hlen0 hcb (fun hlt h7=>absurd (hl h7) oQ) fun w1 tmp pal _ h7 D ha hP _ =>CallT.mono (D.c81 (by have:=hl h7;simp;omega)) ?_) fun v w' hv=>hv;rintro v w' ⟨hv,D',f,n⟩;rw[List.drop_drop]at D';obtain⟨g,e,hg,hrow,hP⟩:=hP;exact⟨f,hv,_,_,D'.htmp,ha,D',g,e,hg,f.row hrow (by have:=h.ne;simp;omega),hP⟩
end
def wp77(x0:Int)(R:vPq)(w:wQ):Prop:=IfC (x0==6) (R (.bool true) w) (R (.bool (x0==14)) w)
theorem call77{x0:Int}{R:vPq}{w:wQ}(h:wp77 x0 R w):CallT Pg 77 #[.int .i64 x0] w R:=cVq [] Tryz.func77 h
def wp60(x0:Addr)(x1:Bool)(R:vPq)(w:wQ):Prop:=qO w fun l=>LdV l x0 fun M=>And (0<=(8:Int)/\(8:Int)<=(768:Int)) (CallT Pg 71 #[M,.slice (some (aQq x0 10)) 8 768] l fun N m=>∃O i,And (N= .tuple #[iQq O,i]) (xR i fun P=>IfC (!P) (R (i:Value) m) (And (0<=(4:Int)/\(4:Int)<=(768:Int)) (CallT Pg 72 #[.slice (some (aQq x0 10)) 4 768] m fun Q n=>∃b,And (Q= .int .u32 b) (LdP n (aQq x0 2) fun S=>CallT Pg 73 #[.pointer S] n fun T U=>And (T= .tuple #[]) (qO U fun o=>LdP o (aQq x0 2) fun V=>And (0<=(8:Int)/\(8:Int)<=(768:Int)) (And (0<=(4:Int)/\(4:Int)<=(8:Int)) (CallT Pg 74 #[.pointer V,.slice (some ⟨x0.block,x0.off+10+4,none⟩) 4 764] o fun X a=>∃Y Z,And (X= .tuple #[iQq Y,Z]) (xH (fun(ci:(Unit)) (p:wQ)=>IfC (decide (b>(2147483647:Int))) (R (.iface 125 (.string ⟨#[66,97,100,32,99,104,117,110,107,32,108,101,110,103,116,104]⟩)) p) (qL p (.cells (zc Pg 150) 150) fun q aa=>xB (fun(ab:(Int×Unit) ->World ->Prop)=>ab (b,()) aa) (fun d r ac=>IfC (decide (d.1>(0:Int))) (qO r fun s=>LdV s x0 fun ad=>And (0<=yU (4096:Int) (wIq d.1)/\yU (4096:Int) (wIq d.1)<=(4096:Int)) (CallT Pg 71 #[ad,.slice (some ⟨q,0,none⟩) ((yU (4096:Int) (wIq d.1)).toNat) 4096] s fun ae t=>∃e j,And (ae= .tuple #[iQq e,j]) (xR j fun af=>IfC (!af) (R (j:Value) t) (qO t fun u=>LdP u (aQq x0 2) fun ag=>And (0<=e/\e<=(4096:Int)) (CallT Pg 74 #[.pointer ag,.slice (some ⟨q,0,none⟩) e.toNat 4096] u fun ah ai=>∃aj ak,And (ah= .tuple #[iQq aj,ak]) (ac (wrap .u32 (d.1 -(wrap .u32 e)),()) ai)))))) (CallT Pg 81 #[.pointer (some x0)] r fun al am=>∃v,And (al=v) (R (v:Value) am))))) (fun k=>And (0<=(8:Int)/\(8:Int)<=(768:Int)) (And (0<=(4:Int)/\(4:Int)<=(8:Int)) (B2S Pg a (some ⟨x0.block,x0.off+10+4,none⟩) 4 764 fun f=>IfC (vK f ⟨#[73,72,68,82]⟩) (LdI a (aQq x0 8) .i64 fun ao=>IfC (ao !=(0:Int)) (R (.iface 125 (.string ⟨#[99,104,117,110,107,32,111,117,116,32,111,102,32,111,114,100,101,114]⟩)) a) (qB a (aQq x0 8) (iQq 1) fun ap=>CallT Pg 75 #[.pointer (some x0),.int .u32 b] ap fun aq ar=>∃y,And (aq=y) (R (y:Value) ar))) (IfC (vK f ⟨#[80,76,84,69]⟩) (LdI a (aQq x0 8) .i64 fun au=>IfC (au !=(1:Int)) (R (.iface 125 (.string ⟨#[99,104,117,110,107,32,111,117,116,32,111,102,32,111,114,100,101,114]⟩)) a) (qB a (aQq x0 8) (iQq 2) fun av=>CallT Pg 76 #[.pointer (some x0),.int .u32 b] av fun aw ax=>∃z,And (aw=z) (R (z:Value) ax))) (IfC (vK f ⟨#[116,82,78,83]⟩) (LdI a (aQq x0 7) .i64 fun ay=>CallT Pg 61 #[iQq ay] a fun az g=>∃A,And (az= .bool A) (IfC A (LdI g (aQq x0 8) .i64 fun ba=>IfC (ba !=(2:Int)) (R (.iface 125 (.string ⟨#[99,104,117,110,107,32,111,117,116,32,111,102,32,111,114,100,101,114]⟩)) g) (qB g (aQq x0 8) (iQq 3) fun bb=>CallT Pg 78 #[.pointer (some x0),.int .u32 b] bb fun bc bd=>∃B,And (bc=B) (R (B:Value) bd))) (LdI g (aQq x0 7) .i64 fun be=>CallT Pg 77 #[iQq be] g fun bf c=>∃C,And (bf= .bool C) (IfC C (LdI c (aQq x0 8) .i64 fun bg=>IfC (bg !=(1:Int)) (LdI c (aQq x0 8) .i64 fun bh=>IfC (bh !=(2:Int)) (R (.iface 125 (.string ⟨#[99,104,117,110,107,32,111,117,116,32,111,102,32,111,114,100,101,114]⟩)) c) (qB c (aQq x0 8) (iQq 3) fun bi=>CallT Pg 78 #[.pointer (some x0),.int .u32 b] bi fun bj bk=>∃D,And (bj=D) (R (D:Value) bk))) (qB c (aQq x0 8) (iQq 3) fun bl=>CallT Pg 78 #[.pointer (some x0),.int .u32 b] bl fun bm bn=>∃E,And (bm=E) (R (E:Value) bn))) (LdI c (aQq x0 8) .i64 fun bo=>IfC (bo !=(1:Int)) (R (.iface 125 (.string ⟨#[99,104,117,110,107,32,111,117,116,32,111,102,32,111,114,100,101,114]⟩)) c) (qB c (aQq x0 8) (iQq 3) fun bp=>CallT Pg 78 #[.pointer (some x0),.int .u32 b] bp fun bq br=>∃F,And (bq=F) (R (F:Value) br))))))) (IfC (vK f ⟨#[73,68,65,84]⟩) (LdI a (aQq x0 8) .i64 fun bs=>IfC (decide (bs<(1:Int))) (R (.iface 125 (.string ⟨#[99,104,117,110,107,32,111,117,116,32,111,102,32,111,114,100,101,114]⟩)) a) (LdI a (aQq x0 8) .i64 fun bt=>IfC (decide (bt>(4:Int))) (R (.iface 125 (.string ⟨#[99,104,117,110,107,32,111,117,116,32,111,102,32,111,114,100,101,114]⟩)) a) (LdI a (aQq x0 8) .i64 fun bu=>IfC (bu==1) (LdI a (aQq x0 7) .i64 fun bv=>CallT Pg 61 #[iQq bv] a fun bw h=>∃G,And (bw= .bool G) (IfC G (R (.iface 125 (.string ⟨#[99,104,117,110,107,32,111,117,116,32,111,102,32,111,114,100,101,114]⟩)) h) (LdI h (aQq x0 8) .i64 fun bx=>IfC (bx==4) (k (()) h) (qB h (aQq x0 8) (iQq 4) fun H=>IfC x1 (R (.nilIface) H) (CallT Pg 79 #[.pointer (some x0),.int .u32 b] H fun bz ca=>∃I,And (bz=I) (R (I:Value) ca)))))) (LdI a (aQq x0 8) .i64 fun cb=>IfC (cb==4) (k (()) a) (qB a (aQq x0 8) (iQq 4) fun J=>IfC x1 (R (.nilIface) J) (CallT Pg 79 #[.pointer (some x0),.int .u32 b] J fun cc cd=>∃K,And (cc=K) (R (K:Value) cd))))))) (IfC (vK f ⟨#[73,69,78,68]⟩) (LdI a (aQq x0 8) .i64 fun ce=>IfC (ce !=(4:Int)) (R (.iface 125 (.string ⟨#[99,104,117,110,107,32,111,117,116,32,111,102,32,111,114,100,101,114]⟩)) a) (qB a (aQq x0 8) (iQq 5) fun cf=>CallT Pg 80 #[.pointer (some x0),.int .u32 b] cf fun cg ch=>∃L,And (cg=L) (R (L:Value) ch))) (k (()) a)))))))))))))))))
theorem call60{x0:Addr}{x1:Bool}{R:vPq}{w:wQ}(h:wp60 x0 x1 R w):CallT Pg 60 #[.pointer (some x0),.bool x1] w R:=cVq [(18,[],[0,7]),(147,[(7,.i .u32)],[0,8])] Tryz.func60 h
section
variable{w:wQ}
theorem c77{x:Int}:CallT Pg 77 #[.int .i64 x] w fun v w'=>v= .bool (decide (x=6)||decide (x=14))/\w'=w:=by
 apply call77;unfold wp77;refine qW (fun h=> ?_) (fun h=> ?_)
 ·simp[h]
 ·refine⟨?_,rfl⟩
  simp[h]
  rfl
inductive Next
 |refuse
 |call (f:Nat) (s:Int)
 |idat
 |skip
def zT(d:Dec)(nm:bQ):Next:=
 if nm=zJ then(if d.stage≠0 then .refuse else .call 75 1)
 else if nm=vE then(if d.stage≠1 then .refuse else .call 76 2)
 else if nm=zC then(if 7<=d.cb/\d.cb<=10 then(if d.stage≠2 then .refuse else .call 78 3)else if d.cb=6\/d.cb=14 then(if d.stage≠1/\d.stage≠2 then .refuse else .call 78 3)else(if d.stage≠1 then .refuse else .call 78 3))
 else if nm=nIDAT then(if d.stage<1\/4<d.stage then .refuse else if d.stage=1/\7<=d.cb/\d.cb<=10 then .refuse else if d.stage=4 then .skip else .idat)
 else if nm=zY then(if d.stage≠4 then .refuse else .call 80 5)
 else .skip
theorem Dst.c60{db rb kb crc:Nat}{p:pQ}{d:Dec}{rs:bQ}(h:Dst w db rb kb p d crc rs)(hl:8<=rs.length){b:Bool}{R:vPq}
  (H:∀w1 tmp s,Fr [rb,kb,db] w w1 ->hn w1=hn w ->Dst w1 db rb kb p {d with tmp:=tmp,stage:=s} (zR 0 ((rs.drop 4).take 4)) (rs.drop 8) ->
   match zT d ((rs.drop 4).take 4)with
   | .refuse=>s=d.stage ->∀v,Refuse 125 v ->R v w1
   | .call f s'=>s=s' ->CallT Pg f #[.pointer (some ⟨db,0,none⟩),.int .u32 (be4 rs 0)] w1 R
   | .idat=>s=4 ->if b then R .nilIface w1 else CallT Pg 79 #[.pointer (some ⟨db,0,none⟩),.int .u32 (be4 rs 0)] w1 R
   | .skip=>False):CallT Pg 60 #[.pointer (some ⟨db,0,none⟩),.bool b] w R:=by
 apply call60;unfold wp60 aQq wIq iQq;refine qE fun w1 f1 n1=> ?_;have h:=h.fr0 f1;refine qT h.dec d.at0 ⟨⟨dQ,dQ⟩,?_⟩;refine CallT.mono (h.read (n:=8) dQ dQ oQ) ?_;rintro _ w4 ⟨rfl,h4,f4,n4⟩;refine⟨_,_,rfl,qR (qM ⟨⟨dQ,dQ⟩,?_⟩)⟩;refine CallT.mono (h4.be4r (o:=0) rfl dQ dQ) ?_;rintro _ w9 ⟨rfl,f9,n9⟩;have h9:=h4.fr0 f9;refine⟨_,rfl,zZ h9.dec ((Dec.at2 _).trans (congrArg some h9.ck)) ?_⟩;have hne:=h.ne;refine CallT.mono (c73 h9.sum) ?_;rintro _ w13 ⟨rfl,hk13,f13,n13⟩;have h13:Dst w13 db rb kb p {d with tmp:=rs.take 8++d.tmp.drop 8} 0 (rs.drop 8):=
  ⟨f13.row1 h9.dec oQ,h9.htmp,h9.htr,h9.rd,h9.ck,h9.at_.fr f13 (by simp;omega) (fun a ha=>by have:=hne.2.1 a ha;simp;omega),hk13,dQ,h9.tab.fr f13 (by simp;omega),hne⟩
 refine⟨rfl,qE fun w14 f14 n14=> ?_⟩;have h14:=h13.fr0 f14;refine zZ h14.dec ((Dec.at2 _).trans (congrArg some h14.ck)) ⟨⟨dQ,dQ⟩,⟨dQ,dQ⟩,?_⟩;refine CallT.mono (h14.sums (o:=4) (n:=4) rfl dQ) ?_;rintro _ w17 ⟨rfl,h17,f17,n17⟩;refine⟨_,_,rfl,?_⟩;have ht8:(rs.take 8).length=8:=by simp;omega
 have enm:((({d with tmp:=rs.take 8++d.tmp.drop 8}:Dec).tmp.drop 4).take 4)=(rs.drop 4).take 4:=by
  show((rs.take 8++d.tmp.drop 8).drop 4).take 4=_;rw[List.drop_append_of_le_length oQ,List.take_append_of_le_length (by simp;omega),List.drop_take,List.take_take]
  rfl
 have eln:be4 (rs.take 8++d.tmp.drop 8) 0=be4 rs 0:=by rw[yH oQ,vP oQ]
 rw[enm]at h17;have hnb:=Dec.has _ h17.dec 4 4;rw[enm]at hnb;have hnl:((rs.drop 4).take 4).length=4:=by simp;omega
 have F17:Fr [rb,kb,db] w w17:=(f1.mono sQ).trans ((f4.mono sQ).trans ((f9.mono sQ).trans ((f13.mono sQ).trans ((f14.mono sQ).trans (f17.mono sQ)))));have hn17:hn w17=hn w:=oQ;dsimp only;rw[eln];generalize be4 rs 0=len at*;generalize(rs.drop 4).take 4=nm at*;clear f1 f4 f9 f13 f14 f17 n1 n4 n9 n13 n14 n17 h h4 h9 h13 h14 hk13 eln enm;have no:zT d nm= .refuse ->∀v,Refuse 125 v ->R v w17:=by
  intro e v hv;have:=H w17 _ _ F17 hn17 h17;rw[e]at this;exact this rfl v hv
 have skip:zT d nm≠ .skip:=by
  intro e;have:=H w17 _ _ F17 hn17 h17;rw[e]at this;exact this
 have st:∀(s:Int) (K:World ->Prop),(∀w',Fr [rb,kb,db] w w' ->hn w'=hn w ->Dst w' db rb kb p {d with tmp:=rs.take 8++d.tmp.drop 8,stage:=s} (zR 0 nm) (rs.drop 8) ->K w') ->qB w17 ⟨db,0+8,none⟩ (.int .i64 s) K:=by
  intro s K hK;refine qD h17.dec (by rw[Dec.size,h17.htmp,h17.htr];decide) fun w' h' f' n'=>hK w' (F17.trans (f'.mono sQ)) oQ ?_;exact h17.upd (d':={d with tmp:=rs.take 8++d.tmp.drop 8,stage:=s}) f' (h'.trans (congrArg (Row 119) (Dec.set8 _ _))) rfl rfl h17.htmp h17.htr
 have go:∀(f:Nat) (s:Int),zT d nm= .call f s ->qB w17 ⟨db,0+8,none⟩ (.int .i64 s) fun w'=>CallT Pg f #[.pointer (some ⟨db,0,none⟩),.int .u32 len] w' fun v w''=>Exists fun v'=>And (v=v') (R v' w''):=by
  intro f s e;refine st s _ fun w' f' n' h'=> ?_;have:=H w' _ _ f' n' h';rw[e]at this;exact CallT.mono (this rfl) fun v w'' hv=>⟨v,rfl,hv⟩
 refine qJ (fun _ _ =>False) (fun _ _ h=>h.elim) ?_;intro J hJ;refine⟨⟨dQ,dQ⟩,⟨dQ,dQ⟩,rM hnb hnl.symm ?_⟩;rw[show vK ⟨nm.toArray⟩ ⟨#[73,72,68,82]⟩=(nm==zJ)from uH _ zJ,show vK ⟨nm.toArray⟩ ⟨#[80,76,84,69]⟩=(nm==vE)from uH _ vE,show vK ⟨nm.toArray⟩ ⟨#[116,82,78,83]⟩=(nm==zC)from uH _ zC,show vK ⟨nm.toArray⟩ ⟨#[73,68,65,84]⟩=(nm==nIDAT)from uH _ nIDAT,show vK ⟨nm.toArray⟩ ⟨#[73,69,78,68]⟩=(nm==zY)from uH _ zY];refine qX (fun h1=> ?_) (fun h1=> ?_)
 ·have e1:nm=zJ:=eq_of_beq h1
  refine qC h17.dec (Dec.at8 _) (xU (fun h2=> ?_) (fun h2=> ?_))
  ·exact no (by dsimp only at h2;unfold zT;rw[if_pos e1,if_pos h2]) _ ⟨_,rfl,(by first|decide|exact fun h=>absurd h dQ)⟩
  ·exact go 75 1 (by dsimp only at h2;unfold zT;rw[if_pos e1,if_neg (by simpa using h2)])
 have e1:¬nm=zJ:=by intro e;rw[e]at h1;exact absurd h1 dQ
 refine qX (fun h2=> ?_) (fun h2=> ?_)
 ·have e2:nm=vE:=eq_of_beq h2
  refine qC h17.dec (Dec.at8 _) (xU (fun h3=> ?_) (fun h3=> ?_))
  ·exact no (by dsimp only at h3;unfold zT;rw[if_neg e1,if_pos e2,if_pos h3]) _ ⟨_,rfl,(by first|decide|exact fun h=>absurd h dQ)⟩
  ·exact go 76 2 (by dsimp only at h3;unfold zT;rw[if_neg e1,if_pos e2,if_neg (by simpa using h3)])
 have e2:¬nm=vE:=by intro e;rw[e]at h2;exact absurd h2 dQ
 refine qX (fun h3=> ?_) (fun h3=> ?_)
 ·have e3:nm=zC:=eq_of_beq h3
  refine qC h17.dec (Dec.at7 _) (CallT.mono c61 ?_);rintro _ w58 ⟨rfl,rfl⟩;refine⟨_,rfl,?_⟩;dsimp only;refine qX (fun hp=> ?_) (fun hp=> ?_)
  ·have hp':7<=d.cb/\d.cb<=10:=by simpa using hp
   refine qC h17.dec (Dec.at8 _) (xU (fun h4=> ?_) (fun h4=> ?_))
   ·exact no (by dsimp only at h4;unfold zT;rw[if_neg e1,if_neg e2,if_pos e3,if_pos hp',if_pos h4]) _ ⟨_,rfl,(by first|decide|exact fun h=>absurd h dQ)⟩
   ·exact go 78 3 (by dsimp only at h4;unfold zT;rw[if_neg e1,if_neg e2,if_pos e3,if_pos hp',if_neg (by simpa using h4)])
  have hp':¬(7<=d.cb/\d.cb<=10):=by simpa using hp
  refine qC h17.dec (Dec.at7 _) (CallT.mono c77 ?_);rintro _ w67 ⟨rfl,rfl⟩;refine⟨_,rfl,?_⟩;dsimp only;refine qX (fun ht=> ?_) (fun ht=> ?_)
  ·have ht':d.cb=6\/d.cb=14:=by simpa using ht
   refine qC h17.dec (Dec.at8 _) (xU (fun h4=> ?_) (fun h4=> ?_))
   ·refine qC h17.dec (Dec.at8 _) (xU (fun h5=> ?_) (fun h5=> ?_))
    ·exact no (by dsimp only at h4 h5;unfold zT;rw[if_neg e1,if_neg e2,if_pos e3,if_neg hp',if_pos ht',if_pos ⟨h4,h5⟩]) _ ⟨_,rfl,(by first|decide|exact fun h=>absurd h dQ)⟩
    ·exact go 78 3 (by dsimp only at h4 h5;unfold zT;rw[if_neg e1,if_neg e2,if_pos e3,if_neg hp',if_pos ht',if_neg (by intro h;exact h.2 h5)])
   ·exact go 78 3 (by dsimp only at h4;unfold zT;rw[if_neg e1,if_neg e2,if_pos e3,if_neg hp',if_pos ht',if_neg (by intro h;exact h.1 h4)])
  have ht':¬(d.cb=6\/d.cb=14):=by simpa using ht
  refine qC h17.dec (Dec.at8 _) (xU (fun h4=> ?_) (fun h4=> ?_))
  ·exact no (by dsimp only at h4;unfold zT;rw[if_neg e1,if_neg e2,if_pos e3,if_neg hp',if_neg ht',if_pos h4]) _ ⟨_,rfl,(by first|decide|exact fun h=>absurd h dQ)⟩
  ·exact go 78 3 (by dsimp only at h4;unfold zT;rw[if_neg e1,if_neg e2,if_pos e3,if_neg hp',if_neg ht',if_neg (by simpa using h4)])
 have e3:¬nm=zC:=by intro e;rw[e]at h3;exact absurd h3 dQ
 refine qX (fun h4=> ?_) (fun h4=> ?_)
 ·have e4:nm=nIDAT:=eq_of_beq h4
  have eN:zT d nm=(if d.stage<1\/4<d.stage then Next.refuse else if d.stage=1/\7<=d.cb/\d.cb<=10 then .refuse else if d.stage=4 then .skip else .idat):=by
   unfold zT;rw[if_neg e1,if_neg e2,if_neg e3,if_pos e4]
  refine qC h17.dec (Dec.at8 _) (qF (fun h5=> ?_) (fun h5=> ?_))
  ·exact no (by dsimp only at h5;rw[eN,if_pos (Or.inl h5)]) _ ⟨_,rfl,(by first|decide|exact fun h=>absurd h dQ)⟩
  refine qC h17.dec (Dec.at8 _) (qF (fun h6=> ?_) (fun h6=> ?_))
  ·exact no (by dsimp only at h6;rw[eN,if_pos (Or.inr h6)]) _ ⟨_,rfl,(by first|decide|exact fun h=>absurd h dQ)⟩
  dsimp only at h5 h6;rw[if_neg oQ]at eN;have fin:¬(d.stage=1/\7<=d.cb/\d.cb<=10) ->LdI w17 ⟨db,0+8,none⟩ .i64 fun n96=>IfC (n96==(4:Int)) (J () w17) (qB w17 ⟨db,0+8,none⟩ (.int .i64 (4:Int)) fun w97=>IfC b (R (.nilIface:Value) w97) (CallT Pg 79 #[.pointer (some ⟨db,0,none⟩),.int .u32 len] w97 fun v98 w99=>Exists fun v100=>And (v98=v100) (R v100 w99))):=by
   intro hno;rw[if_neg hno]at eN;refine qC h17.dec (Dec.at8 _) (qW (fun h7=> ?_) (fun h7=> ?_))
   ·dsimp only at h7
    rw[if_pos h7]at eN;exact absurd eN skip
   ·dsimp only at h7
    rw[if_neg h7]at eN;refine st 4 _ fun w' f' n' h'=> ?_;have:=H w' _ _ f' n' h';rw[eN]at this;have:=this rfl
    cases b with
    |true=>exact this
    |false=>exact CallT.mono this fun v w'' hv=>⟨v,rfl,hv⟩
  refine qC h17.dec (Dec.at8 _) (qW (fun h7=> ?_) (fun h7=> ?_))
  ·refine qC h17.dec (Dec.at7 _) (CallT.mono c61 ?_)
   rintro _ w89 ⟨rfl,rfl⟩;refine⟨_,rfl,?_⟩;dsimp only at h7⊢;refine qX (fun hp=> ?_) (fun hp=> ?_)
   ·have hp':7<=d.cb/\d.cb<=10:=by simpa using hp
    exact no (by rw[eN,if_pos ⟨h7,hp'⟩]) _ ⟨_,rfl,(by first|decide|exact fun h=>absurd h dQ)⟩
   ·have hp':¬(7<=d.cb/\d.cb<=10):=by simpa using hp
    exact fin fun h=>hp' h.2
  ·exact fin fun h=>h7 h.1
 have e4:¬nm=nIDAT:=by intro e;rw[e]at h4;exact absurd h4 dQ
 refine qX (fun h5=> ?_) (fun h5=> ?_)
 ·have e5:nm=zY:=eq_of_beq h5
  refine qC h17.dec (Dec.at8 _) (xU (fun h6=> ?_) (fun h6=> ?_))
  ·exact no (by dsimp only at h6;unfold zT;rw[if_neg e1,if_neg e2,if_neg e3,if_neg e4,if_pos e5,if_pos h6]) _ ⟨_,rfl,(by first|decide|exact fun h=>absurd h dQ)⟩
  ·exact go 80 5 (by dsimp only at h6;unfold zT;rw[if_neg e1,if_neg e2,if_neg e3,if_neg e4,if_pos e5,if_neg (by simpa using h6)])
 have e5:¬nm=zY:=by intro e;rw[e]at h5;exact absurd h5 dQ
 exact absurd (by unfold zT;rw[if_neg e1,if_neg e2,if_neg e3,if_neg e4,if_neg e5]) skip
end
def wp45(x0:pQ)(x0l:Nat)(x0c:Nat)(R:vPq)(w:wQ):Prop:=xB (fun(r:(Sl×Int×Unit) ->World ->Prop)=>r ((⟨none,0,0⟩:Sl),(0:Int),()) w) (fun b e h=>IfC (decide (b.2.1<(x0l:Int))) (And (0<=b.2.1/\b.2.1<(x0l:Int)) (qN x0 fun s=>LdV e (qH s b.2.1.toNat 1) fun i=>TA Pg e i 131 132 true fun t u=>∃j k l m,And (t= .agg #[.int .u8 j,.int .u8 k,.int .u8 l,.int .u8 m]) (IfC u (qL e (.cells (zc Pg 132) 132) fun c v=>qB v ⟨c,0,none⟩ (.int .u8 j) fun y=>qB y ⟨c,0+1,none⟩ (.int .u8 k) fun z=>qB z ⟨c,0+2,none⟩ (.int .u8 l) fun A=>qB A ⟨c,0+3,none⟩ (.int .u8 m) fun f=>LdI f ⟨c,0,none⟩ .u8 fun B=>LdI f ⟨c,0+1,none⟩ .u8 fun C=>LdI f ⟨c,0+2,none⟩ .u8 fun D=>LdI f ⟨c,0+3,none⟩ .u8 fun E=>qL f (.cells #[.int .u8 B,.int .u8 C,.int .u8 D,.int .u8 E] 41) fun F G=>yF Pg G #[35,35] 35 (.slice b.1.a b.1.len b.1.cap) (.slice (some ⟨F,0,none⟩) 1 1) fun H I J K=>h ((⟨H,I,J⟩:Sl),wIq (b.2.1+1),()) K) (TA Pg e i 131 133 true fun L M=>∃n o p q,And (L= .agg #[.int .u8 n,.int .u8 o,.int .u8 p,.int .u8 q]) (IfC M (qL e (.cells (zc Pg 133) 133) fun d N=>qB N ⟨d,0,none⟩ (.int .u8 n) fun O=>qB O ⟨d,0+1,none⟩ (.int .u8 o) fun P=>qB P ⟨d,0+2,none⟩ (.int .u8 p) fun Q=>qB Q ⟨d,0+3,none⟩ (.int .u8 q) fun g=>LdI g ⟨d,0,none⟩ .u8 fun S=>LdI g ⟨d,0+1,none⟩ .u8 fun T=>LdI g ⟨d,0+2,none⟩ .u8 fun U=>LdI g ⟨d,0+3,none⟩ .u8 fun V=>qL g (.cells #[.int .u8 S,.int .u8 T,.int .u8 U,.int .u8 V] 41) fun X Y=>yF Pg Y #[35,35] 35 (.slice b.1.a b.1.len b.1.cap) (.slice (some ⟨X,0,none⟩) 1 1) fun Z aa ab ac=>h ((⟨Z,aa,ab⟩:Sl),wIq (b.2.1+1),()) ac) (qL e (.cells #[.int .u8 0,.int .u8 0,.int .u8 0,.int .u8 0] 41) fun ad ae=>yF Pg ae #[35,35] 35 (.slice b.1.a b.1.len b.1.cap) (.slice (some ⟨ad,0,none⟩) 1 1) fun af ag ah ai=>h ((⟨af,ag,ah⟩:Sl),wIq (b.2.1+1),()) ai)))))) (R (.slice b.1.a b.1.len b.1.cap) e))
theorem call45{x0:pQ}{x0l:Nat}{x0c:Nat}{R:vPq}{w:wQ}(h:wp45 x0 x0l x0c R w):CallT Pg 45 #[.slice x0 x0l x0c] w R:=cVq [(8,[(3,.sl),(11,.i .i64)],[2,9,10])] Tryz.func45 h
section
variable{w:wQ}
theorem kB{k:Nat}(hk:k<15):cbN (qI k).1 (qI k).2≠0/\((qI k).1=3↔7<=cbN (qI k).1 (qI k).2/\cbN (qI k).1 (qI k).2<=10):=by
 obtain rfl|rfl|rfl|rfl|rfl|rfl|rfl|rfl|rfl|rfl|rfl|rfl|rfl|rfl|rfl:=(by omega:k=0\/k=1\/k=2\/k=3\/k=4\/k=5\/k=6\/k=7\/k=8\/k=9\/k=10\/k=11\/k=12\/k=13\/k=14)<;>decide
theorem ok35:fY Pg 35 41 4 4=true:=by kernel_rfl
def shV(d:Px):List Value:=[.int .u8 d.1.toNat,.int .u8 d.2.1.toNat,.int .u8 d.2.2.1.toNat,.int .u8 d.2.2.2.toNat]
def sY(l:List Px):List Value:=l.flatMap shV
theorem zv132:zv Pg 132=some (.agg #[.int .u8 0,.int .u8 0,.int .u8 0,.int .u8 0]):=by kernel_rfl
theorem c45{p:pQ}{l c:Nat}{cs:List (Bool×Px)}(hx:Has w p (cs.map jA))(hl:l=cs.length)(hb:l<=1000):CallT Pg 45 #[.slice p l c] w fun v w'=>Fr [] w w'/\∃q c',v= .slice q l c'/\Own w' (hn w) 41 4 q l c' (sY (cs.map Prod.snd)):=by
 apply call45;unfold wp45 wIq;refine qP (fun z w'=>Fr [] w w'/\∃k:Nat,z.2.1=k/\k<=l/\z.1.len=k/\Own w' (hn w) 41 4 z.1.a z.1.len z.1.cap (sY ((cs.map Prod.snd).take k))) (fun z _ =>l -z.2.1.toNat)
  ⟨Fr.refl _ _,0,rfl,oQ,rfl,Own.nil _ _ _ _⟩ ?_
 rintro⟨s,_,⟨⟩⟩ w2 ⟨F2,k,rfl,hkl,hsl,hos⟩;dsimp only at*;refine qF (fun hlt=> ?_) (fun hge=> ?_)
 ·refine⟨⟨oQ,hlt⟩,?_⟩
  obtain⟨⟨cf,px⟩,hck⟩:∃c,cs[k]? =some c:=⟨_,List.getElem?_eq_getElem oQ⟩;obtain⟨b,o,rfl,hv⟩:=(hx.fr0 F2).some (i:=k) (v:=jA (cf,px)) (by rw[List.getElem?_map,hck];rfl);rw[PtrC_some,elemAt_one,Int.toNat_natCast];rw[vM,hv,RdV_some];have tail:∀wd,Fr [] w wd ->Own wd (hn w) 41 4 s.a s.len s.cap (sY ((cs.map Prod.snd).take k)) ->
    qL wd (.cells #[.int .u8 px.1.toNat,.int .u8 px.2.1.toNat,.int .u8 px.2.2.1.toNat,.int .u8 px.2.2.2.toNat] 41) fun r23 w24=>yF Pg w24 #[35,35] 35 (.slice s.a s.len s.cap) (.slice (some ⟨r23,0,none⟩) 1 1) fun p25 l26 c27 w28=>
     (Fr [] w w28/\∃k':Nat,wrap .i64 ((k:Int)+(1:Int))=k'/\k'<=l/\l26=k'/\Own w28 (hn w) 41 4 p25 l26 c27 (sY ((cs.map Prod.snd).take k')))/\l -(wrap .i64 ((k:Int)+(1:Int))).toNat<l -(k:Int).toNat:=by
   intro wd Fd ho;refine gU ok35 Fd ho (cs:=(shV px).toArray) (m:=1) rfl (by simp[shV,Value.oneCell']) oQ ?_;intro p' c' w' F' f' ho';rw[qA oQ oQ];refine⟨⟨F',k+1,oQ,oQ,oQ,?_⟩,oQ⟩;have e:sY ((cs.map Prod.snd).take (k+1))=sY ((cs.map Prod.snd).take k)++shV px:=by
    rw[List.take_add_one,List.getElem?_map,hck];simp[sY]
   rw[e]
   simpa using ho'
  have struct:∀(T:TypeId) (K:Int ->Int ->Int ->Int ->World ->Prop),zc Pg T= #[.int .u8 0,.int .u8 0,.int .u8 0,.int .u8 0] ->(∀wd,Fr [] w2 wd ->K px.1.toNat px.2.1.toNat px.2.2.1.toNat px.2.2.2.toNat wd) ->
    qL w2 (.cells (zc Pg T) T) fun r13 w14=>qB w14 ⟨r13,0,none⟩ (.int .u8 px.1.toNat) fun w15=>qB w15 ⟨r13,0+1,none⟩ (.int .u8 px.2.1.toNat) fun w16=>qB w16 ⟨r13,0+2,none⟩ (.int .u8 px.2.2.1.toNat) fun w17=>qB w17 ⟨r13,0+3,none⟩ (.int .u8 px.2.2.2.toNat) fun w18=>LdI w18 ⟨r13,0,none⟩ .u8 fun n19=>LdI w18 ⟨r13,0+1,none⟩ .u8 fun n20=>LdI w18 ⟨r13,0+2,none⟩ .u8 fun n21=>LdI w18 ⟨r13,0+3,none⟩ .u8 fun n22=>K n19 n20 n21 n22 w18:=by
   intro T K hz hK;refine qG fun w14 h14 f14 n14=> ?_;rw[hz]at h14;refine qD h14 sQ fun w15 h15 f15 n15=> ?_;refine qD h15 sQ fun w16 h16 f16 n16=> ?_;refine qD h16 sQ fun w17 h17 f17 n17=> ?_;refine qD h17 sQ fun w18 h18 f18 n18=> ?_;have h:hp w18 (hn w2)=Row T #[.int .u8 px.1.toNat,.int .u8 px.2.1.toNat,.int .u8 px.2.2.1.toNat,.int .u8 px.2.2.2.toNat]:=by simpa using h18
   refine qC h rfl (qC h rfl (qC h rfl (qC h rfl ?_)));exact hK w18 ((((f14.new1 f15 (Nat.le_refl _)).new1 f16 (Nat.le_refl _)).new1 f17 (Nat.le_refl _)).new1 f18 (Nat.le_refl _))
  cases cf with
  |true=>
   refine yR (t:=132) ni132 ⟨_,_,_,_,rfl,xA ?_⟩;exact struct 132 _ zc132 fun wd fd=>tail wd (F2.trans fd) (hos.fr0 fd)
  |false=>
   refine xG (t:=132) (t':=133) ni132 rfl zv132 ⟨_,_,_,_,rfl,qM ?_⟩;refine yR (t:=133) ni133 ⟨_,_,_,_,rfl,xA ?_⟩;exact struct 133 _ zc133 fun wd fd=>tail wd (F2.trans fd) (hos.fr0 fd)
 ·have:k=cs.length:=oQ
  subst this;refine⟨F2,s.a,s.cap,by rw[hl,hsl],?_⟩;rw[List.take_of_length_le sQ]at hos;rw[hl,<-hsl];exact hos
theorem zP:sigL.length=8:=rfl
theorem zX{nm d rest:bQ}(hn:nm.length=4)(hd:d.length<4294967296):
  be4 (qV nm d++rest) 0=d.length/\((qV nm d++rest).drop 4).take 4=nm/\(qV nm d++rest).drop 8=d++(xI (vU (nm++d))++rest)/\12<=(qV nm d++rest).length:=by
 have e:qV nm d++rest=xI d.length++(nm++(d++(xI (vU (nm++d))++rest))):=by simp[qV]
 have h4:∀n,(xI n).length=4:=fun _ =>rfl;refine⟨?_,?_,?_,?_⟩
 ·rw[e,yH (by rw[h4];decide)]
  exact vA hd
 ·rw[e,List.drop_append_of_le_length (by rw[h4];decide),show(xI d.length).drop 4=[]from rfl,List.nil_append,List.take_append_of_le_length oQ,List.take_of_length_le oQ]
 ·rw[e,<-List.append_assoc,List.drop_append_of_le_length (by simp[h4,hn])]
  rw[List.drop_of_length_le (by simp[h4,hn])];rfl
 ·rw[e];simp only[List.length_append,h4];omega
theorem kL{d rest:bQ}{k:Nat}(hk:k<4294967296):(d++(xI k++rest)).take d.length=d/\be4 ((d++(xI k++rest)).drop d.length) 0=k/\(d++(xI k++rest)).drop (d.length+4)=rest/\d.length+4<=(d++(xI k++rest)).length:=by
 have h4:(xI k).length=4:=rfl;refine⟨sQ,?_,?_,by simp only[List.length_append,h4];omega⟩
 ·rw[List.drop_left,yH (by rw[h4];decide)]
  exact vA hk
 ·rw[<-List.drop_drop,List.drop_left,<-h4,List.drop_left]
theorem uL(nm d:bQ):zR (zR 0 nm) d=vU (nm++d):=by rw[mM,oD]
theorem bJ{W H k:Nat}{L:Bool}(hW:1<=W/\W<=64)(hH:1<=H/\H<=64)(hk:k<15):
  (zO W H (qI k).2 (qI k).1 L).length=13/\kA (zO W H (qI k).2 (qI k).1 L)=none/\be4 (zO W H (qI k).2 (qI k).1 L) 0=W/\be4 (zO W H (qI k).2 (qI k).1 L) 4=H/\
   gb (zO W H (qI k).2 (qI k).1 L) 8=(qI k).2/\gb (zO W H (qI k).2 (qI k).1 L) 9=(qI k).1:=by
 obtain⟨hD,hC⟩:=vV hk;have hc0:=(kB hk).1;generalize(qI k).2=D at*;generalize(qI k).1=C at*;have e0:be4 (zO W H D C L) 0=W:=by
  unfold zO;rw[List.append_assoc,yH (by show 0+4<=4;decide)];exact vA oQ
 have e4:be4 (zO W H D C L) 4=H:=by
  have:be4 (zO W H D C L) 4=be4 (xI H) 0:=rfl;rw[this];exact vA oQ
 have e8:gb (zO W H D C L) 8=D:=by
  have:gb (zO W H D C L) 8=(UInt8.ofNat D).toNat:=rfl;rw[this,UInt8.toNat_ofNat'];omega
 have e9:gb (zO W H D C L) 9=C:=by
  have:gb (zO W H D C L) 9=(UInt8.ofNat C).toNat:=rfl;rw[this,UInt8.toNat_ofNat'];omega
 refine⟨rfl,?_,e0,e4,e8,e9⟩;unfold kA;rw[if_neg (by show¬(0:Nat)≠0;omega),if_neg (by show¬(0:Nat)≠0;omega),if_neg (by cases L;(show¬((0:Nat)≠0/\(0:Nat)≠1));decide;(show¬((1:Nat)≠0/\(1:Nat)≠1));decide),if_neg oQ,if_neg oQ,e8,e9,if_neg hc0]
def eG(x:Value)(kb:Nat):Dec:={rd:=x,img:= .nilIface,crc:= .pointer (some ⟨kb,0,none⟩),W:=0,H:=0,D:=0,pal:=⟨none,0,0⟩,cb:=0,stage:=0,idat:=0,tmp:=List.replicate 768 0,lace:=0,useT:=false,tr:=List.replicate 6 0}
theorem qDo(x:Value)(kb:Nat):pX Pg 119 [(0,.agg #[x]),(2,.agg #[.pointer (some ⟨kb,0,none⟩)])]=(eG x kb).arr:=by kernel_rfl
theorem qGl:zc Pg 113= #[.int .u32 0]:=by kernel_rfl
namespace Dst
variable{db rb kb crc:Nat}{p:pQ}{d:Dec}{rest:bQ}{b:Bool}
theorem goodIHDR{W H k:Nat}{L:Bool}(h:Dst w db rb kb p d crc (qV zJ (zO W H (qI k).2 (qI k).1 L)++rest))(hs:d.stage=0)(hW:1<=W/\W<=64)(hH:1<=H/\H<=64)(hk:k<15):
  CallT Pg 60 #[.pointer (some ⟨db,0,none⟩),.bool b] w fun v w'=>v= .nilIface/\Fr [rb,kb,db] w w'/\∃tmp crc',Dst w' db rb kb p {d with stage:=1,W:=W,H:=H,D:=(qI k).2,cb:=cbN (qI k).1 (qI k).2,lace:=if L then 1 else 0,tmp:=tmp} crc' rest:=by
 obtain⟨hl,hv,e0,e4,e8,e9⟩:=bJ (L:=L) hW hH hk;have e12:gb (zO W H (qI k).2 (qI k).1 L) 12=if L then 1 else 0:=by cases L<;>rfl
 generalize zO W H (qI k).2 (qI k).1 L=hd at*;obtain⟨a1,a2,a3,a4⟩:=zX (nm:=zJ) (d:=hd) (rest:=rest) rfl oQ;have hc:=jN (zJ++hd);obtain⟨b1,b2,b3,b4⟩:=kL (d:=hd) (rest:=rest) hc;refine h.c60 oQ ?_;intro w1 tmp s F n h1;rw[a2]at h1⊢;rw[a3]at h1;rw[a1,hl];rw[show zT d zJ= .call 75 1 by unfold zT;rw[if_pos rfl,if_neg (by simp[hs])]];show s=1 ->_;rintro rfl;rw[hl]at b1 b2 b3 b4;refine CallT.mono (h1.c75 oQ ?_) ?_
 ·intro h2 h3
  rw[show be4 (hd++(xI (vU (zJ++hd))++rest)) 0=be4 hd 0 from yH oQ,show be4 (hd++(xI (vU (zJ++hd))++rest)) 4=be4 hd 4 from yH oQ,e0,e4];have:W*H<=64*64:=Nat.mul_le_mul hW.2 hH.2;omega
 ·rintro v w' ⟨F',n',hm⟩
  rw[b1,hv]at hm;obtain⟨hm,tmp',ht',hd'⟩:=hm;rw[b2,uL,if_pos rfl]at hm;refine⟨hm,F.trans F',tmp',zR (zR 0 zJ) hd,?_⟩;have e17:(hd++(xI (vU (zJ++hd))++rest)).drop 17=rest:=b3;rw[e17]at hd';unfold Dec.head at hd';rw[e0,e4,e8,e9,e12]at hd'
  cases L<;>exact hd'
theorem goodPLTE{D:Nat}{pal:List Px}(h:Dst w db rb kb p d crc (qV vE (xM pal)++rest))(hs:d.stage=1)(hD:d.D=D)(hD':D=1\/D=2\/D=4\/D=8\/D=16)(hcb:7<=d.cb/\d.cb<=10)(hp0:0<pal.length)(hp2:pal.length<=256)(hpD:pal.length<=2^D):
  CallT Pg 60 #[.pointer (some ⟨db,0,none⟩),.bool b] w fun v w'=>v= .nilIface/\Fr [rb,kb,db] w w'/\∃tmp crc' pl,Dst w' db rb kb p {d with stage:=2,pal:=pl,tmp:=tmp} crc' rest/\uC w' db pl pal.length (jC (xM pal) pal.length):=by
 have hsl:=vI pal;obtain⟨a1,a2,a3,a4⟩:=zX (nm:=vE) (d:=xM pal) (rest:=rest) rfl oQ;have hc:=jN (vE++xM pal);obtain⟨b1,b2,b3,b4⟩:=kL (d:=xM pal) (rest:=rest) hc;refine h.c60 oQ ?_;intro w1 tmp s F n h1;rw[a2]at h1⊢;rw[a3]at h1;rw[a1];rw[show zT d vE= .call 76 2 by unfold zT;rw[if_neg dQ,if_pos rfl,if_neg (by simp[hs])]];show s=2 ->_;rintro rfl;refine CallT.mono (h1.c76 (D:=D) oQ hD hD' (by dsimp only;omega) (fun _ =>by omega)) ?_;rintro v w' hm;rw[if_neg oQ,b1,b2,b3,uL,if_pos rfl]at hm;obtain⟨F',rfl,tmp',pl,ht',hd',hp'⟩:=hm;refine⟨rfl,F.trans F',tmp',_,pl,hd',?_⟩;rw[show(xM pal).length/3=pal.length by omega]at hp';exact hp'
theorem goodTRNS{n:Nat}{cs:List (Bool×Px)}{al:bQ}(h:Dst w db rb kb p d crc (qV zC al++rest))(hs:d.stage=2)(hcb:7<=d.cb/\d.cb<=10)(hpal:uC w db d.pal n cs)(hcs:∀c∈cs,c.1=false)(ha0:0<al.length)(ha2:al.length<=256):
  CallT Pg 60 #[.pointer (some ⟨db,0,none⟩),.bool b] w fun v w'=>v= .nilIface/\(∀g,d.pal.a=some ⟨g,0,none⟩ ->Fr [rb,kb,db,g] w w')/\∃tmp crc' pl,Dst w' db rb kb p {d with stage:=3,pal:=pl,tmp:=tmp} crc' rest/\pl.a=d.pal.a/\uC w' db pl (max n al.length) (gD al cs):=by
 obtain⟨a1,a2,a3,a4⟩:=zX (nm:=zC) (d:=al) (rest:=rest) rfl oQ;have hc:=jN (zC++al);obtain⟨b1,b2,b3,b4⟩:=kL (d:=al) (rest:=rest) hc;refine h.c60 oQ ?_;intro w1 tmp s F n h1;rw[a2]at h1⊢;rw[a3]at h1;rw[a1];rw[show zT d zC= .call 78 3 by unfold zT;rw[if_neg dQ,if_neg dQ,if_pos rfl,if_pos hcb,if_neg (by simp[hs])]];show s=3 ->_;rintro rfl;have hne:=h.ne;obtain⟨g,hpe,hg,hrow,hcl,hn⟩:=hpal;have hrow1:=F.row hrow (by simp;omega);refine CallT.mono (h1.c78P (len:=al.length) ⟨g,hpe,hg,hrow1,hcl,hn⟩ hcs oQ ha0 (by dsimp only;omega) (fun _ =>by omega)) ?_;rintro v w' hm;rw[if_neg oQ,b1,b2,b3,uL,if_pos rfl]at hm;obtain⟨F',rfl,tmp',pl,ht',hpa,hd',hp'⟩:=hm;exact⟨rfl,fun g hg=>(F.mono sQ).trans (F' g hg),tmp',_,pl,hd',hpa,hp'⟩
end Dst
theorem zK{b:Bool}{X:Prop}(h:b=true)(hX:X):yE b X:=by subst h;exact hX
def kC(w:wQ)(db:Nat):Int:=match atR (hp w db) 8 with|some (.int _ s)=>s|_ =>0
theorem Dst.stage_eq{db rb kb crc:Nat}{p:pQ}{d:Dec}{rs:bQ}(h:Dst w db rb kb p d crc rs):kC w db=d.stage:=by
 unfold kC;rw[h.dec,atR_Row,show d.arr[8]? =_ from Dec.at8 d]
theorem gL(r:bQ):(sigL++r).take 8=sigL:=rfl
theorem gK(r:bQ):(sigL++r).drop 8=r:=rfl
theorem tG(bs:bQ)(n:Nat):∀c∈jC bs n,c.1=false:=by
 intro c hc;simp only[jC,List.mem_map]at hc;obtain⟨i,_,rfl⟩:=hc
 split<;>rfl
end
def wp193(x0:Addr)(x1:pQ)(x1l:Nat)(x1c:Nat)(R:vPq)(w:wQ):Prop:=IfC ((x1l:Int)==0) (R (.tuple #[iQq 0,.nilIface]) w) (xB (fun(q:(Unit) ->World ->Prop)=>q (()) w) (fun X b r=>LdI b (aQq x0 9) .u32 fun s=>IfC (s==0) (CallT Pg 81 #[.pointer (some x0)] b fun t h=>∃e,And (t=e) (xR e fun u=>IfC (!u) (R (.tuple #[iQq 0,e]) h) (qO h fun i=>LdV i x0 fun v=>And (0<=(8:Int)/\(8:Int)<=(768:Int)) (CallT Pg 71 #[v,.slice (some (aQq x0 10)) 8 768] i fun y j=>∃z f,And (y= .tuple #[iQq z,f]) (xR f fun A=>IfC (!A) (R (.tuple #[iQq 0,f]) j) (And (0<=(4:Int)/\(4:Int)<=(768:Int)) (CallT Pg 72 #[.slice (some (aQq x0 10)) 4 768] j fun B C=>∃k,And (B= .int .u32 k) (qB C (aQq x0 9) (.int .u32 k) fun c=>And (0<=(8:Int)/\(8:Int)<=(768:Int)) (And (0<=(4:Int)/\(4:Int)<=(8:Int)) (B2S Pg c (some ⟨x0.block,x0.off+10+4,none⟩) 4 764 fun D=>IfC (!(vK D ⟨#[73,68,65,84]⟩)) (R (.tuple #[iQq 0,.iface 125 (.string ⟨#[110,111,116,32,101,110,111,117,103,104,32,112,105,120,101,108,32,100,97,116,97]⟩)]) c) (LdP c (aQq x0 2) fun E=>CallT Pg 73 #[.pointer E] c fun F G=>And (F= .tuple #[]) (qO G fun l=>LdP l (aQq x0 2) fun H=>And (0<=(8:Int)/\(8:Int)<=(768:Int)) (And (0<=(4:Int)/\(4:Int)<=(8:Int)) (CallT Pg 74 #[.pointer H,.slice (some ⟨x0.block,x0.off+10+4,none⟩) 4 764] l fun I J=>∃K L,And (I= .tuple #[iQq K,L]) (r (()) J))))))))))))))) (LdI b (aQq x0 9) .u32 fun M=>IfC (decide ((wIq M)<(0:Int))) (R (.tuple #[iQq 0,.iface 126 (.string ⟨#[73,68,65,84,32,99,104,117,110,107,32,108,101,110,103,116,104,32,111,118,101,114,102,108,111,119]⟩)]) b) (qO b fun d=>LdV d x0 fun m=>LdI d (aQq x0 9) .u32 fun g=>And (0<=yU (x1l:Int) (wIq g)/\yU (x1l:Int) (wIq g)<=(x1c:Int)) (VNil Pg d m fun Y=>vG Pg Gg d m "Read" [.slice x1 ((yU (x1l:Int) (wIq g)).toNat) x1c] fun N O=>∃a n,And (N= .tuple #[iQq a,n]) (qO O fun o=>LdP o (aQq x0 2) fun P=>And (0<=a/\a<=(x1c:Int)) (CallT Pg 74 #[.pointer P,.slice x1 a.toNat x1c] o fun Q p=>∃S T,And (Q= .tuple #[iQq S,T]) (LdI p (aQq x0 9) .u32 fun U=>qB p (aQq x0 9) (.int .u32 (wrap .u32 (U -(wrap .u32 a)))) fun V=>R (.tuple #[iQq a,n]) V))))))))
theorem call193{x0:Addr}{x1:pQ}{x1l:Nat}{x1c:Nat}{R:vPq}{w:wQ}(h:wp193 x0 x1 x1l x1c R w):CallT Pg 193 #[.pointer (some x0),.slice x1 x1l x1c] w R:=cVq [(12,[],[0,1])] Tryz.func193 h
section
variable{w:wQ}
inductive Flow:Nat ->Nat ->bQ ->bQ ->Nat×Nat×bQ ->Prop
 |done (k c:Nat) (rs:bQ):Flow k c rs [] (k,c,rs)
 |byte {k c:Nat} {y:UInt8} {rs ys:bQ} {s:Nat×Nat×bQ}:Flow k (zR c [y]) rs ys s ->Flow (k+1) c (y::rs) (y::ys) s
 |next {c:Nat} {rs ys:bQ} {s:Nat×Nat×bQ}:0<be4 rs 4 ->12<=rs.length ->be4 rs 0=c ->(rs.drop 8).take 4=nIDAT ->Flow (be4 rs 4) (zR 0 nIDAT) (rs.drop 12) ys s ->Flow 0 c rs ys s
def fB(s:Nat×Nat×bQ):Prop:=s.1=0\/s.2.2=[]
theorem Flow.take{s:Nat×Nat×bQ}(he:fB s):∀{n k c:Nat} {rs ys:bQ},Flow k c rs ys s ->n<=k ->n<=rs.length ->
  n<=ys.length/\ys.take n=rs.take n/\Flow (k -n) (zR c (rs.take n)) (rs.drop n) (ys.drop n) s:=by
 intro n
 induction n with
 |zero=>
  intro k c rs ys h _ _;refine⟨oQ,rfl,?_⟩;have:zR c []=c:=by simp[zR,gW,Nat.xor_assoc]
  simpa [this]using h
 |succ n ih=>
  intro k c rs ys h hk hr
  cases h with
  |done=>
   rcases he with he|he
   ·simp at he;omega
   ·simp at he;subst he;simp at hr
  |byte h'=>
   rename_i k' y rs' ys'
   obtain⟨h1,h2,h3⟩:=ih h' oQ (by simp at hr;omega);refine⟨by simp;omega,by simp[h2],?_⟩;rw[show k'+1 -(n+1)=k' -n by omega];have:zR c (y::rs'.take n)=zR (zR c [y]) (rs'.take n):=by rw[mM];rfl
   simp only[List.take_succ_cons,List.drop_succ_cons];rw[this];exact h3
  |next=>omega
def left(w:wQ)(rb:Nat):Nat:=match atR (hp w rb) 0,atR (hp w rb) 1 with|some (.slice _ l _),some (.int _ pos)=>((l:Int) -pos).toNat|_,_ =>0
theorem RdAt.left_eq{rb:Nat}{p:pQ}{rs:bQ}(h:RdAt w rb p rs):left w rb=rs.length:=by
 obtain⟨l,c,pos,pr,xs,h1,_,hl,_,_,hp,rfl⟩:=h;unfold left;rw[h1];simp only[atR_Row,List.getElem?_toArray,List.getElem?_cons_zero,List.getElem?_cons_succ,List.length_drop];omega
def SameD(d d':Dec):Prop:=∃tmp idat,d'={d with tmp:=tmp,idat:=idat}
theorem SameD.refl(d:Dec):SameD d d:=⟨d.tmp,d.idat,rfl⟩
theorem SameD.trans{a b c:Dec}(h:SameD a b)(h':SameD b c):SameD a c:=by
 obtain⟨t,i,rfl⟩:=h;obtain⟨t',i',rfl⟩:=h';exact⟨t',i',rfl⟩
theorem Dst.c193{db rb kb crc k g o n cap:Nat}{p:pQ}{d:Dec}{rs ys:bQ}{s:Nat×Nat×bQ}{T:TypeId}{arr:vQ}(h:Dst w db rb kb p d crc rs)(hk:d.idat=k)(hk32:k<4294967296)(hF:Flow k crc rs ys s)(he:fB s)(hy:ys≠[])
  (hg:hp w g=Row T arr)(hdg:db<g)(ho:o+n<=arr.size)(hn0:0<n)(hnb:n<1099511627776)(hnc:n<=cap):
  CallT Pg 193 #[.pointer (some ⟨db,0,none⟩),.slice (some ⟨g,o,none⟩) n cap] w fun v w'=>∃m,0<m/\m<=n/\m<=ys.length/\v= .tuple #[.int .i64 m,.nilIface]/\Fr [rb,kb,db,g] w w'/\hn w'=hn w/\
   (∃arr',hp w' g=Row T arr'/\Put arr o (bv (ys.take m)) arr')/\∃d' k' crc' rs',SameD d d'/\Dst w' db rb kb p d' crc' rs'/\d'.idat=(k':Nat)/\k'<4294967296/\Flow k' crc' rs' (ys.drop m) s:=by
 have hne:=h.ne;apply call193;unfold wp193 aQq wIq iQq;refine qW (fun e=>absurd e oQ) (fun _ => ?_);refine qP (fun _ w'=>Fr [rb,kb,db] w w'/\hn w'=hn w/\∃d' k' crc' rs',SameD d d'/\Dst w' db rb kb p d' crc' rs'/\d'.idat=(k':Nat)/\k'<4294967296/\Flow k' crc' rs' ys s) (fun _ w'=>left w' rb) ⟨Fr.refl _ _,rfl,d,k,crc,rs,SameD.refl d,h,hk,hk32,hF⟩ ?_;rintro⟨⟩ w2 ⟨F2,n2,d2,k2,crc2,rs2,hsd,D2,hk2,hk232,hF2⟩;refine qC D2.dec (Dec.at9 _) ?_;rw[hk2];refine qW (fun e=> ?_) (fun e=> ?_)
 ·
  have hk0:k2=0:=oQ;subst hk0
  cases hF2 with
  |done=>exact absurd rfl hy
  |next hpos h12 hb4 hnm hF3=>
   rename_i _
   refine CallT.mono (D2.c81 oQ) ?_;rintro _ w7 ⟨hv,D7,f7,n7⟩;rw[if_pos hb4]at hv;subst hv;refine⟨_,rfl,qR (qM ?_)⟩;refine qE fun w10 f10 n10=> ?_;have D10:=D7.fr0 f10;refine qT D10.dec (Dec.at0 _) ⟨⟨dQ,dQ⟩,?_⟩;refine CallT.mono (D10.read (n:=8) dQ dQ (by simp;omega)) ?_;rintro _ w13 ⟨rfl,D13,f13,n13⟩;refine⟨_,_,rfl,qR (qM ⟨⟨dQ,dQ⟩,?_⟩)⟩;refine CallT.mono (D13.be4r (o:=0) rfl dQ dQ) ?_;rintro _ w18 ⟨rfl,f18,n18⟩;have D18:=D13.fr0 f18;refine⟨_,rfl,?_⟩;have ht8:((rs2.drop 4).take 8).length=8:=by simp;omega
   have e4:be4 ((rs2.drop 4).take 8++(rs2.take 4++d2.tmp.drop 4).drop 8) 0=be4 rs2 4:=by
    rw[yH oQ,vP oQ];simp[be4,gb,List.getD,List.getElem?_drop]
   dsimp only;rw[e4];refine qD D18.dec (by show 0+9<_;rw[Dec.size,D18.htmp,D18.htr];decide) fun w20 h20 f20 n20=> ?_;have D20:=D18.upd (d':={d2 with tmp:=(rs2.drop 4).take 8++(rs2.take 4++d2.tmp.drop 4).drop 8,idat:=be4 rs2 4}) f20 (h20.trans (congrArg (Row 119) (Dec.set9 _ _))) rfl rfl D18.htmp D18.htr;have enm:(((rs2.drop 4).take 8++(rs2.take 4++d2.tmp.drop 4).drop 8).drop 4).take 4=nIDAT:=by
    rw[List.drop_append_of_le_length oQ,List.take_append_of_le_length (by simp;omega),<-hnm,List.drop_take,List.take_take,List.drop_drop]
    rfl
   have hnb2:=Dec.has _ D20.dec 4 4;rw[enm]at hnb2;refine⟨⟨dQ,dQ⟩,⟨dQ,dQ⟩,rM hnb2 rfl ?_⟩;rw[show vK ⟨nIDAT.toArray⟩ ⟨#[73,68,65,84]⟩=true from(uH nIDAT nIDAT).trans sQ];refine qM ?_;refine zZ D20.dec ((Dec.at2 _).trans (congrArg some D20.ck)) ?_;refine CallT.mono (c73 D20.sum) ?_;rintro _ w24 ⟨rfl,hk24,f24,n24⟩;have D24:Dst w24 db rb kb p {d2 with tmp:=(rs2.drop 4).take 8++(rs2.take 4++d2.tmp.drop 4).drop 8,idat:=be4 rs2 4} 0 ((rs2.drop 4).drop 8):=
    ⟨f24.row1 D20.dec oQ,D20.htmp,D20.htr,D20.rd,D20.ck,D20.at_.fr f24 (by simp;omega) (fun a ha=>by have:=hne.2.1 a ha;simp;omega),hk24,dQ,D20.tab.fr f24 (by simp;omega),hne⟩
   refine⟨rfl,qE fun w25 f25 n25=> ?_⟩;have D25:=D24.fr0 f25;refine zZ D25.dec ((Dec.at2 _).trans (congrArg some D25.ck)) ⟨⟨dQ,dQ⟩,⟨dQ,dQ⟩,?_⟩;refine CallT.mono (D25.sums (o:=4) (n:=4) rfl dQ) ?_;rintro _ w28 ⟨rfl,D28,f28,n28⟩;have enm':((({d2 with tmp:=(rs2.drop 4).take 8++(rs2.take 4++d2.tmp.drop 4).drop 8,idat:=be4 rs2 4}:Dec).tmp.drop 4).take 4)=nIDAT:=enm;rw[enm',List.drop_drop]at D28;refine⟨_,_,rfl,?_⟩;have hl2:=D2.at_.left_eq;have hl28:=D28.at_.left_eq;refine⟨⟨F2.trans ((f7.mono sQ).trans ((f10.mono sQ).trans ((f13.mono sQ).trans ((f18.mono sQ).trans ((f20.mono sQ).trans ((f24.mono sQ).trans ((f25.mono sQ).trans (f28.mono sQ)))))))),oQ,_,be4 rs2 4,_,_,hsd.trans ⟨_,_,rfl⟩,D28,rfl,iB _ _,hF3⟩,?_⟩;rw[hl2,hl28,List.length_drop];omega
 ·
  have hk0:0<k2:=oQ;have hr0:rs2≠[]:=by
   intro e;subst e
   cases hF2 with
   |done=>exact hy rfl
   |next _ h12=>simp at h12
  have hr1:0<rs2.length:=by
   cases rs2 with
   |nil=>exact absurd rfl hr0
   |cons=>simp
  refine qC D2.dec (Dec.at9 _) ?_;rw[hk2,qA (n:=(k2:Int)) oQ oQ];refine qF (fun h=>absurd h oQ) (fun _ => ?_);refine qE fun w32 f32 n32=> ?_;have D32:=D2.fr0 f32;refine qT D32.dec (Dec.at0 _) (qC D32.dec (Dec.at9 _) ?_);rw[hk2,qA (n:=(k2:Int)) oQ oQ,kT,Int.toNat_natCast];refine⟨⟨oQ,oQ⟩,?_⟩;rw[D32.rd];have hg32:=f32.row0 (F2.row hg (by simp;omega));show vG _ _ _ _ _ _ _;refine⟨85,.pointer (some ⟨rb,0,none⟩),189,.pointer (some ⟨rb,0,none⟩),rfl,rfl,?_⟩;show CallT Pg 189 #[.pointer (some ⟨rb,0,none⟩),.slice (some ⟨g,o,none⟩) (min n k2) cap] w32 _;refine CallT.mono (c189 D32.at_ hg32 oQ oQ (fun a ha=>by have:=hne.2.1 a ha;omega) (fun a ha=>by have:=hne.2.1 a ha;omega) hr0) ?_;rintro _ w37 ⟨rfl,hr37,f37,n37,arr',hg37,hp37⟩;generalize hm:min rs2.length (min n k2)=m at*;have hm0:0<m:=oQ;have hmk:m<=k2:=oQ;have hmr:m<=rs2.length:=oQ;obtain⟨hmy,htk,hF3⟩:=hF2.take he hmk hmr;have hdm:rs2.drop (min n k2)=rs2.drop m:=by
   rcases Nat.le_total (min n k2) rs2.length with h|h
   ·rw[show m=min n k2 by omega]
   ·rw[List.drop_eq_nil_of_le h,List.drop_eq_nil_of_le oQ]
  have htm:rs2.take (min n k2)=rs2.take m:=by
   rcases Nat.le_total (min n k2) rs2.length with h|h
   ·rw[show m=min n k2 by omega]
   ·rw[List.take_of_length_le h,List.take_of_length_le oQ]
  rw[hdm]at hr37;rw[htm]at hp37;have D37:Dst w37 db rb kb p d2 crc2 (rs2.drop m):=
   ⟨f37.row D32.dec (by simp;omega),D32.htmp,D32.htr,D32.rd,D32.ck,hr37,f37.row D32.sum (by simp;omega),D32.crc32,D32.tab.fr f37 (by simp;omega),hne⟩
  refine⟨_,_,rfl,qE fun w40 f40 n40=> ?_⟩;have D40:=D37.fr0 f40;have hg40:=f40.row0 hg37;refine zZ D40.dec ((Dec.at2 _).trans (congrArg some D40.ck)) ⟨⟨oQ,oQ⟩,?_⟩;rw[Int.toNat_natCast];have hlen:(rs2.take m).length=m:=by simp;omega
  have hhas:Has w40 (some ⟨g,o,none⟩) (bv (rs2.take m)):=by
   refine⟨rfl,T,arr',hg40,fun j v hj=> ?_⟩;have hjl:j<(bv (rs2.take m)).length:=(List.getElem?_eq_some_iff.1 hj).1;rw[hp37.2 (o+j),if_pos oQ,show o+j -o=j by omega];exact hj
  refine CallT.mono (c74 (l:=m) D40.sum D40.crc32 D40.tab hhas hlen.symm oQ) ?_;rintro _ w43 ⟨rfl,hk43,f43,n43⟩;have D43:Dst w43 db rb kb p d2 (zR crc2 (rs2.take m)) (rs2.drop m):=
   ⟨f43.row1 D40.dec oQ,D40.htmp,D40.htr,D40.rd,D40.ck,D40.at_.fr f43 (by simp;omega) (fun a ha=>by have:=hne.2.1 a ha;simp;omega),hk43,iF D40.crc32 _,D40.tab.fr f43 (by simp;omega),hne⟩
  have hg43:=f43.row1 hg40 oQ;refine⟨_,_,rfl,qC D43.dec (Dec.at9 _) ?_⟩;have ek:wrap .u32 (d2.idat -wrap .u32 (m:Int))=((k2 -m:Nat):Int):=by
   rw[hk2,xV (n:=(m:Int)) oQ oQ,xV oQ oQ];omega
  rw[ek];refine qD D43.dec (by show 0+9<_;rw[Dec.size,D43.htmp,D43.htr];decide) fun w47 h47 f47 n47=> ?_;have D47:=D43.upd (d':={d2 with idat:=(k2 -m:Nat)}) f47 (h47.trans (congrArg (Row 119) (Dec.set9 _ _))) rfl rfl D43.htmp D43.htr;refine⟨m,hm0,oQ,hmy,rfl,?_,oQ,⟨arr',f47.row1 hg43 (by show g≠db;omega),?_⟩,_,k2 -m,_,_,hsd.trans ⟨_,_,rfl⟩,D47,rfl,oQ,hF3⟩
  ·exact(F2.mono sQ).trans ((f32.mono sQ).trans ((f37.mono sQ).trans ((f40.mono sQ).trans ((f43.mono sQ).trans (f47.mono sQ)))))
  ·rw[htk];exact hp37
end
def wp252(x0:Addr)(R:vPq)(w:wQ):Prop:=xH (fun(V:(Unit)) (u:wQ)=>xH (fun(X:(Unit)) (v:wQ)=>xB (fun(y:(Int×Unit) ->World ->Prop)=>y (100,()) v) (fun m h z=>IfC (decide (m.1>(0:Int))) (qO h fun a=>LdV a (aQq x0 1) fun n=>qS a x0 fun A o p=>LdI a (aQq x0 3) .i64 fun b=>And (0<=b/\b<=(o:Int)) (VNil Pg a n fun Y=>vG Pg Gg a n "Read" [.slice (qQ A p b.toNat 1) (o -b.toNat) (p -b.toNat)] fun B q=>∃e f,And (B= .tuple #[iQq e,f]) (xH (fun(Z:(Unit)) (r:wQ)=>LdI r (aQq x0 3) .i64 fun C=>qB r (aQq x0 3) (iQq (wIq (C+e))) fun i=>xR f fun D=>IfC (!D) (yE (Value.oneCell' f) (qB i (aQq x0 4) f fun E=>R (.tuple #[]) E)) (IfC (decide (e>(0:Int))) (R (.tuple #[]) i) (z (wIq (m.1 -1),()) i))) (fun F=>IfC (decide (e<(0:Int))) (LdV q ⟨12,0,none⟩ fun aa=>False) (F (()) q))))) (LdV h ⟨5,0,none⟩ fun s=>yE (Value.oneCell' s) (qB h (aQq x0 4) s fun G=>R (.tuple #[]) G)))) (fun H=>qO u fun j=>LdI j (aQq x0 3) .i64 fun I=>qS j x0 fun ab J ac=>IfC (decide (I>=(J:Int))) (False) (H (()) j))) (fun t=>LdI w (aQq x0 2) .i64 fun K=>IfC (decide (K>(0:Int))) (qO w fun c=>qS c x0 fun L M N=>qS c x0 fun O ad k=>LdI c (aQq x0 2) .i64 fun d=>LdI c (aQq x0 3) .i64 fun g=>And (0<=g/\g<=(k:Int)) (And (0<=d/\d<=g) (jQ Pg c #[33,33] 3 (.slice L M N) (.slice (qQ O k d.toNat 1) (g.toNat -d.toNat) (k -d.toNat)) fun ae P=>qO P fun l=>LdI l (aQq x0 3) .i64 fun Q=>LdI l (aQq x0 2) .i64 fun S=>qB l (aQq x0 3) (iQq (wIq (Q -S))) fun T=>qB T (aQq x0 2) (iQq 0) fun U=>t (()) U))) (t (()) w))
theorem call252{x0:Addr}{R:vPq}{w:wQ}(h:wp252 x0 R w):CallT Pg 252 #[.pointer (some x0)] w R:=cVq [(0,[],[0]),(10,[],[0]),(20,[(2,.i .i64)],[0]),(31,[],[0,2,3,4])] Tryz.func252 h
def wp250(x0:Addr)(R:vPq)(w:wQ):Prop:=qB w (aQq x0 6) (iQq (-1:Int)) fun f=>xB (fun(g:(Unit) ->World ->Prop)=>g (()) f) (fun z h i=>qO h fun a=>LdI a (aQq x0 2) .i64 fun j=>LdI a (aQq x0 3) .i64 fun k=>IfC (j==k) (LdV a (aQq x0 4) fun l=>xR l fun m=>IfC (!m) (CallT Pg 254 #[.pointer (some x0)] a fun n o=>∃d,And (n=d) (R (.tuple #[.int .u8 0,d]) o)) (CallT Pg 252 #[.pointer (some x0)] a fun p q=>And (p= .tuple #[]) (i (()) q))) (qO a fun b=>qS b x0 fun r s A=>LdI b (aQq x0 2) .i64 fun c=>And (0<=c/\c<(s:Int)) (qN r fun t=>LdI b (qH t c.toNat 1) .u8 fun e=>LdI b (aQq x0 2) .i64 fun u=>qB b (aQq x0 2) (iQq (wIq (u+1))) fun v=>qB v (aQq x0 5) (iQq (wIq e)) fun y=>R (.tuple #[.int .u8 e,.nilIface]) y)))
theorem call250{x0:Addr}{R:vPq}{w:wQ}(h:wp250 x0 R w):CallT Pg 250 #[.pointer (some x0)] w R:=cVq [(6,[],[0])] Tryz.func250 h
def wp254(x0:Addr)(R:vPq)(w:wQ):Prop:=LdV w (aQq x0 4) fun a=>qB w (aQq x0 4) .nilIface fun b=>R (a:Value) b
theorem call254{x0:Addr}{R:vPq}{w:wQ}(h:wp254 x0 R w):CallT Pg 254 #[.pointer (some x0)] w R:=cVq [] Tryz.func254 h
def wp249(x0:Addr)(x1:pQ)(x1l:Nat)(x1c:Nat)(R:vPq)(w:wQ):Prop:=IfC ((x1l:Int)==0) (CallT Pg 253 #[.pointer (some x0)] w fun D o=>∃p,And (D=iQq p) (IfC (decide (p>(0:Int))) (R (.tuple #[iQq 0,.nilIface]) o) (CallT Pg 254 #[.pointer (some x0)] o fun E F=>∃q,And (E=q) (R (.tuple #[iQq 0,q]) F)))) (xH (fun(ba:(Unit)) (G:wQ)=>qO G fun d=>qS d x0 fun H bb i=>LdI d (aQq x0 2) .i64 fun c=>LdI d (aQq x0 3) .i64 fun e=>And (0<=e/\e<=(i:Int)) (And (0<=c/\c<=e) (jQ Pg d #[33,33] 3 (.slice x1 x1l x1c) (.slice (qQ H i c.toNat 1) (e.toNat -c.toNat) (i -c.toNat)) fun r s=>LdI s (aQq x0 2) .i64 fun I=>qB s (aQq x0 2) (iQq (wIq (I+r))) fun J=>qO J fun f=>qS f x0 fun K L bc=>LdI f (aQq x0 2) .i64 fun j=>And (0<=wIq (j -1)/\wIq (j -1)<(L:Int)) (qN K fun M=>LdI f (qH M ((wIq (j -1)).toNat) 1) .u8 fun N=>qB f (aQq x0 5) (iQq (wIq N)) fun O=>qB O (aQq x0 6) (iQq (-1:Int)) fun P=>R (.tuple #[iQq r,.nilIface]) P)))) (fun t=>qO w fun a=>LdI a (aQq x0 2) .i64 fun Q=>LdI a (aQq x0 3) .i64 fun S=>IfC (Q==S) (LdV a (aQq x0 4) fun T=>xR T fun U=>IfC (!U) (CallT Pg 254 #[.pointer (some x0)] a fun V X=>∃u,And (V=u) (R (.tuple #[iQq 0,u]) X)) (qS a x0 fun bd Y be=>IfC (decide ((x1l:Int)>=(Y:Int))) (LdV a (aQq x0 1) fun Z=>vG Pg Gg a Z "Read" [.slice x1 x1l x1c] fun aa ab=>∃b k,And (aa= .tuple #[iQq b,k]) (yE (Value.oneCell' k) (qB ab (aQq x0 4) k fun v=>xH (fun(bf:(Unit)) (l:wQ)=>IfC (decide (b>(0:Int))) (And (0<=wIq (b -1)/\wIq (b -1)<(x1l:Int)) (qN x1 fun ac=>LdI l (qH ac ((wIq (b -1)).toNat) 1) .u8 fun ad=>qB l (aQq x0 5) (iQq (wIq ad)) fun ae=>qB ae (aQq x0 6) (iQq (-1:Int)) fun af=>CallT Pg 254 #[.pointer (some x0)] af fun ag ah=>∃y,And (ag=y) (R (.tuple #[iQq b,y]) ah))) (CallT Pg 254 #[.pointer (some x0)] l fun ai aj=>∃z,And (ai=z) (R (.tuple #[iQq b,z]) aj))) (fun ak=>IfC (decide (b<(0:Int))) (LdV v ⟨12,0,none⟩ fun bg=>False) (ak (()) v))))) (qB a (aQq x0 2) (iQq 0) fun al=>qB al (aQq x0 3) (iQq 0) fun am=>qO am fun g=>LdV g (aQq x0 1) fun A=>qS g x0 fun ao ap aq=>VNil Pg g A fun bh=>vG Pg Gg g A "Read" [.slice ao ap aq] fun ar au=>∃h m,And (ar= .tuple #[iQq h,m]) (yE (Value.oneCell' m) (qB au (aQq x0 4) m fun B=>xH (fun(bi:(Unit)) (n:wQ)=>IfC (h==0) (CallT Pg 254 #[.pointer (some x0)] n fun av aw=>∃C,And (av=C) (R (.tuple #[iQq 0,C]) aw)) (LdI n (aQq x0 3) .i64 fun ax=>qB n (aQq x0 3) (iQq (wIq (ax+h))) fun ay=>t (()) ay)) (fun az=>IfC (decide (h<(0:Int))) (LdV B ⟨12,0,none⟩ fun bj=>False) (az (()) B))))))) (t (()) a)))
theorem call249{x0:Addr}{x1:pQ}{x1l:Nat}{x1c:Nat}{R:vPq}{w:wQ}(h:wp249 x0 x1 x1l x1c R w):CallT Pg 249 #[.pointer (some x0),.slice x1 x1l x1c] w R:=cVq [(20,[],[0,1]),(38,[],[0,1,4]),(62,[],[0,1,4])] Tryz.func249 h
section
variable{w:wQ}
def xL(gb db:Nat)(r e lb lr:Int):vQ:= #[.slice (some ⟨gb,0,none⟩) 4096 4096,.iface 110 (.pointer (some ⟨db,0,none⟩)),.int .i64 r,.int .i64 e,.nilIface,.int .i64 lb,.int .i64 lr]
structure SrcB (w:wQ) (bb gb db rb kb:Nat) (p:pQ) (d:Dec) (B zs:bQ) (s:Nat×Nat×bQ):Prop where
 buf:∃(r:Nat) (lb lr:Int) (arr:vQ),hp w bb=Row 293 (xL gb db r (r+B.length:Nat) lb lr)/\hp w gb=Row 5 arr/\arr.size=4096/\r+B.length<=4096/\∀(j:Nat) (v:Value),(bv B)[j]? =some v ->arr[r+j]? =some v
 dec:∃(dd:Dec) (k crc:Nat) (rs:bQ),SameD d dd/\Dst w db rb kb p dd crc rs/\dd.idat=(k:Nat)/\k<4294967296/\Flow k crc rs zs s
 ord:db<bb/\bb<gb
 end_ : fB s
def Src(w:wQ)(bb gb db rb kb:Nat)(p:pQ)(d:Dec)(ys:bQ)(s:Nat×Nat×bQ):Prop:=∃B zs,ys=B++zs/\SrcB w bb gb db rb kb p d B zs s
theorem rE{g o c n:Nat}{T:TypeId}{arr:vQ}(h:hp w g=Row T arr):Has w (qQ (some ⟨g,o,none⟩) c n 1) (bv []):=by
 unfold qQ
 split
 ·exact⟨rfl,T,arr,h,sQ⟩
 ·rw[Option.map_some,yQ];exact⟨rfl,T,arr,h,sQ⟩
section
variable{bb gb db rb kb:Nat}{p:pQ}{d:Dec}{B zs ys:bQ}{s:Nat×Nat×bQ}{w':wQ}
theorem SrcB.fr{S:List Nat}(h:SrcB w bb gb db rb kb p d B zs s)(hf:Fr S w w')(hS:∀x∈S,gb<x):SrcB w' bb gb db rb kb p d B zs s:=by
 obtain⟨r,lb,lr,arr,h1,h2,h3⟩:=h.buf;obtain⟨dd,k,crc,rs,e1,e2,e3⟩:=h.dec;have ho:=h.ord;exact⟨⟨r,lb,lr,arr,hf.row h1 (fun hx=>by have:=hS _ hx;omega),hf.row h2 (fun hx=>by have:=hS _ hx;omega),h3⟩,⟨dd,k,crc,rs,e1,e2.fr hf (fun x hx=>by have:=hS _ hx;omega),e3⟩,h.ord,h.end_⟩
theorem Src.fr{S:List Nat}(h:Src w bb gb db rb kb p d ys s)(hf:Fr S w w')(hS:∀x∈S,gb<x):Src w' bb gb db rb kb p d ys s:=by
 obtain⟨B,zs,rfl,h⟩:=h;exact⟨B,zs,rfl,h.fr hf hS⟩
theorem SrcB.c252(h:SrcB w bb gb db rb kb p d [] zs s)(hz:zs≠[]):
  CallT Pg 252 #[.pointer (some ⟨bb,0,none⟩)] w fun v w'=>v= .tuple #[]/\Fr [rb,kb,db,bb,gb] w w'/\hn w'=hn w/\∃m,0<m/\m<=zs.length/\SrcB w' bb gb db rb kb p d (zs.take m) (zs.drop m) s:=by
 obtain⟨r,lb,lr,arr,hB,hG,hsz,_,_⟩:=h.buf;obtain⟨dd,k,crc,rs,hsd,D,hk,hk32,hF⟩:=h.dec;have ho:=h.ord;have hne:=D.ne;simp only[List.length_nil,Nat.add_zero]at hB;apply call252;unfold wp252 aQq wIq iQq;dsimp only;refine qJ (fun _ w'=>Fr [bb,gb] w w'/\hn w'=hn w/\hp w' bb=Row 293 (xL gb db 0 0 lb lr)/\∃arr',hp w' gb=Row 5 arr'/\arr'.size=4096) ?_ ?_
 ·rintro⟨⟩ w2 ⟨F2,n2,hB2,arr2,hG2,hs2⟩
  refine qJ (fun _ w'=>Fr [] w2 w'/\hn w'=hn w2) ?_ ?_
  ·rintro⟨⟩ w5 ⟨f5,n5⟩
   refine qP (fun z w'=>z.1=100/\w'=w5) (fun _ _ =>0) ⟨rfl,rfl⟩ ?_;rintro⟨_,⟨⟩⟩ w8 ⟨rfl,rfl⟩;refine qF (fun _ => ?_) (fun h=>absurd dQ h);refine qE fun w11 f11 n11=> ?_;have F11:Fr [bb,gb] w w11:=F2.trans ((f5.trans f11).mono sQ);have hB11:=f11.row0 (f5.row0 hB2);have hG11:=f11.row0 (f5.row0 hG2);have D11:=D.fr F11 (by simp;omega);refine qT hB11 rfl (qK hB11 rfl (qC hB11 rfl ⟨⟨dQ,dQ⟩,?_⟩));show vG _ _ _ _ _ _ _;refine⟨110,.pointer (some ⟨db,0,none⟩),193,.pointer (some ⟨db,0,none⟩),rfl,rfl,?_⟩;show CallT Pg 193 #[.pointer (some ⟨db,0,none⟩),.slice (qQ (some ⟨gb,0,none⟩) 4096 0 1) 4096 4096] w11 _;rw[vX];refine CallT.mono (D11.c193 hk hk32 hF h.end_ hz hG11 oQ oQ dQ dQ dQ) ?_;rintro _ w19 ⟨m,hm0,hm4,hmz,rfl,F19,n19,⟨arr3,hG19,hp19⟩,dd',k',crc',rs',hsd',D19,hk',hk32',hF'⟩;refine⟨_,_,rfl,?_⟩;have hB19:=F19.row hB11 (by simp;omega);refine qJ (fun _ w'=>w'=w19) ?_ ?_
   ·rintro⟨⟩ w23 rfl
    refine qC hB19 rfl ?_;rw[qA oQ oQ,Int.zero_add];refine qD hB19 (by simp[xL]) fun w26 h26 f26 n26=> ?_;refine qR (qM (qF (fun _ =>⟨rfl,?_,oQ,m,hm0,hmz,?_⟩) (fun h=>absurd oQ h)))
    ·exact(F11.mono sQ).trans ((F19.mono sQ).trans (f26.mono sQ))
    ·have htl:(zs.take m).length=m:=by simp;omega
     refine⟨⟨0,lb,lr,arr3,?_,f26.row1 hG19 oQ,by rw[hp19.1];exact hs2,oQ,fun j v hj=> ?_⟩,⟨dd',k',crc',rs',hsd.trans hsd',D19.fr f26 (by simp;omega),hk',hk32',hF'⟩,ho,h.end_⟩
     ·rw[h26,htl];simp[xL]
     ·have hjl:=(List.getElem?_eq_some_iff.1 hj).1
      rw[hp19.2 (0+j),if_pos oQ,show 0+j -0=j by omega];exact hj
   ·intro J hJ
    exact qF (fun h=>absurd h oQ) (fun _ =>hJ _ _ rfl)
  ·intro J hJ
   refine qE fun w32 f32 n32=> ?_;have hB32:=f32.row0 hB2;refine qC hB32 rfl (qK hB32 rfl (qF (fun h=>absurd h dQ) (fun _ =>hJ _ _ ⟨f32,n32⟩)))
 ·intro J hJ
  refine qC hB rfl (qF (fun hr=> ?_) (fun hr=> ?_))
  ·refine qE fun w38 f38 n38=> ?_
   have hB38:=f38.row0 hB;have hG38:=f38.row0 hG;have hr4:r<=4096:=by have:=h.buf;omega
   refine qK hB38 rfl (qK hB38 rfl (qC hB38 rfl (qC hB38 rfl ⟨⟨oQ,oQ⟩,⟨oQ,oQ⟩,?_⟩)));rw[Nat.sub_self];refine uG hG38 oQ (xs:=[]) (rE hG38) rfl dQ ?_;intro w48 arr' hG48 hs48 _ f48 n48;refine qE fun w49 f49 n49=> ?_;have hB49:=f49.row0 (f48.row1 hB38 oQ);have hG49:=f49.row0 hG48;refine qC hB49 rfl (qC hB49 rfl ?_);rw[Int.sub_self,show wrap .i64 0=0 from rfl];refine qD hB49 (by simp[xL]) fun w52 h52 f52 n52=> ?_;refine qD h52 (by simp[xL]) fun w53 h53 f53 n53=> ?_;refine hJ _ _ ⟨?_,oQ,by simpa [xL]using h53,arr',f53.row1 (f52.row1 hG49 oQ) oQ,oQ⟩;exact(f38.mono sQ).trans ((f48.mono sQ).trans ((f49.mono sQ).trans ((f52.mono sQ).trans (f53.mono sQ))))
  ·have:r=0:=oQ
   subst this;exact hJ _ _ ⟨Fr.refl _ _,rfl,hB,arr,hG,hsz⟩
def mtB(w:wQ)(bb:Nat):Nat:=match atR (hp w bb) 2,atR (hp w bb) 3 with|some (.int _ a),some (.int _ b)=>if a=b then 1 else 0|_,_ =>0
theorem SrcB.mt(h:SrcB w bb gb db rb kb p d B zs s):mtB w bb=if B=[]then 1 else 0:=by
 obtain⟨r,lb,lr,arr,hB,_⟩:=h.buf;unfold mtB;rw[hB];simp only[atR_Row,xL,List.getElem?_toArray,List.getElem?_cons_zero,List.getElem?_cons_succ]
 cases B with
 |nil=>simp
 |cons a b=>simp;omega
theorem Src.c250{y:UInt8}(h:Src w bb gb db rb kb p d (y::ys) s):
  CallT Pg 250 #[.pointer (some ⟨bb,0,none⟩)] w fun v w'=>v= .tuple #[.int .u8 y.toNat,.nilIface]/\Fr [rb,kb,db,bb,gb] w w'/\hn w'=hn w/\Src w' bb gb db rb kb p d ys s:=by
 obtain⟨B,zs,hys,h⟩:=h;obtain⟨r,lb,lr,arr,hB,hG,hsz,hr4,hx⟩:=h.buf;have ho:=h.ord;obtain⟨_,_,_,_,_,D0,_⟩:=h.dec;have hne:=D0.ne;apply call250;unfold wp250 aQq wIq iQq;dsimp only;refine qD hB (by simp[xL]) fun w1 h1 f1 n1=> ?_;have S1:SrcB w1 bb gb db rb kb p d B zs s:=by
  obtain⟨dd,k,crc,rs,e1,e2,e3⟩:=h.dec;exact⟨⟨r,lb,-1,arr,by rw[h1];simp[xL],f1.row1 hG oQ,hsz,hr4,hx⟩,⟨dd,k,crc,rs,e1,e2.fr f1 (by simp;omega),e3⟩,ho,h.end_⟩
 refine qP (fun _ w'=>Fr [rb,kb,db,bb,gb] w w'/\hn w'=hn w/\∃B zs,y::ys=B++zs/\SrcB w' bb gb db rb kb p d B zs s) (fun _ w'=>mtB w' bb) ⟨f1.mono sQ,n1,B,zs,hys,S1⟩ ?_;rintro⟨⟩ w3 ⟨F3,n3,B3,zs3,hy3,S3⟩;obtain⟨r3,lb3,lr3,arr3,hB3,hG3,hsz3,hr43,hx3⟩:=S3.buf;refine qE fun w6 f6 n6=> ?_;have S6:=S3.fr f6 sQ;have hB6:=f6.row0 hB3;have hG6:=f6.row0 hG3;refine qC hB6 rfl (qC hB6 rfl (qW (fun e=> ?_) (fun e=> ?_)))
 ·have hB0:B3=[]:=by
   cases B3 with
   |nil=>rfl
   |cons a b=>simp at e;omega
  subst hB0;refine qT hB6 rfl (qR (qM ?_));refine CallT.mono (S6.c252 (by intro e;subst e;simp at hy3)) ?_;rintro _ w15 ⟨rfl,F15,n15,m,hm0,hmz,S15⟩;refine⟨rfl,⟨F3.trans ((f6.mono sQ).trans F15),oQ,_,_,by simpa using hy3,S15⟩,?_⟩;have hnil:¬(zs3.take m=[]):=by
   intro e;have:(zs3.take m).length=m:=by simp;omega
   rw[e]at this;simp at this;omega
  rw[S15.mt,if_neg hnil,S3.mt,if_pos rfl]
  decide
 ·cases B3 with
  |nil=>simp at e
  |cons b B4=>
   simp only[List.cons_append,List.cons.injEq]at hy3;obtain⟨rfl,hy4⟩:=hy3;refine qE fun w16 f16 n16=> ?_;have hB16:=f16.row0 hB6;have hG16:=f16.row0 hG6;simp only[List.length_cons]at hr43;refine qK hB16 rfl (qC hB16 rfl ⟨⟨oQ,oQ⟩,?_⟩);rw[PtrC_some,elemAt_one,Int.toNat_natCast,Nat.zero_add];have hv:=hx3 0 (u8v y) sQ;rw[Nat.add_zero]at hv;refine qC hG16 hv (qC hB16 rfl ?_);rw[qA (n:=(r3:Int)+1) oQ oQ];refine qD hB16 (by simp[xL]) fun w24 h24 f24 n24=> ?_;refine qD h24 (by simp[xL]) fun w25 h25 f25 n25=> ?_;obtain⟨dd,k,crc,rs,e1,e2,e3⟩:=S6.dec;refine⟨rfl,F3.trans ((f6.mono sQ).trans ((f16.mono sQ).trans ((f24.mono sQ).trans (f25.mono sQ)))),oQ,B4,zs3,hy4,⟨r3+1,wrap .i64 (y.toNat:Int),lr3,arr3,?_,f25.row1 (f24.row1 hG16 oQ) oQ,hsz3,oQ,fun j v hj=> ?_⟩,⟨dd,k,crc,rs,e1,((e2.fr0 f16).fr f24 (by simp;omega)).fr f25 (by simp;omega),e3⟩,ho,h.end_⟩
   ·have e:((r3+(y::B4).length:Nat):Int)=((r3+1+B4.length:Nat):Int):=by simp only[List.length_cons];omega
    rw[h25,e];simp[xL]
   ·have:=hx3 (j+1) v (by simpa using hj)
    rw[show r3+1+j=r3+(j+1) by omega];exact this
theorem c254{r e lb lr:Int}(hB:hp w bb=Row 293 (xL gb db r e lb lr)):CallT Pg 254 #[.pointer (some ⟨bb,0,none⟩)] w fun v w'=>v= .nilIface/\hp w' bb=Row 293 (xL gb db r e lb lr)/\Fr [bb] w w'/\hn w'=hn w:=by
 apply call254;unfold wp254 aQq;dsimp only;refine qT hB rfl (qD hB (by simp[xL]) fun w2 h2 f2 n2=>⟨rfl,by simpa [xL]using h2,f2,n2⟩)
theorem Put.at{arr arr':vQ}{o:Nat}{vs:List Value}(h:Put arr o vs arr'){j:Nat}{v:Value}(hv:vs[j]? =some v):arr'[o+j]? =some v:=by
 have hj:=(List.getElem?_eq_some_iff.1 hv).1;rw[h.2 (o+j),if_pos oQ,show o+j -o=j by omega];exact hv
theorem Put.app{arr arr1 arr2:vQ}{o:Nat}{vs1 vs2:List Value}(h1:Put arr o vs1 arr1)(h2:Put arr1 (o+vs1.length) vs2 arr2):Put arr o (vs1++vs2) arr2:=by
 refine⟨h2.1.trans h1.1,fun j=> ?_⟩;rw[h2.2 j,List.length_append]
 split
 ·rename_i hj
  rw[if_pos oQ,List.getElem?_append_right oQ]
  congr 1;omega
 ·rename_i hj
  rw[h1.2 j]
  split
  ·rename_i hj2
   rw[if_pos oQ,List.getElem?_append_left oQ]
  ·rw[if_neg oQ]
theorem Put.nil(arr:vQ)(o:Nat):Put arr o [] arr:=⟨rfl,fun j=>by rw[if_neg sQ]⟩
theorem sS{db g o n cap:Nat}{p:pQ}{w:wQ}{K:vPq}(h:CallT Pg 193 #[.pointer (some ⟨db,0,none⟩),.slice p n cap] w K):vG Pg Gg w (.iface 110 (.pointer (some ⟨db,0,none⟩))) "Read" [.slice p n cap] K:=
 ⟨110,.pointer (some ⟨db,0,none⟩),193,.pointer (some ⟨db,0,none⟩),rfl,rfl,h⟩
theorem Src.c249{g o n cap:Nat}{T:TypeId}{arr:vQ}(h:Src w bb gb db rb kb p d ys s)(hy:ys≠[])(hg:hp w g=Row T arr)(hdg:db<g)(hgb:g≠bb)(hgg:g≠gb)(ho:o+n<=arr.size)(hn0:0<n)(hnb:n<1099511627776)(hnc:n<=cap):
  CallT Pg 249 #[.pointer (some ⟨bb,0,none⟩),.slice (some ⟨g,o,none⟩) n cap] w fun v w'=>∃m,0<m/\m<=n/\m<=ys.length/\v= .tuple #[.int .i64 m,.nilIface]/\Fr [rb,kb,db,bb,gb,g] w w'/\hn w'=hn w/\
   (∃arr',hp w' g=Row T arr'/\Put arr o (bv (ys.take m)) arr')/\Src w' bb gb db rb kb p d (ys.drop m) s:=by
 obtain⟨B,zs,rfl,S⟩:=h;have hord:=S.ord;obtain⟨_,_,_,_,_,D0,_⟩:=S.dec;have hne:=D0.ne;apply call249;unfold wp249 aQq wIq iQq;dsimp only;refine qW (fun e=>absurd e oQ) (fun _ => ?_);refine qJ (fun _ w'=>Fr [rb,kb,db,bb,gb] w w'/\hn w'=hn w/\∃B' zs',B++zs=B'++zs'/\B'≠[]/\SrcB w' bb gb db rb kb p d B' zs' s) ?_ ?_
 ·rintro⟨⟩ w8 ⟨F8,n8,B',zs',hB',hne',S8⟩
  rw[hB'];refine qE fun w10 f10 n10=> ?_;have S10:=S8.fr f10 sQ;obtain⟨r,lb,lr,ar,hB10,hG10,hsz,hr4,hx⟩:=S10.buf;have hg10:=f10.row0 (F8.row hg (by simp;omega));have hbl:0<B'.length:=by
   cases B' with
   |nil=>exact absurd rfl hne'
   |cons=>simp
  refine qK hB10 rfl (qC hB10 rfl (qC hB10 rfl ⟨⟨oQ,oQ⟩,⟨oQ,oQ⟩,?_⟩));rw[Int.toNat_natCast,Int.toNat_natCast,show r+B'.length -r=B'.length by omega,slAdd_one _ _ _ _ oQ,Nat.zero_add];refine uG hg10 oQ (q:=some ⟨gb,r,none⟩) (xs:=B') ⟨rfl,5,ar,hG10,hx⟩ rfl oQ ?_;intro w17 arr' hg17 hs17 hj17 f17 n17;generalize hm:min B'.length n=m at*;have hm0:0<m:=oQ;have hB17:=f17.row1 hB10 (fun e=>hgb e.symm);have hG17:=f17.row1 hG10 (fun e=>hgg e.symm);refine qC hB17 rfl ?_;rw[show(r:Int)+(m:Int)=((r+m:Nat):Int) by omega,qA (n:=((r+m:Nat):Int)) oQ oQ];refine qD hB17 (by simp[xL]) fun w19 h19 f19 n19=> ?_;refine qE fun w20 f20 n20=> ?_;have hB20:hp w20 bb=Row 293 (xL gb db (r+m:Nat) (r+B'.length:Nat) lb lr):=by simpa [xL]using f20.row0 h19
  have hG20:=f20.row0 (f19.row1 hG17 oQ);refine qK hB20 rfl (qC hB20 rfl ?_);have e1:wrap .i64 (((r+m:Nat):Int) -1)=((r+(m -1):Nat):Int):=by rw[qA oQ oQ];omega
  rw[e1];refine⟨⟨oQ,oQ⟩,?_⟩;rw[PtrC_some,elemAt_one,Int.toNat_natCast,Nat.zero_add];obtain⟨y,hyv⟩:∃y,B'[m -1]? =some y:=⟨_,List.getElem?_eq_getElem oQ⟩;refine qC hG20 (hx (m -1) (u8v y) (by rw[kM,hyv];rfl)) ?_;refine qD hB20 (by simp[xL]) fun w27 h27 f27 n27=> ?_;refine qD h27 (by simp[xL]) fun w28 h28 f28 n28=> ?_;have hmB:m<=B'.length:=oQ;have hF:Fr [rb,kb,db,bb,gb,g] w w28:=(F8.mono sQ).trans ((f10.mono sQ).trans ((f17.mono sQ).trans ((f19.mono sQ).trans ((f20.mono sQ).trans ((f27.mono sQ).trans (f28.mono sQ))))));have htk:(B'++zs').take m=B'.take m:=by rw[List.take_append_of_le_length hmB]
  refine⟨m,hm0,oQ,by simp;omega,rfl,hF,oQ,⟨arr',?_,hs17,?_⟩,B'.drop m,zs',by rw[List.drop_append_of_le_length hmB],?_⟩
  ·exact f28.row1 (f27.row1 (f20.row0 (f19.row1 hg17 hgb)) hgb) hgb
  ·intro j
   rw[hj17 j,htk];have e2:(bv (B'.take m)).length=m:=by simp;omega
   rw[e2]
   split
   ·rename_i hj
    simp only[bv,List.map_take,List.getElem?_take];rw[if_pos oQ]
   ·rfl
  ·obtain⟨dd,k,crc,rs,q1,q2,q3⟩:=S10.dec
   refine⟨⟨r+m,wrap .i64 (y.toNat:Int),-1,ar,?_,f28.row1 (f27.row1 hG20 oQ) oQ,hsz,by simp;omega,fun j v hj=> ?_⟩,⟨dd,k,crc,rs,q1,((((q2.fr f17 (by simp;omega)).fr f19 (by simp;omega)).fr0 f20).fr f27 (by simp;omega)).fr f28 (by simp;omega),q3⟩,hord,S10.end_⟩
   ·rw[h28]
    have:r+m+(B'.length -m)=r+B'.length:=oQ;simp[xL,this]
   ·have:=hx (m+j) v (by simpa [bv,List.map_drop,List.getElem?_drop]using hj)
    rw[show r+m+j=r+(m+j) by omega];exact this
 ·intro J hJ
  refine qE fun w29 f29 n29=> ?_;have S29:=S.fr f29 sQ;obtain⟨r,lb,lr,ar,hB29,hG29,hsz,hr4,hx⟩:=S29.buf;have hg29:=f29.row0 hg;refine qC hB29 rfl (qC hB29 rfl (qW (fun e=> ?_) (fun e=> ?_)))
  ·have hB0:B=[]:=by
    cases B with
    |nil=>rfl
    |cons a b=>simp at e;omega
   subst hB0;have hz:zs≠[]:=by simpa using hy
   obtain⟨dd,k,crc,rs,q1,q2,q3,q4,q5⟩:=S29.dec;refine qT hB29 rfl (qR (qM (qK hB29 rfl (qF (fun hbig=> ?_) (fun hsm=> ?_)))))
   ·refine qT hB29 rfl (sS (g:=g) (o:=o) ?_)
    refine CallT.mono (q2.c193 q3 q4 q5 S29.end_ hz hg29 hdg ho hn0 hnb hnc) ?_;rintro _ w42 ⟨m,hm0,hmn,hmz,rfl,F42,n42,⟨arr3,hg42,hp42⟩,dd',k',crc',rs',q1',D42,q3',q4',q5'⟩;refine⟨_,_,rfl,zK (by simp[Value.oneCell']) ?_⟩;have hB42:=F42.row hB29 (by simp;omega);have hG42:=F42.row hG29 (by simp;omega);refine qD hB42 (by simp[xL]) fun w45 h45 f45 n45=> ?_;have hB45:hp w45 bb=Row 293 (xL gb db r (r+([]:bQ).length:Nat) lb lr):=by simpa [xL]using h45
    have hg45:=f45.row1 hg42 hgb;refine qJ (fun _ w'=>w'=w45) ?_ ?_
    ·rintro⟨⟩ w47 rfl
     refine qF (fun _ => ?_) (fun h=>absurd oQ h);have e1:wrap .i64 ((m:Int) -1)=((m -1:Nat):Int):=by rw[qA oQ oQ];omega
     rw[e1];refine⟨⟨oQ,oQ⟩,?_⟩;rw[PtrC_some,elemAt_one,Int.toNat_natCast];obtain⟨y,hyv⟩:∃y,(zs.take m)[m -1]? =some y:=⟨_,List.getElem?_eq_getElem (by simp;omega)⟩;refine qC hg45 (hp42.at (j:=m -1) (v:=u8v y) (by rw[kM,hyv];rfl)) ?_;refine qD hB45 (by simp[xL]) fun w51 h51 f51 n51=> ?_;refine qD h51 (by simp[xL]) fun w52 h52 f52 n52=> ?_;have hB52:hp w52 bb=Row 293 (xL gb db r (r+([]:bQ).length:Nat) (wrap .i64 (y.toNat:Int)) (-1)):=by simpa [xL,u8v]using h52
     refine CallT.mono (c254 hB52) ?_;rintro _ w54 ⟨rfl,hB54,f54,n54⟩;refine⟨_,rfl,m,hm0,hmn,by simpa using hmz,rfl,?_,oQ,⟨arr3,f54.row1 (f52.row1 (f51.row1 hg45 hgb) hgb) hgb,by simpa using hp42⟩,[],zs.drop m,rfl,?_⟩
     ·exact(f29.mono sQ).trans ((F42.mono sQ).trans ((f45.mono sQ).trans ((f51.mono sQ).trans ((f52.mono sQ).trans (f54.mono sQ)))))
     ·refine⟨⟨r,_,_,ar,hB54,f54.row1 (f52.row1 (f51.row1 (f45.row1 hG42 oQ) oQ) oQ) oQ,hsz,hr4,sQ⟩,⟨dd',k',crc',rs',q1.trans q1',(((D42.fr f45 (by simp;omega)).fr f51 (by simp;omega)).fr f52 (by simp;omega)).fr f54 (by simp;omega),q3',q4',q5'⟩,hord,S29.end_⟩
    ·intro J' hJ'
     exact qF (fun h=>absurd h oQ) (fun _ =>hJ' _ _ rfl)
   ·refine qD hB29 (by simp[xL]) fun w60 h60 f60 n60=> ?_
    refine qD h60 (by simp[xL]) fun w61 h61 f61 n61=> ?_;refine qE fun w62 f62 n62=> ?_;have hB62:hp w62 bb=Row 293 (xL gb db 0 0 lb lr):=by simpa [xL]using f62.row0 h61
    have hG62:=f62.row0 (f61.row1 (f60.row1 hG29 oQ) oQ);have D62:=(((q2.fr f60 (by simp;omega)).fr f61 (by simp;omega)).fr0 f62);refine qT hB62 rfl (qK hB62 rfl ?_);show vG _ _ _ _ _ _ _;refine sS (g:=gb) (o:=0) ?_;refine CallT.mono (D62.c193 q3 q4 q5 S29.end_ hz hG62 oQ oQ dQ dQ dQ) ?_;rintro _ w69 ⟨m,hm0,hmn,hmz,rfl,F69,n69,⟨arr3,hG69,hp69⟩,dd',k',crc',rs',q1',D69,q3',q4',q5'⟩;refine⟨_,_,rfl,zK (by simp[Value.oneCell']) ?_⟩;have hB69:=F69.row hB62 (by simp;omega);refine qD hB69 (by simp[xL]) fun w72 h72 f72 n72=> ?_;have hB72:hp w72 bb=Row 293 (xL gb db 0 0 lb lr):=by simpa [xL]using h72
    refine qJ (fun _ w'=>w'=w72) ?_ ?_
    ·rintro⟨⟩ w74 rfl
     refine qW (fun h=>absurd h oQ) (fun _ =>qC hB72 rfl ?_);rw[Int.zero_add,qA (n:=(m:Int)) oQ oQ];refine qD hB72 (by simp[xL]) fun w80 h80 f80 n80=> ?_;have htl:(zs.take m).length=m:=by simp;omega
     refine hJ _ _ ⟨?_,oQ,zs.take m,zs.drop m,sQ,fun e=>by rw[e]at htl;simp at htl;omega,?_⟩
     ·exact(f29.mono sQ).trans ((f60.mono sQ).trans ((f61.mono sQ).trans ((f62.mono sQ).trans ((F69.mono sQ).trans ((f72.mono sQ).trans (f80.mono sQ))))))
     ·refine⟨⟨0,lb,lr,arr3,by rw[h80,htl];simp[xL],f80.row1 (f72.row1 hG69 oQ) oQ,by rw[hp69.1];exact hsz,oQ,fun j v hj=>hp69.at hj⟩,⟨dd',k',crc',rs',q1.trans q1',(D69.fr f72 (by simp;omega)).fr f80 (by simp;omega),q3',q4',q5'⟩,hord,S29.end_⟩
    ·intro J' hJ'
     exact qF (fun h=>absurd h oQ) (fun _ =>hJ' _ _ rfl)
  ·refine hJ _ _ ⟨f29.mono sQ,n29,B,zs,rfl,fun h=> ?_,S29⟩
   subst h;simp at e
theorem Src.c71{g o n cap:Nat}{T:TypeId}{arr:vQ}(h:Src w bb gb db rb kb p d ys s)(hg:hp w g=Row T arr)(hdg:db<g)(hgb:g≠bb)(hgg:g≠gb)(ho:o+n<=arr.size)(hn0:0<n)(hnb:n<1099511627776)(hnc:n<=cap)(hny:n<=ys.length):
  CallT Pg 71 #[.iface 257 (.pointer (some ⟨bb,0,none⟩)),.slice (some ⟨g,o,none⟩) n cap] w fun v w'=>v= .tuple #[.int .i64 n,.nilIface]/\Fr [rb,kb,db,bb,gb,g] w w'/\hn w'=hn w/\
   (∃arr',hp w' g=Row T arr'/\Put arr o (bv (ys.take n)) arr')/\Src w' bb gb db rb kb p d (ys.drop n) s:=by
 apply call71;unfold wp71 iQq;refine CallT.mono (R:=fun v w'=>v= .tuple #[.int .i64 n,.nilIface]/\Fr [rb,kb,db,bb,gb,g] w w'/\hn w'=hn w/\(∃arr',hp w' g=Row T arr'/\Put arr o (bv (ys.take n)) arr')/\Src w' bb gb db rb kb p d (ys.drop n) s) ?_ ?_
 ·apply call91
  unfold wp91 wIq iQq;refine qF (fun h=>absurd h oQ) (fun _ => ?_);refine qJ (fun z w'=>z=((n:Int),.nilIface,())/\Fr [rb,kb,db,bb,gb,g] w w'/\hn w'=hn w/\(∃arr',hp w' g=Row T arr'/\Put arr o (bv (ys.take n)) arr')/\Src w' bb gb db rb kb p d (ys.drop n) s) ?_ ?_
  ·rintro z w' ⟨rfl,h⟩
   exact qF (fun _ =>⟨rfl,h⟩) (fun h=>absurd (Int.le_refl _) h)
  ·intro J hJ
   refine qP (fun z w'=>∃i:Nat,z=((i:Int),.nilIface,())/\i<=n/\Fr [rb,kb,db,bb,gb,g] w w'/\hn w'=hn w/\(∃arr',hp w' g=Row T arr'/\Put arr o (bv (ys.take i)) arr')/\Src w' bb gb db rb kb p d (ys.drop i) s) (fun z _ =>n -z.1.toNat)
    ⟨0,rfl,oQ,Fr.refl _ _,rfl,⟨arr,hg,Put.nil _ _⟩,h⟩ ?_
   rintro z w' ⟨i,rfl,hi,F,hn',⟨arr1,hg1,hp1⟩,S1⟩;have hil:(ys.take i).length=i:=by simp;omega
   refine qJ (fun _ w''=>w''=w'/\i<n) ?_ ?_
   ·rintro⟨⟩ _ ⟨rfl,hlt⟩
    refine qE fun w1 f1 n1=>⟨⟨oQ,by dsimp only;omega⟩,_,_,rfl,rfl,257,.pointer (some ⟨bb,0,none⟩),249,.pointer (some ⟨bb,0,none⟩),rfl,rfl,?_⟩;show CallT Pg 249 #[.pointer (some ⟨bb,0,none⟩),.slice (qQ (some ⟨g,o,none⟩) cap (i:Int).toNat 1) (n -(i:Int).toNat) (cap -(i:Int).toNat)] w1 _;rw[Int.toNat_natCast,slAdd_one _ _ _ _ oQ];have hsz1:=hp1.1;refine CallT.mono (Src.c249 (S1.fr f1 sQ) (by intro e;have:=congrArg List.length e;simp at this;omega) (f1.row0 hg1) hdg hgb hgg oQ oQ oQ oQ) ?_;rintro _ w2 ⟨m,hm0,hmn,hmy,rfl,F2,n2,⟨arr2,hg2,hp2⟩,S2⟩;have hmy':i+m<=ys.length:=by simp at hmy;omega
    have e1:wrap .i64 ((i:Int)+(m:Int))=((i+m:Nat):Int):=by rw[qA oQ oQ];omega
    dsimp only;refine⟨_,_,rfl,?_⟩;rw[e1];refine⟨⟨i+m,rfl,oQ,F.trans ((f1.mono sQ).trans F2),oQ,⟨arr2,hg2,?_⟩,?_⟩,oQ⟩
    ·have:ys.take (i+m)=ys.take i++(ys.drop i).take m:=by rw[List.take_add]
     rw[this,bv_append];refine hp1.app ?_;rw[bv_length,hil];exact hp2
    ·rw[List.drop_drop]at S2;exact S2
   ·intro J' hJ'
    refine qF (fun hlt=>qR (xA (hJ' _ _ ⟨rfl,by dsimp only at hlt;omega⟩))) (fun hge=> ?_);have:i=n:=by dsimp only at hge;omega
    subst this;exact hJ _ _ ⟨rfl,F,hn',⟨arr1,hg1,hp1⟩,S1⟩
 ·rintro _ w' ⟨rfl,h⟩
  exact⟨_,_,rfl,rfl,h⟩
end
end
end Go.Proofs
