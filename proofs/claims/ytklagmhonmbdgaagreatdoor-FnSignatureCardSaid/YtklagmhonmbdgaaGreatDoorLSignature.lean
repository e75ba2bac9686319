/- Contracts of the law and of what it walks -/
import Derived.Test.YtklagmhonmbdgaaGreatDoorK4
set_option maxRecDepth 1000000
set_option linter.unusedVariables false
set_option linter.unusedSimpArgs false
set_option maxHeartbeats 4000000
namespace Go.Proofs
open Go Go.V
open Go.IntKind (wrap)
section
variable{w w' w0:wQ}{rb db kb crc k W H:Nat}{L:Bool}{p:pQ}{E:Er}{pal:List Px}{cl:List Nat}{d:Dec}
structure Env (w:wQ) (E:Er):Prop where
 tab:Tab w
 errs:Errs w E
 lo:E.n0<=hn w
 lace:LaceAt w E.n0
 ety:ETyp w
theorem Env.fr0(h:Env w E)(f:Fr [] w w'):Env w' E:=⟨h.tab.fr f sQ,h.errs.fr f sQ,Nat.le_trans h.lo f.size,h.lace.fr f (by have:=h.errs.low;omega) sQ,h.ety.fr0 f⟩
end
section
variable{w w0 w1 w2:wQ}{rb db kb crc k W H:Nat}{L:Bool}{p q:pQ}{E:Er}{pal:List Px}{cl:List Nat}{d:Dec}
end
section
variable{w w' w0:wQ}{E:Er}{Q Q':Nat ->Prop}
structure Made (k W H:Nat) (L:Bool) (pal:List Px) (cl:List Nat) (fl xs zs d0:bQ) (dr:List (bQ)):Prop where
 hk:k<15
 hW:1<=W/\W<=20
 hH:1<=H/\H<=20
 ok:yW (qE k).2 (qE k).1 pal cl
 rows:RowsOf (mH W H (qE k).2 (qE k).1 L) (gF fl) xs
 zl:tE xs zs
 flat:(d0::dr).flatten=zs
 ne:∀x∈d0::dr,x≠[]
 zlen:zs.length<=2097152
 xlen:xs.length<32768
def xV(k W H:Nat)(L:Bool)(pal:List Px)(cl:List Nat)(d0:bQ)(dr:List (bQ)):List Ch:=zK W H (qE k).2 (qE k).1 L pal cl++xZ (d0::dr)++[(xW,[])]
section
variable{k W H:Nat}{L:Bool}{pal:List Px}{cl:List Nat}{fl xs zs d0:bQ}{dr:List (bQ)}
theorem Made.okc(M:Made k W H L pal cl fl xs zs d0 dr):kA (xV k W H L pal cl d0 dr)/\(qU (xV k W H L pal cl d0 dr)).length<1099511627776:=by
 have hzp:0<zs.length:=by
  obtain⟨_,_,_,_,hz⟩:=M.zl;rw[hz];simp
 obtain⟨_,h1,h2,_⟩:=nJ (W:=W) (H:=H) (L:=L) M.hk M.ok hzp M.zlen M.flat M.ne;exact⟨h1,h2⟩
theorem Made.whole{q:pQ}{l c:Nat}{file:bQ}(M:Made k W H L pal cl fl xs zs d0 dr)(hV:Env w E)(hf:file=qU (xV k W H L pal cl d0 dr))(hx:Has w q (bv file))(hl:l=file.length):CallT Pg 28 #[.slice q l c] w fun v w'=>v= .bool true/\Fr [] w w':=
 qCy hf hx hl (by rw[hl,hf];exact M.okc.2) hV.tab hV.errs hV.lo hV.lace hV.ety M.hk M.hW M.hH M.ok M.rows M.zl M.flat M.ne M.zlen M.xlen
end
theorem nU{k W H:Nat}{L:Bool}{pal:List Px}{cl:List Nat}{v:Value}(hk:k<15)(hW:1<=W/\W<=20)(hH:1<=H/\H<=20)(hok:yW (qE k).2 (qE k).1 pal cl)(hF:oR w0 W H (qE k).2 (qE k).1 L pal cl v w):
  ∃fl xs zs d0 dr,Made k W H L pal cl fl xs zs d0 dr/\dL w0 (qU (xV k W H L pal cl d0 dr)) v w:=by
 obtain⟨fs,xs,zs,ds,_,hrows,hZ,hds,hne,hzl,hR⟩:=hF;have hD16:(qE k).2<=16:=by have:=(vO hk).1;omega
 cases ds with
 |nil=>
  obtain⟨bl,out,_,_,hz⟩:=hZ;rw[hz]at hds;simp at hds
 |cons d0 dr=>exact⟨fs,xs,zs,d0,dr,⟨hk,hW,hH,hok,hrows,hZ,hds,hne,hzl,aS hrows hW.2 hH.2 hD16⟩,hR⟩
theorem rA{p:pQ}{l c:Nat}{R:vPq}{X:World ->Prop}(hR:R (.bool true) w)(hX:l<=1000 ->X w):
  CallT Pg 22 #[.slice p l c] w fun v w2=>Exists fun b:Bool=>And (v= .bool b) (IfC (!b) (R (.bool true) w2) (X w2)):=by
 refine CallT.mono c22 ?_;rintro v w2 ⟨rfl,rfl⟩;refine⟨_,rfl,?_⟩
 by_cases h:l<=1000
 ·rw[decide_eq_true h];exact hX h
 ·rw[decide_eq_false h];exact hR
end
section
variable{w w' w0:wQ}{E:Er}{k W H:Nat}{L:Bool}{pal:List Px}{cl:List Nat}{fl xs zs d0:bQ}{dr:List (bQ)}{p q:pQ}{l c c':Nat}{cs:List Ch}{hd dd:bQ}{nm:bQ}
end
section
variable{w w' w0:wQ}{E:Er}{k W H:Nat}{L:Bool}{pal:List Px}{cl:List Nat}{fl xs zs d0:bQ}{dr:List (bQ)}{p q:pQ}{l c c':Nat}{cs:List Ch}{hd dd:bQ}{nm:bQ}
end
section
variable{w w' w0:wQ}
end
section
variable{w w' w0 wB:wQ}{E:Er}{k W H:Nat}{L:Bool}{pal:List Px}{cl:List Nat}{fl xs zs d0:bQ}{dr:List (bQ)}{p q:pQ}{l c c':Nat}{cs ds:List Ch}{hd dd:bQ}{nm:bQ}{s:Sl}
end
section
variable{w w' w0 wB:wQ}{E:Er}{k W H:Nat}{L:Bool}{pal:List Px}{cl:List Nat}{fl xs zs d0:bQ}{dr:List (bQ)}{p q:pQ}{l c c':Nat}{cs ds es:List Ch}{hd dd:bQ}{nm:bQ}{s:Sl}{db rb kb crc:Nat}{d:Dec}{rs:bQ}
end
section
variable{w w' w0 wB:wQ}{E:Er}{k W H:Nat}{L:Bool}{pal:List Px}{cl:List Nat}{fl xs zs d0:bQ}{dr:List (bQ)}{p q:pQ}{l c c':Nat}{cs ds es r:List Ch}{hd dd:bQ}{nm:bQ}{s:Sl}{db rb kb crc:Nat}{d:Dec}{rs:bQ}
end
section
variable{w w' w0 wB:wQ}{E:Er}{k W H D C:Nat}{L:Bool}{pal:List Px}{cl:List Nat}{fl xs zs d0:bQ}{dr:List (bQ)}{p q:pQ}{l c c':Nat}{cs ds es r:List Ch}{hd dd:bQ}{nm:bQ}{s:Sl}{db rb kb crc:Nat}{d:Dec}{rs:bQ}
end
section
variable{w w' w0 wB:wQ}{E:Er}{k W H D C:Nat}{L:Bool}{pal:List Px}{cl:List Nat}{fl xs zs d0:bQ}{dr:List (bQ)}{p q:pQ}{l c c':Nat}{cs ds es r:List Ch}{hd dd:bQ}{nm:bQ}{s:Sl}{db rb kb crc:Nat}{d:Dec}{rs:bQ}
end
section
variable{w w' w0 w1 wB:wQ}{E:Er}{k W H D C:Nat}{L:Bool}{pal:List Px}{cl:List Nat}{fl xs zs d0:bQ}{dr:List (bQ)}{p q:pQ}{l c c':Nat}{cs ds es r:List Ch}{hd dd:bQ}{nm:bQ}{s:Sl}{db rb kb crc:Nat}{d:Dec}{rs:bQ}
end
section
variable{w w' w0 w1 wB:wQ}{E:Er}{k W H D C:Nat}{L:Bool}{pal:List Px}{cl:List Nat}{fl xs zs d0:bQ}{dr:List (bQ)}{p q:pQ}{l c c':Nat}{cs ds es r:List Ch}{hd dd:bQ}{nm:bQ}{s:Sl}{db rb kb crc:Nat}{d:Dec}{rs:bQ}
end
section
variable{w w' w0 w1 wB:wQ}{E:Er}{k W H D C:Nat}{L:Bool}{pal:List Px}{cl:List Nat}{fl xs zs d0:bQ}{dr:List (bQ)}{p q:pQ}{l c c':Nat}{cs ds es r:List Ch}{hd dd:bQ}{nm:bQ}{db rb kb crc:Nat}{d:Dec}{rs:bQ}
end
section
variable{w w' w0 w1 wB:wQ}{E:Er}{k W H D C:Nat}{L:Bool}{pal:List Px}{cl:List Nat}{fl xs zs d0:bQ}{dr:List (bQ)}{p q:pQ}{l c c':Nat}{cs ds es r:List Ch}{hd dd:bQ}{nm:bQ}{s:Sl}{db rb kb crc:Nat}{d:Dec}{rs:bQ}
end
def wp4(x0:Int)(x1:pQ)(x1l:Nat)(x1c:Nat)(x2:Int)(x3:Int)(R:vPq)(w:wQ):Prop:=IfC (decide ((x1l:Int)>(2147483647:Int))) (R (.bool true) w) (xK (fun(L:(Unit)) (s:wQ)=>CallT Pg 27 #[.int .u32 x0,.slice x1 x1l x1c] s fun t u=>∃a b c,And (t= .slice a b c) (CallT Pg 28 #[.slice a b c] u fun v f=>∃g,And (v= .bool g) (zH 8 (And (0<=Int.tmod x2 8/\Int.tmod x2 8<(b:Int)) (qN a fun y=>LdI f (qI y ((Int.tmod x2 8).toNat) 1) .u8 fun z=>And (0<=Int.tmod x2 8/\Int.tmod x2 8<(b:Int)) (qN a fun A=>qB f (qI A ((Int.tmod x2 8).toNat) 1) (.int .u8 (uP .u8 z x3)) fun B=>CallT Pg 25 #[.slice a b c] B fun C D=>∃h i j k l m n,And (C= .tuple #[.agg #[iQq h,iQq i,iQq j,.slice k l m],iQq n]) (qK D (.cells (zc Pg 37) 37) fun d E=>qB E ⟨d,0,none⟩ (iQq h) fun F=>qB F ⟨d,0+1,none⟩ (iQq i) fun G=>qB G ⟨d,0+2,none⟩ (iQq j) fun H=>qB H ⟨d,0+3,none⟩ (.slice k l m) fun o=>IfC g (CallT Pg 29 #[.slice a b c,iQq 1] o fun I p=>∃q,And (I= .bool q) (IfC q (R (.bool (n==1)) p) (R (.bool false) p))) (R (.bool false) o)))))))) (fun J=>CallT Pg 22 #[.slice x1 x1l x1c] w fun K e=>∃r,And (K= .bool r) (IfC (!r) (R (.bool true) e) (IfC (x3==0) (R (.bool true) e) (J (()) e)))))
theorem call4{x0:Int}{x1:pQ}{x1l:Nat}{x1c:Nat}{x2:Int}{x3:Int}{R:vPq}{w:wQ}(h:wp4 x0 x1 x1l x1c x2 x3 R w):CallT Pg 4 #[.int .u32 x0,.slice x1 x1l x1c,.int .u8 x2,.int .u8 x3] w R:=cVq [(10,[],[0,1,2,3])] Tryz.func4 h
section
variable{w w' w0 w1 wB:wQ}{E:Er}{k W H D C:Nat}{L:Bool}{pal:List Px}{cl:List Nat}{fl xs zs d0:bQ}{dr:List (bQ)}{p q:pQ}{l c c':Nat}{rb:Nat}
theorem c40s(hr:RdAt w rb p xs)(hT:Tab w)(hE:Errs w E)(hlo:E.n0<=rb)(hrb:3<rb/\rb<hn w)(hpa:∀a,p=some a ->3<a.block/\a.block<rb)(h8:8<=xs.length)(hs:xs.take 8≠sigL):
  CallT Pg 40 #[.iface 85 (.pointer (some ⟨rb,0,none⟩))] w fun v w'=>Fr [rb] w w'/\∃s,v= .tuple #[.agg #[.int .i64 0,.slice none 0 0,.int .i64 0,.int .i64 0],.iface 125 (.string s)]:=by
 apply call40;unfold wp40 iQq;refine qF fun w2 h2 f2 n2=> ?_;refine qF fun w4 h4 f4 n4=> ?_;refine zS (by simp[Value.oneCell']) ?_;rw[qBr];refine qF fun w6 h6 f6 n6=> ?_;rw[zc80]at h2;rw[qCz]at h4;have h2:=f6.row0 (f4.row0 h2);have h4:=f6.row0 h4;have F6:=(f2.trans f4).trans f6;have hdb:hn w4=hn w+2:=oQ;rw[hdb]at h6⊢;rw[n2]at h4 h6;have D6:Dst w6 (hn w+2) rb (hn w+1) p (wV (.iface 85 (.pointer (some ⟨rb,0,none⟩))) (hn w+1)) 0 xs:=
  ⟨h6,rfl,rfl,rfl,rfl,hr.fr F6 sQ sQ,h4,dQ,hT.fr F6 sQ,hrb.1,hpa,oQ,oQ⟩
 refine CallT.mono (D6.c59 h8) ?_;rintro v w8 ⟨hv,D8,F8,n8⟩;rw[if_neg hs]at hv;obtain⟨sv,rfl,_⟩:=hv;have hlow:=hE.low;have E8:=(hE.fr F6 sQ).fr F8 (by simp;omega);have F:Fr [rb] w w8:=(F6.mono sQ).trans' F8 (fun x hx hlt=>by simp at hx⊢;omega);have h2:=F8.row h2 (by simp;omega);obtain⟨T0,heof⟩:=E8.eof;refine⟨_,rfl,zZ (xC (qY (n:=zD E.ea) heof rfl (sF dQ (qM ?_))))⟩;refine qD h2 sQ fun w9 h9 f9 n9=> ?_;refine qD h9 sQ fun w10 h10 f10 n10=> ?_;refine qD h10 sQ fun w11 h11 f11 n11=> ?_;refine qD h11 sQ fun w12 h12 f12 n12=> ?_;have hR:hp w12 (hn w)=Row 80 #[.int .i64 0,.slice none 0 0,.int .i64 0,.int .i64 0]:=by simpa using h12
 refine qC hR rfl (qL hR rfl (qC hR rfl (qC hR rfl ⟨?_,sv,rfl⟩)));exact F.trans' (f9.trans (f10.trans (f11.trans f12))) (fun x hx hlt=>by simp at hx;omega)
theorem c25s(hx:Has w p (bv xs))(hl:l=xs.length)(hlb:l<1099511627776)(hV:Env w E)(h8:8<=xs.length)(hs:xs.take 8≠sigL):
  CallT Pg 25 #[.slice p l c] w fun v w'=>Fr [] w w'/\v= .tuple #[.agg #[.int .i64 0,.int .i64 0,.int .i64 0,.slice none 0 0],.int .i64 1]:=by
 have h3:3<hn w:=by obtain⟨_,_,h,_⟩:=hV.tab;exact zR h
 apply call25;unfold wp25 iQq;refine qF fun w2 h2 f2 n2=> ?_;rw[zc37]at h2;refine CallT.mono (c42 (hx.fr0 f2) hl hlb) ?_;rintro _ w4 ⟨f4,q,c',rfl,hq,hqc,hqb⟩;refine⟨_,_,_,rfl,?_⟩;refine CallT.mono (c41 hq hl hqc hlb) ?_;rintro _ w9 ⟨rfl,hr9,f9,n9⟩;refine⟨_,rfl,?_⟩;have F9:=(f2.trans f4).trans f9;have hs4:=f4.size;have V9:=hV.fr0 F9;have hlo:=hV.lo;refine CallT.mono (c40s hr9 V9.tab V9.errs oQ ⟨oQ,n9⟩ (fun a ha=>by have:=hqb a ha;omega) h8 hs) ?_;rintro _ w12 ⟨f12,sv,rfl⟩;refine⟨_,_,_,_,_,_,_,rfl,?_⟩;have h2:=f12.row1 (f9.row0 (f4.row0 h2)) oQ;have F12:Fr [] w w12:=F9.trans' f12 (fun x hx hlt=>by simp at hx;omega);refine qF fun w21 h21 f21 n21=> ?_;rw[zc80]at h21;have h2:=f21.row0 h2;have F21:=F12.trans f21;have hs12:=F12.size;have hg:hn w<hn w12:=by have:=f12.size;omega
 generalize hn w12=r at*;refine qD h21 sQ fun w22 h22 f22 n22=> ?_;refine qD h22 sQ fun w23 h23 f23 n23=> ?_;refine qD h23 sQ fun w24 h24 f24 n24=> ?_;refine qD h24 sQ fun w25 h25 f25 n25=> ?_;have f2125:Fr [r] w21 w25:=f22.trans (f23.trans (f24.trans f25));have F25:Fr [] w w25:=F21.trans' f2125 (fun x hx hlt=>by simp at hx;omega);have h2:=f2125.row1 h2 oQ;refine zZ (xC (CallT.mono (c43 (hV.fr0 F25).ety (.inl ⟨sv,rfl⟩)) ?_));rintro _ w28 ⟨rfl,f28⟩;refine⟨_,rfl,?_⟩;refine qD (f28.row0 h2) sQ fun w30 h30 f30 n30=> ?_;refine qD h30 sQ fun w31 h31 f31 n31=> ?_;refine qD h31 sQ fun w32 h32 f32 n32=> ?_;refine qD h32 sQ fun w33 h33 f33 n33=> ?_;have hR:hp w33 (hn w)=Row 37 #[.int .i64 0,.int .i64 0,.int .i64 0,.slice none 0 0]:=by simpa using h33
 refine qC hR rfl (qC hR rfl (qC hR rfl (qL hR rfl ⟨?_,rfl⟩)));exact(F25.trans f28).trans' (f30.trans (f31.trans (f32.trans f33))) (fun x hx hlt=>by simp at hx;omega)
theorem qDx{n:Nat}(hn32:n<4294967296){ss:List Nat}(hx:HasW w p (ss.map fun(s:Nat)=> .int .u16 (s:Int)))(hl:l=ss.length)(hb:l<=1000)(hV:Env w E){K:pQ ->Nat ->Nat ->Bool ->World ->Prop}
  (hK:∀{W H:Nat} {L:Bool} {pal:List Px} {cl:List Nat} {fl xs zs d0:bQ} {dr:List (bQ)},Made (n%15) W H L pal cl fl xs zs d0 dr ->∀p l c w',Fr [] w w' ->Own w' (hn w) 5 1 p l c (bv (qU (xV (n%15) W H L pal cl d0 dr))) ->l=(qU (xV (n%15) W H L pal cl d0 dr)).length ->K p l c true w'):
  CallT Pg 27 #[.int .u32 n,.slice p l c] w fun v w1=>Exists fun p':pQ=>Exists fun l':Nat=>Exists fun c':Nat=>And (v= .slice p' l' c') (CallT Pg 28 #[.slice p' l' c'] w1 fun v' w2=>Exists fun b:Bool=>And (v'= .bool b) (K p' l' c' b w2)):=by
 refine CallT.mono (c27 hn32 hx hl hb) ?_;rintro v w1 ⟨W,H,L,pal,cl,hW,hH,hok,hF⟩;obtain⟨fl,xs,zs,d0,dr,M,f,q,c',rfl,ho⟩:=nU oQ hW hH hok hF;refine⟨_,_,_,rfl,CallT.mono (M.whole (hV.fr0 f) rfl ho.has rfl) ?_⟩;rintro v w2 ⟨rfl,f2⟩;exact⟨_,rfl,hK M _ _ _ _ (f.trans f2) (ho.fr0 f2) rfl⟩
theorem xor_ne{a b:Nat}(hb:b≠0):a^^^b≠a:=fun h=>by
 have h1:a^^^(a^^^b)=a^^^a:=by rw[h]
 rw[<-Nat.xor_assoc,Nat.xor_self,Nat.zero_xor]at h1;exact hb h1
theorem c4{n m y:Nat}(hn32:n<4294967296)(hm:m<256)(hy:y<256){ss:List Nat}(hx:HasW w p (ss.map fun(s:Nat)=> .int .u16 (s:Int)))(hl:l=ss.length)(hV:Env w E):CallT Pg 4 #[.int .u32 n,.slice p l c,.int .u8 m,.int .u8 y] w fun v w'=>v= .bool true/\Fr [] w w':=by
 apply call4;unfold wp4 iQq;refine qG (fun _ =>⟨rfl,Fr.refl _ _⟩) (fun _ => ?_);have e8:Int.tmod (m:Int) (8:Int)=((m%8:Nat):Int):=xQ m 8;rw[e8];have ht:m%8<8:=Nat.mod_lt _ dQ;generalize m%8=t at*;refine qJ (fun _ w'=>w'=w/\l<=1000/\y≠0) ?_ ?_
 ·rintro⟨⟩ w' ⟨rfl,hb,hy0⟩
  refine qDx hn32 hx hl hb hV fun{W H L pal cl fl xs zs d0 dr} M p1 l1 c1 w1 F1 ho hl1=> ?_;obtain⟨_,hlb⟩:=M.okc;have hff:qU (xV (n%15) W H L pal cl d0 dr)=sigL++chs (xV (n%15) W H L pal cl d0 dr):=rfl;have h8:8<=(qU (xV (n%15) W H L pal cl d0 dr)).length:=by rw[hff,List.length_append,yB];omega
  have hgs:∀i,i<8 ->gb (qU (xV (n%15) W H L pal cl d0 dr)) i=gb sigL i:=fun i hi=>by rw[hff,yH (by rw[yB];exact hi)]
  have htk:(qU (xV (n%15) W H L pal cl d0 dr)).take 8=sigL:=kN _;generalize qU (xV (n%15) W H L pal cl d0 dr)=fb at*;refine xF dQ (gM ho.has hl1 oQ oQ ⟨⟨oQ,oQ⟩,?_⟩);rw[Int.toNat_natCast];have hgb:=yD fb t;have hz:gb fb t^^^y<256:=Nat.xor_lt_two_pow (n:=8) hgb hy;have ey:Value.int .u8 (uP .u8 (gb fb t:Int) (y:Int))=u8v (UInt8.ofNat (gb fb t^^^y)):=by
   rw[qBh oQ oQ oQ oQ];simp only[Int.toNat_natCast,u8v,UInt8.toNat_ofNat'];rw[Nat.mod_eq_of_lt (show _ <2^8 from hz)]
  rw[ey];refine cS F1 ho oQ fun w2 F2 f2 ho2=> ?_;rw[mC]at ho2;have hs:(fb.set t (UInt8.ofNat (gb fb t^^^y))).take 8≠sigL:=by
   rw[List.take_set,htk];intro h;have h1:=nL sigL t (UInt8.ofNat (gb fb t^^^y)) (by rw[yB];exact ht) t;rw[h,if_pos rfl,<-hgs t ht,UInt8.toNat_ofNat',Nat.mod_eq_of_lt (show _ <2^8 from hz)]at h1;exact xor_ne hy0 h1.symm
  have hlen2:(fb.set t (UInt8.ofNat (gb fb t^^^y))).length=fb.length:=by simp
  refine CallT.mono (c25s ho2.has (by rw[hlen2];exact hl1) oQ (hV.fr0 F2) oQ hs) ?_;rintro _ w3 ⟨f3,rfl⟩;refine⟨_,_,_,_,_,_,_,rfl,?_⟩;refine qF fun w4 h4 f4 n4=> ?_;rw[zc37]at h4;refine qD h4 sQ fun w5 h5 f5 n5=> ?_;refine qD h5 sQ fun w6 h6 f6 n6=> ?_;refine qD h6 sQ fun w7 h7 f7 n7=> ?_;refine qD h7 sQ fun w8 h8' f8 n8=> ?_;have fa:Fr [hn w3] w4 w8:=f5.trans (f6.trans (f7.trans f8));have F3:=F2.trans f3;have hs3:=F3.size;have F8:Fr [] w' w8:=(F3.trans f4).trans' fa (fun x hx hlt=>by simp at hx;omega);have ho8:=((ho2.fr0 f3).fr0 f4).fr fa (fun a ha=>by have:=((ho2.fr0 f3).at ha).2.2.2;simp;omega);refine xC (CallT.mono (qKc ho8.has (by rw[hlen2];exact hl1) oQ oQ hs (hV.fr0 F8).tab (hV.fr0 F8).errs (hV.fr0 F8).lo (hV.fr0 F8).lace (hV.fr0 F8).ety) ?_);rintro _ w9 ⟨rfl,f9⟩;exact⟨_,rfl,xC ⟨rfl,F8.trans f9⟩⟩
 ·intro J hJ
  refine rA (R:=fun v w'=>v= .bool true/\Fr [] w w') ⟨rfl,Fr.refl _ _⟩ fun hb=> ?_;exact qQ (fun _ =>⟨rfl,Fr.refl _ _⟩) (fun h=>hJ _ _ ⟨rfl,hb,oQ⟩)
end
end Go.Proofs
