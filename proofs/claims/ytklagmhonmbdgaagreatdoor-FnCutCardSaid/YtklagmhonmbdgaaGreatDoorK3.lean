/- Steps of the proofs: contracts of the functions, for all their arguments that meet what each names -/
import Derived.Test.YtklagmhonmbdgaaGreatDoorK2
set_option maxRecDepth 1000000
set_option linter.unusedVariables false
set_option linter.unusedSimpArgs false
set_option maxHeartbeats 4000000
namespace Go.Proofs
open Go Go.V
open Go.IntKind (wrap)
def wp101(x0:Value)(R:vPq)(w:wQ):Prop:=CallT Pg 104 #[x0,.slice none 0 0] w fun c d=>∃a b,And (c= .tuple #[a,b]) (R (.tuple #[a,b]) d)
theorem call101{x0:Value}{R:vPq}{w:wQ}(h:wp101 x0 R w):CallT Pg 101 #[x0] w R:=cVq [] Tryz.func101 h
def wp104(x0:Value)(x1:pQ)(x1l:Nat)(x1c:Nat)(R:vPq)(w:wQ):Prop:=qL w (.cells (zc Pg 251) 251) fun b d=>CallT Pg 120 #[.pointer (some ⟨b,0,none⟩),x0,.slice x1 x1l x1c] d fun e c=>∃a,And (e=a) (xR a fun f=>IfC (!f) (R (.tuple #[.nilIface,a]) c) (R (.tuple #[.iface 244 (.pointer (some ⟨b,0,none⟩)),.nilIface]) c))
theorem call104{x0:Value}{x1:pQ}{x1l:Nat}{x1c:Nat}{R:vPq}{w:wQ}(h:wp104 x0 x1 x1l x1c R w):CallT Pg 104 #[x0,.slice x1 x1l x1c] w R:=cVq [] Tryz.func104 h
def wp120(x0:Addr)(x1:Value)(x2:pQ)(x2l:Nat)(x2c:Nat)(R:vPq)(w:wQ):Prop:=LdV w (aQq x0 1) fun f=>yE (Value.oneCell' f) (qB w x0 .nilIface fun S=>yE (Value.oneCell' f) (qB S (aQq x0 1) f fun T=>qB T (aQq x0 2) .nilIface fun U=>qB U (aQq x0 3) .nilIface fun V=>qB V (aQq x0 4) (.int .u8 0) fun X=>qB X (aQq x0 5) (.int .u8 0) fun Y=>qB Y (aQq x0 6) (.int .u8 0) fun Z=>qB Z (aQq x0 7) (.int .u8 0) fun g=>xH (fun(ct:(Unit)) (aa:wQ)=>qO aa fun u=>LdV u x0 fun ab=>And (0<=(2:Int)/\(2:Int)<=(4:Int)) (And (0<=(0:Int)/\(0:Int)<=(2:Int)) (CallT Pg 71 #[ab,.slice (some (aQq x0 4)) 2 4] u fun ac ad=>∃ae h,And (ac= .tuple #[iQq ae,h]) (yE (Value.oneCell' h) (qB ad (aQq x0 3) h fun i=>LdV i (aQq x0 3) fun af=>xR af fun ag=>IfC (!ag) (qO i fun b=>LdV b (aQq x0 3) fun ah=>LdV b ⟨0,0,none⟩ fun ai=>kX Pg 82 (.tmp 58) (.tmp 59) ah ai b fun aj=>IfC aj (LdV b ⟨1,0,none⟩ fun v=>yE (Value.oneCell' v) (qB b (aQq x0 3) v fun y=>LdV y (aQq x0 3) fun ak=>R (ak:Value) y)) (LdV b (aQq x0 3) fun al=>R (al:Value) b)) (qO i fun am=>And (0<=(2:Int)/\(2:Int)<=(4:Int)) (CallT Pg 132 #[.agg #[],.slice (some (aQq x0 4)) 2 4] am fun ao a=>∃z,And (ao= .int .u16 z) (xH (fun(cu:(Unit)) (j:wQ)=>And (0<=(1:Int)/\(1:Int)<(4:Int)) (LdI j ⟨x0.block,x0.off+4+1,none⟩ .u8 fun A=>xH (fun(cv:(Unit)) (d:wQ)=>LdV d (aQq x0 1) fun ap=>xR ap fun aq=>IfC aq (IfC ((zF .u8 A 32) !=(0:Int)) (LdV d x0 fun ar=>CallT Pg 135 #[ar,.slice x2 x2l x2c] d fun au av=>∃k,And (au=k) (yE (Value.oneCell' k) (qB av (aQq x0 1) k fun aw=>CallT Pg 137 #[] aw fun ax ay=>∃l,And (ax=l) (yE (Value.oneCell' l) (qB ay (aQq x0 2) l fun az=>R (.nilIface) az))))) (LdV d x0 fun ba=>CallT Pg 136 #[ba] d fun bb bc=>∃m,And (bb=m) (yE (Value.oneCell' m) (qB bc (aQq x0 1) m fun bd=>CallT Pg 137 #[] bd fun be bf=>∃n,And (be=n) (yE (Value.oneCell' n) (qB bf (aQq x0 2) n fun bg=>R (.nilIface) bg)))))) (qO d fun e=>LdV e (aQq x0 1) fun bh=>TAI1 Pg e bh 207 265 fun bi=>∃o,And (bi=o) (LdV e x0 fun bj=>VNil Pg e o fun cw=>vG Pg Gg e o "Reset" [bj,.slice x2 x2l x2c] fun bk bl=>∃bm,And (bk=bm) (CallT Pg 137 #[] bl fun bn bo=>∃p,And (bn=p) (yE (Value.oneCell' p) (qB bo (aQq x0 2) p fun bp=>R (.nilIface) bp)))))) (fun B=>IfC ((zF .u8 A 32) !=(0:Int)) (qO j fun C=>LdV C x0 fun bq=>And (0<=(4:Int)/\(4:Int)<=(4:Int)) (And (0<=(0:Int)/\(0:Int)<=(4:Int)) (CallT Pg 71 #[bq,.slice (some (aQq x0 4)) 4 4] C fun br bs=>∃bt q,And (br= .tuple #[iQq bt,q]) (yE (Value.oneCell' q) (qB bs (aQq x0 3) q fun r=>LdV r (aQq x0 3) fun bu=>xR bu fun bv=>IfC (!bv) (qO r fun c=>LdV c (aQq x0 3) fun bw=>LdV c ⟨0,0,none⟩ fun bx=>kX Pg 82 (.tmp 135) (.tmp 136) bw bx c fun bz=>IfC bz (LdV c ⟨1,0,none⟩ fun D=>yE (Value.oneCell' D) (qB c (aQq x0 3) D fun E=>LdV E (aQq x0 3) fun ca=>R (ca:Value) E)) (LdV c (aQq x0 3) fun cb=>R (cb:Value) c)) (qO r fun cc=>And (0<=(4:Int)/\(4:Int)<=(4:Int)) (CallT Pg 133 #[.agg #[],.slice (some (aQq x0 4)) 4 4] cc fun cd ce=>∃F,And (cd= .int .u32 F) (CallT Pg 134 #[.slice x2 x2l x2c] ce fun cf s=>∃G,And (cf= .int .u32 G) (IfC (F !=G) (LdV s ⟨9,0,none⟩ fun H=>yE (Value.oneCell' H) (qB s (aQq x0 3) H fun I=>LdV I (aQq x0 3) fun cg=>R (cg:Value) I)) (B (()) s)))))))))) (B (()) j)))) (fun ch=>And (0<=(0:Int)/\(0:Int)<(4:Int)) (LdI a (aQq x0 4) .u8 fun ci=>IfC ((zF .u8 ci 15) !=(8:Int)) (LdV a ⟨8,0,none⟩ fun J=>yE (Value.oneCell' J) (qB a (aQq x0 3) J fun K=>LdV K (aQq x0 3) fun cj=>R (cj:Value) K)) (And (0<=(0:Int)/\(0:Int)<(4:Int)) (LdI a (aQq x0 4) .u8 fun ck=>ShC 4 (IfC (decide ((qY .u8 ck 4)>(7:Int))) (LdV a ⟨8,0,none⟩ fun L=>yE (Value.oneCell' L) (qB a (aQq x0 3) L fun M=>LdV M (aQq x0 3) fun cl=>R (cl:Value) M)) (zQ 31 (IfC ((Int.tmod z 31) !=(0:Int)) (LdV a ⟨8,0,none⟩ fun N=>yE (Value.oneCell' N) (qB a (aQq x0 3) N fun O=>LdV O (aQq x0 3) fun cm=>R (cm:Value) O)) (ch (()) a)))))))))))))))) (fun P=>TAI Pg g x1 109 246 fun cn co=>∃t,And (cn=t) (IfC co (yE (Value.oneCell' t) (qB g x0 t fun cp=>P (()) cp)) (CallT Pg 131 #[x1] g fun cq cr=>∃Q,And (cq= .pointer Q) (qB cr x0 (.iface 257 (.pointer Q)) fun cs=>P (()) cs))))))
theorem call120{x0:Addr}{x1:Value}{x2:pQ}{x2l:Nat}{x2c:Nat}{R:vPq}{w:wQ}(h:wp120 x0 x1 x2 x2l x2c R w):CallT Pg 120 #[.pointer (some x0),x1,.slice x2 x2l x2c] w R:=cVq [(4,[],[0,2]),(30,[],[0,2]),(42,[],[0,2,10])] Tryz.func120 h
section
variable{w w':wQ}{z:ZP}
def ERow(E:Er)(e:Value):Prop:=e=xP E.ea\/e=xP E.ua\/Refuse 125 e
theorem ERow.isE{E:Er}{e:Value}(h:ERow E e):IsE e:=by
 rcases h with rfl|rfl|⟨s,rfl,_⟩
 ·exact jR _
 ·exact jR _
 ·exact⟨⟨_,_,rfl⟩,rfl⟩
theorem Errx.row{E:Er}{t:Option Bool}{e:Value}(h:Errx E t e):ERow E e:=by
 obtain⟨b,_,h,_⟩:=h
 cases b with
 |true=>exact .inr (.inr h)
 |false=>exact h.imp id .inl
theorem ZP.End.row{pre:bQ}{e:Value}(h:z.End w pre e):ERow z.E e:=by
 rcases h with⟨_,rfl,_⟩|⟨h,_⟩
 ·exact .inl rfl
 ·exact h.row
theorem ZP.S_mem{g x:Nat}(h:x∈z.S g):x=z.rb\/x=z.kb\/x=z.db\/x=z.zb\/x=z.bb\/x=z.gb\/x=z.fb\/x=z.hb\/x=z.ab\/x=g:=by simpa [ZP.S]using h
theorem ZP.End.eqEof{pre:bQ}{e:Value}(h:z.End w pre e)(hE:Errs w' z.E){x y:Operand}{K:Bool ->Prop}(h1:e=xP z.E.ea ->K true)(h2:e≠xP z.E.ea ->K false):kX Pg 82 x y e (xP z.E.ea) w' K:=by
 rcases h with⟨_,rfl,_⟩|⟨⟨b,_,h,hne⟩,_⟩
 ·exact kN (h1 rfl)
 ·exact h.eqEof hE (fun he=>absurd he hne) (fun he=>h2 he)
theorem ZP.c71{g o n cap:Nat}{T:TypeId}{arr:vQ}{pre:bQ}(h:z.ZS w pre)(hg:hp w g=Row T arr)(hgg:z.gb<g)(hgs:g≠z.fb/\g≠z.hb/\g≠z.ab)(ho:o+n<=arr.size)(hn0:0<n)(hn1:n<=1000)(hnc:n<=cap):
  CallT Pg 71 #[.iface 244 (.pointer (some ⟨z.zb,0,none⟩)),.slice (some ⟨g,o,none⟩) n cap] w fun v w'=>Fr (z.S g) w w'/\hn w<=hn w'/\
   ((∃xs,xs.length=n/\v= .tuple #[.int .i64 n,.nilIface]/\z.ZS w' (pre++xs)/\∃arr',hp w' g=Row T arr'/\Put arr o (bv xs) arr')\/
    (∃(xs:bQ) (e0 e:Value),xs.length<n/\v= .tuple #[.int .i64 xs.length,e]/\ERow z.E e/\z.ZS w' (pre++xs)/\z.End w' (pre++xs) e0)):=by
 have hord:z.rb<z.kb/\z.kb<z.db/\z.db<z.zb/\z.zb<z.bb/\z.bb<z.gb/\z.gb<z.fb/\z.fb<z.hb/\z.hb<z.ab:=by
  obtain⟨err,hB,_⟩:=h;exact hB.ord
 apply call71;unfold wp71 iQq;refine CallT.mono (R:=fun v w'=>Fr (z.S g) w w'/\hn w<=hn w'/\
   ((∃xs,xs.length=n/\v= .tuple #[.int .i64 n,.nilIface]/\z.ZS w' (pre++xs)/\∃arr',hp w' g=Row T arr'/\Put arr o (bv xs) arr')\/
    (∃(xs:bQ) (e0 e:Value),xs.length<n/\v= .tuple #[.int .i64 xs.length,e]/\ERow z.E e/\z.ZS w' (pre++xs)/\z.End w' (pre++xs) e0))) ?_ ?_
 ·apply call91
  unfold wp91 wIq iQq;refine qF (fun h=>absurd h oQ) (fun _ => ?_);refine qJ (fun y w'=>Fr (z.S g) w w'/\hn w<=hn w'/\∃(xs:bQ) (ev:Value),xs.length<=n/\y=((xs.length:Int),ev,())/\z.ZS w' (pre++xs)/\(∃arr',hp w' g=Row T arr'/\Put arr o (bv xs) arr')/\((ev= .nilIface/\xs.length=n)\/(IsE ev/\z.End w' (pre++xs) ev))) ?_ ?_
  ·rintro y w' ⟨F,nn,xs,ev,hxn,rfl,hZ,hP,hev⟩
   dsimp only;refine qF (fun hc=> ?_) (fun hc=> ?_)
   ·have hxe:xs.length=n:=oQ
    refine⟨F,nn,.inl ⟨xs,hxe,by rw[hxe],hZ,hP⟩⟩
   ·rcases hev with⟨_,hxe⟩|⟨hIs,hEnd⟩
    ·omega
    ·have hE':Errs w' z.E:=by
      obtain⟨_,hB,_⟩:=hZ;exact hB.er
     obtain⟨T0,heof⟩:=hE'.eof;obtain⟨T1,hune⟩:=hE'.une;refine qF (fun _ => ?_) (fun _ =>⟨F,nn,.inr ⟨xs,ev,ev,oQ,rfl,hEnd.row,hZ,hEnd⟩⟩);refine qT (n:=xP z.E.ea) heof rfl (hEnd.eqEof hE' (fun _ =>xA ?_) (fun _ =>qM ⟨F,nn,.inr ⟨xs,ev,ev,oQ,rfl,hEnd.row,hZ,hEnd⟩⟩));exact qT (n:=xP z.E.ua) hune rfl ⟨F,nn,.inr ⟨xs,ev,_,oQ,rfl,.inr (.inl rfl),hZ,hEnd⟩⟩
  ·intro J hJ
   refine qP (fun y w'=>(y=((0:Int),.nilIface,())/\w'=w)\/(Fr (z.S g) w w'/\hn w<=hn w'/\∃(xs:bQ) (ev:Value),xs.length<=n/\y=((xs.length:Int),ev,())/\z.ZS w' (pre++xs)/\(∃arr',hp w' g=Row T arr'/\Put arr o (bv xs) arr')/\((ev= .nilIface/\xs.length=n)\/(IsE ev/\z.End w' (pre++xs) ev))))
    (fun y _ =>match y.2.1 with| .nilIface=>n+1 -y.1.toNat|_ =>0) (.inl ⟨rfl,rfl⟩) ?_
   rintro y w' (⟨rfl,rfl⟩|⟨F,nn,xs,ev,hxn,rfl,hZ,hP,hev⟩)
   ·refine qJ (fun _ w''=>w''=w') ?_ ?_
    ·rintro⟨⟩ w' rfl
     refine qE fun w1 f1 n1=>⟨⟨dQ,by dsimp only;omega⟩,_,_,rfl,rfl,244,.pointer (some ⟨z.zb,0,none⟩),248,.pointer (some ⟨z.zb,0,none⟩),rfl,rfl,?_⟩;show CallT Pg 248 #[.pointer (some ⟨z.zb,0,none⟩),.slice (qQ (some ⟨g,o,none⟩) cap 0 1) (n -0) (cap -0)] w1 _;rw[vX,Nat.sub_zero,Nat.sub_zero];have hZ1:z.ZS w1 pre:=by
      obtain⟨err,hB,hc⟩:=h;obtain⟨us,hus,hz⟩:=hB.row;refine⟨err,⟨⟨us,hus,f1.row0 hz⟩,hB.ord,hB.er.fr f1 sQ,hB.lo,hB.len⟩,?_⟩;rcases hc with⟨he,hA,hst⟩|⟨hI,hEnd,rest,e,hFB,hE⟩
      ·refine .inl ⟨he,hA.fr f1 sQ,?_⟩
       rcases hst with⟨hp0,F0,out,R,Q,bl,hFA⟩|⟨rest,e,hFB,hIs,hM⟩
       ·exact .inl ⟨hp0,F0,out,R,Q,bl,⟨hFA.fs.fr f1 sQ,hFA.idle,hFA.step,hFA.at_,hFA.ok,hFA.out_,hFA.ne,hFA.last,hFA.len,hFA.fit⟩⟩
       ·exact .inr ⟨rest,e,hFB.fr f1 sQ sQ,hIs,hM.fr f1 sQ oQ⟩
      ·exact .inr ⟨hI,hEnd.fr f1 sQ oQ,rest,e,hFB.fr f1 sQ sQ,hE⟩
     refine CallT.mono (ZP.c248 hZ1 (f1.row0 hg) (by simp;omega) (.inl hgg) ho hn1 hnc) ?_;rintro _ w2 ⟨F2,n2,xs,ev,hxn,rfl,hZ2,hP2,hev⟩;have e1:wrap .i64 ((0:Int)+((xs.length:Nat):Int))=((xs.length:Nat):Int):=by rw[qA oQ oQ];omega
     dsimp only;refine⟨_,_,rfl,?_⟩;rw[e1];refine⟨.inr ⟨(f1.mono sQ).trans F2,oQ,xs,ev,hxn,rfl,hZ2,hP2 oQ,hev⟩,?_⟩;rcases hev with⟨rfl,hxe⟩|⟨⟨⟨T',u,rfl⟩,_⟩,_⟩
     ·show n+1 -((xs.length:Nat):Int).toNat<n+1 -0
      omega
     ·show 0<n+1 -0
      omega
    ·intro J' hJ'
     exact qF (fun _ =>qR (xA (hJ' _ _ rfl))) (fun h=>absurd h (by dsimp only;omega))
   ·refine qJ (fun _ _ =>False) (fun _ _ h=>h.elim) ?_
    intro J' hJ';refine qF (fun hc=> ?_) (fun hc=>hJ _ _ ⟨F,nn,xs,ev,hxn,rfl,hZ,hP,hev⟩);rcases hev with⟨rfl,hxe⟩|⟨hIs,hEnd⟩
    ·dsimp only at hc;omega
    ·exact hIs.nil (qM (hJ _ _ ⟨F,nn,xs,ev,hxn,rfl,hZ,hP,.inr ⟨hIs,hEnd⟩⟩))
 ·rintro _ w' ⟨F,nn,⟨xs,h1,rfl,h2⟩|⟨xs,e0,e,h1,rfl,h2⟩⟩
  ·exact⟨_,_,rfl,F,nn,.inl ⟨xs,h1,rfl,h2⟩⟩
  ·exact⟨_,_,rfl,F,nn,.inr ⟨xs,e0,e,h1,rfl,h2⟩⟩
theorem SrcD.fr{db rb kb:Nat}{p:pQ}{d:Dec}{ys:bQ}{s:Nat×Nat×bQ}{S:List Nat}(h:SrcD w db rb kb p d ys s)(hf:Fr S w w')(hS:∀x∈S,db<x):SrcD w' db rb kb p d ys s:=by
 obtain⟨dd,k,crc,rs,e1,e2,e3⟩:=h;exact⟨dd,k,crc,rs,e1,e2.fr hf hS,e3⟩
theorem GivesD.fr{db rb kb:Nat}{p:pQ}{d:Dec}{t:Option Bool}{zs ys:bQ}{s:Nat×Nat×bQ}{S:List Nat}(h:GivesD w db rb kb p d t zs s ys)(hf:Fr S w w')(hS:∀x∈S,db<x):GivesD w' db rb kb p d t zs s ys:=⟨h.1.fr hf hS,h.2⟩
theorem GivesD.ne{db rb kb:Nat}{p:pQ}{d:Dec}{t:Option Bool}{zs ys:bQ}{s:Nat×Nat×bQ}(h:GivesD w db rb kb p d t zs s ys):rb<kb/\kb<db/\db<hn w:=by
 obtain⟨⟨dd,k,crc,rs,e1,e2,e3⟩,h2⟩:=h;exact⟨e2.ne.2.2.1,e2.ne.2.2.2,zM e2.dec⟩
theorem c101{db rb kb:Nat}{p:pQ}{d:Dec}{E:Er}{t:Option Bool}{fin out:bQ}{bl:List Blk}{s:Nat×Nat×bQ}{ys:bQ}(h:GivesD w db rb kb p d t ([120,1]++out++xI (adlerL fin)) s ys)(hE:Errs w E)(hlo:E.n0<=rb)(hfin:fin.length<32768)(hS:kG fin bl)(hP:rN out (xS 0 bl)):
  CallT Pg 101 #[.iface 110 (.pointer (some ⟨db,0,none⟩))] w fun v w'=>Fr [rb,kb,db] w w'/\hn w<=hn w'/\((∃z:ZP,v= .tuple #[.iface 244 (.pointer (some ⟨z.zb,0,none⟩)),.nilIface]/\z.ZS w' []/\z.db=db/\z.rb=rb/\z.kb=kb/\z.p=p/\z.d=d/\z.E=E/\z.t=t/\z.fin=fin/\z.s=s/\hn w<=z.zb/\z.ab<hn w'/\2<=ys.length)\/
   (∃e,v= .tuple #[.nilIface,e]/\Errx E t e/\DW w' db rb kb p d/\ys.length<2)):=by
 have hne:=h.ne;apply call101;unfold wp101;refine CallT.mono (R:=fun v w'=>Fr [rb,kb,db] w w'/\hn w<=hn w'/\((∃z:ZP,v= .tuple #[.iface 244 (.pointer (some ⟨z.zb,0,none⟩)),.nilIface]/\z.ZS w' []/\z.db=db/\z.rb=rb/\z.kb=kb/\z.p=p/\z.d=d/\z.E=E/\z.t=t/\z.fin=fin/\z.s=s/\hn w<=z.zb/\z.ab<hn w'/\2<=ys.length)\/
   (∃e,v= .tuple #[.nilIface,e]/\Errx E t e/\DW w' db rb kb p d/\ys.length<2))) ?_ ?_
 ·apply call104
  unfold wp104;rw[zc251];refine qG fun w2 h2 f2 n2=> ?_;generalize hzb:hn w=zb at*;have h02:=h.fr f2 sQ;have E2:=hE.fr f2 sQ;refine CallT.mono (R:=fun v w'=>Fr [rb,kb,db,zb] w2 w'/\hn w2<=hn w'/\((v= .nilIface/\∃z:ZP,z.ZS w' []/\z.zb=zb/\z.db=db/\z.rb=rb/\z.kb=kb/\z.p=p/\z.d=d/\z.E=E/\z.t=t/\z.fin=fin/\z.s=s/\z.ab<hn w'/\2<=ys.length)\/(Errx E t v/\DW w' db rb kb p d/\ys.length<2))) ?_ ?_
  ·apply call120
   unfold wp120 aQq iQq;refine qT h2 rfl (zK rfl ?_);refine qD h2 sQ fun w3 h3 f3 n3=>zK rfl ?_;refine qD h3 sQ fun w4 h4 f4 n4=> ?_;refine qD h4 sQ fun w5 h5 f5 n5=> ?_;refine qD h5 sQ fun w6 h6 f6 n6=> ?_;refine qD h6 sQ fun w7 h7 f7 n7=> ?_;refine qD h7 sQ fun w8 h8 f8 n8=> ?_;refine qD h8 sQ fun w9 h9 f9 n9=> ?_;refine qD h9 sQ fun w10 h10 f10 n10=> ?_;have F10:Fr [zb] w2 w10:=f3.trans (f4.trans (f5.trans (f6.trans (f7.trans (f8.trans (f9.trans f10))))));have h10':hp w10 zb=Row 251 #[.nilIface,.nilIface,.nilIface,.nilIface,.int .u8 0,.int .u8 0,.int .u8 0,.int .u8 0]:=h10;have hn10:hn w10=zb+1:=oQ;have h010:=h02.fr F10 (by simp;omega);have E10:=E2.fr F10 (by simp;omega);refine qJ (fun _ w'=>Fr [zb] w2 w'/\hn w'=zb+3/\hp w' zb=Row 251 #[.iface 257 (.pointer (some ⟨zb+1,0,none⟩)),.nilIface,.nilIface,.nilIface,.int .u8 0,.int .u8 0,.int .u8 0,.int .u8 0]/\hp w' (zb+1)=Row 293 (xL (zb+2) db 0 0 (-1) (-1))/\∃arr,hp w' (zb+2)=Row 5 arr/\arr.size=4096) ?_ ?_
   ·rintro⟨⟩ w11 ⟨F11,n11,h11,hB11,arrG,hG11,hsG⟩
    have G11:Src w11 (zb+1) (zb+2) db rb kb p d ys s:=by
     have h011:=h02.fr F11 (by simp;omega);exact h011.toB (Fr.refl [] _) hB11 hG11 hsG oQ oQ
    have E11:=E2.fr F11 (by simp;omega);refine qE fun w13 f13 n13=> ?_;have h13:=f13.row0 h11;refine qT h13 rfl ⟨⟨dQ,dQ⟩,⟨dQ,dQ⟩,?_⟩;refine CallT.mono ((G11.fr f13 sQ).c71o h.2.1 h.2.2.1 h.2.2.2 (g:=zb) (o:=4) (E11.fr f13 sQ) hlo h13 oQ oQ oQ sQ dQ dQ dQ sQ) ?_;rintro _ w16 ⟨F16,n16,hv⟩;have F216:Fr [rb,kb,db,zb] w2 w16:=((F11.mono sQ).trans (f13.mono sQ)).trans' F16 (fun x hx hlt=>by simp at hx⊢;omega);have E16:=(E11.fr f13 sQ).fr F16 (by simp;omega);rcases hv with⟨hy2,rfl,⟨arr',h16,hp16⟩,G16⟩|⟨hy2,xs,e,hxn,rfl,he,hD16,arr',h16,hp16⟩
    ·have e0:arr'= #[.iface 257 (.pointer (some ⟨zb+1,0,none⟩)),.nilIface,.nilIface,.nilIface,.int .u8 120,.int .u8 1,.int .u8 0,.int .u8 0]:=by
      apply Array.ext_getElem?;intro j;rw[hp16.2 j];have:(bv (([120,1]++out++xI (adlerL fin)).take 2))=[.int .u8 120,.int .u8 1]:=rfl;rw[this];rcases Nat.lt_or_ge j 8 with hj|hj
      ·obtain rfl|rfl|rfl|rfl|rfl|rfl|rfl|rfl:=(by omega:j=0\/j=1\/j=2\/j=3\/j=4\/j=5\/j=6\/j=7)<;>rfl
      ·rw[if_neg (by simp;omega),Array.getElem?_eq_none (by simp;omega),Array.getElem?_eq_none (by simp;omega)]
     subst e0;have edr:([120,1]++out++xI (adlerL fin)).drop 2=out++xI (adlerL fin):=by simp
     rw[edr]at G16;refine⟨_,_,rfl,zK rfl ?_⟩;refine qD h16 sQ fun w19 h19 f19 n19=> ?_;have h19':hp w19 zb=Row 251 #[.iface 257 (.pointer (some ⟨zb+1,0,none⟩)),.nilIface,.nilIface,.nilIface,.int .u8 120,.int .u8 1,.int .u8 0,.int .u8 0]:=h19;refine qT h19' rfl (qR (qM ?_));refine qE fun w30 f30 n30=>⟨⟨dQ,dQ⟩,?_⟩;have h30:=f30.row0 h19';have hhas:Has w30 (some ⟨zb,4,none⟩) (bv [120,1]):=⟨rfl,251,_,h30,fun j v hj=>by
      rcases j with _ |_ |j
      ·simpa [u8v]using hj
      ·simpa [u8v]using hj
      ·simp at hj⟩
     refine CallT.mono (c132 hhas dQ dQ) ?_;rintro _ w32 ⟨rfl,f32,n32⟩;have h32:=f32.row0 h30;have F1632:Fr [zb] w16 w32:=(f19.mono sQ).trans ((f30.mono sQ).trans (f32.mono sQ));have F232:Fr [rb,kb,db,zb] w2 w32:=F216.trans (F1632.mono sQ);refine⟨_,rfl,qJ (fun _ w'=>w'=w32) ?_ ?_⟩
     ·rintro⟨⟩ w35 rfl
      refine⟨⟨dQ,dQ⟩,qC h32 rfl ?_⟩;refine qJ (fun _ w'=>w'=w35) ?_ ?_
      ·rintro⟨⟩ w39 rfl
       refine qT h32 rfl (qR (xA ?_));rw[show zF .u8 1 32=0 from dQ];refine xU (fun hc=>absurd rfl hc) (fun _ =>qT h32 rfl ?_);have hlt35:=zM h32;refine CallT.mono c136 ?_;rintro _ w54 ⟨hb,F,rfl,F54,hfbhb,hhbn,fl54,hI,hst,hFb,hFnb⟩;have hn35:zb+3<=hn w39:=oQ;have h54:=F54.row0 h32;refine⟨_,rfl,zK rfl ?_⟩;refine qD h54 sQ fun w56 h56 f56 n56=> ?_;refine CallT.mono c137 ?_;rintro _ w58 ⟨rfl,hAd58,f58,n58⟩;have h58:=f58.row0 h56;refine⟨_,rfl,zK rfl ?_⟩;refine qD h58 sQ fun w60 h60 f60 n60=> ?_;have F3560:Fr [zb] w39 w60:=(F54.mono sQ).trans (f56.trans ((f58.mono sQ).trans f60));have F1660:Fr [zb] w16 w60:=F1632.trans F3560;have F5460:Fr [zb] w54 w60:=f56.trans ((f58.mono sQ).trans f60);refine⟨F232.trans (F3560.mono sQ),oQ,.inl ⟨rfl,⟨zb,zb+1,zb+2,hn w39,hb,hn w56,db,rb,kb,p,d,E,t,fin,s⟩,?_,rfl,rfl,rfl,rfl,rfl,rfl,rfl,rfl,rfl,rfl,by show hn w56<_;omega,hy2⟩⟩;refine⟨.nilIface,⟨⟨[120,1,0,0],rfl,?_⟩,?_,E16.fr F1660 (by simp;omega),hlo,hfin⟩,.inl ⟨rfl,hAd58.fr f60 (by simp;omega),.inl ⟨rfl,F,out,0,0,bl,?_⟩⟩⟩
       ·rw[h60];rfl
       ·show rb<kb/\kb<db/\db<zb/\zb<zb+1/\zb+1<zb+2/\zb+2<hn w39/\hn w39<hb/\hb<hn w56
        omega
       ·obtain⟨s1,s2,s3,s4⟩:=hS
        refine⟨⟨fl54.fr F5460 (by simp;omega) (by simp;omega),?_,⟨0,0,hFb,hFnb,Bits.zero (R:=0) (Nat.zero_le _)⟩,by show zb+2<hn w39;omega,E16.fr F1660 (by simp;omega),hlo⟩,hI,hst,At.of_pack hP,s1,s2,s3,s4,hfin,?_⟩
        ·rw[List.drop_zero]
         obtain⟨ys,⟨B,zs',hy,Sb⟩,h3⟩:=G16;obtain⟨r,lb,lr,ar,hB,hG,hsz⟩:=Sb.buf;obtain⟨dd,k,crc,rs,e1,e2,e3,e4,e5⟩:=Sb.dec;exact⟨ys,⟨B,zs',hy,⟨⟨r,lb,lr,ar,F1660.row1 hB (by show zb+1≠zb;omega),F1660.row1 hG (by show zb+2≠zb;omega),hsz⟩,⟨dd,k,crc,rs,e1,e2.fr F1660 (by simp;omega),e3,e4,e5⟩,Sb.ord,Sb.end_⟩⟩,h3⟩
        ·rw[hP.1];omega
      ·intro J hJ
       rw[show zF .u8 1 32=0 from dQ];exact xU (fun hc=>absurd rfl hc) (fun _ =>hJ _ _ rfl)
     ·intro J hJ
      refine⟨⟨dQ,dQ⟩,qC h32 rfl ?_⟩;rw[show zF .u8 120 15=8 from dQ];refine xU (fun hc=>absurd rfl hc) (fun _ =>⟨⟨dQ,dQ⟩,qC h32 rfl (qU dQ ?_)⟩);refine qF (fun hc=>absurd hc dQ) (fun _ =>xK dQ ?_);exact xU (fun hc=>absurd dQ hc) (fun _ =>hJ _ _ rfl)
    ·refine⟨_,_,rfl,zK he.one ?_⟩
     have hsz16:0+3<arr'.size:=by rw[hp16.1];simp
     refine qD h16 hsz16 fun w19 h19 f19 n19=> ?_;have e3:(arr'.setIfInBounds (0+3) e)[0+3]? =some e:=by rw[Array.getElem?_setIfInBounds_self_of_lt hsz16]
     refine qT h19 e3 (he.nil (xA ?_));refine qE fun w22 f22 n22=> ?_;have h22:=f22.row0 h19;have F1622:Fr [zb] w16 w22:=(f19.mono sQ).trans (f22.mono sQ);have E22:=E16.fr F1622 (by simp;omega);obtain⟨T0,heof⟩:=E22.eof;obtain⟨T1,hune⟩:=E22.une;obtain⟨b,hb',hec⟩:=he;have F222:Fr [rb,kb,db,zb] w2 w22:=F216.trans (F1622.mono sQ);have hD22:=hD16.fr F1622 (by simp;omega);refine qT h22 e3 (qT (n:=xP E.ea) heof rfl (hec.eqEof E22 (fun hv=>xA ?_) (fun hv=>qM (qT h22 e3 ⟨F222,oQ,.inr ⟨⟨b,hb',hec,hv⟩,hD22,hy2⟩⟩))));refine qT (n:=xP E.ua) hune rfl (zK (mP _) ?_);refine qD h22 (by simpa using hsz16) fun w27 h27 f27 n27=> ?_;refine qT h27 (n:=xP E.ua) (by rw[Array.getElem?_setIfInBounds_self_of_lt (by simpa using hsz16)]) ?_;refine⟨F222.trans (f27.mono sQ),oQ,.inr ⟨⟨b,hb',?_,fun e=>E22.ne (by simpa [xP]using e.symm)⟩,hD22.fr f27 (by simp;omega),hy2⟩⟩;subst hv
     cases b with
     |true=>obtain⟨s,hs⟩:=hec;simp[xP]at hs
     |false=>exact .inr rfl
   ·intro J hJ
    refine⟨_,_,qIj db,_,rfl,qM ?_⟩;refine CallT.mono c131 ?_;rw[hn10];rintro _ w117 ⟨rfl,f117,n117,hB117,arrG,hG117,hsG⟩;refine⟨_,rfl,qD (f117.row0 h10') sQ fun w119 h119 f119 n119=>hJ _ _ ⟨F10.trans ((f117.mono sQ).trans f119),oQ,h119,f119.row1 hB117 (by show zb+1≠zb;omega),arrG,f119.row1 hG117 (by show zb+2≠zb;omega),hsG⟩⟩
  ·rintro v w4 ⟨F4,n4,hv⟩
   have F04:Fr [rb,kb,db] w w4:=(f2.mono sQ).trans' F4 (fun x hx hlt=>by simp at hx⊢;omega);refine⟨v,rfl,?_⟩;rcases hv with⟨rfl,z,hz,e1,e2⟩|⟨he,hD⟩
   ·refine qR (qM ⟨F04,oQ,.inl ⟨z,by rw[e1],hz,e2.1,e2.2.1,e2.2.2.1,e2.2.2.2.1,e2.2.2.2.2.1,e2.2.2.2.2.2.1,e2.2.2.2.2.2.2.1,e2.2.2.2.2.2.2.2.1,e2.2.2.2.2.2.2.2.2.1,oQ,e2.2.2.2.2.2.2.2.2.2⟩⟩)
   ·exact he.nil (xA ⟨F04,oQ,.inr ⟨_,rfl,he,hD⟩⟩)
 ·rintro _ w' ⟨F,nn,⟨z,rfl,h⟩|⟨e,rfl,h⟩⟩
  ·exact⟨_,_,rfl,F,nn,.inl ⟨z,rfl,h⟩⟩
  ·exact⟨_,_,rfl,F,nn,.inr ⟨e,rfl,h⟩⟩
end
def wp105(x0_0:Int)(x0_1:Int)(x0_2:Int)(x0_3:Int)(R:vPq)(w:wQ):Prop:=qL w (.cells #[iQq x0_0,iQq x0_1,iQq x0_2,iQq x0_3] 171) fun b s=>qO s fun k=>l4q k b fun t u v y=>l4q k b fun g h i j=>l4q k b fun c d e f=>CallT Pg 121 #[iQq 4,g4q t u v y,.string ⟨#[78,82,71,66,65]⟩] k fun z l=>∃a,And (z=iQq a) (l4q l b fun A B C D=>And ((g4q A B C D)=g4q c d e f) (l4q l b fun E F G H=>And ((g4q E F G H)=g4q g h i j) (And (And (0<=a/\a<=a/\a<=281474976710656/\(1:Int)*a<=281474976710656) (qL l (.cells (uI Pg 5 a.toNat) 5) fun I m=>l4q m b fun J K L M=>And ((g4q J K L M)=g4q c d e f) (l4q m b fun N O P Q=>And ((g4q N O P Q)=g4q g h i j) (CallT Pg 122 #[g4q g h i j] m fun S o=>∃p,And (S=iQq p) (l4q o b fun T U V X=>And ((g4q T U V X)=g4q c d e f) (qL o (.cells #[.slice (some ⟨I,0,none⟩) a.toNat a.toNat,iQq (wIq ((4:Int)*p)),iQq c,iQq d,iQq e,iQq f] 181) fun Y Z=>R (.pointer (some ⟨Y,0,none⟩)) Z)))))) (CallT Pg 122 #[g4q g h i j] l fun aa q=>∃r,And (aa=iQq r) (l4q q b fun ab ac ad ae=>And ((g4q ab ac ad ae)=g4q c d e f) (And (0<=a/\a<=a/\a<=281474976710656/\(1:Int)*a<=281474976710656) (qL q (.cells (uI Pg 5 a.toNat) 5) fun af n=>l4q n b fun ag ah ai aj=>And ((g4q ag ah ai aj)=g4q c d e f) (l4q n b fun ak al am ao=>And ((g4q ak al am ao)=g4q g h i j) (qL n (.cells #[.slice (some ⟨af,0,none⟩) a.toNat a.toNat,iQq (wIq ((4:Int)*r)),iQq c,iQq d,iQq e,iQq f] 181) fun ap aq=>R (.pointer (some ⟨ap,0,none⟩)) aq)))))))))
theorem call105{x0_0:Int}{x0_1:Int}{x0_2:Int}{x0_3:Int}{R:vPq}{w:wQ}(h:wp105 x0_0 x0_1 x0_2 x0_3 R w):CallT Pg 105 #[.agg #[.int .i64 x0_0,.int .i64 x0_1,.int .i64 x0_2,.int .i64 x0_3]] w R:=cVq [] Tryz.func105 h
def wp106(x0:Int)(x1:Int)(x2:Int)(x3:Int)(R:vPq)(w:wQ):Prop:=qL w (.cells (zc Pg 171) 171) fun a c=>xH (fun(b:(Int×Int×Unit)) (d:wQ)=>IfC (decide (x1>x3)) (qB d ⟨a,0,none⟩ (iQq b.1) fun h=>qB h ⟨a,0+1,none⟩ (iQq x3) fun i=>qB i ⟨a,0+2,none⟩ (iQq b.2.1) fun j=>qB j ⟨a,0+3,none⟩ (iQq x1) fun e=>l4q e a fun k l m n=>R (g4q k l m n) e) (qB d ⟨a,0,none⟩ (iQq b.1) fun o=>qB o ⟨a,0+1,none⟩ (iQq x1) fun p=>qB p ⟨a,0+2,none⟩ (iQq b.2.1) fun q=>qB q ⟨a,0+3,none⟩ (iQq x3) fun f=>l4q f a fun r s t u=>R (g4q r s t u) f)) (fun g=>IfC (decide (x0>x2)) (g (x2,x0,()) c) (g (x0,x2,()) c))
theorem call106{x0:Int}{x1:Int}{x2:Int}{x3:Int}{R:vPq}{w:wQ}(h:wp106 x0 x1 x2 x3 R w):CallT Pg 106 #[.int .i64 x0,.int .i64 x1,.int .i64 x2,.int .i64 x3] w R:=cVq [(2,[(0,.i .i64),(2,.i .i64)],[1,3,8])] Tryz.func106 h
def wp107(x0_0:Int)(x0_1:Int)(x0_2:Int)(x0_3:Int)(R:vPq)(w:wQ):Prop:=qL w (.cells #[iQq x0_0,iQq x0_1,iQq x0_2,iQq x0_3] 171) fun b s=>qO s fun k=>l4q k b fun t u v y=>l4q k b fun g h i j=>l4q k b fun c d e f=>CallT Pg 121 #[iQq 1,g4q t u v y,.string ⟨#[71,114,97,121]⟩] k fun z l=>∃a,And (z=iQq a) (l4q l b fun A B C D=>And ((g4q A B C D)=g4q c d e f) (l4q l b fun E F G H=>And ((g4q E F G H)=g4q g h i j) (And (And (0<=a/\a<=a/\a<=281474976710656/\(1:Int)*a<=281474976710656) (qL l (.cells (uI Pg 5 a.toNat) 5) fun I m=>l4q m b fun J K L M=>And ((g4q J K L M)=g4q c d e f) (l4q m b fun N O P Q=>And ((g4q N O P Q)=g4q g h i j) (CallT Pg 122 #[g4q g h i j] m fun S o=>∃p,And (S=iQq p) (l4q o b fun T U V X=>And ((g4q T U V X)=g4q c d e f) (qL o (.cells #[.slice (some ⟨I,0,none⟩) a.toNat a.toNat,iQq (wIq ((1:Int)*p)),iQq c,iQq d,iQq e,iQq f] 173) fun Y Z=>R (.pointer (some ⟨Y,0,none⟩)) Z)))))) (CallT Pg 122 #[g4q g h i j] l fun aa q=>∃r,And (aa=iQq r) (l4q q b fun ab ac ad ae=>And ((g4q ab ac ad ae)=g4q c d e f) (And (0<=a/\a<=a/\a<=281474976710656/\(1:Int)*a<=281474976710656) (qL q (.cells (uI Pg 5 a.toNat) 5) fun af n=>l4q n b fun ag ah ai aj=>And ((g4q ag ah ai aj)=g4q c d e f) (l4q n b fun ak al am ao=>And ((g4q ak al am ao)=g4q g h i j) (qL n (.cells #[.slice (some ⟨af,0,none⟩) a.toNat a.toNat,iQq (wIq ((1:Int)*r)),iQq c,iQq d,iQq e,iQq f] 173) fun ap aq=>R (.pointer (some ⟨ap,0,none⟩)) aq)))))))))
theorem call107{x0_0:Int}{x0_1:Int}{x0_2:Int}{x0_3:Int}{R:vPq}{w:wQ}(h:wp107 x0_0 x0_1 x0_2 x0_3 R w):CallT Pg 107 #[.agg #[.int .i64 x0_0,.int .i64 x0_1,.int .i64 x0_2,.int .i64 x0_3]] w R:=cVq [] Tryz.func107 h
def wp108(x0_0:Int)(x0_1:Int)(x0_2:Int)(x0_3:Int)(R:vPq)(w:wQ):Prop:=qL w (.cells #[iQq x0_0,iQq x0_1,iQq x0_2,iQq x0_3] 171) fun b s=>qO s fun k=>l4q k b fun t u v y=>l4q k b fun g h i j=>l4q k b fun c d e f=>CallT Pg 121 #[iQq 4,g4q t u v y,.string ⟨#[82,71,66,65]⟩] k fun z l=>∃a,And (z=iQq a) (l4q l b fun A B C D=>And ((g4q A B C D)=g4q c d e f) (l4q l b fun E F G H=>And ((g4q E F G H)=g4q g h i j) (And (And (0<=a/\a<=a/\a<=281474976710656/\(1:Int)*a<=281474976710656) (qL l (.cells (uI Pg 5 a.toNat) 5) fun I m=>l4q m b fun J K L M=>And ((g4q J K L M)=g4q c d e f) (l4q m b fun N O P Q=>And ((g4q N O P Q)=g4q g h i j) (CallT Pg 122 #[g4q g h i j] m fun S o=>∃p,And (S=iQq p) (l4q o b fun T U V X=>And ((g4q T U V X)=g4q c d e f) (qL o (.cells #[.slice (some ⟨I,0,none⟩) a.toNat a.toNat,iQq (wIq ((4:Int)*p)),iQq c,iQq d,iQq e,iQq f] 177) fun Y Z=>R (.pointer (some ⟨Y,0,none⟩)) Z)))))) (CallT Pg 122 #[g4q g h i j] l fun aa q=>∃r,And (aa=iQq r) (l4q q b fun ab ac ad ae=>And ((g4q ab ac ad ae)=g4q c d e f) (And (0<=a/\a<=a/\a<=281474976710656/\(1:Int)*a<=281474976710656) (qL q (.cells (uI Pg 5 a.toNat) 5) fun af n=>l4q n b fun ag ah ai aj=>And ((g4q ag ah ai aj)=g4q c d e f) (l4q n b fun ak al am ao=>And ((g4q ak al am ao)=g4q g h i j) (qL n (.cells #[.slice (some ⟨af,0,none⟩) a.toNat a.toNat,iQq (wIq ((4:Int)*r)),iQq c,iQq d,iQq e,iQq f] 177) fun ap aq=>R (.pointer (some ⟨ap,0,none⟩)) aq)))))))))
theorem call108{x0_0:Int}{x0_1:Int}{x0_2:Int}{x0_3:Int}{R:vPq}{w:wQ}(h:wp108 x0_0 x0_1 x0_2 x0_3 R w):CallT Pg 108 #[.agg #[.int .i64 x0_0,.int .i64 x0_1,.int .i64 x0_2,.int .i64 x0_3]] w R:=cVq [] Tryz.func108 h
def wp109(x0_0:Int)(x0_1:Int)(x0_2:Int)(x0_3:Int)(x1:pQ)(x1l:Nat)(x1c:Nat)(R:vPq)(w:wQ):Prop:=qL w (.cells #[iQq x0_0,iQq x0_1,iQq x0_2,iQq x0_3] 171) fun b s=>qO s fun k=>l4q k b fun t u v y=>l4q k b fun g h i j=>l4q k b fun c d e f=>CallT Pg 121 #[iQq 1,g4q t u v y,.string ⟨#[80,97,108,101,116,116,101,100]⟩] k fun z l=>∃a,And (z=iQq a) (l4q l b fun A B C D=>And ((g4q A B C D)=g4q c d e f) (l4q l b fun E F G H=>And ((g4q E F G H)=g4q g h i j) (And (And (0<=a/\a<=a/\a<=281474976710656/\(1:Int)*a<=281474976710656) (qL l (.cells (uI Pg 5 a.toNat) 5) fun I m=>l4q m b fun J K L M=>And ((g4q J K L M)=g4q c d e f) (l4q m b fun N O P Q=>And ((g4q N O P Q)=g4q g h i j) (CallT Pg 122 #[g4q g h i j] m fun S o=>∃p,And (S=iQq p) (l4q o b fun T U V X=>And ((g4q T U V X)=g4q c d e f) (qL o (.cells #[.slice (some ⟨I,0,none⟩) a.toNat a.toNat,iQq (wIq ((1:Int)*p)),iQq c,iQq d,iQq e,iQq f,.slice x1 x1l x1c] 186) fun Y Z=>R (.pointer (some ⟨Y,0,none⟩)) Z)))))) (CallT Pg 122 #[g4q g h i j] l fun aa q=>∃r,And (aa=iQq r) (l4q q b fun ab ac ad ae=>And ((g4q ab ac ad ae)=g4q c d e f) (And (0<=a/\a<=a/\a<=281474976710656/\(1:Int)*a<=281474976710656) (qL q (.cells (uI Pg 5 a.toNat) 5) fun af n=>l4q n b fun ag ah ai aj=>And ((g4q ag ah ai aj)=g4q c d e f) (l4q n b fun ak al am ao=>And ((g4q ak al am ao)=g4q g h i j) (qL n (.cells #[.slice (some ⟨af,0,none⟩) a.toNat a.toNat,iQq (wIq ((1:Int)*r)),iQq c,iQq d,iQq e,iQq f,.slice x1 x1l x1c] 186) fun ap aq=>R (.pointer (some ⟨ap,0,none⟩)) aq)))))))))
theorem call109{x0_0:Int}{x0_1:Int}{x0_2:Int}{x0_3:Int}{x1:pQ}{x1l:Nat}{x1c:Nat}{R:vPq}{w:wQ}(h:wp109 x0_0 x0_1 x0_2 x0_3 x1 x1l x1c R w):CallT Pg 109 #[.agg #[.int .i64 x0_0,.int .i64 x0_1,.int .i64 x0_2,.int .i64 x0_3],.slice x1 x1l x1c] w R:=cVq [] Tryz.func109 h
def wp110(x0_0:Int)(x0_1:Int)(x0_2:Int)(x0_3:Int)(R:vPq)(w:wQ):Prop:=qL w (.cells #[iQq x0_0,iQq x0_1,iQq x0_2,iQq x0_3] 171) fun b s=>qO s fun k=>l4q k b fun t u v y=>l4q k b fun g h i j=>l4q k b fun c d e f=>CallT Pg 121 #[iQq 8,g4q t u v y,.string ⟨#[78,82,71,66,65,54,52]⟩] k fun z l=>∃a,And (z=iQq a) (l4q l b fun A B C D=>And ((g4q A B C D)=g4q c d e f) (l4q l b fun E F G H=>And ((g4q E F G H)=g4q g h i j) (And (And (0<=a/\a<=a/\a<=281474976710656/\(1:Int)*a<=281474976710656) (qL l (.cells (uI Pg 5 a.toNat) 5) fun I m=>l4q m b fun J K L M=>And ((g4q J K L M)=g4q c d e f) (l4q m b fun N O P Q=>And ((g4q N O P Q)=g4q g h i j) (CallT Pg 122 #[g4q g h i j] m fun S o=>∃p,And (S=iQq p) (l4q o b fun T U V X=>And ((g4q T U V X)=g4q c d e f) (qL o (.cells #[.slice (some ⟨I,0,none⟩) a.toNat a.toNat,iQq (wIq ((8:Int)*p)),iQq c,iQq d,iQq e,iQq f] 183) fun Y Z=>R (.pointer (some ⟨Y,0,none⟩)) Z)))))) (CallT Pg 122 #[g4q g h i j] l fun aa q=>∃r,And (aa=iQq r) (l4q q b fun ab ac ad ae=>And ((g4q ab ac ad ae)=g4q c d e f) (And (0<=a/\a<=a/\a<=281474976710656/\(1:Int)*a<=281474976710656) (qL q (.cells (uI Pg 5 a.toNat) 5) fun af n=>l4q n b fun ag ah ai aj=>And ((g4q ag ah ai aj)=g4q c d e f) (l4q n b fun ak al am ao=>And ((g4q ak al am ao)=g4q g h i j) (qL n (.cells #[.slice (some ⟨af,0,none⟩) a.toNat a.toNat,iQq (wIq ((8:Int)*r)),iQq c,iQq d,iQq e,iQq f] 183) fun ap aq=>R (.pointer (some ⟨ap,0,none⟩)) aq)))))))))
theorem call110{x0_0:Int}{x0_1:Int}{x0_2:Int}{x0_3:Int}{R:vPq}{w:wQ}(h:wp110 x0_0 x0_1 x0_2 x0_3 R w):CallT Pg 110 #[.agg #[.int .i64 x0_0,.int .i64 x0_1,.int .i64 x0_2,.int .i64 x0_3]] w R:=cVq [] Tryz.func110 h
def wp111(x0_0:Int)(x0_1:Int)(x0_2:Int)(x0_3:Int)(R:vPq)(w:wQ):Prop:=qL w (.cells #[iQq x0_0,iQq x0_1,iQq x0_2,iQq x0_3] 171) fun b s=>qO s fun k=>l4q k b fun t u v y=>l4q k b fun g h i j=>l4q k b fun c d e f=>CallT Pg 121 #[iQq 2,g4q t u v y,.string ⟨#[71,114,97,121,49,54]⟩] k fun z l=>∃a,And (z=iQq a) (l4q l b fun A B C D=>And ((g4q A B C D)=g4q c d e f) (l4q l b fun E F G H=>And ((g4q E F G H)=g4q g h i j) (And (And (0<=a/\a<=a/\a<=281474976710656/\(1:Int)*a<=281474976710656) (qL l (.cells (uI Pg 5 a.toNat) 5) fun I m=>l4q m b fun J K L M=>And ((g4q J K L M)=g4q c d e f) (l4q m b fun N O P Q=>And ((g4q N O P Q)=g4q g h i j) (CallT Pg 122 #[g4q g h i j] m fun S o=>∃p,And (S=iQq p) (l4q o b fun T U V X=>And ((g4q T U V X)=g4q c d e f) (qL o (.cells #[.slice (some ⟨I,0,none⟩) a.toNat a.toNat,iQq (wIq ((2:Int)*p)),iQq c,iQq d,iQq e,iQq f] 175) fun Y Z=>R (.pointer (some ⟨Y,0,none⟩)) Z)))))) (CallT Pg 122 #[g4q g h i j] l fun aa q=>∃r,And (aa=iQq r) (l4q q b fun ab ac ad ae=>And ((g4q ab ac ad ae)=g4q c d e f) (And (0<=a/\a<=a/\a<=281474976710656/\(1:Int)*a<=281474976710656) (qL q (.cells (uI Pg 5 a.toNat) 5) fun af n=>l4q n b fun ag ah ai aj=>And ((g4q ag ah ai aj)=g4q c d e f) (l4q n b fun ak al am ao=>And ((g4q ak al am ao)=g4q g h i j) (qL n (.cells #[.slice (some ⟨af,0,none⟩) a.toNat a.toNat,iQq (wIq ((2:Int)*r)),iQq c,iQq d,iQq e,iQq f] 175) fun ap aq=>R (.pointer (some ⟨ap,0,none⟩)) aq)))))))))
theorem call111{x0_0:Int}{x0_1:Int}{x0_2:Int}{x0_3:Int}{R:vPq}{w:wQ}(h:wp111 x0_0 x0_1 x0_2 x0_3 R w):CallT Pg 111 #[.agg #[.int .i64 x0_0,.int .i64 x0_1,.int .i64 x0_2,.int .i64 x0_3]] w R:=cVq [] Tryz.func111 h
def wp112(x0_0:Int)(x0_1:Int)(x0_2:Int)(x0_3:Int)(R:vPq)(w:wQ):Prop:=qL w (.cells #[iQq x0_0,iQq x0_1,iQq x0_2,iQq x0_3] 171) fun b s=>qO s fun k=>l4q k b fun t u v y=>l4q k b fun g h i j=>l4q k b fun c d e f=>CallT Pg 121 #[iQq 8,g4q t u v y,.string ⟨#[82,71,66,65,54,52]⟩] k fun z l=>∃a,And (z=iQq a) (l4q l b fun A B C D=>And ((g4q A B C D)=g4q c d e f) (l4q l b fun E F G H=>And ((g4q E F G H)=g4q g h i j) (And (And (0<=a/\a<=a/\a<=281474976710656/\(1:Int)*a<=281474976710656) (qL l (.cells (uI Pg 5 a.toNat) 5) fun I m=>l4q m b fun J K L M=>And ((g4q J K L M)=g4q c d e f) (l4q m b fun N O P Q=>And ((g4q N O P Q)=g4q g h i j) (CallT Pg 122 #[g4q g h i j] m fun S o=>∃p,And (S=iQq p) (l4q o b fun T U V X=>And ((g4q T U V X)=g4q c d e f) (qL o (.cells #[.slice (some ⟨I,0,none⟩) a.toNat a.toNat,iQq (wIq ((8:Int)*p)),iQq c,iQq d,iQq e,iQq f] 179) fun Y Z=>R (.pointer (some ⟨Y,0,none⟩)) Z)))))) (CallT Pg 122 #[g4q g h i j] l fun aa q=>∃r,And (aa=iQq r) (l4q q b fun ab ac ad ae=>And ((g4q ab ac ad ae)=g4q c d e f) (And (0<=a/\a<=a/\a<=281474976710656/\(1:Int)*a<=281474976710656) (qL q (.cells (uI Pg 5 a.toNat) 5) fun af n=>l4q n b fun ag ah ai aj=>And ((g4q ag ah ai aj)=g4q c d e f) (l4q n b fun ak al am ao=>And ((g4q ak al am ao)=g4q g h i j) (qL n (.cells #[.slice (some ⟨af,0,none⟩) a.toNat a.toNat,iQq (wIq ((8:Int)*r)),iQq c,iQq d,iQq e,iQq f] 179) fun ap aq=>R (.pointer (some ⟨ap,0,none⟩)) aq)))))))))
theorem call112{x0_0:Int}{x0_1:Int}{x0_2:Int}{x0_3:Int}{R:vPq}{w:wQ}(h:wp112 x0_0 x0_1 x0_2 x0_3 R w):CallT Pg 112 #[.agg #[.int .i64 x0_0,.int .i64 x0_1,.int .i64 x0_2,.int .i64 x0_3]] w R:=cVq [] Tryz.func112 h
def wp114(x0:Addr)(x1:Int)(x2:Int)(x3_0:Int)(x3_1:Int)(x3_2:Int)(x3_3:Int)(R:vPq)(w:wQ):Prop:=qL w (.cells #[.int .u8 x3_0,.int .u8 x3_1,.int .u8 x3_2,.int .u8 x3_3] 132) fun c b=>LdI b (aQq x0 2) .i64 fun k=>LdI b ⟨x0.block,x0.off+2+1,none⟩ .i64 fun l=>LdI b ⟨x0.block,x0.off+2+2,none⟩ .i64 fun m=>LdI b ⟨x0.block,x0.off+2+3,none⟩ .i64 fun n=>CallT Pg 124 #[.agg #[iQq x1,iQq x2],g4q k l m n] b fun o f=>∃g,And (o= .bool g) (IfC (!g) (R (.tuple #[]) f) (CallT Pg 125 #[.pointer (some x0),iQq x1,iQq x2] f fun p e=>∃a,And (p=iQq a) (qS e x0 fun d C q=>And (0<=wIq (a+4)/\wIq (a+4)<=(q:Int)) (And (0<=wIq (a+4)/\wIq (a+4)<=wIq (a+4)) (And (0<=a/\a<=wIq (a+4)) (LdI e ⟨c,0,none⟩ .u8 fun r=>And (0<=(0:Int)/\(0:Int)<((((wIq (a+4)).toNat) -a.toNat:Nat):Int)) (qN (qQ d ((wIq (a+4)).toNat) a.toNat 1) fun s=>qB e s (.int .u8 r) fun h=>LdI h ⟨c,0+1,none⟩ .u8 fun t=>And (0<=(1:Int)/\(1:Int)<((((wIq (a+4)).toNat) -a.toNat:Nat):Int)) (qN (qQ d ((wIq (a+4)).toNat) a.toNat 1) fun u=>qB h (aQq u 1) (.int .u8 t) fun i=>LdI i ⟨c,0+2,none⟩ .u8 fun v=>And (0<=(2:Int)/\(2:Int)<((((wIq (a+4)).toNat) -a.toNat:Nat):Int)) (qN (qQ d ((wIq (a+4)).toNat) a.toNat 1) fun y=>qB i (aQq y 2) (.int .u8 v) fun j=>LdI j ⟨c,0+3,none⟩ .u8 fun z=>And (0<=(3:Int)/\(3:Int)<((((wIq (a+4)).toNat) -a.toNat:Nat):Int)) (qN (qQ d ((wIq (a+4)).toNat) a.toNat 1) fun A=>qB j (aQq A 3) (.int .u8 z) fun B=>R (.tuple #[]) B))))))))))
theorem call114{x0:Addr}{x1:Int}{x2:Int}{x3_0:Int}{x3_1:Int}{x3_2:Int}{x3_3:Int}{R:vPq}{w:wQ}(h:wp114 x0 x1 x2 x3_0 x3_1 x3_2 x3_3 R w):CallT Pg 114 #[.pointer (some x0),.int .i64 x1,.int .i64 x2,.agg #[.int .u8 x3_0,.int .u8 x3_1,.int .u8 x3_2,.int .u8 x3_3]] w R:=cVq [] Tryz.func114 h
def wp115(x0:Addr)(x1:Int)(x2:Int)(x3_0:Int)(R:vPq)(w:wQ):Prop:=qL w (.cells #[.int .u8 x3_0] 229) fun f a=>LdI a (aQq x0 2) .i64 fun g=>LdI a ⟨x0.block,x0.off+2+1,none⟩ .i64 fun h=>LdI a ⟨x0.block,x0.off+2+2,none⟩ .i64 fun i=>LdI a ⟨x0.block,x0.off+2+3,none⟩ .i64 fun j=>CallT Pg 124 #[.agg #[iQq x1,iQq x2],g4q g h i j] a fun k d=>∃e,And (k= .bool e) (IfC (!e) (R (.tuple #[]) d) (CallT Pg 126 #[.pointer (some x0),iQq x1,iQq x2] d fun l m=>∃b,And (l=iQq b) (qO m fun c=>qS c x0 fun n o s=>LdI c ⟨f,0,none⟩ .u8 fun p=>And (0<=b/\b<(o:Int)) (qN n fun q=>qB c (qH q b.toNat 1) (.int .u8 p) fun r=>R (.tuple #[]) r))))
theorem call115{x0:Addr}{x1:Int}{x2:Int}{x3_0:Int}{R:vPq}{w:wQ}(h:wp115 x0 x1 x2 x3_0 R w):CallT Pg 115 #[.pointer (some x0),.int .i64 x1,.int .i64 x2,.agg #[.int .u8 x3_0]] w R:=cVq [] Tryz.func115 h
def wp116(x0:Addr)(x1:Int)(x2:Int)(x3:Int)(R:vPq)(w:wQ):Prop:=LdI w (aQq x0 2) .i64 fun e=>LdI w ⟨x0.block,x0.off+2+1,none⟩ .i64 fun f=>LdI w ⟨x0.block,x0.off+2+2,none⟩ .i64 fun g=>LdI w ⟨x0.block,x0.off+2+3,none⟩ .i64 fun h=>CallT Pg 124 #[.agg #[iQq x1,iQq x2],g4q e f g h] w fun i b=>∃c,And (i= .bool c) (IfC (!c) (R (.tuple #[]) b) (CallT Pg 127 #[.pointer (some x0),iQq x1,iQq x2] b fun j d=>∃a,And (j=iQq a) (qS d x0 fun k l o=>And (0<=a/\a<(l:Int)) (qN k fun m=>qB d (qH m a.toNat 1) (.int .u8 x3) fun n=>R (.tuple #[]) n))))
theorem call116{x0:Addr}{x1:Int}{x2:Int}{x3:Int}{R:vPq}{w:wQ}(h:wp116 x0 x1 x2 x3 R w):CallT Pg 116 #[.pointer (some x0),.int .i64 x1,.int .i64 x2,.int .u8 x3] w R:=cVq [] Tryz.func116 h
def wp117(x0:Addr)(x1:Int)(x2:Int)(x3_0:Int)(x3_1:Int)(x3_2:Int)(x3_3:Int)(R:vPq)(w:wQ):Prop:=qL w (.cells #[.int .u16 x3_0,.int .u16 x3_1,.int .u16 x3_2,.int .u16 x3_3] 233) fun b d=>LdI d (aQq x0 2) .i64 fun o=>LdI d ⟨x0.block,x0.off+2+1,none⟩ .i64 fun p=>LdI d ⟨x0.block,x0.off+2+2,none⟩ .i64 fun q=>LdI d ⟨x0.block,x0.off+2+3,none⟩ .i64 fun r=>CallT Pg 124 #[.agg #[iQq x1,iQq x2],g4q o p q r] d fun s f=>∃g,And (s= .bool g) (IfC (!g) (R (.tuple #[]) f) (CallT Pg 128 #[.pointer (some x0),iQq x1,iQq x2] f fun t e=>∃a,And (t=iQq a) (qS e x0 fun c O u=>And (0<=wIq (a+8)/\wIq (a+8)<=(u:Int)) (And (0<=wIq (a+8)/\wIq (a+8)<=wIq (a+8)) (And (0<=a/\a<=wIq (a+8)) (LdI e ⟨b,0,none⟩ .u16 fun v=>ShC 8 (And (0<=(0:Int)/\(0:Int)<((((wIq (a+8)).toNat) -a.toNat:Nat):Int)) (qN (qQ c ((wIq (a+8)).toNat) a.toNat 1) fun y=>qB e y (.int .u8 (wrap .u8 (qY .u16 v 8))) fun h=>LdI h ⟨b,0,none⟩ .u16 fun z=>And (0<=(1:Int)/\(1:Int)<((((wIq (a+8)).toNat) -a.toNat:Nat):Int)) (qN (qQ c ((wIq (a+8)).toNat) a.toNat 1) fun A=>qB h (aQq A 1) (.int .u8 (wrap .u8 z)) fun i=>LdI i ⟨b,0+1,none⟩ .u16 fun B=>ShC 8 (And (0<=(2:Int)/\(2:Int)<((((wIq (a+8)).toNat) -a.toNat:Nat):Int)) (qN (qQ c ((wIq (a+8)).toNat) a.toNat 1) fun C=>qB i (aQq C 2) (.int .u8 (wrap .u8 (qY .u16 B 8))) fun j=>LdI j ⟨b,0+1,none⟩ .u16 fun D=>And (0<=(3:Int)/\(3:Int)<((((wIq (a+8)).toNat) -a.toNat:Nat):Int)) (qN (qQ c ((wIq (a+8)).toNat) a.toNat 1) fun E=>qB j (aQq E 3) (.int .u8 (wrap .u8 D)) fun k=>LdI k ⟨b,0+2,none⟩ .u16 fun F=>ShC 8 (And (0<=(4:Int)/\(4:Int)<((((wIq (a+8)).toNat) -a.toNat:Nat):Int)) (qN (qQ c ((wIq (a+8)).toNat) a.toNat 1) fun G=>qB k (aQq G 4) (.int .u8 (wrap .u8 (qY .u16 F 8))) fun l=>LdI l ⟨b,0+2,none⟩ .u16 fun H=>And (0<=(5:Int)/\(5:Int)<((((wIq (a+8)).toNat) -a.toNat:Nat):Int)) (qN (qQ c ((wIq (a+8)).toNat) a.toNat 1) fun I=>qB l (aQq I 5) (.int .u8 (wrap .u8 H)) fun m=>LdI m ⟨b,0+3,none⟩ .u16 fun J=>ShC 8 (And (0<=(6:Int)/\(6:Int)<((((wIq (a+8)).toNat) -a.toNat:Nat):Int)) (qN (qQ c ((wIq (a+8)).toNat) a.toNat 1) fun K=>qB m (aQq K 6) (.int .u8 (wrap .u8 (qY .u16 J 8))) fun n=>LdI n ⟨b,0+3,none⟩ .u16 fun L=>And (0<=(7:Int)/\(7:Int)<((((wIq (a+8)).toNat) -a.toNat:Nat):Int)) (qN (qQ c ((wIq (a+8)).toNat) a.toNat 1) fun M=>qB n (aQq M 7) (.int .u8 (wrap .u8 L)) fun N=>R (.tuple #[]) N))))))))))))))))))
theorem call117{x0:Addr}{x1:Int}{x2:Int}{x3_0:Int}{x3_1:Int}{x3_2:Int}{x3_3:Int}{R:vPq}{w:wQ}(h:wp117 x0 x1 x2 x3_0 x3_1 x3_2 x3_3 R w):CallT Pg 117 #[.pointer (some x0),.int .i64 x1,.int .i64 x2,.agg #[.int .u16 x3_0,.int .u16 x3_1,.int .u16 x3_2,.int .u16 x3_3]] w R:=cVq [] Tryz.func117 h
def wp118(x0:Addr)(x1:Int)(x2:Int)(x3_0:Int)(R:vPq)(w:wQ):Prop:=qL w (.cells #[.int .u16 x3_0] 236) fun e b=>LdI b (aQq x0 2) .i64 fun h=>LdI b ⟨x0.block,x0.off+2+1,none⟩ .i64 fun i=>LdI b ⟨x0.block,x0.off+2+2,none⟩ .i64 fun j=>LdI b ⟨x0.block,x0.off+2+3,none⟩ .i64 fun k=>CallT Pg 124 #[.agg #[iQq x1,iQq x2],g4q h i j k] b fun l f=>∃g,And (l= .bool g) (IfC (!g) (R (.tuple #[]) f) (CallT Pg 129 #[.pointer (some x0),iQq x1,iQq x2] f fun m n=>∃a,And (m=iQq a) (qO n fun c=>qS c x0 fun o p A=>LdI c ⟨e,0,none⟩ .u16 fun q=>ShC 8 (And (0<=wIq (a+0)/\wIq (a+0)<(p:Int)) (qN o fun r=>qB c (qH r ((wIq (a+0)).toNat) 1) (.int .u8 (wrap .u8 (qY .u16 q 8))) fun s=>qO s fun d=>qS d x0 fun t u B=>LdI d ⟨e,0,none⟩ .u16 fun v=>And (0<=wIq (a+1)/\wIq (a+1)<(u:Int)) (qN t fun y=>qB d (qH y ((wIq (a+1)).toNat) 1) (.int .u8 (wrap .u8 v)) fun z=>R (.tuple #[]) z))))))
theorem call118{x0:Addr}{x1:Int}{x2:Int}{x3_0:Int}{R:vPq}{w:wQ}(h:wp118 x0 x1 x2 x3_0 R w):CallT Pg 118 #[.pointer (some x0),.int .i64 x1,.int .i64 x2,.agg #[.int .u16 x3_0]] w R:=cVq [] Tryz.func118 h
def wp119(x0:Addr)(x1:Int)(x2:Int)(x3_0:Int)(x3_1:Int)(x3_2:Int)(x3_3:Int)(R:vPq)(w:wQ):Prop:=qL w (.cells #[.int .u16 x3_0,.int .u16 x3_1,.int .u16 x3_2,.int .u16 x3_3] 238) fun b d=>LdI d (aQq x0 2) .i64 fun o=>LdI d ⟨x0.block,x0.off+2+1,none⟩ .i64 fun p=>LdI d ⟨x0.block,x0.off+2+2,none⟩ .i64 fun q=>LdI d ⟨x0.block,x0.off+2+3,none⟩ .i64 fun r=>CallT Pg 124 #[.agg #[iQq x1,iQq x2],g4q o p q r] d fun s f=>∃g,And (s= .bool g) (IfC (!g) (R (.tuple #[]) f) (CallT Pg 130 #[.pointer (some x0),iQq x1,iQq x2] f fun t e=>∃a,And (t=iQq a) (qS e x0 fun c O u=>And (0<=wIq (a+8)/\wIq (a+8)<=(u:Int)) (And (0<=wIq (a+8)/\wIq (a+8)<=wIq (a+8)) (And (0<=a/\a<=wIq (a+8)) (LdI e ⟨b,0,none⟩ .u16 fun v=>ShC 8 (And (0<=(0:Int)/\(0:Int)<((((wIq (a+8)).toNat) -a.toNat:Nat):Int)) (qN (qQ c ((wIq (a+8)).toNat) a.toNat 1) fun y=>qB e y (.int .u8 (wrap .u8 (qY .u16 v 8))) fun h=>LdI h ⟨b,0,none⟩ .u16 fun z=>And (0<=(1:Int)/\(1:Int)<((((wIq (a+8)).toNat) -a.toNat:Nat):Int)) (qN (qQ c ((wIq (a+8)).toNat) a.toNat 1) fun A=>qB h (aQq A 1) (.int .u8 (wrap .u8 z)) fun i=>LdI i ⟨b,0+1,none⟩ .u16 fun B=>ShC 8 (And (0<=(2:Int)/\(2:Int)<((((wIq (a+8)).toNat) -a.toNat:Nat):Int)) (qN (qQ c ((wIq (a+8)).toNat) a.toNat 1) fun C=>qB i (aQq C 2) (.int .u8 (wrap .u8 (qY .u16 B 8))) fun j=>LdI j ⟨b,0+1,none⟩ .u16 fun D=>And (0<=(3:Int)/\(3:Int)<((((wIq (a+8)).toNat) -a.toNat:Nat):Int)) (qN (qQ c ((wIq (a+8)).toNat) a.toNat 1) fun E=>qB j (aQq E 3) (.int .u8 (wrap .u8 D)) fun k=>LdI k ⟨b,0+2,none⟩ .u16 fun F=>ShC 8 (And (0<=(4:Int)/\(4:Int)<((((wIq (a+8)).toNat) -a.toNat:Nat):Int)) (qN (qQ c ((wIq (a+8)).toNat) a.toNat 1) fun G=>qB k (aQq G 4) (.int .u8 (wrap .u8 (qY .u16 F 8))) fun l=>LdI l ⟨b,0+2,none⟩ .u16 fun H=>And (0<=(5:Int)/\(5:Int)<((((wIq (a+8)).toNat) -a.toNat:Nat):Int)) (qN (qQ c ((wIq (a+8)).toNat) a.toNat 1) fun I=>qB l (aQq I 5) (.int .u8 (wrap .u8 H)) fun m=>LdI m ⟨b,0+3,none⟩ .u16 fun J=>ShC 8 (And (0<=(6:Int)/\(6:Int)<((((wIq (a+8)).toNat) -a.toNat:Nat):Int)) (qN (qQ c ((wIq (a+8)).toNat) a.toNat 1) fun K=>qB m (aQq K 6) (.int .u8 (wrap .u8 (qY .u16 J 8))) fun n=>LdI n ⟨b,0+3,none⟩ .u16 fun L=>And (0<=(7:Int)/\(7:Int)<((((wIq (a+8)).toNat) -a.toNat:Nat):Int)) (qN (qQ c ((wIq (a+8)).toNat) a.toNat 1) fun M=>qB n (aQq M 7) (.int .u8 (wrap .u8 L)) fun N=>R (.tuple #[]) N))))))))))))))))))
theorem call119{x0:Addr}{x1:Int}{x2:Int}{x3_0:Int}{x3_1:Int}{x3_2:Int}{x3_3:Int}{R:vPq}{w:wQ}(h:wp119 x0 x1 x2 x3_0 x3_1 x3_2 x3_3 R w):CallT Pg 119 #[.pointer (some x0),.int .i64 x1,.int .i64 x2,.agg #[.int .u16 x3_0,.int .u16 x3_1,.int .u16 x3_2,.int .u16 x3_3]] w R:=cVq [] Tryz.func119 h
def wp121(x0:Int)(x1_0:Int)(x1_1:Int)(x1_2:Int)(x1_3:Int)(x2:ByteArray)(R:vPq)(w:wQ):Prop:=qL w (.cells #[iQq x1_0,iQq x1_1,iQq x1_2,iQq x1_3] 171) fun a k=>qO k fun b=>l4q b a fun l m n o=>l4q b a fun d e f g=>CallT Pg 122 #[g4q l m n o] b fun p h=>∃i,And (p=iQq i) (l4q h a fun q r s t=>And ((g4q q r s t)=g4q d e f g) (CallT Pg 139 #[g4q d e f g] h fun u v=>∃j,And (u=iQq j) (CallT Pg 138 #[iQq x0,iQq i,iQq j] v fun y z=>∃c,And (y=iQq c) (IfC (decide (c<(0:Int))) (And (ByteArray.size ⟨#[105,109,97,103,101,58,32,78,101,119]⟩+ByteArray.size x2<=9223372036854775807) (And (ByteArray.size (⟨#[105,109,97,103,101,58,32,78,101,119]⟩++x2)+ByteArray.size ⟨#[32,82,101,99,116,97,110,103,108,101,32,104,97,115,32,104,117,103,101,32,111,114,32,110,101,103,97,116,105,118,101,32,100,105,109,101,110,115,105,111,110,115]⟩<=9223372036854775807) (False))) (R (iQq c) z)))))
theorem call121{x0:Int}{x1_0:Int}{x1_1:Int}{x1_2:Int}{x1_3:Int}{x2:ByteArray}{R:vPq}{w:wQ}(h:wp121 x0 x1_0 x1_1 x1_2 x1_3 x2 R w):CallT Pg 121 #[.int .i64 x0,.agg #[.int .i64 x1_0,.int .i64 x1_1,.int .i64 x1_2,.int .i64 x1_3],.string x2] w R:=cVq [] Tryz.func121 h
def wp122(x0_0:Int)(x0_1:Int)(x0_2:Int)(x0_3:Int)(R:vPq)(w:wQ):Prop:=qL w (.cells #[iQq x0_0,iQq x0_1,iQq x0_2,iQq x0_3] 171) fun b a=>LdI a ⟨b,0+2,none⟩ .i64 fun c=>LdI a ⟨b,0,none⟩ .i64 fun d=>R (iQq (wIq (c -d))) a
theorem call122{x0_0:Int}{x0_1:Int}{x0_2:Int}{x0_3:Int}{R:vPq}{w:wQ}(h:wp122 x0_0 x0_1 x0_2 x0_3 R w):CallT Pg 122 #[.agg #[.int .i64 x0_0,.int .i64 x0_1,.int .i64 x0_2,.int .i64 x0_3]] w R:=cVq [] Tryz.func122 h
def wp124(x0_0:Int)(x0_1:Int)(x1_0:Int)(x1_1:Int)(x1_2:Int)(x1_3:Int)(R:vPq)(w:wQ):Prop:=qL w (.cells #[iQq x0_0,iQq x0_1] 169) fun b d=>qL d (.cells #[iQq x1_0,iQq x1_1,iQq x1_2,iQq x1_3] 171) fun c a=>LdI a ⟨c,0,none⟩ .i64 fun e=>LdI a ⟨b,0,none⟩ .i64 fun f=>IfC (decide (e<=f)) (LdI a ⟨b,0,none⟩ .i64 fun g=>LdI a ⟨c,0+2,none⟩ .i64 fun h=>IfC (decide (g<h)) (LdI a ⟨c,0+1,none⟩ .i64 fun i=>LdI a ⟨b,0+1,none⟩ .i64 fun j=>IfC (decide (i<=j)) (LdI a ⟨b,0+1,none⟩ .i64 fun k=>LdI a ⟨c,0+2+1,none⟩ .i64 fun l=>R (.bool (decide (k<l))) a) (R (.bool false) a)) (R (.bool false) a)) (R (.bool false) a)
theorem call124{x0_0:Int}{x0_1:Int}{x1_0:Int}{x1_1:Int}{x1_2:Int}{x1_3:Int}{R:vPq}{w:wQ}(h:wp124 x0_0 x0_1 x1_0 x1_1 x1_2 x1_3 R w):CallT Pg 124 #[.agg #[.int .i64 x0_0,.int .i64 x0_1],.agg #[.int .i64 x1_0,.int .i64 x1_1,.int .i64 x1_2,.int .i64 x1_3]] w R:=cVq [] Tryz.func124 h
def wp125(x0:Addr)(x1:Int)(x2:Int)(R:vPq)(w:wQ):Prop:=qO w fun a=>LdI a ⟨x0.block,x0.off+2+1,none⟩ .i64 fun b=>LdI a (aQq x0 1) .i64 fun c=>LdI a (aQq x0 2) .i64 fun d=>R (iQq (wIq ((wIq ((wIq (x2 -b))*c))+(wIq ((wIq (x1 -d))*4))))) a
theorem call125{x0:Addr}{x1:Int}{x2:Int}{R:vPq}{w:wQ}(h:wp125 x0 x1 x2 R w):CallT Pg 125 #[.pointer (some x0),.int .i64 x1,.int .i64 x2] w R:=cVq [] Tryz.func125 h
def wp126(x0:Addr)(x1:Int)(x2:Int)(R:vPq)(w:wQ):Prop:=qO w fun a=>LdI a ⟨x0.block,x0.off+2+1,none⟩ .i64 fun b=>LdI a (aQq x0 1) .i64 fun c=>LdI a (aQq x0 2) .i64 fun d=>R (iQq (wIq ((wIq ((wIq (x2 -b))*c))+(wIq ((wIq (x1 -d))*1))))) a
theorem call126{x0:Addr}{x1:Int}{x2:Int}{R:vPq}{w:wQ}(h:wp126 x0 x1 x2 R w):CallT Pg 126 #[.pointer (some x0),.int .i64 x1,.int .i64 x2] w R:=cVq [] Tryz.func126 h
def wp127(x0:Addr)(x1:Int)(x2:Int)(R:vPq)(w:wQ):Prop:=qO w fun a=>LdI a ⟨x0.block,x0.off+2+1,none⟩ .i64 fun b=>LdI a (aQq x0 1) .i64 fun c=>LdI a (aQq x0 2) .i64 fun d=>R (iQq (wIq ((wIq ((wIq (x2 -b))*c))+(wIq ((wIq (x1 -d))*1))))) a
theorem call127{x0:Addr}{x1:Int}{x2:Int}{R:vPq}{w:wQ}(h:wp127 x0 x1 x2 R w):CallT Pg 127 #[.pointer (some x0),.int .i64 x1,.int .i64 x2] w R:=cVq [] Tryz.func127 h
def wp128(x0:Addr)(x1:Int)(x2:Int)(R:vPq)(w:wQ):Prop:=qO w fun a=>LdI a ⟨x0.block,x0.off+2+1,none⟩ .i64 fun b=>LdI a (aQq x0 1) .i64 fun c=>LdI a (aQq x0 2) .i64 fun d=>R (iQq (wIq ((wIq ((wIq (x2 -b))*c))+(wIq ((wIq (x1 -d))*8))))) a
theorem call128{x0:Addr}{x1:Int}{x2:Int}{R:vPq}{w:wQ}(h:wp128 x0 x1 x2 R w):CallT Pg 128 #[.pointer (some x0),.int .i64 x1,.int .i64 x2] w R:=cVq [] Tryz.func128 h
def wp129(x0:Addr)(x1:Int)(x2:Int)(R:vPq)(w:wQ):Prop:=qO w fun a=>LdI a ⟨x0.block,x0.off+2+1,none⟩ .i64 fun b=>LdI a (aQq x0 1) .i64 fun c=>LdI a (aQq x0 2) .i64 fun d=>R (iQq (wIq ((wIq ((wIq (x2 -b))*c))+(wIq ((wIq (x1 -d))*2))))) a
theorem call129{x0:Addr}{x1:Int}{x2:Int}{R:vPq}{w:wQ}(h:wp129 x0 x1 x2 R w):CallT Pg 129 #[.pointer (some x0),.int .i64 x1,.int .i64 x2] w R:=cVq [] Tryz.func129 h
def wp130(x0:Addr)(x1:Int)(x2:Int)(R:vPq)(w:wQ):Prop:=qO w fun a=>LdI a ⟨x0.block,x0.off+2+1,none⟩ .i64 fun b=>LdI a (aQq x0 1) .i64 fun c=>LdI a (aQq x0 2) .i64 fun d=>R (iQq (wIq ((wIq ((wIq (x2 -b))*c))+(wIq ((wIq (x1 -d))*8))))) a
theorem call130{x0:Addr}{x1:Int}{x2:Int}{R:vPq}{w:wQ}(h:wp130 x0 x1 x2 R w):CallT Pg 130 #[.pointer (some x0),.int .i64 x1,.int .i64 x2] w R:=cVq [] Tryz.func130 h
def wp138(x0:Int)(x1:Int)(x2:Int)(R:vPq)(w:wQ):Prop:=xH (fun(k:(Unit)) (g:wQ)=>CallT Pg 146 #[.int .u64 (wrap .u64 x0),.int .u64 (wrap .u64 x1)] g fun h c=>∃d e,And (h= .tuple #[.int .u64 d,.int .u64 e]) (IfC (d !=(0:Int)) (R (iQq (-1:Int):Value) c) (CallT Pg 146 #[.int .u64 e,.int .u64 (wrap .u64 x2)] c fun i b=>∃f a,And (i= .tuple #[.int .u64 f,.int .u64 a]) (IfC (f !=(0:Int)) (R (iQq (-1:Int):Value) b) (IfC (decide ((wIq a)<(0:Int))) (R (iQq (-1:Int):Value) b) (IfC ((wrap .u64 (wIq a)) !=a) (R (iQq (-1:Int):Value) b) (R (iQq (wIq a)) b))))))) (fun j=>IfC (decide (x0<(0:Int))) (R (iQq (-1:Int):Value) w) (IfC (decide (x1<(0:Int))) (R (iQq (-1:Int):Value) w) (IfC (decide (x2<(0:Int))) (R (iQq (-1:Int):Value) w) (j (()) w))))
theorem call138{x0:Int}{x1:Int}{x2:Int}{R:vPq}{w:wQ}(h:wp138 x0 x1 x2 R w):CallT Pg 138 #[.int .i64 x0,.int .i64 x1,.int .i64 x2] w R:=cVq [(2,[],[0,1,2])] Tryz.func138 h
def wp139(x0_0:Int)(x0_1:Int)(x0_2:Int)(x0_3:Int)(R:vPq)(w:wQ):Prop:=qL w (.cells #[iQq x0_0,iQq x0_1,iQq x0_2,iQq x0_3] 171) fun b a=>LdI a ⟨b,0+2+1,none⟩ .i64 fun c=>LdI a ⟨b,0+1,none⟩ .i64 fun d=>R (iQq (wIq (c -d))) a
theorem call139{x0_0:Int}{x0_1:Int}{x0_2:Int}{x0_3:Int}{R:vPq}{w:wQ}(h:wp139 x0_0 x0_1 x0_2 x0_3 R w):CallT Pg 139 #[.agg #[.int .i64 x0_0,.int .i64 x0_1,.int .i64 x0_2,.int .i64 x0_3]] w R:=cVq [] Tryz.func139 h
def wp146(x0:Int)(x1:Int)(R:vPq)(w:wQ):Prop:=ShC 32 (ShC 32 (ShC 32 (ShC 32 (ShC 32 (R (.tuple #[.int .u64 (wrap .u64 ((wrap .u64 ((wrap .u64 ((qY .u64 x0 32)*(qY .u64 x1 32)))+(qY .u64 (wrap .u64 ((wrap .u64 ((qY .u64 x0 32)*(zF .u64 x1 4294967295)))+(qY .u64 (wrap .u64 ((zF .u64 x0 4294967295)*(zF .u64 x1 4294967295))) (32:Int)))) (32:Int))))+(qY .u64 (wrap .u64 ((zF .u64 (wrap .u64 ((wrap .u64 ((qY .u64 x0 32)*(zF .u64 x1 4294967295)))+(qY .u64 (wrap .u64 ((zF .u64 x0 4294967295)*(zF .u64 x1 4294967295))) (32:Int)))) (4294967295:Int))+(wrap .u64 ((zF .u64 x0 4294967295)*(qY .u64 x1 32))))) (32:Int)))),.int .u64 (wrap .u64 (x0*x1))]:Value) w)))))
theorem call146{x0:Int}{x1:Int}{R:vPq}{w:wQ}(h:wp146 x0 x1 R w):CallT Pg 146 #[.int .u64 x0,.int .u64 x1] w R:=cVq [] Tryz.func146 h
section
variable{w w':wQ}
def BR(w:wQ)(b n:Nat):Prop:=∃xs:bQ,xs.length=n/\hp w b=Row 5 (bv xs).toArray
theorem BR.fr{S:List Nat}{b n:Nat}(h:BR w b n)(hf:Fr S w w')(hb:b∉S):BR w' b n:=by
 obtain⟨xs,h1,h2⟩:=h;exact⟨xs,h1,hf.row h2 hb⟩
theorem BR.fr0{b n:Nat}(h:BR w b n)(hf:Fr [] w w'):BR w' b n:=h.fr hf sQ
theorem BR.lt{b n:Nat}(h:BR w b n):b<hn w:=by
 obtain⟨xs,_,h⟩:=h;exact zM h
def U8(v:Int):Prop:=0<=v/\v<256
theorem U8.val{v:Int}(h:U8 v):∃y:UInt8,Value.int .u8 v=u8v y:=by
 refine⟨UInt8.ofNat v.toNat,?_⟩;obtain⟨h1,h2⟩:=h;simp only[u8v,UInt8.toNat_ofNat']
 congr 1
 omega
theorem U8.wrap(n:Int):U8 (wrap .u8 n):=by
 unfold U8;rw[jP];omega
theorem BR.st{b n k:Nat}{v:Value}{K:World ->Prop}(h:BR w b n)(hk:k<n)(hv:∃y:UInt8,v=u8v y)(hK:∀w',BR w' b n ->Fr [b] w w' ->hn w'=hn w ->K w'):qB w ⟨b,k,none⟩ v K:=by
 obtain⟨xs,h1,h2⟩:=h;obtain⟨y,rfl⟩:=hv;refine qD h2 (by simp;omega) fun w' h' f' n'=>hK w' ⟨xs.set k y,by simpa using h1,?_⟩ f' n';rw[h']
 congr 1
 rw[<-iC];simp
theorem BR.ld{b n k:Nat}{K:Int ->Prop}(h:BR w b n)(hk:k<n)(hK:∀v:Int,U8 v ->K v):LdI w ⟨b,k,none⟩ .u8 K:=by
 obtain⟨xs,h1,h2⟩:=h;have hv:(bv xs).toArray[k]? =some (.int .u8 (gb xs k:Nat)):=by
  rw[List.getElem?_toArray];exact kZ oQ
 have:=yC xs k;exact qC h2 hv (hK _ ⟨oQ,oQ⟩)
theorem BR.zero{b n:Nat}(h:hp w b=Row 5 (Array.replicate n (.int .u8 0))):BR w b n:=⟨List.replicate n 0,sQ,by rw[h,oA]⟩
def iM(pb L st W H:Nat)(ex:List Value):vQ:=(.slice (some ⟨pb,0,none⟩) L L:: .int .i64 st:: .int .i64 0:: .int .i64 0:: .int .i64 W:: .int .i64 H::ex).toArray
structure ImgW (w:wQ) (ib pb:Nat) (IT:TypeId) (bpp W H:Nat) (ex:List Value):Prop where
 row:hp w ib=Row IT (iM pb (bpp*W*H) (bpp*W) W H ex)
 pix:BR w pb (bpp*W*H)
 ne:ib≠pb
 lim:W<=20/\H<=20/\1<=bpp/\bpp<=8
section
variable{ib pb bpp W H x y:Nat}{IT:TypeId}{ex:List Value}
theorem ImgW.fr{S:List Nat}(h:ImgW w ib pb IT bpp W H ex)(hf:Fr S w w')(h1:ib∉S)(h2:pb∉S):ImgW w' ib pb IT bpp W H ex:=⟨hf.row h.row h1,h.pix.fr hf h2,h.ne,h.lim⟩
theorem ImgW.fr0(h:ImgW w ib pb IT bpp W H ex)(hf:Fr [] w w'):ImgW w' ib pb IT bpp W H ex:=h.fr hf sQ sQ
theorem ImgW.fp(h:ImgW w ib pb IT bpp W H ex)(hf:Fr [pb] w w')(hp:BR w' pb (bpp*W*H)):ImgW w' ib pb IT bpp W H ex:=⟨hf.row1 h.row h.ne,hp,h.ne,h.lim⟩
theorem ImgW.lim2(h:ImgW w ib pb IT bpp W H ex):bpp*W*H<=3200/\bpp*W<=160:=by
 obtain⟨h1,h2,_,h4⟩:=h.lim;have a:bpp*W<=8*20:=Nat.mul_le_mul h4 h1;have b:bpp*W*H<=160*20:=Nat.mul_le_mul a h2;omega
theorem ImgW.idx(h:ImgW w ib pb IT bpp W H ex)(hx:x<W)(hy:y<H):y*(bpp*W)+x*bpp+bpp<=bpp*W*H:=by
 have a:(x+1)*bpp<=W*bpp:=Nat.mul_le_mul_right _ hx;have b:(y+1)*(bpp*W)<=H*(bpp*W):=Nat.mul_le_mul_right _ hy;rw[Nat.add_mul]at a b;rw[Nat.mul_comm W bpp]at a;rw[Nat.mul_comm H]at b;omega
theorem c124(hx:x<W)(hy:y<H):CallT Pg 124 #[.agg #[.int .i64 x,.int .i64 y],.agg #[.int .i64 (0:Int),.int .i64 (0:Int),.int .i64 W,.int .i64 H]] w fun v w'=>v= .bool true/\Fr [] w w'/\hn w<=hn w':=by
 apply call124;unfold wp124 iQq;refine qG fun w2 h2 f2 n2=>qG fun w4 h4 f4 n4=> ?_;have h24:=f4.row0 h2;refine qC h4 rfl (qC h24 rfl (qF (fun _ => ?_) (fun hc=>absurd oQ hc)));refine qC h24 rfl (qC h4 rfl (qF (fun _ => ?_) (fun hc=>absurd oQ hc)));refine qC h4 rfl (qC h24 rfl (qF (fun _ => ?_) (fun hc=>absurd oQ hc)));refine qC h24 rfl (qC h4 rfl ⟨?_,f2.trans f4,oQ⟩);rw[decide_eq_true oQ]
theorem c125(h:ImgW w ib pb IT 4 W H ex)(hx:x<W)(hy:y<H):CallT Pg 125 #[.pointer (some ⟨ib,0,none⟩),.int .i64 x,.int .i64 y] w fun v w'=>v= .int .i64 (y*(4*W)+x*4:Nat)/\Fr [] w w'/\hn w'=hn w:=by
 have h3:=h.lim2;have h4:=h.idx hx hy;have h5:y*(4*W)<=3200:=oQ;have h6:=h.lim;apply call125;unfold wp125 aQq wIq iQq;refine qE fun w1 f1 n1=> ?_;have hr:=f1.row0 h.row;refine qC hr rfl (qC hr rfl (qC hr rfl ⟨?_,f1,n1⟩));refine congrArg (Value.int .i64) ?_;rw[Int.sub_zero,Int.sub_zero,qA (n:=(y:Int)) oQ oQ,qA (n:=(x:Int)) oQ oQ];have e1:(y:Int)*((4*W:Nat):Int)=((y*(4*W):Nat):Int):=by simp
 rw[e1,qA (n:=((y*(4*W):Nat):Int)) oQ oQ,qA (n:=(x:Int)*4) oQ oQ,qA oQ oQ];omega
theorem c126(h:ImgW w ib pb IT 1 W H ex)(hx:x<W)(hy:y<H):CallT Pg 126 #[.pointer (some ⟨ib,0,none⟩),.int .i64 x,.int .i64 y] w fun v w'=>v= .int .i64 (y*(1*W)+x*1:Nat)/\Fr [] w w'/\hn w'=hn w:=by
 have h3:=h.lim2;have h4:=h.idx hx hy;have h5:y*(1*W)<=3200:=oQ;have h6:=h.lim;apply call126;unfold wp126 aQq wIq iQq;refine qE fun w1 f1 n1=> ?_;have hr:=f1.row0 h.row;refine qC hr rfl (qC hr rfl (qC hr rfl ⟨?_,f1,n1⟩));refine congrArg (Value.int .i64) ?_;rw[Int.sub_zero,Int.sub_zero,qA (n:=(y:Int)) oQ oQ,qA (n:=(x:Int)) oQ oQ];have e1:(y:Int)*((1*W:Nat):Int)=((y*(1*W):Nat):Int):=by simp
 rw[e1,qA (n:=((y*(1*W):Nat):Int)) oQ oQ,qA (n:=(x:Int)*1) oQ oQ,qA oQ oQ];omega
theorem c127(h:ImgW w ib pb IT 1 W H ex)(hx:x<W)(hy:y<H):CallT Pg 127 #[.pointer (some ⟨ib,0,none⟩),.int .i64 x,.int .i64 y] w fun v w'=>v= .int .i64 (y*(1*W)+x*1:Nat)/\Fr [] w w'/\hn w'=hn w:=by
 have h3:=h.lim2;have h4:=h.idx hx hy;have h5:y*(1*W)<=3200:=oQ;have h6:=h.lim;apply call127;unfold wp127 aQq wIq iQq;refine qE fun w1 f1 n1=> ?_;have hr:=f1.row0 h.row;refine qC hr rfl (qC hr rfl (qC hr rfl ⟨?_,f1,n1⟩));refine congrArg (Value.int .i64) ?_;rw[Int.sub_zero,Int.sub_zero,qA (n:=(y:Int)) oQ oQ,qA (n:=(x:Int)) oQ oQ];have e1:(y:Int)*((1*W:Nat):Int)=((y*(1*W):Nat):Int):=by simp
 rw[e1,qA (n:=((y*(1*W):Nat):Int)) oQ oQ,qA (n:=(x:Int)*1) oQ oQ,qA oQ oQ];omega
theorem c128(h:ImgW w ib pb IT 8 W H ex)(hx:x<W)(hy:y<H):CallT Pg 128 #[.pointer (some ⟨ib,0,none⟩),.int .i64 x,.int .i64 y] w fun v w'=>v= .int .i64 (y*(8*W)+x*8:Nat)/\Fr [] w w'/\hn w'=hn w:=by
 have h3:=h.lim2;have h4:=h.idx hx hy;have h5:y*(8*W)<=3200:=oQ;have h6:=h.lim;apply call128;unfold wp128 aQq wIq iQq;refine qE fun w1 f1 n1=> ?_;have hr:=f1.row0 h.row;refine qC hr rfl (qC hr rfl (qC hr rfl ⟨?_,f1,n1⟩));refine congrArg (Value.int .i64) ?_;rw[Int.sub_zero,Int.sub_zero,qA (n:=(y:Int)) oQ oQ,qA (n:=(x:Int)) oQ oQ];have e1:(y:Int)*((8*W:Nat):Int)=((y*(8*W):Nat):Int):=by simp
 rw[e1,qA (n:=((y*(8*W):Nat):Int)) oQ oQ,qA (n:=(x:Int)*8) oQ oQ,qA oQ oQ];omega
theorem c129(h:ImgW w ib pb IT 2 W H ex)(hx:x<W)(hy:y<H):CallT Pg 129 #[.pointer (some ⟨ib,0,none⟩),.int .i64 x,.int .i64 y] w fun v w'=>v= .int .i64 (y*(2*W)+x*2:Nat)/\Fr [] w w'/\hn w'=hn w:=by
 have h3:=h.lim2;have h4:=h.idx hx hy;have h5:y*(2*W)<=3200:=oQ;have h6:=h.lim;apply call129;unfold wp129 aQq wIq iQq;refine qE fun w1 f1 n1=> ?_;have hr:=f1.row0 h.row;refine qC hr rfl (qC hr rfl (qC hr rfl ⟨?_,f1,n1⟩));refine congrArg (Value.int .i64) ?_;rw[Int.sub_zero,Int.sub_zero,qA (n:=(y:Int)) oQ oQ,qA (n:=(x:Int)) oQ oQ];have e1:(y:Int)*((2*W:Nat):Int)=((y*(2*W):Nat):Int):=by simp
 rw[e1,qA (n:=((y*(2*W):Nat):Int)) oQ oQ,qA (n:=(x:Int)*2) oQ oQ,qA oQ oQ];omega
theorem c130(h:ImgW w ib pb IT 8 W H ex)(hx:x<W)(hy:y<H):CallT Pg 130 #[.pointer (some ⟨ib,0,none⟩),.int .i64 x,.int .i64 y] w fun v w'=>v= .int .i64 (y*(8*W)+x*8:Nat)/\Fr [] w w'/\hn w'=hn w:=by
 have h3:=h.lim2;have h4:=h.idx hx hy;have h5:y*(8*W)<=3200:=oQ;have h6:=h.lim;apply call130;unfold wp130 aQq wIq iQq;refine qE fun w1 f1 n1=> ?_;have hr:=f1.row0 h.row;refine qC hr rfl (qC hr rfl (qC hr rfl ⟨?_,f1,n1⟩));refine congrArg (Value.int .i64) ?_;rw[Int.sub_zero,Int.sub_zero,qA (n:=(y:Int)) oQ oQ,qA (n:=(x:Int)) oQ oQ];have e1:(y:Int)*((8*W:Nat):Int)=((y*(8*W):Nat):Int):=by simp
 rw[e1,qA (n:=((y*(8*W):Nat):Int)) oQ oQ,qA (n:=(x:Int)*8) oQ oQ,qA oQ oQ];omega
theorem c115{v:Int}(h:ImgW w ib pb IT 1 W H ex)(hx:x<W)(hy:y<H)(hv:U8 v):CallT Pg 115 #[.pointer (some ⟨ib,0,none⟩),.int .i64 x,.int .i64 y,.agg #[.int .u8 v]] w fun r w'=>r= .tuple #[]/\ImgW w' ib pb IT 1 W H ex/\Fr [pb] w w'/\hn w<=hn w':=by
 have h3:=h.lim2;have h4:=h.idx hx hy;apply call115;unfold wp115 g4q aQq iQq;refine qG fun w2 h2 f2 n2=> ?_;have i2:=h.fr0 f2;refine qC i2.row rfl (qC i2.row rfl (qC i2.row rfl (qC i2.row rfl ?_)));refine CallT.mono (c124 hx hy) ?_;rintro _ w8 ⟨rfl,f8,n8⟩;have i8:=i2.fr0 f8;refine⟨_,rfl,qM (CallT.mono (c126 i8 hx hy) ?_)⟩;rintro _ w11 ⟨rfl,f11,n11⟩;refine⟨_,rfl,qE fun w13 f13 n13=> ?_⟩;have i13:=(i8.fr0 f11).fr0 f13;have h13:=f13.row0 (f11.row0 (f8.row0 h2));refine qK i13.row rfl (qC h13 rfl ⟨⟨oQ,oQ⟩,?_⟩);rw[PtrC_some,elemAt_one,Int.toNat_natCast,Nat.zero_add];refine i13.pix.st oQ hv.val fun w19 b19 f19 n19=>⟨rfl,i13.fp f19 b19,?_,oQ⟩;exact(f2.mono sQ).trans ((f8.mono sQ).trans ((f11.mono sQ).trans ((f13.mono sQ).trans f19)))
theorem c116{v:Int}(h:ImgW w ib pb IT 1 W H ex)(hx:x<W)(hy:y<H)(hv:U8 v):CallT Pg 116 #[.pointer (some ⟨ib,0,none⟩),.int .i64 x,.int .i64 y,.int .u8 v] w fun r w'=>r= .tuple #[]/\ImgW w' ib pb IT 1 W H ex/\Fr [pb] w w'/\hn w<=hn w':=by
 have h3:=h.lim2;have h4:=h.idx hx hy;apply call116;unfold wp116 g4q aQq iQq;refine qC h.row rfl (qC h.row rfl (qC h.row rfl (qC h.row rfl ?_)));refine CallT.mono (c124 hx hy) ?_;rintro _ w8 ⟨rfl,f8,n8⟩;have i8:=h.fr0 f8;refine⟨_,rfl,qM (CallT.mono (c127 i8 hx hy) ?_)⟩;rintro _ w11 ⟨rfl,f11,n11⟩;have i13:=i8.fr0 f11;refine⟨_,rfl,qK i13.row rfl ⟨⟨oQ,oQ⟩,?_⟩⟩;rw[PtrC_some,elemAt_one,Int.toNat_natCast,Nat.zero_add];refine i13.pix.st oQ hv.val fun w19 b19 f19 n19=>⟨rfl,i13.fp f19 b19,?_,oQ⟩;exact(f8.mono sQ).trans ((f11.mono sQ).trans f19)
theorem c118{v:Int}(h:ImgW w ib pb IT 2 W H ex)(hx:x<W)(hy:y<H):CallT Pg 118 #[.pointer (some ⟨ib,0,none⟩),.int .i64 x,.int .i64 y,.agg #[.int .u16 v]] w fun r w'=>r= .tuple #[]/\ImgW w' ib pb IT 2 W H ex/\Fr [pb] w w'/\hn w<=hn w':=by
 have h3:=h.lim2;have h4:=h.idx hx hy;apply call118;unfold wp118 g4q aQq wIq iQq;refine qG fun w2 h2 f2 n2=> ?_;have hlt:=h.pix.lt;have i2:=h.fr0 f2;refine qC i2.row rfl (qC i2.row rfl (qC i2.row rfl (qC i2.row rfl ?_)));refine CallT.mono (c124 hx hy) ?_;rintro _ w8 ⟨rfl,f8,n8⟩;have i8:=i2.fr0 f8;refine⟨_,rfl,qM (CallT.mono (c129 i8 hx hy) ?_)⟩;rintro _ w11 ⟨rfl,f11,n11⟩;generalize y*(2*W)+x*2=i at*;refine⟨_,rfl,qE fun w13 f13 n13=> ?_⟩;have i13:=(i8.fr0 f11).fr0 f13;have h13:=f13.row0 (f11.row0 (f8.row0 h2));have e0:wrap .i64 ((i:Int)+0)=((i+0:Nat):Int):=by rw[qA oQ oQ];omega
 have e1:wrap .i64 ((i:Int)+1)=((i+1:Nat):Int):=by rw[qA oQ oQ];omega
 rw[e0,e1];refine qK i13.row rfl (qC h13 rfl (qU dQ ⟨⟨oQ,oQ⟩,?_⟩));rw[PtrC_some,elemAt_one,Int.toNat_natCast,Nat.zero_add];refine i13.pix.st oQ (zS _) fun w19 b19 f19 n19=> ?_;have i19:=i13.fp f19 b19;refine qE fun w20 f20 n20=> ?_;have i20:=i19.fr0 f20;have h20:=f20.row0 (f19.row1 h13 oQ);refine qK i20.row rfl (qC h20 rfl ⟨⟨oQ,oQ⟩,?_⟩);rw[PtrC_some,elemAt_one,Int.toNat_natCast,Nat.zero_add];refine i20.pix.st oQ (zS _) fun w26 b26 f26 n26=>⟨rfl,i20.fp f26 b26,?_,oQ⟩;exact(f2.mono sQ).trans ((f8.mono sQ).trans ((f11.mono sQ).trans ((f13.mono sQ).trans (f19.trans ((f20.mono sQ).trans f26)))))
theorem c114{v0 v1 v2 v3:Int}(h:ImgW w ib pb IT 4 W H ex)(hx:x<W)(hy:y<H)(hv0:U8 v0)(hv1:U8 v1)(hv2:U8 v2)(hv3:U8 v3):CallT Pg 114 #[.pointer (some ⟨ib,0,none⟩),.int .i64 x,.int .i64 y,.agg #[.int .u8 v0,.int .u8 v1,.int .u8 v2,.int .u8 v3]] w fun r w'=>r= .tuple #[]/\ImgW w' ib pb IT 4 W H ex/\Fr [pb] w w'/\hn w<=hn w':=by
 have h3:=h.lim2;have h4:=h.idx hx hy;apply call114;unfold wp114 g4q aQq wIq iQq;refine qG fun w2 h2 f2 n2=> ?_;have hlt:=h.pix.lt;have i2:=h.fr0 f2;refine qC i2.row rfl (qC i2.row rfl (qC i2.row rfl (qC i2.row rfl ?_)));refine CallT.mono (c124 hx hy) ?_;rintro _ w8 ⟨rfl,f8,n8⟩;have i8:=i2.fr0 f8;refine⟨_,rfl,qM (CallT.mono (c125 i8 hx hy) ?_)⟩;rintro _ w11 ⟨rfl,f11,n11⟩;generalize y*(4*W)+x*4=i at*;have i11:=i8.fr0 f11;have g0:=f11.row0 (f8.row0 h2);have e4:wrap .i64 ((i:Int)+4)=((i+4:Nat):Int):=by rw[qA oQ oQ];omega
 refine⟨_,rfl,qK i11.row rfl ?_⟩;rw[e4,Int.toNat_natCast,Int.toNat_natCast,slAdd_one _ _ _ _ oQ,Nat.zero_add];refine⟨⟨oQ,oQ⟩,⟨oQ,oQ⟩,⟨oQ,oQ⟩,?_⟩;have j0:=i11;have k0:Fr [pb] w w11:=(f2.mono sQ).trans ((f8.mono sQ).trans (f11.mono sQ));have m0:hn w<=hn w11:=oQ;refine qC g0 rfl ⟨⟨dQ,oQ⟩,?_⟩;rw[PtrC_some];refine j0.pix.st (k:=i) oQ hv0.val fun u1 b1 q1 r1=> ?_;have j1:=j0.fp q1 b1;have k1:=k0.trans q1;have m1:hn w<=hn u1:=oQ;have g1:=q1.row1 g0 oQ;refine qC g1 rfl ⟨⟨dQ,oQ⟩,?_⟩;rw[PtrC_some];refine j1.pix.st (k:=i+1) oQ hv1.val fun u2 b2 q2 r2=> ?_;have j2:=j1.fp q2 b2;have k2:=k1.trans q2;have m2:hn w<=hn u2:=oQ;have g2:=q2.row1 g1 oQ;refine qC g2 rfl ⟨⟨dQ,oQ⟩,?_⟩;rw[PtrC_some];refine j2.pix.st (k:=i+2) oQ hv2.val fun u3 b3 q3 r3=> ?_;have j3:=j2.fp q3 b3;have k3:=k2.trans q3;have m3:hn w<=hn u3:=oQ;have g3:=q3.row1 g2 oQ;refine qC g3 rfl ⟨⟨dQ,oQ⟩,?_⟩;rw[PtrC_some];refine j3.pix.st (k:=i+3) oQ hv3.val fun u4 b4 q4 r4=> ?_;have j4:=j3.fp q4 b4;have k4:=k3.trans q4;have m4:hn w<=hn u4:=oQ;have g4:=q4.row1 g3 oQ;exact⟨rfl,j4,k4,m4⟩
theorem c117{v0 v1 v2 v3:Int}(h:ImgW w ib pb IT 8 W H ex)(hx:x<W)(hy:y<H):CallT Pg 117 #[.pointer (some ⟨ib,0,none⟩),.int .i64 x,.int .i64 y,.agg #[.int .u16 v0,.int .u16 v1,.int .u16 v2,.int .u16 v3]] w fun r w'=>r= .tuple #[]/\ImgW w' ib pb IT 8 W H ex/\Fr [pb] w w'/\hn w<=hn w':=by
 have h3:=h.lim2;have h4:=h.idx hx hy;apply call117;unfold wp117 g4q aQq wIq iQq;refine qG fun w2 h2 f2 n2=> ?_;have hlt:=h.pix.lt;have i2:=h.fr0 f2;refine qC i2.row rfl (qC i2.row rfl (qC i2.row rfl (qC i2.row rfl ?_)));refine CallT.mono (c124 hx hy) ?_;rintro _ w8 ⟨rfl,f8,n8⟩;have i8:=i2.fr0 f8;refine⟨_,rfl,qM (CallT.mono (c128 i8 hx hy) ?_)⟩;rintro _ w11 ⟨rfl,f11,n11⟩;generalize y*(8*W)+x*8=i at*;have i11:=i8.fr0 f11;have g0:=f11.row0 (f8.row0 h2);have e4:wrap .i64 ((i:Int)+8)=((i+8:Nat):Int):=by rw[qA oQ oQ];omega
 refine⟨_,rfl,qK i11.row rfl ?_⟩;rw[e4,Int.toNat_natCast,Int.toNat_natCast,slAdd_one _ _ _ _ oQ,Nat.zero_add];refine⟨⟨oQ,oQ⟩,⟨oQ,oQ⟩,⟨oQ,oQ⟩,?_⟩;have j0:=i11;have k0:Fr [pb] w w11:=(f2.mono sQ).trans ((f8.mono sQ).trans (f11.mono sQ));have m0:hn w<=hn w11:=oQ;refine qC g0 rfl (qU dQ ⟨⟨dQ,oQ⟩,?_⟩);rw[PtrC_some];refine j0.pix.st (k:=i) oQ (zS _) fun u1 b1 q1 r1=> ?_;have j1:=j0.fp q1 b1;have k1:=k0.trans q1;have m1:hn w<=hn u1:=oQ;have g1:=q1.row1 g0 oQ;refine qC g1 rfl ⟨⟨dQ,oQ⟩,?_⟩;rw[PtrC_some];refine j1.pix.st (k:=i+1) oQ (zS _) fun u2 b2 q2 r2=> ?_;have j2:=j1.fp q2 b2;have k2:=k1.trans q2;have m2:hn w<=hn u2:=oQ;have g2:=q2.row1 g1 oQ;refine qC g2 rfl (qU dQ ⟨⟨dQ,oQ⟩,?_⟩);rw[PtrC_some];refine j2.pix.st (k:=i+2) oQ (zS _) fun u3 b3 q3 r3=> ?_;have j3:=j2.fp q3 b3;have k3:=k2.trans q3;have m3:hn w<=hn u3:=oQ;have g3:=q3.row1 g2 oQ;refine qC g3 rfl ⟨⟨dQ,oQ⟩,?_⟩;rw[PtrC_some];refine j3.pix.st (k:=i+3) oQ (zS _) fun u4 b4 q4 r4=> ?_;have j4:=j3.fp q4 b4;have k4:=k3.trans q4;have m4:hn w<=hn u4:=oQ;have g4:=q4.row1 g3 oQ;refine qC g4 rfl (qU dQ ⟨⟨dQ,oQ⟩,?_⟩);rw[PtrC_some];refine j4.pix.st (k:=i+4) oQ (zS _) fun u5 b5 q5 r5=> ?_;have j5:=j4.fp q5 b5;have k5:=k4.trans q5;have m5:hn w<=hn u5:=oQ;have g5:=q5.row1 g4 oQ;refine qC g5 rfl ⟨⟨dQ,oQ⟩,?_⟩;rw[PtrC_some];refine j5.pix.st (k:=i+5) oQ (zS _) fun u6 b6 q6 r6=> ?_;have j6:=j5.fp q6 b6;have k6:=k5.trans q6;have m6:hn w<=hn u6:=oQ;have g6:=q6.row1 g5 oQ;refine qC g6 rfl (qU dQ ⟨⟨dQ,oQ⟩,?_⟩);rw[PtrC_some];refine j6.pix.st (k:=i+6) oQ (zS _) fun u7 b7 q7 r7=> ?_;have j7:=j6.fp q7 b7;have k7:=k6.trans q7;have m7:hn w<=hn u7:=oQ;have g7:=q7.row1 g6 oQ;refine qC g7 rfl ⟨⟨dQ,oQ⟩,?_⟩;rw[PtrC_some];refine j7.pix.st (k:=i+7) oQ (zS _) fun u8 b8 q8 r8=> ?_;have j8:=j7.fp q8 b8;have k8:=k7.trans q8;have m8:hn w<=hn u8:=oQ;have g8:=q8.row1 g7 oQ;exact⟨rfl,j8,k8,m8⟩
theorem c119{v0 v1 v2 v3:Int}(h:ImgW w ib pb IT 8 W H ex)(hx:x<W)(hy:y<H):CallT Pg 119 #[.pointer (some ⟨ib,0,none⟩),.int .i64 x,.int .i64 y,.agg #[.int .u16 v0,.int .u16 v1,.int .u16 v2,.int .u16 v3]] w fun r w'=>r= .tuple #[]/\ImgW w' ib pb IT 8 W H ex/\Fr [pb] w w'/\hn w<=hn w':=by
 have h3:=h.lim2;have h4:=h.idx hx hy;apply call119;unfold wp119 g4q aQq wIq iQq;refine qG fun w2 h2 f2 n2=> ?_;have hlt:=h.pix.lt;have i2:=h.fr0 f2;refine qC i2.row rfl (qC i2.row rfl (qC i2.row rfl (qC i2.row rfl ?_)));refine CallT.mono (c124 hx hy) ?_;rintro _ w8 ⟨rfl,f8,n8⟩;have i8:=i2.fr0 f8;refine⟨_,rfl,qM (CallT.mono (c130 i8 hx hy) ?_)⟩;rintro _ w11 ⟨rfl,f11,n11⟩;generalize y*(8*W)+x*8=i at*;have i11:=i8.fr0 f11;have g0:=f11.row0 (f8.row0 h2);have e4:wrap .i64 ((i:Int)+8)=((i+8:Nat):Int):=by rw[qA oQ oQ];omega
 refine⟨_,rfl,qK i11.row rfl ?_⟩;rw[e4,Int.toNat_natCast,Int.toNat_natCast,slAdd_one _ _ _ _ oQ,Nat.zero_add];refine⟨⟨oQ,oQ⟩,⟨oQ,oQ⟩,⟨oQ,oQ⟩,?_⟩;have j0:=i11;have k0:Fr [pb] w w11:=(f2.mono sQ).trans ((f8.mono sQ).trans (f11.mono sQ));have m0:hn w<=hn w11:=oQ;refine qC g0 rfl (qU dQ ⟨⟨dQ,oQ⟩,?_⟩);rw[PtrC_some];refine j0.pix.st (k:=i) oQ (zS _) fun u1 b1 q1 r1=> ?_;have j1:=j0.fp q1 b1;have k1:=k0.trans q1;have m1:hn w<=hn u1:=oQ;have g1:=q1.row1 g0 oQ;refine qC g1 rfl ⟨⟨dQ,oQ⟩,?_⟩;rw[PtrC_some];refine j1.pix.st (k:=i+1) oQ (zS _) fun u2 b2 q2 r2=> ?_;have j2:=j1.fp q2 b2;have k2:=k1.trans q2;have m2:hn w<=hn u2:=oQ;have g2:=q2.row1 g1 oQ;refine qC g2 rfl (qU dQ ⟨⟨dQ,oQ⟩,?_⟩);rw[PtrC_some];refine j2.pix.st (k:=i+2) oQ (zS _) fun u3 b3 q3 r3=> ?_;have j3:=j2.fp q3 b3;have k3:=k2.trans q3;have m3:hn w<=hn u3:=oQ;have g3:=q3.row1 g2 oQ;refine qC g3 rfl ⟨⟨dQ,oQ⟩,?_⟩;rw[PtrC_some];refine j3.pix.st (k:=i+3) oQ (zS _) fun u4 b4 q4 r4=> ?_;have j4:=j3.fp q4 b4;have k4:=k3.trans q4;have m4:hn w<=hn u4:=oQ;have g4:=q4.row1 g3 oQ;refine qC g4 rfl (qU dQ ⟨⟨dQ,oQ⟩,?_⟩);rw[PtrC_some];refine j4.pix.st (k:=i+4) oQ (zS _) fun u5 b5 q5 r5=> ?_;have j5:=j4.fp q5 b5;have k5:=k4.trans q5;have m5:hn w<=hn u5:=oQ;have g5:=q5.row1 g4 oQ;refine qC g5 rfl ⟨⟨dQ,oQ⟩,?_⟩;rw[PtrC_some];refine j5.pix.st (k:=i+5) oQ (zS _) fun u6 b6 q6 r6=> ?_;have j6:=j5.fp q6 b6;have k6:=k5.trans q6;have m6:hn w<=hn u6:=oQ;have g6:=q6.row1 g5 oQ;refine qC g6 rfl (qU dQ ⟨⟨dQ,oQ⟩,?_⟩);rw[PtrC_some];refine j6.pix.st (k:=i+6) oQ (zS _) fun u7 b7 q7 r7=> ?_;have j7:=j6.fp q7 b7;have k7:=k6.trans q7;have m7:hn w<=hn u7:=oQ;have g7:=q7.row1 g6 oQ;refine qC g7 rfl ⟨⟨dQ,oQ⟩,?_⟩;rw[PtrC_some];refine j7.pix.st (k:=i+7) oQ (zS _) fun u8 b8 q8 r8=> ?_;have j8:=j7.fp q8 b8;have k8:=k7.trans q8;have m8:hn w<=hn u8:=oQ;have g8:=q8.row1 g7 oQ;exact⟨rfl,j8,k8,m8⟩
theorem c122{a b:Nat}(hb:b<1048576){x1 x3:Int}:CallT Pg 122 #[.agg #[.int .i64 (0:Int),.int .i64 x1,.int .i64 b,.int .i64 x3]] w fun v w'=>v= .int .i64 b/\Fr [] w w'/\hn w<=hn w':=by
 apply call122;unfold wp122 wIq iQq;refine qG fun w2 h2 f2 n2=>qC h2 rfl (qC h2 rfl ⟨?_,f2,oQ⟩);rw[Int.sub_zero,qA oQ oQ]
theorem c139{b:Nat}(hb:b<1048576){x0 x2:Int}:CallT Pg 139 #[.agg #[.int .i64 x0,.int .i64 (0:Int),.int .i64 x2,.int .i64 b]] w fun v w'=>v= .int .i64 b/\Fr [] w w'/\hn w<=hn w':=by
 apply call139;unfold wp139 wIq iQq;refine qG fun w2 h2 f2 n2=>qC h2 rfl (qC h2 rfl ⟨?_,f2,oQ⟩);rw[Int.sub_zero,qA oQ oQ]
theorem c146{a b:Nat}(ha:a<4294967296)(hb:b<4294967296)(hab:a*b<4294967296):CallT Pg 146 #[.int .u64 a,.int .u64 b] w fun v w'=>v= .tuple #[.int .u64 (0:Int),.int .u64 (a*b:Nat)]/\w'=w:=by
 apply call146;unfold wp146;have ea:qY .u64 (a:Int) 32=0:=by
  rw[dJ oQ dQ dQ,Int.toNat_natCast];have:a/2^(32:Int).toNat=0:=Nat.div_eq_of_lt ha;rw[this];rfl
 have eb:qY .u64 (b:Int) 32=0:=by
  rw[dJ oQ dQ dQ,Int.toNat_natCast];have:b/2^(32:Int).toNat=0:=Nat.div_eq_of_lt hb;rw[this];rfl
 have ma:zF .u64 (a:Int) 4294967295=a:=by
  rw[dD oQ oQ dQ dQ,Int.toNat_natCast];have:a&&&(4294967295:Int).toNat=a%2^32:=Nat.and_two_pow_sub_one_eq_mod a 32;rw[this,Nat.mod_eq_of_lt ha]
 have mb:zF .u64 (b:Int) 4294967295=b:=by
  rw[dD oQ oQ dQ dQ,Int.toNat_natCast];have:b&&&(4294967295:Int).toNat=b%2^32:=Nat.and_two_pow_sub_one_eq_mod b 32;rw[this,Nat.mod_eq_of_lt hb]
 have ep:(a:Int)*(b:Int)=((a*b:Nat):Int):=by simp
 have es:qY .u64 ((a*b:Nat):Int) 32=0:=by
  rw[dJ oQ dQ dQ,Int.toNat_natCast];have:a*b/2^(32:Int).toNat=0:=Nat.div_eq_of_lt hab;rw[this];rfl
 rw[ea,eb,ma,mb,ep,zE (n:=((a*b:Nat):Int)) oQ oQ,es];refine qU dQ (qU dQ (qU dQ (qU dQ (qU dQ ⟨?_,rfl⟩))));rw[Int.zero_mul,Int.zero_mul,Int.mul_zero]
 rfl
theorem c138{a b c:Nat}(hab:a*b<1048576)(habc:a*b*c<1048576)(ha:a<1048576)(hb:b<1048576)(hc:c<1048576):CallT Pg 138 #[.int .i64 a,.int .i64 b,.int .i64 c] w fun v w'=>v= .int .i64 (a*b*c:Nat)/\w'=w:=by
 apply call138;unfold wp138 wIq iQq;refine qJ (fun _ w'=>w'=w) ?_ ?_
 ·rintro⟨⟩ w rfl
  rw[zE (n:=(a:Int)) oQ oQ,zE (n:=(b:Int)) oQ oQ,zE (n:=(c:Int)) oQ oQ];refine CallT.mono (c146 oQ oQ oQ) ?_;rintro _ w ⟨rfl,rfl⟩;refine⟨_,_,rfl,xU (fun hc=>absurd rfl hc) (fun _ => ?_)⟩;refine CallT.mono (c146 oQ oQ oQ) ?_;rintro _ w ⟨rfl,rfl⟩;refine⟨_,_,rfl,xU (fun hc=>absurd rfl hc) (fun _ => ?_)⟩;rw[qA (n:=((a*b*c:Nat):Int)) oQ oQ,zE oQ oQ];exact qF (fun hc=>absurd hc oQ) (fun _ =>xU (fun hc=>absurd rfl hc) (fun _ =>⟨rfl,rfl⟩))
 ·intro J hJ
  exact qF (fun hc=>absurd hc oQ) (fun _ =>qF (fun hc=>absurd hc oQ) (fun _ =>qF (fun hc=>absurd hc oQ) (fun _ =>hJ _ _ rfl)))
theorem tW{bpp W H:Nat}(h1:bpp<=8)(h2:W<=20)(h3:H<=20):bpp*W<=160/\bpp*W*H<=3200:=by
 have a:bpp*W<=8*20:=Nat.mul_le_mul h1 h2;have b:bpp*W*H<=160*20:=Nat.mul_le_mul a h3;omega
theorem c121{s:ByteArray}(h1:bpp<=8)(h2:W<=20)(h3:H<=20):CallT Pg 121 #[.int .i64 bpp,.agg #[.int .i64 (0:Int),.int .i64 (0:Int),.int .i64 W,.int .i64 H],.string s] w fun v w'=>v= .int .i64 (bpp*W*H:Nat)/\Fr [] w w'/\hn w<=hn w':=by
 obtain⟨d1,d2⟩:=tW h1 h2 h3;apply call121;unfold wp121 l4q g4q iQq;refine qG fun w2 hr f2 n2=>qE fun w3 f3 n3=> ?_;have r3:=f3.row0 hr
 iterate 8 refine qC r3 rfl ?_
 refine CallT.mono (c122 (a:=0) oQ) ?_;rintro _ w13 ⟨rfl,f13,n13⟩;have r13:=f13.row0 r3;refine⟨_,rfl,?_⟩
 iterate 4 refine qC r13 rfl ?_
 refine⟨rfl,CallT.mono (c139 oQ) ?_⟩;rintro _ w20 ⟨rfl,f20,n20⟩;refine⟨_,rfl,CallT.mono (c138 oQ oQ oQ oQ oQ) ?_⟩;rintro _ w23 ⟨rfl,rfl⟩;refine⟨_,rfl,qF (fun hc=>absurd hc oQ) (fun _ =>⟨rfl,?_,oQ⟩)⟩;exact f2.trans (f3.trans (f13.trans f20))
theorem rJ:zc Pg 171= #[.int .i64 0,.int .i64 0,.int .i64 0,.int .i64 0]:=by kernel_rfl
theorem c106:CallT Pg 106 #[.int .i64 (0:Int),.int .i64 (0:Int),.int .i64 W,.int .i64 H] w fun v w'=>v= .agg #[.int .i64 (0:Int),.int .i64 (0:Int),.int .i64 W,.int .i64 H]/\Fr [] w w'/\hn w<=hn w':=by
 apply call106;unfold wp106 l4q g4q iQq;rw[rJ];refine qG fun w2 h2 f2 n2=> ?_;refine qJ (fun z w'=>z=((0:Int),(W:Int),())/\w'=w2) ?_ ?_
 ·rintro z w4 ⟨rfl,rfl⟩
  refine qF (fun hc=>absurd hc oQ) (fun _ => ?_);refine qD h2 sQ fun w14 h14 f14 n14=> ?_;refine qD h14 sQ fun w15 h15 f15 n15=> ?_;refine qD h15 sQ fun w16 h16 f16 n16=> ?_;refine qD h16 sQ fun w17 h17 f17 n17=> ?_
  iterate 4 refine qC h17 rfl ?_
  refine⟨rfl,?_,oQ⟩;exact f2.trans' (f14.trans (f15.trans (f16.trans f17))) (fun x hx hlt=>by simp at hx;omega)
 ·intro J hJ
  exact qF (fun hc=>absurd hc oQ) (fun _ =>hJ _ _ ⟨rfl,rfl⟩)
theorem ImgW.mk'{L:Nat}(hL:L=bpp*W*H)(h1:hp w ib=Row IT (iM pb L (bpp*W) W H ex))(h2:hp w pb=Row 5 (Array.replicate L (.int .u8 0)))(hne:ib≠pb)(hl:W<=20/\H<=20/\1<=bpp/\bpp<=8):ImgW w ib pb IT bpp W H ex:=by
 subst hL;exact⟨h1,BR.zero h2,hne,hl⟩
theorem c107(h2:W<=20)(h3:H<=20):CallT Pg 107 #[.agg #[.int .i64 (0:Int),.int .i64 (0:Int),.int .i64 W,.int .i64 H]] w fun v w'=>∃ib pb,v= .pointer (some ⟨ib,0,none⟩)/\ImgW w' ib pb 173 1 W H []/\Fr [] w w'/\hn w<=ib/\hn w<=pb/\ib<hn w'/\pb<hn w':=by
 obtain⟨d1,d2⟩:=tW (bpp:=1) dQ h2 h3;apply call107;unfold wp107 l4q g4q wIq iQq;refine qG fun w2 hr f2 n2=>qE fun w3 f3 n3=> ?_;have r3:=f3.row0 hr
 iterate 12 refine qC r3 rfl ?_
 refine CallT.mono (c121 (bpp:=1) dQ h2 h3) ?_;rintro _ w17 ⟨rfl,f17,n17⟩;have r17:=f17.row0 r3;refine⟨_,rfl,?_⟩
 iterate 4 refine qC r17 rfl ?_
 refine⟨rfl,?_⟩
 iterate 4 refine qC r17 rfl ?_
 have eS:wrap .i64 ((1:Int)*(W:Int))=((1*W:Nat):Int):=by rw[qA oQ oQ];omega
 rw[rK,Int.toNat_natCast];refine⟨rfl,⟨⟨oQ,oQ,oQ,oQ⟩,?_⟩,?_⟩
 ·refine qG fun w28 h28 f28 n28=> ?_
  have r28:=f28.row0 r17
  iterate 4 refine qC r28 rfl ?_
  refine⟨rfl,?_⟩
  iterate 4 refine qC r28 rfl ?_
  refine⟨rfl,CallT.mono (c122 (a:=0) oQ) ?_⟩;rintro _ w38 ⟨rfl,f38,n38⟩;have r38:=f38.row0 r28;refine⟨_,rfl,?_⟩
  iterate 4 refine qC r38 rfl ?_
  refine⟨rfl,?_⟩;rw[eS];refine qG fun w45 h45 f45 n45=>⟨_,hn w17,rfl,?_,f2.trans (f3.trans (f17.trans (f28.trans (f38.trans f45)))),oQ,oQ,oQ,oQ⟩;exact ImgW.mk' rfl h45 (f45.row0 (f38.row0 h28)) oQ ⟨h2,h3,dQ,dQ⟩
 ·refine CallT.mono (c122 (a:=0) oQ) ?_
  rintro _ w47 ⟨rfl,f47,n47⟩;have r47:=f47.row0 r17;refine⟨_,rfl,?_⟩
  iterate 4 refine qC r47 rfl ?_
  refine⟨rfl,⟨oQ,oQ,oQ,oQ⟩,?_⟩;refine qG fun w54 h54 f54 n54=> ?_;have r54:=f54.row0 r47
  iterate 4 refine qC r54 rfl ?_
  refine⟨rfl,?_⟩
  iterate 4 refine qC r54 rfl ?_
  refine⟨rfl,?_⟩;rw[eS];refine qG fun w64 h64 f64 n64=>⟨_,hn w47,rfl,?_,f2.trans (f3.trans (f17.trans (f47.trans (f54.trans f64)))),oQ,oQ,oQ,oQ⟩;exact ImgW.mk' rfl h64 (f64.row0 h54) oQ ⟨h2,h3,dQ,dQ⟩
theorem c111(h2:W<=20)(h3:H<=20):CallT Pg 111 #[.agg #[.int .i64 (0:Int),.int .i64 (0:Int),.int .i64 W,.int .i64 H]] w fun v w'=>∃ib pb,v= .pointer (some ⟨ib,0,none⟩)/\ImgW w' ib pb 175 2 W H []/\Fr [] w w'/\hn w<=ib/\hn w<=pb/\ib<hn w'/\pb<hn w':=by
 obtain⟨d1,d2⟩:=tW (bpp:=2) dQ h2 h3;apply call111;unfold wp111 l4q g4q wIq iQq;refine qG fun w2 hr f2 n2=>qE fun w3 f3 n3=> ?_;have r3:=f3.row0 hr
 iterate 12 refine qC r3 rfl ?_
 refine CallT.mono (c121 (bpp:=2) dQ h2 h3) ?_;rintro _ w17 ⟨rfl,f17,n17⟩;have r17:=f17.row0 r3;refine⟨_,rfl,?_⟩
 iterate 4 refine qC r17 rfl ?_
 refine⟨rfl,?_⟩
 iterate 4 refine qC r17 rfl ?_
 have eS:wrap .i64 ((2:Int)*(W:Int))=((2*W:Nat):Int):=by rw[qA oQ oQ];omega
 rw[rK,Int.toNat_natCast];refine⟨rfl,⟨⟨oQ,oQ,oQ,oQ⟩,?_⟩,?_⟩
 ·refine qG fun w28 h28 f28 n28=> ?_
  have r28:=f28.row0 r17
  iterate 4 refine qC r28 rfl ?_
  refine⟨rfl,?_⟩
  iterate 4 refine qC r28 rfl ?_
  refine⟨rfl,CallT.mono (c122 (a:=0) oQ) ?_⟩;rintro _ w38 ⟨rfl,f38,n38⟩;have r38:=f38.row0 r28;refine⟨_,rfl,?_⟩
  iterate 4 refine qC r38 rfl ?_
  refine⟨rfl,?_⟩;rw[eS];refine qG fun w45 h45 f45 n45=>⟨_,hn w17,rfl,?_,f2.trans (f3.trans (f17.trans (f28.trans (f38.trans f45)))),oQ,oQ,oQ,oQ⟩;exact ImgW.mk' rfl h45 (f45.row0 (f38.row0 h28)) oQ ⟨h2,h3,dQ,dQ⟩
 ·refine CallT.mono (c122 (a:=0) oQ) ?_
  rintro _ w47 ⟨rfl,f47,n47⟩;have r47:=f47.row0 r17;refine⟨_,rfl,?_⟩
  iterate 4 refine qC r47 rfl ?_
  refine⟨rfl,⟨oQ,oQ,oQ,oQ⟩,?_⟩;refine qG fun w54 h54 f54 n54=> ?_;have r54:=f54.row0 r47
  iterate 4 refine qC r54 rfl ?_
  refine⟨rfl,?_⟩
  iterate 4 refine qC r54 rfl ?_
  refine⟨rfl,?_⟩;rw[eS];refine qG fun w64 h64 f64 n64=>⟨_,hn w47,rfl,?_,f2.trans (f3.trans (f17.trans (f47.trans (f54.trans f64)))),oQ,oQ,oQ,oQ⟩;exact ImgW.mk' rfl h64 (f64.row0 h54) oQ ⟨h2,h3,dQ,dQ⟩
theorem c108(h2:W<=20)(h3:H<=20):CallT Pg 108 #[.agg #[.int .i64 (0:Int),.int .i64 (0:Int),.int .i64 W,.int .i64 H]] w fun v w'=>∃ib pb,v= .pointer (some ⟨ib,0,none⟩)/\ImgW w' ib pb 177 4 W H []/\Fr [] w w'/\hn w<=ib/\hn w<=pb/\ib<hn w'/\pb<hn w':=by
 obtain⟨d1,d2⟩:=tW (bpp:=4) dQ h2 h3;apply call108;unfold wp108 l4q g4q wIq iQq;refine qG fun w2 hr f2 n2=>qE fun w3 f3 n3=> ?_;have r3:=f3.row0 hr
 iterate 12 refine qC r3 rfl ?_
 refine CallT.mono (c121 (bpp:=4) dQ h2 h3) ?_;rintro _ w17 ⟨rfl,f17,n17⟩;have r17:=f17.row0 r3;refine⟨_,rfl,?_⟩
 iterate 4 refine qC r17 rfl ?_
 refine⟨rfl,?_⟩
 iterate 4 refine qC r17 rfl ?_
 have eS:wrap .i64 ((4:Int)*(W:Int))=((4*W:Nat):Int):=by rw[qA oQ oQ];omega
 rw[rK,Int.toNat_natCast];refine⟨rfl,⟨⟨oQ,oQ,oQ,oQ⟩,?_⟩,?_⟩
 ·refine qG fun w28 h28 f28 n28=> ?_
  have r28:=f28.row0 r17
  iterate 4 refine qC r28 rfl ?_
  refine⟨rfl,?_⟩
  iterate 4 refine qC r28 rfl ?_
  refine⟨rfl,CallT.mono (c122 (a:=0) oQ) ?_⟩;rintro _ w38 ⟨rfl,f38,n38⟩;have r38:=f38.row0 r28;refine⟨_,rfl,?_⟩
  iterate 4 refine qC r38 rfl ?_
  refine⟨rfl,?_⟩;rw[eS];refine qG fun w45 h45 f45 n45=>⟨_,hn w17,rfl,?_,f2.trans (f3.trans (f17.trans (f28.trans (f38.trans f45)))),oQ,oQ,oQ,oQ⟩;exact ImgW.mk' rfl h45 (f45.row0 (f38.row0 h28)) oQ ⟨h2,h3,dQ,dQ⟩
 ·refine CallT.mono (c122 (a:=0) oQ) ?_
  rintro _ w47 ⟨rfl,f47,n47⟩;have r47:=f47.row0 r17;refine⟨_,rfl,?_⟩
  iterate 4 refine qC r47 rfl ?_
  refine⟨rfl,⟨oQ,oQ,oQ,oQ⟩,?_⟩;refine qG fun w54 h54 f54 n54=> ?_;have r54:=f54.row0 r47
  iterate 4 refine qC r54 rfl ?_
  refine⟨rfl,?_⟩
  iterate 4 refine qC r54 rfl ?_
  refine⟨rfl,?_⟩;rw[eS];refine qG fun w64 h64 f64 n64=>⟨_,hn w47,rfl,?_,f2.trans (f3.trans (f17.trans (f47.trans (f54.trans f64)))),oQ,oQ,oQ,oQ⟩;exact ImgW.mk' rfl h64 (f64.row0 h54) oQ ⟨h2,h3,dQ,dQ⟩
theorem c112(h2:W<=20)(h3:H<=20):CallT Pg 112 #[.agg #[.int .i64 (0:Int),.int .i64 (0:Int),.int .i64 W,.int .i64 H]] w fun v w'=>∃ib pb,v= .pointer (some ⟨ib,0,none⟩)/\ImgW w' ib pb 179 8 W H []/\Fr [] w w'/\hn w<=ib/\hn w<=pb/\ib<hn w'/\pb<hn w':=by
 obtain⟨d1,d2⟩:=tW (bpp:=8) dQ h2 h3;apply call112;unfold wp112 l4q g4q wIq iQq;refine qG fun w2 hr f2 n2=>qE fun w3 f3 n3=> ?_;have r3:=f3.row0 hr
 iterate 12 refine qC r3 rfl ?_
 refine CallT.mono (c121 (bpp:=8) dQ h2 h3) ?_;rintro _ w17 ⟨rfl,f17,n17⟩;have r17:=f17.row0 r3;refine⟨_,rfl,?_⟩
 iterate 4 refine qC r17 rfl ?_
 refine⟨rfl,?_⟩
 iterate 4 refine qC r17 rfl ?_
 have eS:wrap .i64 ((8:Int)*(W:Int))=((8*W:Nat):Int):=by rw[qA oQ oQ];omega
 rw[rK,Int.toNat_natCast];refine⟨rfl,⟨⟨oQ,oQ,oQ,oQ⟩,?_⟩,?_⟩
 ·refine qG fun w28 h28 f28 n28=> ?_
  have r28:=f28.row0 r17
  iterate 4 refine qC r28 rfl ?_
  refine⟨rfl,?_⟩
  iterate 4 refine qC r28 rfl ?_
  refine⟨rfl,CallT.mono (c122 (a:=0) oQ) ?_⟩;rintro _ w38 ⟨rfl,f38,n38⟩;have r38:=f38.row0 r28;refine⟨_,rfl,?_⟩
  iterate 4 refine qC r38 rfl ?_
  refine⟨rfl,?_⟩;rw[eS];refine qG fun w45 h45 f45 n45=>⟨_,hn w17,rfl,?_,f2.trans (f3.trans (f17.trans (f28.trans (f38.trans f45)))),oQ,oQ,oQ,oQ⟩;exact ImgW.mk' rfl h45 (f45.row0 (f38.row0 h28)) oQ ⟨h2,h3,dQ,dQ⟩
 ·refine CallT.mono (c122 (a:=0) oQ) ?_
  rintro _ w47 ⟨rfl,f47,n47⟩;have r47:=f47.row0 r17;refine⟨_,rfl,?_⟩
  iterate 4 refine qC r47 rfl ?_
  refine⟨rfl,⟨oQ,oQ,oQ,oQ⟩,?_⟩;refine qG fun w54 h54 f54 n54=> ?_;have r54:=f54.row0 r47
  iterate 4 refine qC r54 rfl ?_
  refine⟨rfl,?_⟩
  iterate 4 refine qC r54 rfl ?_
  refine⟨rfl,?_⟩;rw[eS];refine qG fun w64 h64 f64 n64=>⟨_,hn w47,rfl,?_,f2.trans (f3.trans (f17.trans (f47.trans (f54.trans f64)))),oQ,oQ,oQ,oQ⟩;exact ImgW.mk' rfl h64 (f64.row0 h54) oQ ⟨h2,h3,dQ,dQ⟩
theorem c105(h2:W<=20)(h3:H<=20):CallT Pg 105 #[.agg #[.int .i64 (0:Int),.int .i64 (0:Int),.int .i64 W,.int .i64 H]] w fun v w'=>∃ib pb,v= .pointer (some ⟨ib,0,none⟩)/\ImgW w' ib pb 181 4 W H []/\Fr [] w w'/\hn w<=ib/\hn w<=pb/\ib<hn w'/\pb<hn w':=by
 obtain⟨d1,d2⟩:=tW (bpp:=4) dQ h2 h3;apply call105;unfold wp105 l4q g4q wIq iQq;refine qG fun w2 hr f2 n2=>qE fun w3 f3 n3=> ?_;have r3:=f3.row0 hr
 iterate 12 refine qC r3 rfl ?_
 refine CallT.mono (c121 (bpp:=4) dQ h2 h3) ?_;rintro _ w17 ⟨rfl,f17,n17⟩;have r17:=f17.row0 r3;refine⟨_,rfl,?_⟩
 iterate 4 refine qC r17 rfl ?_
 refine⟨rfl,?_⟩
 iterate 4 refine qC r17 rfl ?_
 have eS:wrap .i64 ((4:Int)*(W:Int))=((4*W:Nat):Int):=by rw[qA oQ oQ];omega
 rw[rK,Int.toNat_natCast];refine⟨rfl,⟨⟨oQ,oQ,oQ,oQ⟩,?_⟩,?_⟩
 ·refine qG fun w28 h28 f28 n28=> ?_
  have r28:=f28.row0 r17
  iterate 4 refine qC r28 rfl ?_
  refine⟨rfl,?_⟩
  iterate 4 refine qC r28 rfl ?_
  refine⟨rfl,CallT.mono (c122 (a:=0) oQ) ?_⟩;rintro _ w38 ⟨rfl,f38,n38⟩;have r38:=f38.row0 r28;refine⟨_,rfl,?_⟩
  iterate 4 refine qC r38 rfl ?_
  refine⟨rfl,?_⟩;rw[eS];refine qG fun w45 h45 f45 n45=>⟨_,hn w17,rfl,?_,f2.trans (f3.trans (f17.trans (f28.trans (f38.trans f45)))),oQ,oQ,oQ,oQ⟩;exact ImgW.mk' rfl h45 (f45.row0 (f38.row0 h28)) oQ ⟨h2,h3,dQ,dQ⟩
 ·refine CallT.mono (c122 (a:=0) oQ) ?_
  rintro _ w47 ⟨rfl,f47,n47⟩;have r47:=f47.row0 r17;refine⟨_,rfl,?_⟩
  iterate 4 refine qC r47 rfl ?_
  refine⟨rfl,⟨oQ,oQ,oQ,oQ⟩,?_⟩;refine qG fun w54 h54 f54 n54=> ?_;have r54:=f54.row0 r47
  iterate 4 refine qC r54 rfl ?_
  refine⟨rfl,?_⟩
  iterate 4 refine qC r54 rfl ?_
  refine⟨rfl,?_⟩;rw[eS];refine qG fun w64 h64 f64 n64=>⟨_,hn w47,rfl,?_,f2.trans (f3.trans (f17.trans (f47.trans (f54.trans f64)))),oQ,oQ,oQ,oQ⟩;exact ImgW.mk' rfl h64 (f64.row0 h54) oQ ⟨h2,h3,dQ,dQ⟩
theorem c110(h2:W<=20)(h3:H<=20):CallT Pg 110 #[.agg #[.int .i64 (0:Int),.int .i64 (0:Int),.int .i64 W,.int .i64 H]] w fun v w'=>∃ib pb,v= .pointer (some ⟨ib,0,none⟩)/\ImgW w' ib pb 183 8 W H []/\Fr [] w w'/\hn w<=ib/\hn w<=pb/\ib<hn w'/\pb<hn w':=by
 obtain⟨d1,d2⟩:=tW (bpp:=8) dQ h2 h3;apply call110;unfold wp110 l4q g4q wIq iQq;refine qG fun w2 hr f2 n2=>qE fun w3 f3 n3=> ?_;have r3:=f3.row0 hr
 iterate 12 refine qC r3 rfl ?_
 refine CallT.mono (c121 (bpp:=8) dQ h2 h3) ?_;rintro _ w17 ⟨rfl,f17,n17⟩;have r17:=f17.row0 r3;refine⟨_,rfl,?_⟩
 iterate 4 refine qC r17 rfl ?_
 refine⟨rfl,?_⟩
 iterate 4 refine qC r17 rfl ?_
 have eS:wrap .i64 ((8:Int)*(W:Int))=((8*W:Nat):Int):=by rw[qA oQ oQ];omega
 rw[rK,Int.toNat_natCast];refine⟨rfl,⟨⟨oQ,oQ,oQ,oQ⟩,?_⟩,?_⟩
 ·refine qG fun w28 h28 f28 n28=> ?_
  have r28:=f28.row0 r17
  iterate 4 refine qC r28 rfl ?_
  refine⟨rfl,?_⟩
  iterate 4 refine qC r28 rfl ?_
  refine⟨rfl,CallT.mono (c122 (a:=0) oQ) ?_⟩;rintro _ w38 ⟨rfl,f38,n38⟩;have r38:=f38.row0 r28;refine⟨_,rfl,?_⟩
  iterate 4 refine qC r38 rfl ?_
  refine⟨rfl,?_⟩;rw[eS];refine qG fun w45 h45 f45 n45=>⟨_,hn w17,rfl,?_,f2.trans (f3.trans (f17.trans (f28.trans (f38.trans f45)))),oQ,oQ,oQ,oQ⟩;exact ImgW.mk' rfl h45 (f45.row0 (f38.row0 h28)) oQ ⟨h2,h3,dQ,dQ⟩
 ·refine CallT.mono (c122 (a:=0) oQ) ?_
  rintro _ w47 ⟨rfl,f47,n47⟩;have r47:=f47.row0 r17;refine⟨_,rfl,?_⟩
  iterate 4 refine qC r47 rfl ?_
  refine⟨rfl,⟨oQ,oQ,oQ,oQ⟩,?_⟩;refine qG fun w54 h54 f54 n54=> ?_;have r54:=f54.row0 r47
  iterate 4 refine qC r54 rfl ?_
  refine⟨rfl,?_⟩
  iterate 4 refine qC r54 rfl ?_
  refine⟨rfl,?_⟩;rw[eS];refine qG fun w64 h64 f64 n64=>⟨_,hn w47,rfl,?_,f2.trans (f3.trans (f17.trans (f47.trans (f54.trans f64)))),oQ,oQ,oQ,oQ⟩;exact ImgW.mk' rfl h64 (f64.row0 h54) oQ ⟨h2,h3,dQ,dQ⟩
theorem c109{q:pQ}{ql qc:Nat}(h2:W<=20)(h3:H<=20):CallT Pg 109 #[.agg #[.int .i64 (0:Int),.int .i64 (0:Int),.int .i64 W,.int .i64 H],.slice q ql qc] w fun v w'=>∃ib pb,v= .pointer (some ⟨ib,0,none⟩)/\ImgW w' ib pb 186 1 W H [.slice q ql qc]/\Fr [] w w'/\hn w<=ib/\hn w<=pb/\ib<hn w'/\pb<hn w':=by
 obtain⟨d1,d2⟩:=tW (bpp:=1) dQ h2 h3;apply call109;unfold wp109 l4q g4q wIq iQq;refine qG fun w2 hr f2 n2=>qE fun w3 f3 n3=> ?_;have r3:=f3.row0 hr
 iterate 12 refine qC r3 rfl ?_
 refine CallT.mono (c121 (bpp:=1) dQ h2 h3) ?_;rintro _ w17 ⟨rfl,f17,n17⟩;have r17:=f17.row0 r3;refine⟨_,rfl,?_⟩
 iterate 4 refine qC r17 rfl ?_
 refine⟨rfl,?_⟩
 iterate 4 refine qC r17 rfl ?_
 have eS:wrap .i64 ((1:Int)*(W:Int))=((1*W:Nat):Int):=by rw[qA oQ oQ];omega
 rw[rK,Int.toNat_natCast];refine⟨rfl,⟨⟨oQ,oQ,oQ,oQ⟩,?_⟩,?_⟩
 ·refine qG fun w28 h28 f28 n28=> ?_
  have r28:=f28.row0 r17
  iterate 4 refine qC r28 rfl ?_
  refine⟨rfl,?_⟩
  iterate 4 refine qC r28 rfl ?_
  refine⟨rfl,CallT.mono (c122 (a:=0) oQ) ?_⟩;rintro _ w38 ⟨rfl,f38,n38⟩;have r38:=f38.row0 r28;refine⟨_,rfl,?_⟩
  iterate 4 refine qC r38 rfl ?_
  refine⟨rfl,?_⟩;rw[eS];refine qG fun w45 h45 f45 n45=>⟨_,hn w17,rfl,?_,f2.trans (f3.trans (f17.trans (f28.trans (f38.trans f45)))),oQ,oQ,oQ,oQ⟩;exact ImgW.mk' rfl h45 (f45.row0 (f38.row0 h28)) oQ ⟨h2,h3,dQ,dQ⟩
 ·refine CallT.mono (c122 (a:=0) oQ) ?_
  rintro _ w47 ⟨rfl,f47,n47⟩;have r47:=f47.row0 r17;refine⟨_,rfl,?_⟩
  iterate 4 refine qC r47 rfl ?_
  refine⟨rfl,⟨oQ,oQ,oQ,oQ⟩,?_⟩;refine qG fun w54 h54 f54 n54=> ?_;have r54:=f54.row0 r47
  iterate 4 refine qC r54 rfl ?_
  refine⟨rfl,?_⟩
  iterate 4 refine qC r54 rfl ?_
  refine⟨rfl,?_⟩;rw[eS];refine qG fun w64 h64 f64 n64=>⟨_,hn w47,rfl,?_,f2.trans (f3.trans (f17.trans (f47.trans (f54.trans f64)))),oQ,oQ,oQ,oQ⟩;exact ImgW.mk' rfl h64 (f64.row0 h54) oQ ⟨h2,h3,dQ,dQ⟩
end
end
def wp113(x0:pQ)(x0l:Nat)(x0c:Nat)(x1:pQ)(x1l:Nat)(x1c:Nat)(x2:Int)(R:vPq)(w:wQ):Prop:=xB (fun(n:(Int×Unit) ->World ->Prop)=>n (0,()) w) (fun g j o=>IfC (decide (g.1<x2)) (xB (fun(p:(Int×Int×Int×Unit) ->World ->Prop)=>p (0,(0:Int),g.1,()) j) (fun a h q=>IfC (decide (a.2.2.1<(x0l:Int))) (And (0<=a.2.2.1/\a.2.2.1<(x1l:Int)) (qN x1 fun r=>LdI h (qH r a.2.2.1.toNat 1) .u8 fun b=>CallT Pg 123 #[iQq (wIq ((wIq ((wIq b) -a.2.1))+(wIq (a.1 -a.2.1))))] h fun s t=>∃e,And (s=iQq e) (CallT Pg 123 #[iQq (wIq ((wIq b) -a.2.1))] t fun u v=>∃i,And (u=iQq i) (CallT Pg 123 #[iQq (wIq (a.1 -a.2.1))] v fun y c=>∃f,And (y=iQq f) (xH (fun(k:(Int×Unit)) (l:wQ)=>And (0<=a.2.2.1/\a.2.2.1<(x0l:Int)) (qN x0 fun z=>LdI l (qH z a.2.2.1.toNat 1) .u8 fun m=>And (0<=a.2.2.1/\a.2.2.1<(x0l:Int)) (qN x0 fun A=>qB l (qH A a.2.2.1.toNat 1) (.int .u8 (wrap .u8 (zF .i64 (wIq (k.1+(wIq m))) (255:Int)))) fun B=>q (zF .i64 (wIq (k.1+(wIq m))) (255:Int),wIq b,wIq (a.2.2.1+x2),()) B))) (fun d=>IfC (decide (i<=f)) (IfC (decide (i<=e)) (d (a.1,()) c) (IfC (decide (f<=e)) (d (wIq b,()) c) (d (a.2.1,()) c))) (IfC (decide (f<=e)) (d (wIq b,()) c) (d (a.2.1,()) c)))))))) (o (wIq (g.1+1),()) h))) (R (.tuple #[]) j))
theorem call113{x0:pQ}{x0l:Nat}{x0c:Nat}{x1:pQ}{x1l:Nat}{x1c:Nat}{x2:Int}{R:vPq}{w:wQ}(h:wp113 x0 x0l x0c x1 x1l x1c x2 R w):CallT Pg 113 #[.slice x0 x0l x0c,.slice x1 x1l x1c,.int .i64 x2] w R:=cVq [(5,[(12,.i .i64)],[0,1,2]),(19,[(6,.i .i64),(8,.i .i64),(13,.i .i64)],[0,1,2,12]),(40,[(6,.i .i64)],[0,1,2,7,12,13])] Tryz.func113 h
def wp123(x0:Int)(R:vPq)(w:wQ):Prop:=ShC 63 (R (iQq (wIq ((uS .i64 x0 (qY .i64 x0 63)) -(qY .i64 x0 63)))) w)
theorem call123{x0:Int}{R:vPq}{w:wQ}(h:wp123 x0 R w):CallT Pg 123 #[.int .i64 x0] w R:=cVq [] Tryz.func123 h
section
variable{w w':wQ}
theorem Dec.at778(d:Dec)(h:d.tmp.length=768):d.arr[0+778]? =some (.int .i64 d.lace):=by
 have e:d.arr[0+778]? =(bv d.tmp++(.int .i64 d.lace:: .bool d.useT::bv d.tr))[768]? :=by
  show d.cells.toArray[0+778]? =_;rw[List.getElem?_toArray,show 0+778=768+10 from rfl]
  rfl
 rw[e,List.getElem?_append_right (by simp[h])];simp[h]
theorem Dec.at779(d:Dec)(h:d.tmp.length=768):d.arr[0+779]? =some (.bool d.useT):=by
 have e:d.arr[0+779]? =(bv d.tmp++(.int .i64 d.lace:: .bool d.useT::bv d.tr))[769]? :=by
  show d.cells.toArray[0+779]? =_;rw[List.getElem?_toArray,show 0+779=769+10 from rfl]
  rfl
 rw[e,List.getElem?_append_right (by simp[h])];simp[h]
theorem Dec.at780(d:Dec)(h:d.tmp.length=768){i:Nat}(hi:i<d.tr.length):d.arr[0+780+i]? =some (.int .u8 (gb d.tr i:Nat)):=by
 have e:d.arr[0+780+i]? =(bv d.tmp++(.int .i64 d.lace:: .bool d.useT::bv d.tr))[770+i]? :=by
  show d.cells.toArray[0+780+i]? =_;rw[List.getElem?_toArray,show 0+780+i=(770+i)+10 by omega]
  rfl
 rw[e,List.getElem?_append_right (by simp[h];omega),bv_length,h,show 770+i -768=i+2 by omega];exact kZ hi
section
variable{z:ZP}{pre:bQ}
theorem ZP.ZS.fr{S:List Nat}(h:z.ZS w pre)(hf:Fr S w w')(hS:∀x∈S,z.ab<x):z.ZS w' pre:=by
 obtain⟨err,hB,hc⟩:=h;obtain⟨us,hus,hz⟩:=hB.row;have ho:=hB.ord;have no:∀y,y<=z.ab ->y∉S:=fun y hy hx=>by have:=hS y hx;omega
 have hlo:=hB.lo;refine⟨err,⟨⟨us,hus,hf.row hz (no _ oQ)⟩,hB.ord,hB.er.fr hf (fun x hx=>by have:=hS x hx;omega),hB.lo,hB.len⟩,?_⟩;have hgS:∀x∈S,z.gb<x:=fun x hx=>by have:=hS x hx;omega
 rcases hc with⟨he,hA,hst⟩|⟨hI,hEnd,rest,e,hFB,hE⟩
 ·refine .inl ⟨he,hA.fr hf (no _ (Nat.le_refl _)),?_⟩
  rcases hst with⟨hp0,F0,out,R,Q,bl,hFA⟩|⟨rest,e,hFB,hIs,hM⟩
  ·exact .inl ⟨hp0,F0,out,R,Q,bl,⟨hFA.fs.fr hf (fun x hx=>by have:=hS x hx;omega),hFA.idle,hFA.step,hFA.at_,hFA.ok,hFA.out_,hFA.ne,hFA.last,hFA.len,hFA.fit⟩⟩
  ·exact .inr ⟨rest,e,hFB.fr hf (no _ oQ) (no _ oQ),hIs,hM.fr hf hgS oQ⟩
 ·exact .inr ⟨hI,hEnd.fr hf hgS oQ,rest,e,hFB.fr hf (no _ oQ) (no _ oQ),hE⟩
theorem ZP.ZS.dw(h:z.ZS w pre):z.Dw w:=by
 obtain⟨err,hB,hc⟩:=h;rcases hc with⟨he,hA,⟨hp0,F0,out,R,Q,bl,hFA⟩|⟨rest,e,hFB,hIs,⟨_,_,hM⟩|⟨_,hM⟩⟩⟩|⟨hI,⟨_,_,hM⟩|⟨_,hM⟩,_⟩
 ·exact hFA.fs.src.dws
 ·exact Gives.dws hM
 ·exact hM
 ·exact Gives.dws hM
 ·exact hM
theorem ZP.ZS.prefix_(h:z.ZS w pre)(ht:z.t=none):pre<+:z.fin:=by
 obtain⟨err,hB,hc⟩:=h;have no:∀{e},¬Errx z.E z.t e:=fun⟨b,hb,_⟩=>by rw[ht]at hb;cases hb
 rcases hc with⟨he,hA,⟨hp0,_⟩|⟨rest,e,hFB,hIs,⟨h1,_⟩|⟨h1,_⟩⟩⟩|⟨hI,⟨h1,_⟩|⟨h1,_⟩,_⟩
 ·rw[hp0];exact List.nil_prefix
 ·exact⟨_,h1⟩
 ·exact absurd h1 no
 ·rw[h1];exact List.prefix_refl _
 ·exact absurd h1 no
theorem ZP.ZS.ord(h:z.ZS w pre):z.E.n0<=z.rb/\z.rb<z.kb/\z.kb<z.db/\z.db<z.zb/\z.zb<z.bb/\z.bb<z.gb/\z.gb<z.fb/\z.fb<z.hb/\z.hb<z.ab/\z.fin.length<32768:=by
 obtain⟨err,hB,hc⟩:=h;exact⟨hB.lo,hB.ord.1,hB.ord.2.1,hB.ord.2.2.1,hB.ord.2.2.2.1,hB.ord.2.2.2.2.1,hB.ord.2.2.2.2.2.1,hB.ord.2.2.2.2.2.2.1,hB.ord.2.2.2.2.2.2.2,hB.len⟩
theorem ZP.ZS.er(h:z.ZS w pre):Errs w z.E:=by
 obtain⟨err,hB,hc⟩:=h;exact hB.er
end
theorem kD{W k RS c:Nat}{Inv:World ->Prop}{WI kI sI:Int}{BODY:Int×Unit ->Int×Int×Unit ->(Int×Int×Unit ->World ->Prop) ->World ->Prop}{DONE:Int×Unit ->World ->Prop}
  (hW:WI=(W:Int))(hl:W<=20)(hk:kI=(k:Int))(hk0:0<k)(hk8:k<=8)(hs:0<=sI)(hRS:2<=RS)(hfit:W<=(RS -1)*k)(hc:∀w',Inv w' ->BR w' c RS)(h0:Inv w)
  (hB:∀(x j:Nat) (b:Int) (wd:wQ) (N:Int×Int×Unit ->World ->Prop),Inv wd ->U8 b ->x+j<W ->j<k ->(∀w'' b',Inv w'' ->U8 b' ->N (b',wrap .i64 ((j:Int)+1),()) w'') ->BODY ((x:Int),()) (b,(j:Int),()) N wd)(hD:∀y w',Inv w' ->DONE y w'):
  xB (fun J:Int×Unit ->World ->Prop=>J (0,()) w) (fun y w' N=>IfC (decide (y.1<WI)) (zQ kI (And (0<=wrap .i64 (Int.tdiv y.1 kI)/\wrap .i64 (Int.tdiv y.1 kI)<((RS -1:Nat):Int)) (qN (some ⟨c,1,none⟩) fun a=>LdI w' (qH a (wrap .i64 (Int.tdiv y.1 kI)).toNat 1) .u8 fun n=>
   xB (fun J:Int×Int×Unit ->World ->Prop=>J (n,0,()) w') (fun u w'' N2=>xH (fun(_ :Unit) w3=>ShC sI (BODY y u N2 w3)) (fun J3=>IfC (decide (u.2.1<kI)) (IfC (decide (wrap .i64 (y.1+u.2.1)<WI)) (J3 () w'') (N (wrap .i64 (y.1+kI),()) w'')) (N (wrap .i64 (y.1+kI),()) w'')))))) (DONE y w')):=by
 subst hW hk;refine qP (fun y w'=>∃x:Nat,y=((x:Int),())/\x<=W+k/\Inv w') (fun y _ =>W -y.1.toNat) ⟨0,rfl,oQ,h0⟩ ?_;rintro y w' ⟨x,rfl,hx,hI⟩;refine qF (fun hlt=> ?_) (fun _ =>hD _ _ hI);dsimp only at hlt;have hxW:x<W:=oQ;have hd:x/k<RS -1:=by
  rw[Nat.div_lt_iff_lt_mul hk0];exact Nat.lt_of_lt_of_le hxW hfit
 have hdx:x/k<=x:=Nat.div_le_self _ _;generalize hQ:x/k=q at hd hdx;have e0:wrap .i64 (Int.tdiv (x:Int) (k:Int))=(q:Int):=by rw[vR,hQ,qA oQ oQ]
 rw[e0];refine xK oQ ⟨⟨oQ,oQ⟩,?_⟩;rw[PtrC_some,elemAt_one,Int.toNat_natCast];refine(hc _ hI).ld oQ fun n hn=> ?_;have ek:wrap .i64 ((x:Int)+(k:Int))=((x+k:Nat):Int):=by rw[qA oQ oQ];omega
 refine qP (fun u w''=>∃(b:Int) (j:Nat),u=(b,(j:Int),())/\j<=k/\U8 b/\Inv w'') (fun u _ =>k -u.2.1.toNat) ⟨n,0,rfl,oQ,hn,hI⟩ ?_;rintro u w'' ⟨b,j,rfl,hj,hb,hI2⟩;dsimp only;rw[ek];have next:(∃x':Nat,(((x+k:Nat):Int),())=((x':Int),())/\x'<=W+k/\Inv w'')/\W -(((x+k:Nat):Int)).toNat<W -(x:Int).toNat:=⟨⟨x+k,rfl,oQ,hI2⟩,oQ⟩;refine qJ (fun _ w3=>w3=w''/\x+j<W/\j<k) ?_ ?_
 ·rintro⟨⟩ w3 ⟨rfl,hxj,hjk⟩
  refine qU hs (hB x j b _ _ hI2 hb hxj hjk fun w4 b' hI4 hb'=> ?_);have e1:wrap .i64 ((j:Int)+1)=((j+1:Nat):Int):=by rw[qA oQ oQ];omega
  rw[e1];refine⟨⟨b',j+1,rfl,oQ,hb',hI4⟩,?_⟩;show k -((j+1:Nat):Int).toNat<k -(j:Int).toNat;omega
 ·intro J hJ
  have e2:wrap .i64 ((x:Int)+(j:Int))=((x+j:Nat):Int):=by rw[qA oQ oQ];omega
  refine qF (fun h1=> ?_) (fun _ =>next);rw[e2];exact qF (fun h2=>hJ _ _ ⟨rfl,oQ,oQ⟩) (fun _ =>next)
theorem U8.shl{b n:Int}:U8 (xJ .u8 b n):=by
 unfold xJ;exact U8.wrap _
theorem U8.shr{b:Int}(h:U8 b){n:Int}(h0:0<=n)(h8:n<=8):U8 (qY .u8 b n):=by
 obtain⟨h1,h2⟩:=h;rw[shr_u8 h1 h0 h8];have:b.toNat/2^n.toNat<=b.toNat:=Nat.div_le_self _ _;generalize b.toNat/2^n.toNat=q at this;exact⟨oQ,oQ⟩
theorem c123{x:Int}:CallT Pg 123 #[.int .i64 x] w fun v w'=>∃y:Int,v= .int .i64 y/\w'=w:=by
 apply call123;unfold wp123 wIq iQq;exact qU dQ ⟨_,rfl,rfl⟩
theorem c113{c q n RS bp:Nat}(h1:BR w c RS)(h2:BR w q RS)(hne:c≠q)(hRS:2<=RS)(hb:RS<1000)(hbp:1<=bp/\bp<=8):
  CallT Pg 113 #[.slice (some ⟨c,1,none⟩) (RS -1) (RS -1),.slice (some ⟨q,1,none⟩) (RS -1) (RS -1),.int .i64 bp] w fun v w'=>v= .tuple #[]/\BR w' c RS/\Fr [c] w w'/\hn w'=hn w:=by
 apply call113;unfold wp113 wIq iQq;refine qP (fun y w'=>∃i:Nat,y=((i:Int),())/\i<=bp/\BR w' c RS/\Fr [c] w w'/\hn w'=hn w) (fun y _ =>bp -y.1.toNat) ⟨0,rfl,oQ,h1,Fr.refl _ _,rfl⟩ ?_;rintro y w2 ⟨i,rfl,hi,hc2,F2,n2⟩;dsimp only;refine qF (fun hlt=> ?_) (fun hge=>⟨rfl,hc2,F2,n2⟩);refine qP (fun y w'=>∃(a b:Int) (j:Nat),y=(a,b,(j:Int),())/\j<=RS+8/\BR w' c RS/\Fr [c] w w'/\hn w'=hn w) (fun y _ =>RS+8 -y.2.2.1.toNat) ⟨0,0,i,rfl,oQ,hc2,F2,n2⟩ ?_;rintro y w6 ⟨a,b,j,rfl,hj,hc6,F6,n6⟩;dsimp only;refine qF (fun hlt2=> ?_) (fun hge2=> ?_)
 ·have hq6:=h2.fr F6 (by simp;omega)
  refine⟨⟨oQ,oQ⟩,?_⟩;rw[PtrC_some,elemAt_one,Int.toNat_natCast];refine hq6.ld oQ fun n10 _ => ?_;refine CallT.mono c123 ?_;rintro _ w12 ⟨y1,rfl,rfl⟩;refine⟨_,rfl,CallT.mono c123 ?_⟩;rintro _ w15 ⟨y2,rfl,rfl⟩;refine⟨_,rfl,CallT.mono c123 ?_⟩;rintro _ w18 ⟨y3,rfl,rfl⟩;refine⟨_,rfl,qJ (fun _ w'=>w'=w18) ?_ ?_⟩
  ·rintro⟨z1,⟨⟩⟩ w21 rfl
   refine⟨⟨oQ,oQ⟩,?_⟩;rw[PtrC_some,elemAt_one];refine hc6.ld oQ fun n24 _ =>⟨⟨oQ,oQ⟩,?_⟩;rw[PtrC_some,elemAt_one];refine hc6.st oQ (zS _) fun w26 b26 f26 n26=> ?_;have e:wrap .i64 ((j:Int)+(bp:Int))=((j+bp:Nat):Int):=by rw[qA oQ oQ];omega
   rw[e];refine⟨⟨_,_,j+bp,rfl,oQ,b26,F6.trans f26,oQ⟩,?_⟩;show RS+8 -((j+bp:Nat):Int).toNat<RS+8 -(j:Int).toNat;omega
  ·intro J hJ
   exact qF (fun _ =>qF (fun _ =>hJ _ _ rfl) (fun _ =>qF (fun _ =>hJ _ _ rfl) (fun _ =>hJ _ _ rfl))) (fun _ =>qF (fun _ =>hJ _ _ rfl) (fun _ =>hJ _ _ rfl))
 ·have e:wrap .i64 ((i:Int)+1)=((i+1:Nat):Int):=by rw[qA oQ oQ];omega
  rw[e];refine⟨⟨i+1,rfl,oQ,hc6,F6,n6⟩,?_⟩;show bp -((i+1:Nat):Int).toNat<bp -(i:Int).toNat;omega
end
def xZ(x0:Addr)(e:(Int×Int×Unit))(c:(Int×pQ×pQ×pQ×pQ×pQ×pQ×pQ×Value×Unit))(b:(Int×Sl×Sl×Int×Unit))(j:(Int×Sl×Sl×Int×Unit) ->World ->Prop)(d:wQ):Prop:=LdI d (aQq x0 7) .i64 fun l=>IfC (l==1) (LdB d (aQq x0 779) fun ec=>IfC ec (And (0<=(1:Int)/\(1:Int)<(6:Int)) (LdI d ⟨x0.block,x0.off+780+1,none⟩ .u8 fun ed=>xB (fun(ee:(Int×Unit) ->World ->Prop)=>ee (0,()) d) (fun D ap cf=>IfC (decide (D.1<e.1)) (zQ 8 (And (0<=wIq (Int.tdiv D.1 (8:Int))/\wIq (Int.tdiv D.1 (8:Int))<((b.2.1.len -1:Nat):Int)) (qN (qQ b.2.1.a b.2.1.cap 1 1) fun ef=>LdI ap (qH ef ((wIq (Int.tdiv D.1 (8:Int))).toNat) 1) .u8 fun eg=>xB (fun(eh:(Int×Int×Unit) ->World ->Prop)=>eh (eg,(0:Int),()) ap) (fun r aq ei=>xH (fun(ot:(Unit)) (cg:wQ)=>ShC 7 (xH (fun(ej:(Int×Unit)) (ek:wQ)=>CallT Pg 114 #[.pointer c.2.2.2.2.1,iQq (wIq (D.1+r.2.1)),iQq b.2.2.2.1,.agg #[.int .u8 (wrap .u8 ((qY .u8 r.1 7)*255)),.int .u8 (wrap .u8 ((qY .u8 r.1 7)*255)),.int .u8 (wrap .u8 ((qY .u8 r.1 7)*255)),.int .u8 ej.1]] ek fun el em=>And (el= .tuple #[]) (ShC 1 (ei (xJ .u8 r.1 1,wIq (r.2.1+1),()) em))) (fun ch=>IfC ((wrap .u8 ((qY .u8 r.1 7)*255))==ed) (ch (0,()) cg) (ch (255,()) cg)))) (fun en=>IfC (decide (r.2.1<(8:Int))) (IfC (decide ((wIq (D.1+r.2.1))<e.1)) (en (()) aq) (cf (wIq (D.1+8),()) aq)) (cf (wIq (D.1+8),()) aq)))))) (j (b.1,(⟨b.2.2.1.a,b.2.2.1.len,b.2.2.1.cap⟩:Sl),(⟨b.2.1.a,b.2.1.len,b.2.1.cap⟩:Sl),wIq (b.2.2.2.1+1),()) ap)))) (xB (fun(eo:(Int×Unit) ->World ->Prop)=>eo (0,()) d) (fun E ar ci=>IfC (decide (E.1<e.1)) (zQ 8 (And (0<=wIq (Int.tdiv E.1 (8:Int))/\wIq (Int.tdiv E.1 (8:Int))<((b.2.1.len -1:Nat):Int)) (qN (qQ b.2.1.a b.2.1.cap 1 1) fun ep=>LdI ar (qH ep ((wIq (Int.tdiv E.1 (8:Int))).toNat) 1) .u8 fun eq=>xB (fun(er:(Int×Int×Unit) ->World ->Prop)=>er (eq,(0:Int),()) ar) (fun N au es=>xH (fun(ou:(Unit)) (et:wQ)=>ShC 7 (CallT Pg 115 #[.pointer c.2.1,iQq (wIq (E.1+N.2.1)),iQq b.2.2.2.1,.agg #[.int .u8 (wrap .u8 ((qY .u8 N.1 7)*255))]] et fun eu ev=>And (eu= .tuple #[]) (ShC 1 (es (xJ .u8 N.1 1,wIq (N.2.1+1),()) ev)))) (fun ew=>IfC (decide (N.2.1<(8:Int))) (IfC (decide ((wIq (E.1+N.2.1))<e.1)) (ew (()) au) (ci (wIq (E.1+8),()) au)) (ci (wIq (E.1+8),()) au)))))) (j (b.1,(⟨b.2.2.1.a,b.2.2.1.len,b.2.2.1.cap⟩:Sl),(⟨b.2.1.a,b.2.1.len,b.2.1.cap⟩:Sl),wIq (b.2.2.2.1+1),()) ar)))) (IfC (l==2) (LdB d (aQq x0 779) fun ex=>IfC ex (And (0<=(1:Int)/\(1:Int)<(6:Int)) (LdI d ⟨x0.block,x0.off+780+1,none⟩ .u8 fun ey=>xB (fun(ez:(Int×Unit) ->World ->Prop)=>ez (0,()) d) (fun F av cj=>IfC (decide (F.1<e.1)) (zQ 4 (And (0<=wIq (Int.tdiv F.1 (4:Int))/\wIq (Int.tdiv F.1 (4:Int))<((b.2.1.len -1:Nat):Int)) (qN (qQ b.2.1.a b.2.1.cap 1 1) fun fa=>LdI av (qH fa ((wIq (Int.tdiv F.1 (4:Int))).toNat) 1) .u8 fun fb=>xB (fun(fc:(Int×Int×Unit) ->World ->Prop)=>fc (fb,(0:Int),()) av) (fun s aw fd=>xH (fun(ov:(Unit)) (ck:wQ)=>ShC 6 (xH (fun(fe:(Int×Unit)) (ff:wQ)=>CallT Pg 114 #[.pointer c.2.2.2.2.1,iQq (wIq (F.1+s.2.1)),iQq b.2.2.2.1,.agg #[.int .u8 (wrap .u8 ((qY .u8 s.1 6)*85)),.int .u8 (wrap .u8 ((qY .u8 s.1 6)*85)),.int .u8 (wrap .u8 ((qY .u8 s.1 6)*85)),.int .u8 fe.1]] ff fun fg fh=>And (fg= .tuple #[]) (ShC 2 (fd (xJ .u8 s.1 2,wIq (s.2.1+1),()) fh))) (fun cl=>IfC ((wrap .u8 ((qY .u8 s.1 6)*85))==ey) (cl (0,()) ck) (cl (255,()) ck)))) (fun fi=>IfC (decide (s.2.1<(4:Int))) (IfC (decide ((wIq (F.1+s.2.1))<e.1)) (fi (()) aw) (cj (wIq (F.1+4),()) aw)) (cj (wIq (F.1+4),()) aw)))))) (j (b.1,(⟨b.2.2.1.a,b.2.2.1.len,b.2.2.1.cap⟩:Sl),(⟨b.2.1.a,b.2.1.len,b.2.1.cap⟩:Sl),wIq (b.2.2.2.1+1),()) av)))) (xB (fun(fj:(Int×Unit) ->World ->Prop)=>fj (0,()) d) (fun G ax cm=>IfC (decide (G.1<e.1)) (zQ 4 (And (0<=wIq (Int.tdiv G.1 (4:Int))/\wIq (Int.tdiv G.1 (4:Int))<((b.2.1.len -1:Nat):Int)) (qN (qQ b.2.1.a b.2.1.cap 1 1) fun fk=>LdI ax (qH fk ((wIq (Int.tdiv G.1 (4:Int))).toNat) 1) .u8 fun fl=>xB (fun(fm:(Int×Int×Unit) ->World ->Prop)=>fm (fl,(0:Int),()) ax) (fun O ay fn=>xH (fun(ow:(Unit)) (fo:wQ)=>ShC 6 (CallT Pg 115 #[.pointer c.2.1,iQq (wIq (G.1+O.2.1)),iQq b.2.2.2.1,.agg #[.int .u8 (wrap .u8 ((qY .u8 O.1 6)*85))]] fo fun fp fq=>And (fp= .tuple #[]) (ShC 2 (fn (xJ .u8 O.1 2,wIq (O.2.1+1),()) fq)))) (fun fr=>IfC (decide (O.2.1<(4:Int))) (IfC (decide ((wIq (G.1+O.2.1))<e.1)) (fr (()) ay) (cm (wIq (G.1+4),()) ay)) (cm (wIq (G.1+4),()) ay)))))) (j (b.1,(⟨b.2.2.1.a,b.2.2.1.len,b.2.2.1.cap⟩:Sl),(⟨b.2.1.a,b.2.1.len,b.2.1.cap⟩:Sl),wIq (b.2.2.2.1+1),()) ax)))) (IfC (l==3) (LdB d (aQq x0 779) fun fs=>IfC fs (And (0<=(1:Int)/\(1:Int)<(6:Int)) (LdI d ⟨x0.block,x0.off+780+1,none⟩ .u8 fun ft=>xB (fun(fu:(Int×Unit) ->World ->Prop)=>fu (0,()) d) (fun H az cn=>IfC (decide (H.1<e.1)) (zQ 2 (And (0<=wIq (Int.tdiv H.1 (2:Int))/\wIq (Int.tdiv H.1 (2:Int))<((b.2.1.len -1:Nat):Int)) (qN (qQ b.2.1.a b.2.1.cap 1 1) fun fv=>LdI az (qH fv ((wIq (Int.tdiv H.1 (2:Int))).toNat) 1) .u8 fun fw=>xB (fun(fx:(Int×Int×Unit) ->World ->Prop)=>fx (fw,(0:Int),()) az) (fun t ba fy=>xH (fun(ox:(Unit)) (co:wQ)=>ShC 4 (xH (fun(fz:(Int×Unit)) (ga:wQ)=>CallT Pg 114 #[.pointer c.2.2.2.2.1,iQq (wIq (H.1+t.2.1)),iQq b.2.2.2.1,.agg #[.int .u8 (wrap .u8 ((qY .u8 t.1 4)*17)),.int .u8 (wrap .u8 ((qY .u8 t.1 4)*17)),.int .u8 (wrap .u8 ((qY .u8 t.1 4)*17)),.int .u8 fz.1]] ga fun gb gc=>And (gb= .tuple #[]) (ShC 4 (fy (xJ .u8 t.1 4,wIq (t.2.1+1),()) gc))) (fun cp=>IfC ((wrap .u8 ((qY .u8 t.1 4)*17))==ft) (cp (0,()) co) (cp (255,()) co)))) (fun gd=>IfC (decide (t.2.1<(2:Int))) (IfC (decide ((wIq (H.1+t.2.1))<e.1)) (gd (()) ba) (cn (wIq (H.1+2),()) ba)) (cn (wIq (H.1+2),()) ba)))))) (j (b.1,(⟨b.2.2.1.a,b.2.2.1.len,b.2.2.1.cap⟩:Sl),(⟨b.2.1.a,b.2.1.len,b.2.1.cap⟩:Sl),wIq (b.2.2.2.1+1),()) az)))) (xB (fun(ge:(Int×Unit) ->World ->Prop)=>ge (0,()) d) (fun I bb cq=>IfC (decide (I.1<e.1)) (zQ 2 (And (0<=wIq (Int.tdiv I.1 (2:Int))/\wIq (Int.tdiv I.1 (2:Int))<((b.2.1.len -1:Nat):Int)) (qN (qQ b.2.1.a b.2.1.cap 1 1) fun gf=>LdI bb (qH gf ((wIq (Int.tdiv I.1 (2:Int))).toNat) 1) .u8 fun gg=>xB (fun(gh:(Int×Int×Unit) ->World ->Prop)=>gh (gg,(0:Int),()) bb) (fun P bc gi=>xH (fun(oy:(Unit)) (gj:wQ)=>ShC 4 (CallT Pg 115 #[.pointer c.2.1,iQq (wIq (I.1+P.2.1)),iQq b.2.2.2.1,.agg #[.int .u8 (wrap .u8 ((qY .u8 P.1 4)*17))]] gj fun gk gl=>And (gk= .tuple #[]) (ShC 4 (gi (xJ .u8 P.1 4,wIq (P.2.1+1),()) gl)))) (fun gm=>IfC (decide (P.2.1<(2:Int))) (IfC (decide ((wIq (I.1+P.2.1))<e.1)) (gm (()) bc) (cq (wIq (I.1+2),()) bc)) (cq (wIq (I.1+2),()) bc)))))) (j (b.1,(⟨b.2.2.1.a,b.2.2.1.len,b.2.2.1.cap⟩:Sl),(⟨b.2.1.a,b.2.1.len,b.2.1.cap⟩:Sl),wIq (b.2.2.2.1+1),()) bb)))) (IfC (l==4) (LdB d (aQq x0 779) fun gn=>IfC gn (And (0<=(1:Int)/\(1:Int)<(6:Int)) (LdI d ⟨x0.block,x0.off+780+1,none⟩ .u8 fun go=>xB (fun(gp:(Int×Unit) ->World ->Prop)=>gp (0,()) d) (fun J Z cr=>IfC (decide (J.1<e.1)) (And (0<=J.1/\J.1<((b.2.1.len -1:Nat):Int)) (qN (qQ b.2.1.a b.2.1.cap 1 1) fun gq=>LdI Z (qH gq J.1.toNat 1) .u8 fun K=>IfC (K==go) (CallT Pg 114 #[.pointer c.2.2.2.2.1,iQq J.1,iQq b.2.2.2.1,.agg #[.int .u8 K,.int .u8 K,.int .u8 K,.int .u8 0]] Z fun gr gs=>And (gr= .tuple #[]) (cr (wIq (J.1+1),()) gs)) (CallT Pg 114 #[.pointer c.2.2.2.2.1,iQq J.1,iQq b.2.2.2.1,.agg #[.int .u8 K,.int .u8 K,.int .u8 K,.int .u8 255]] Z fun gt gu=>And (gt= .tuple #[]) (cr (wIq (J.1+1),()) gu)))) (j (b.1,(⟨b.2.2.1.a,b.2.2.1.len,b.2.2.1.cap⟩:Sl),(⟨b.2.1.a,b.2.1.len,b.2.1.cap⟩:Sl),wIq (b.2.2.2.1+1),()) Z)))) (qN c.2.1 fun gv=>qS d gv fun gw cs ct=>And (0<=b.1/\b.1<=(cs:Int)) (jQ Pg d #[33,33] 3 (.slice (qQ gw ct b.1.toNat 1) (cs -b.1.toNat) (ct -b.1.toNat)) (.slice (qQ b.2.1.a b.2.1.cap 1 1) (b.2.1.len -1) (b.2.1.cap -1)) fun oz cu=>qN c.2.1 fun gx=>LdI cu (aQq gx 1) .i64 fun gy=>j (wIq (b.1+gy),(⟨b.2.2.1.a,b.2.2.1.len,b.2.2.1.cap⟩:Sl),(⟨b.2.1.a,b.2.1.len,b.2.1.cap⟩:Sl),wIq (b.2.2.2.1+1),()) cu))) (IfC (l==5) (xB (fun(gz:(Int×Unit) ->World ->Prop)=>gz (0,()) d) (fun u aa ha=>IfC (decide (u.1<e.1)) (And (0<=wIq ((wIq ((2:Int)*u.1))+0)/\wIq ((wIq ((2:Int)*u.1))+0)<((b.2.1.len -1:Nat):Int)) (qN (qQ b.2.1.a b.2.1.cap 1 1) fun hb=>LdI aa (qH hb ((wIq ((wIq ((2:Int)*u.1))+0)).toNat) 1) .u8 fun bd=>And (0<=wIq ((wIq ((2:Int)*u.1))+1)/\wIq ((wIq ((2:Int)*u.1))+1)<((b.2.1.len -1:Nat):Int)) (qN (qQ b.2.1.a b.2.1.cap 1 1) fun hc=>LdI aa (qH hc ((wIq ((wIq ((2:Int)*u.1))+1)).toNat) 1) .u8 fun hd=>CallT Pg 114 #[.pointer c.2.2.2.2.1,iQq u.1,iQq b.2.2.2.1,.agg #[.int .u8 bd,.int .u8 bd,.int .u8 bd,.int .u8 hd]] aa fun he hf=>And (he= .tuple #[]) (ha (wIq (u.1+1),()) hf)))) (j (b.1,(⟨b.2.2.1.a,b.2.2.1.len,b.2.2.1.cap⟩:Sl),(⟨b.2.1.a,b.2.1.len,b.2.1.cap⟩:Sl),wIq (b.2.2.2.1+1),()) aa))) (IfC (l==6) (LdB d (aQq x0 779) fun hg=>IfC hg (qN c.2.2.2.2.1 fun hh=>qS d hh fun ab ac pa=>qO d fun ad=>And (0<=(1:Int)/\(1:Int)<(6:Int)) (LdI ad ⟨x0.block,x0.off+780+1,none⟩ .u8 fun hi=>And (0<=(3:Int)/\(3:Int)<(6:Int)) (LdI ad ⟨x0.block,x0.off+780+3,none⟩ .u8 fun hj=>And (0<=(5:Int)/\(5:Int)<(6:Int)) (LdI ad ⟨x0.block,x0.off+780+5,none⟩ .u8 fun hk=>xB (fun(hl:(Int×Int×Int×Unit) ->World ->Prop)=>hl (b.1,(0:Int),(0:Int),()) ad) (fun h v hm=>IfC (decide (h.2.2.1<e.1)) (And (0<=wIq (h.2.1+0)/\wIq (h.2.1+0)<((b.2.1.len -1:Nat):Int)) (qN (qQ b.2.1.a b.2.1.cap 1 1) fun hn=>LdI v (qH hn ((wIq (h.2.1+0)).toNat) 1) .u8 fun cv=>And (0<=wIq (h.2.1+1)/\wIq (h.2.1+1)<((b.2.1.len -1:Nat):Int)) (qN (qQ b.2.1.a b.2.1.cap 1 1) fun ho=>LdI v (qH ho ((wIq (h.2.1+1)).toNat) 1) .u8 fun cw=>And (0<=wIq (h.2.1+2)/\wIq (h.2.1+2)<((b.2.1.len -1:Nat):Int)) (qN (qQ b.2.1.a b.2.1.cap 1 1) fun hp=>LdI v (qH hp ((wIq (h.2.1+2)).toNat) 1) .u8 fun cx=>xH (fun(hq:(Int×Unit)) (hr:wQ)=>And (0<=wIq (h.1+0)/\wIq (h.1+0)<(ac:Int)) (qN ab fun hs=>qB hr (qH hs ((wIq (h.1+0)).toNat) 1) (.int .u8 cv) fun ht=>And (0<=wIq (h.1+1)/\wIq (h.1+1)<(ac:Int)) (qN ab fun hu=>qB ht (qH hu ((wIq (h.1+1)).toNat) 1) (.int .u8 cw) fun hv=>And (0<=wIq (h.1+2)/\wIq (h.1+2)<(ac:Int)) (qN ab fun hw=>qB hv (qH hw ((wIq (h.1+2)).toNat) 1) (.int .u8 cx) fun hx=>And (0<=wIq (h.1+3)/\wIq (h.1+3)<(ac:Int)) (qN ab fun hy=>qB hx (qH hy ((wIq (h.1+3)).toNat) 1) (.int .u8 hq.1) fun hz=>hm (wIq (h.1+4),wIq (h.2.1+3),wIq (h.2.2.1+1),()) hz))))) (fun ae=>IfC (cv==hi) (IfC (cw==hj) (IfC (cx==hk) (ae (0,()) v) (ae (255,()) v)) (ae (255,()) v)) (ae (255,()) v)))))) (qN c.2.2.2.2.1 fun ia=>LdI v (aQq ia 1) .i64 fun ib=>j (wIq (b.1+ib),(⟨b.2.2.1.a,b.2.2.1.len,b.2.2.1.cap⟩:Sl),(⟨b.2.1.a,b.2.1.len,b.2.1.cap⟩:Sl),wIq (b.2.2.2.1+1),()) v)))))) (qN c.2.2.1 fun ic=>qS d ic fun af ag pb=>xB (fun(id:(Int×Int×Int×Unit) ->World ->Prop)=>id (b.1,(0:Int),(0:Int),()) d) (fun i ah ie=>IfC (decide (i.2.2.1<e.1)) (And (0<=wIq (i.2.1+0)/\wIq (i.2.1+0)<((b.2.1.len -1:Nat):Int)) (qN (qQ b.2.1.a b.2.1.cap 1 1) fun ig=>LdI ah (qH ig ((wIq (i.2.1+0)).toNat) 1) .u8 fun ih=>And (0<=wIq (i.1+0)/\wIq (i.1+0)<(ag:Int)) (qN af fun ii=>qB ah (qH ii ((wIq (i.1+0)).toNat) 1) (.int .u8 ih) fun cy=>And (0<=wIq (i.2.1+1)/\wIq (i.2.1+1)<((b.2.1.len -1:Nat):Int)) (qN (qQ b.2.1.a b.2.1.cap 1 1) fun ij=>LdI cy (qH ij ((wIq (i.2.1+1)).toNat) 1) .u8 fun ik=>And (0<=wIq (i.1+1)/\wIq (i.1+1)<(ag:Int)) (qN af fun il=>qB cy (qH il ((wIq (i.1+1)).toNat) 1) (.int .u8 ik) fun cz=>And (0<=wIq (i.2.1+2)/\wIq (i.2.1+2)<((b.2.1.len -1:Nat):Int)) (qN (qQ b.2.1.a b.2.1.cap 1 1) fun im=>LdI cz (qH im ((wIq (i.2.1+2)).toNat) 1) .u8 fun io=>And (0<=wIq (i.1+2)/\wIq (i.1+2)<(ag:Int)) (qN af fun ip=>qB cz (qH ip ((wIq (i.1+2)).toNat) 1) (.int .u8 io) fun iq=>And (0<=wIq (i.1+3)/\wIq (i.1+3)<(ag:Int)) (qN af fun ir=>qB iq (qH ir ((wIq (i.1+3)).toNat) 1) (.int .u8 255) fun it=>ie (wIq (i.1+4),wIq (i.2.1+3),wIq (i.2.2.1+1),()) it)))))))) (qN c.2.2.1 fun iu=>LdI ah (aQq iu 1) .i64 fun iv=>j (wIq (b.1+iv),(⟨b.2.2.1.a,b.2.2.1.len,b.2.2.1.cap⟩:Sl),(⟨b.2.1.a,b.2.1.len,b.2.1.cap⟩:Sl),wIq (b.2.2.2.1+1),()) ah)))) (IfC (l==7) (xB (fun(iw:(Int×Unit) ->World ->Prop)=>iw (0,()) d) (fun y be da=>IfC (decide (y.1<e.1)) (zQ 8 (And (0<=wIq (Int.tdiv y.1 (8:Int))/\wIq (Int.tdiv y.1 (8:Int))<((b.2.1.len -1:Nat):Int)) (qN (qQ b.2.1.a b.2.1.cap 1 1) fun ix=>LdI be (qH ix ((wIq (Int.tdiv y.1 (8:Int))).toNat) 1) .u8 fun iy=>xB (fun(iz:(Int×Int×Unit) ->World ->Prop)=>iz (iy,(0:Int),()) be) (fun n bf db=>xH (fun(pc:(Unit)) (ai:wQ)=>ShC 7 (qN c.2.2.2.1 fun ja=>qS ai (aQq ja 6) fun pd jb pe=>IfC (decide ((jb:Int)<=(wIq (qY .u8 n.1 7)))) (qN c.2.2.2.1 fun jc=>qS ai (aQq jc 6) fun jd pf dc=>And (0<=wIq ((wIq (qY .u8 n.1 7))+1)/\wIq ((wIq (qY .u8 n.1 7))+1)<=(dc:Int)) (qN c.2.2.2.1 fun je=>qB ai (aQq je 6) (.slice jd ((wIq ((wIq (qY .u8 n.1 7))+1)).toNat) dc) fun jf=>CallT Pg 116 #[.pointer c.2.2.2.1,iQq (wIq (y.1+n.2.1)),iQq b.2.2.2.1,.int .u8 (qY .u8 n.1 7)] jf fun jg jh=>And (jg= .tuple #[]) (ShC 1 (db (xJ .u8 n.1 1,wIq (n.2.1+1),()) jh)))) (CallT Pg 116 #[.pointer c.2.2.2.1,iQq (wIq (y.1+n.2.1)),iQq b.2.2.2.1,.int .u8 (qY .u8 n.1 7)] ai fun ji jj=>And (ji= .tuple #[]) (ShC 1 (db (xJ .u8 n.1 1,wIq (n.2.1+1),()) jj))))) (fun jk=>IfC (decide (n.2.1<(8:Int))) (IfC (decide ((wIq (y.1+n.2.1))<e.1)) (jk (()) bf) (da (wIq (y.1+8),()) bf)) (da (wIq (y.1+8),()) bf)))))) (j (b.1,(⟨b.2.2.1.a,b.2.2.1.len,b.2.2.1.cap⟩:Sl),(⟨b.2.1.a,b.2.1.len,b.2.1.cap⟩:Sl),wIq (b.2.2.2.1+1),()) be))) (IfC (l==8) (xB (fun(jl:(Int×Unit) ->World ->Prop)=>jl (0,()) d) (fun z bg dd=>IfC (decide (z.1<e.1)) (zQ 4 (And (0<=wIq (Int.tdiv z.1 (4:Int))/\wIq (Int.tdiv z.1 (4:Int))<((b.2.1.len -1:Nat):Int)) (qN (qQ b.2.1.a b.2.1.cap 1 1) fun jm=>LdI bg (qH jm ((wIq (Int.tdiv z.1 (4:Int))).toNat) 1) .u8 fun jn=>xB (fun(jo:(Int×Int×Unit) ->World ->Prop)=>jo (jn,(0:Int),()) bg) (fun o bh de=>xH (fun(pg:(Unit)) (aj:wQ)=>ShC 6 (qN c.2.2.2.1 fun jp=>qS aj (aQq jp 6) fun ph jq pi=>IfC (decide ((jq:Int)<=(wIq (qY .u8 o.1 6)))) (qN c.2.2.2.1 fun jr=>qS aj (aQq jr 6) fun js pj df=>And (0<=wIq ((wIq (qY .u8 o.1 6))+1)/\wIq ((wIq (qY .u8 o.1 6))+1)<=(df:Int)) (qN c.2.2.2.1 fun jt=>qB aj (aQq jt 6) (.slice js ((wIq ((wIq (qY .u8 o.1 6))+1)).toNat) df) fun ju=>CallT Pg 116 #[.pointer c.2.2.2.1,iQq (wIq (z.1+o.2.1)),iQq b.2.2.2.1,.int .u8 (qY .u8 o.1 6)] ju fun jv jw=>And (jv= .tuple #[]) (ShC 2 (de (xJ .u8 o.1 2,wIq (o.2.1+1),()) jw)))) (CallT Pg 116 #[.pointer c.2.2.2.1,iQq (wIq (z.1+o.2.1)),iQq b.2.2.2.1,.int .u8 (qY .u8 o.1 6)] aj fun jx jy=>And (jx= .tuple #[]) (ShC 2 (de (xJ .u8 o.1 2,wIq (o.2.1+1),()) jy))))) (fun jz=>IfC (decide (o.2.1<(4:Int))) (IfC (decide ((wIq (z.1+o.2.1))<e.1)) (jz (()) bh) (dd (wIq (z.1+4),()) bh)) (dd (wIq (z.1+4),()) bh)))))) (j (b.1,(⟨b.2.2.1.a,b.2.2.1.len,b.2.2.1.cap⟩:Sl),(⟨b.2.1.a,b.2.1.len,b.2.1.cap⟩:Sl),wIq (b.2.2.2.1+1),()) bg))) (IfC (l==9) (xB (fun(ka:(Int×Unit) ->World ->Prop)=>ka (0,()) d) (fun A bi dg=>IfC (decide (A.1<e.1)) (zQ 2 (And (0<=wIq (Int.tdiv A.1 (2:Int))/\wIq (Int.tdiv A.1 (2:Int))<((b.2.1.len -1:Nat):Int)) (qN (qQ b.2.1.a b.2.1.cap 1 1) fun kb=>LdI bi (qH kb ((wIq (Int.tdiv A.1 (2:Int))).toNat) 1) .u8 fun kc=>xB (fun(kd:(Int×Int×Unit) ->World ->Prop)=>kd (kc,(0:Int),()) bi) (fun p bj dh=>xH (fun(pk:(Unit)) (ak:wQ)=>ShC 4 (qN c.2.2.2.1 fun ke=>qS ak (aQq ke 6) fun pl kf pm=>IfC (decide ((kf:Int)<=(wIq (qY .u8 p.1 4)))) (qN c.2.2.2.1 fun kg=>qS ak (aQq kg 6) fun kh pn di=>And (0<=wIq ((wIq (qY .u8 p.1 4))+1)/\wIq ((wIq (qY .u8 p.1 4))+1)<=(di:Int)) (qN c.2.2.2.1 fun ki=>qB ak (aQq ki 6) (.slice kh ((wIq ((wIq (qY .u8 p.1 4))+1)).toNat) di) fun kj=>CallT Pg 116 #[.pointer c.2.2.2.1,iQq (wIq (A.1+p.2.1)),iQq b.2.2.2.1,.int .u8 (qY .u8 p.1 4)] kj fun kk kl=>And (kk= .tuple #[]) (ShC 4 (dh (xJ .u8 p.1 4,wIq (p.2.1+1),()) kl)))) (CallT Pg 116 #[.pointer c.2.2.2.1,iQq (wIq (A.1+p.2.1)),iQq b.2.2.2.1,.int .u8 (qY .u8 p.1 4)] ak fun km kn=>And (km= .tuple #[]) (ShC 4 (dh (xJ .u8 p.1 4,wIq (p.2.1+1),()) kn))))) (fun ko=>IfC (decide (p.2.1<(2:Int))) (IfC (decide ((wIq (A.1+p.2.1))<e.1)) (ko (()) bj) (dg (wIq (A.1+2),()) bj)) (dg (wIq (A.1+2),()) bj)))))) (j (b.1,(⟨b.2.2.1.a,b.2.2.1.len,b.2.2.1.cap⟩:Sl),(⟨b.2.1.a,b.2.1.len,b.2.1.cap⟩:Sl),wIq (b.2.2.2.1+1),()) bi))) (IfC (l==10) (xH (fun(po:(Unit)) (dj:wQ)=>qN c.2.2.2.1 fun kp=>qS dj kp fun kq dk dl=>And (0<=b.1/\b.1<=(dk:Int)) (jQ Pg dj #[33,33] 3 (.slice (qQ kq dl b.1.toNat 1) (dk -b.1.toNat) (dl -b.1.toNat)) (.slice (qQ b.2.1.a b.2.1.cap 1 1) (b.2.1.len -1) (b.2.1.cap -1)) fun pp dm=>qN c.2.2.2.1 fun kr=>LdI dm (aQq kr 1) .i64 fun ks=>j (wIq (b.1+ks),(⟨b.2.2.1.a,b.2.2.1.len,b.2.2.1.cap⟩:Sl),(⟨b.2.1.a,b.2.1.len,b.2.1.cap⟩:Sl),wIq (b.2.2.2.1+1),()) dm)) (fun dn=>qN c.2.2.2.1 fun kt=>qS d (aQq kt 6) fun pq ku pr=>IfC ((ku:Int) !=(256:Int)) (xB (fun(kv:(Int×Unit) ->World ->Prop)=>kv (0,()) d) (fun B dp dq=>IfC (decide (B.1<e.1)) (qO dp fun al=>qN c.2.2.2.1 fun kw=>qS al (aQq kw 6) fun ps kx pt=>And (0<=B.1/\B.1<((b.2.1.len -1:Nat):Int)) (qN (qQ b.2.1.a b.2.1.cap 1 1) fun ky=>LdI al (qH ky B.1.toNat 1) .u8 fun kz=>IfC (decide ((kx:Int)<=(wIq kz))) (qO al fun bk=>qN c.2.2.2.1 fun la=>qS bk (aQq la 6) fun lb pu dr=>And (0<=B.1/\B.1<((b.2.1.len -1:Nat):Int)) (qN (qQ b.2.1.a b.2.1.cap 1 1) fun lc=>LdI bk (qH lc B.1.toNat 1) .u8 fun bl=>And (0<=wIq ((wIq bl)+1)/\wIq ((wIq bl)+1)<=(dr:Int)) (qN c.2.2.2.1 fun ld=>qB bk (aQq ld 6) (.slice lb ((wIq ((wIq bl)+1)).toNat) dr) fun le=>dq (wIq (B.1+1),()) le))) (dq (wIq (B.1+1),()) al))) (dn (()) dp))) (dn (()) d))) (IfC (l==11) (qN c.2.2.2.2.1 fun lf=>qS d lf fun lg ds dt=>And (0<=b.1/\b.1<=(ds:Int)) (jQ Pg d #[33,33] 3 (.slice (qQ lg dt b.1.toNat 1) (ds -b.1.toNat) (dt -b.1.toNat)) (.slice (qQ b.2.1.a b.2.1.cap 1 1) (b.2.1.len -1) (b.2.1.cap -1)) fun pv du=>qN c.2.2.2.2.1 fun lh=>LdI du (aQq lh 1) .i64 fun li=>j (wIq (b.1+li),(⟨b.2.2.1.a,b.2.2.1.len,b.2.2.1.cap⟩:Sl),(⟨b.2.1.a,b.2.1.len,b.2.1.cap⟩:Sl),wIq (b.2.2.2.1+1),()) du)) (IfC (l==12) (LdB d (aQq x0 779) fun lj=>IfC lj (qO d fun bm=>And (0<=(0:Int)/\(0:Int)<(6:Int)) (LdI bm (aQq x0 780) .u8 fun lk=>ShC 8 (And (0<=(1:Int)/\(1:Int)<(6:Int)) (LdI bm ⟨x0.block,x0.off+780+1,none⟩ .u8 fun ll=>xB (fun(lm:(Int×Unit) ->World ->Prop)=>lm (0,()) bm) (fun q dv dw=>IfC (decide (q.1<e.1)) (qO dv fun am=>And (0<=wIq ((wIq ((2:Int)*q.1))+0)/\wIq ((wIq ((2:Int)*q.1))+0)<((b.2.1.len -1:Nat):Int)) (qN (qQ b.2.1.a b.2.1.cap 1 1) fun ln=>LdI am (qH ln ((wIq ((wIq ((2:Int)*q.1))+0)).toNat) 1) .u8 fun L=>ShC 8 (And (0<=wIq ((wIq ((2:Int)*q.1))+1)/\wIq ((wIq ((2:Int)*q.1))+1)<((b.2.1.len -1:Nat):Int)) (qN (qQ b.2.1.a b.2.1.cap 1 1) fun lo=>LdI am (qH lo ((wIq ((wIq ((2:Int)*q.1))+1)).toNat) 1) .u8 fun M=>IfC ((bOr .u16 (xJ .u16 (wrap .u16 L) 8) (wrap .u16 M))==(bOr .u16 (xJ .u16 (wrap .u16 lk) 8) (wrap .u16 ll))) (CallT Pg 117 #[.pointer c.2.2.2.2.2.2.2.1,iQq q.1,iQq b.2.2.2.1,.agg #[.int .u16 (bOr .u16 (xJ .u16 (wrap .u16 L) 8) (wrap .u16 M)),.int .u16 (bOr .u16 (xJ .u16 (wrap .u16 L) 8) (wrap .u16 M)),.int .u16 (bOr .u16 (xJ .u16 (wrap .u16 L) 8) (wrap .u16 M)),.int .u16 0]] am fun lp lq=>And (lp= .tuple #[]) (dw (wIq (q.1+1),()) lq)) (CallT Pg 117 #[.pointer c.2.2.2.2.2.2.2.1,iQq q.1,iQq b.2.2.2.1,.agg #[.int .u16 (bOr .u16 (xJ .u16 (wrap .u16 L) 8) (wrap .u16 M)),.int .u16 (bOr .u16 (xJ .u16 (wrap .u16 L) 8) (wrap .u16 M)),.int .u16 (bOr .u16 (xJ .u16 (wrap .u16 L) 8) (wrap .u16 M)),.int .u16 65535]] am fun lr ls=>And (lr= .tuple #[]) (dw (wIq (q.1+1),()) ls)))))) (j (b.1,(⟨b.2.2.1.a,b.2.2.1.len,b.2.2.1.cap⟩:Sl),(⟨b.2.1.a,b.2.1.len,b.2.1.cap⟩:Sl),wIq (b.2.2.2.1+1),()) dv)))))) (xB (fun(lt:(Int×Unit) ->World ->Prop)=>lt (0,()) d) (fun C dx lu=>IfC (decide (C.1<e.1)) (qO dx fun bn=>And (0<=wIq ((wIq ((2:Int)*C.1))+0)/\wIq ((wIq ((2:Int)*C.1))+0)<((b.2.1.len -1:Nat):Int)) (qN (qQ b.2.1.a b.2.1.cap 1 1) fun lv=>LdI bn (qH lv ((wIq ((wIq ((2:Int)*C.1))+0)).toNat) 1) .u8 fun lw=>ShC 8 (And (0<=wIq ((wIq ((2:Int)*C.1))+1)/\wIq ((wIq ((2:Int)*C.1))+1)<((b.2.1.len -1:Nat):Int)) (qN (qQ b.2.1.a b.2.1.cap 1 1) fun lx=>LdI bn (qH lx ((wIq ((wIq ((2:Int)*C.1))+1)).toNat) 1) .u8 fun ly=>CallT Pg 118 #[.pointer c.2.2.2.2.2.1,iQq C.1,iQq b.2.2.2.1,.agg #[.int .u16 (bOr .u16 (xJ .u16 (wrap .u16 lw) 8) (wrap .u16 ly))]] bn fun lz ma=>And (lz= .tuple #[]) (lu (wIq (C.1+1),()) ma))))) (j (b.1,(⟨b.2.2.1.a,b.2.2.1.len,b.2.2.1.cap⟩:Sl),(⟨b.2.1.a,b.2.1.len,b.2.1.cap⟩:Sl),wIq (b.2.2.2.1+1),()) dx)))) (IfC (l==13) (xB (fun(mb:(Int×Unit) ->World ->Prop)=>mb (0,()) d) (fun m dy mc=>IfC (decide (m.1<e.1)) (qO dy fun bo=>And (0<=wIq ((wIq ((4:Int)*m.1))+0)/\wIq ((wIq ((4:Int)*m.1))+0)<((b.2.1.len -1:Nat):Int)) (qN (qQ b.2.1.a b.2.1.cap 1 1) fun md=>LdI bo (qH md ((wIq ((wIq ((4:Int)*m.1))+0)).toNat) 1) .u8 fun bp=>ShC 8 (And (0<=wIq ((wIq ((4:Int)*m.1))+1)/\wIq ((wIq ((4:Int)*m.1))+1)<((b.2.1.len -1:Nat):Int)) (qN (qQ b.2.1.a b.2.1.cap 1 1) fun me=>LdI bo (qH me ((wIq ((wIq ((4:Int)*m.1))+1)).toNat) 1) .u8 fun bq=>qO bo fun br=>And (0<=wIq ((wIq ((4:Int)*m.1))+2)/\wIq ((wIq ((4:Int)*m.1))+2)<((b.2.1.len -1:Nat):Int)) (qN (qQ b.2.1.a b.2.1.cap 1 1) fun mf=>LdI br (qH mf ((wIq ((wIq ((4:Int)*m.1))+2)).toNat) 1) .u8 fun mg=>ShC 8 (And (0<=wIq ((wIq ((4:Int)*m.1))+3)/\wIq ((wIq ((4:Int)*m.1))+3)<((b.2.1.len -1:Nat):Int)) (qN (qQ b.2.1.a b.2.1.cap 1 1) fun mh=>LdI br (qH mh ((wIq ((wIq ((4:Int)*m.1))+3)).toNat) 1) .u8 fun mi=>CallT Pg 117 #[.pointer c.2.2.2.2.2.2.2.1,iQq m.1,iQq b.2.2.2.1,.agg #[.int .u16 (bOr .u16 (xJ .u16 (wrap .u16 bp) 8) (wrap .u16 bq)),.int .u16 (bOr .u16 (xJ .u16 (wrap .u16 bp) 8) (wrap .u16 bq)),.int .u16 (bOr .u16 (xJ .u16 (wrap .u16 bp) 8) (wrap .u16 bq)),.int .u16 (bOr .u16 (xJ .u16 (wrap .u16 mg) 8) (wrap .u16 mi))]] br fun mj mk=>And (mj= .tuple #[]) (mc (wIq (m.1+1),()) mk)))))))) (j (b.1,(⟨b.2.2.1.a,b.2.2.1.len,b.2.2.1.cap⟩:Sl),(⟨b.2.1.a,b.2.1.len,b.2.1.cap⟩:Sl),wIq (b.2.2.2.1+1),()) dy))) (IfC (l==14) (LdB d (aQq x0 779) fun ml=>IfC ml (qO d fun bs=>And (0<=(0:Int)/\(0:Int)<(6:Int)) (LdI bs (aQq x0 780) .u8 fun mm=>ShC 8 (And (0<=(1:Int)/\(1:Int)<(6:Int)) (LdI bs ⟨x0.block,x0.off+780+1,none⟩ .u8 fun mn=>qO bs fun bt=>And (0<=(2:Int)/\(2:Int)<(6:Int)) (LdI bt ⟨x0.block,x0.off+780+2,none⟩ .u8 fun mo=>ShC 8 (And (0<=(3:Int)/\(3:Int)<(6:Int)) (LdI bt ⟨x0.block,x0.off+780+3,none⟩ .u8 fun mp=>qO bt fun bu=>And (0<=(4:Int)/\(4:Int)<(6:Int)) (LdI bu ⟨x0.block,x0.off+780+4,none⟩ .u8 fun mq=>ShC 8 (And (0<=(5:Int)/\(5:Int)<(6:Int)) (LdI bu ⟨x0.block,x0.off+780+5,none⟩ .u8 fun mr=>xB (fun(ms:(Int×Unit) ->World ->Prop)=>ms (0,()) bu) (fun f dz ao=>IfC (decide (f.1<e.1)) (qO dz fun bv=>And (0<=wIq ((wIq ((6:Int)*f.1))+0)/\wIq ((wIq ((6:Int)*f.1))+0)<((b.2.1.len -1:Nat):Int)) (qN (qQ b.2.1.a b.2.1.cap 1 1) fun mt=>LdI bv (qH mt ((wIq ((wIq ((6:Int)*f.1))+0)).toNat) 1) .u8 fun S=>ShC 8 (And (0<=wIq ((wIq ((6:Int)*f.1))+1)/\wIq ((wIq ((6:Int)*f.1))+1)<((b.2.1.len -1:Nat):Int)) (qN (qQ b.2.1.a b.2.1.cap 1 1) fun mu=>LdI bv (qH mu ((wIq ((wIq ((6:Int)*f.1))+1)).toNat) 1) .u8 fun T=>qO bv fun bw=>And (0<=wIq ((wIq ((6:Int)*f.1))+2)/\wIq ((wIq ((6:Int)*f.1))+2)<((b.2.1.len -1:Nat):Int)) (qN (qQ b.2.1.a b.2.1.cap 1 1) fun mv=>LdI bw (qH mv ((wIq ((wIq ((6:Int)*f.1))+2)).toNat) 1) .u8 fun U=>ShC 8 (And (0<=wIq ((wIq ((6:Int)*f.1))+3)/\wIq ((wIq ((6:Int)*f.1))+3)<((b.2.1.len -1:Nat):Int)) (qN (qQ b.2.1.a b.2.1.cap 1 1) fun mw=>LdI bw (qH mw ((wIq ((wIq ((6:Int)*f.1))+3)).toNat) 1) .u8 fun V=>qO bw fun Q=>And (0<=wIq ((wIq ((6:Int)*f.1))+4)/\wIq ((wIq ((6:Int)*f.1))+4)<((b.2.1.len -1:Nat):Int)) (qN (qQ b.2.1.a b.2.1.cap 1 1) fun mx=>LdI Q (qH mx ((wIq ((wIq ((6:Int)*f.1))+4)).toNat) 1) .u8 fun X=>ShC 8 (And (0<=wIq ((wIq ((6:Int)*f.1))+5)/\wIq ((wIq ((6:Int)*f.1))+5)<((b.2.1.len -1:Nat):Int)) (qN (qQ b.2.1.a b.2.1.cap 1 1) fun my=>LdI Q (qH my ((wIq ((wIq ((6:Int)*f.1))+5)).toNat) 1) .u8 fun Y=>IfC ((bOr .u16 (xJ .u16 (wrap .u16 S) 8) (wrap .u16 T))==(bOr .u16 (xJ .u16 (wrap .u16 mm) 8) (wrap .u16 mn))) (IfC ((bOr .u16 (xJ .u16 (wrap .u16 U) 8) (wrap .u16 V))==(bOr .u16 (xJ .u16 (wrap .u16 mo) 8) (wrap .u16 mp))) (IfC ((bOr .u16 (xJ .u16 (wrap .u16 X) 8) (wrap .u16 Y))==(bOr .u16 (xJ .u16 (wrap .u16 mq) 8) (wrap .u16 mr))) (CallT Pg 117 #[.pointer c.2.2.2.2.2.2.2.1,iQq f.1,iQq b.2.2.2.1,.agg #[.int .u16 (bOr .u16 (xJ .u16 (wrap .u16 S) 8) (wrap .u16 T)),.int .u16 (bOr .u16 (xJ .u16 (wrap .u16 U) 8) (wrap .u16 V)),.int .u16 (bOr .u16 (xJ .u16 (wrap .u16 X) 8) (wrap .u16 Y)),.int .u16 0]] Q fun mz na=>And (mz= .tuple #[]) (ao (wIq (f.1+1),()) na)) (CallT Pg 117 #[.pointer c.2.2.2.2.2.2.2.1,iQq f.1,iQq b.2.2.2.1,.agg #[.int .u16 (bOr .u16 (xJ .u16 (wrap .u16 S) 8) (wrap .u16 T)),.int .u16 (bOr .u16 (xJ .u16 (wrap .u16 U) 8) (wrap .u16 V)),.int .u16 (bOr .u16 (xJ .u16 (wrap .u16 X) 8) (wrap .u16 Y)),.int .u16 65535]] Q fun nb nc=>And (nb= .tuple #[]) (ao (wIq (f.1+1),()) nc))) (CallT Pg 117 #[.pointer c.2.2.2.2.2.2.2.1,iQq f.1,iQq b.2.2.2.1,.agg #[.int .u16 (bOr .u16 (xJ .u16 (wrap .u16 S) 8) (wrap .u16 T)),.int .u16 (bOr .u16 (xJ .u16 (wrap .u16 U) 8) (wrap .u16 V)),.int .u16 (bOr .u16 (xJ .u16 (wrap .u16 X) 8) (wrap .u16 Y)),.int .u16 65535]] Q fun nd ne=>And (nd= .tuple #[]) (ao (wIq (f.1+1),()) ne))) (CallT Pg 117 #[.pointer c.2.2.2.2.2.2.2.1,iQq f.1,iQq b.2.2.2.1,.agg #[.int .u16 (bOr .u16 (xJ .u16 (wrap .u16 S) 8) (wrap .u16 T)),.int .u16 (bOr .u16 (xJ .u16 (wrap .u16 U) 8) (wrap .u16 V)),.int .u16 (bOr .u16 (xJ .u16 (wrap .u16 X) 8) (wrap .u16 Y)),.int .u16 65535]] Q fun nf ng=>And (nf= .tuple #[]) (ao (wIq (f.1+1),()) ng)))))))))))) (j (b.1,(⟨b.2.2.1.a,b.2.2.1.len,b.2.2.1.cap⟩:Sl),(⟨b.2.1.a,b.2.1.len,b.2.1.cap⟩:Sl),wIq (b.2.2.2.1+1),()) dz)))))))))))) (xB (fun(nh:(Int×Unit) ->World ->Prop)=>nh (0,()) d) (fun k ea ni=>IfC (decide (k.1<e.1)) (qO ea fun bx=>And (0<=wIq ((wIq ((6:Int)*k.1))+0)/\wIq ((wIq ((6:Int)*k.1))+0)<((b.2.1.len -1:Nat):Int)) (qN (qQ b.2.1.a b.2.1.cap 1 1) fun nj=>LdI bx (qH nj ((wIq ((wIq ((6:Int)*k.1))+0)).toNat) 1) .u8 fun nk=>ShC 8 (And (0<=wIq ((wIq ((6:Int)*k.1))+1)/\wIq ((wIq ((6:Int)*k.1))+1)<((b.2.1.len -1:Nat):Int)) (qN (qQ b.2.1.a b.2.1.cap 1 1) fun nl=>LdI bx (qH nl ((wIq ((wIq ((6:Int)*k.1))+1)).toNat) 1) .u8 fun nm=>qO bx fun bz=>And (0<=wIq ((wIq ((6:Int)*k.1))+2)/\wIq ((wIq ((6:Int)*k.1))+2)<((b.2.1.len -1:Nat):Int)) (qN (qQ b.2.1.a b.2.1.cap 1 1) fun nn=>LdI bz (qH nn ((wIq ((wIq ((6:Int)*k.1))+2)).toNat) 1) .u8 fun no=>ShC 8 (And (0<=wIq ((wIq ((6:Int)*k.1))+3)/\wIq ((wIq ((6:Int)*k.1))+3)<((b.2.1.len -1:Nat):Int)) (qN (qQ b.2.1.a b.2.1.cap 1 1) fun np=>LdI bz (qH np ((wIq ((wIq ((6:Int)*k.1))+3)).toNat) 1) .u8 fun nq=>qO bz fun ca=>And (0<=wIq ((wIq ((6:Int)*k.1))+4)/\wIq ((wIq ((6:Int)*k.1))+4)<((b.2.1.len -1:Nat):Int)) (qN (qQ b.2.1.a b.2.1.cap 1 1) fun nr=>LdI ca (qH nr ((wIq ((wIq ((6:Int)*k.1))+4)).toNat) 1) .u8 fun ns=>ShC 8 (And (0<=wIq ((wIq ((6:Int)*k.1))+5)/\wIq ((wIq ((6:Int)*k.1))+5)<((b.2.1.len -1:Nat):Int)) (qN (qQ b.2.1.a b.2.1.cap 1 1) fun nt=>LdI ca (qH nt ((wIq ((wIq ((6:Int)*k.1))+5)).toNat) 1) .u8 fun nu=>CallT Pg 119 #[.pointer c.2.2.2.2.2.2.1,iQq k.1,iQq b.2.2.2.1,.agg #[.int .u16 (bOr .u16 (xJ .u16 (wrap .u16 nk) 8) (wrap .u16 nm)),.int .u16 (bOr .u16 (xJ .u16 (wrap .u16 no) 8) (wrap .u16 nq)),.int .u16 (bOr .u16 (xJ .u16 (wrap .u16 ns) 8) (wrap .u16 nu)),.int .u16 65535]] ca fun nv nw=>And (nv= .tuple #[]) (ni (wIq (k.1+1),()) nw))))))))))) (j (b.1,(⟨b.2.2.1.a,b.2.2.1.len,b.2.2.1.cap⟩:Sl),(⟨b.2.1.a,b.2.1.len,b.2.1.cap⟩:Sl),wIq (b.2.2.2.1+1),()) ea)))) (IfC (l==15) (xB (fun(nx:(Int×Unit) ->World ->Prop)=>nx (0,()) d) (fun g eb ny=>IfC (decide (g.1<e.1)) (qO eb fun cb=>And (0<=wIq ((wIq ((8:Int)*g.1))+0)/\wIq ((wIq ((8:Int)*g.1))+0)<((b.2.1.len -1:Nat):Int)) (qN (qQ b.2.1.a b.2.1.cap 1 1) fun nz=>LdI cb (qH nz ((wIq ((wIq ((8:Int)*g.1))+0)).toNat) 1) .u8 fun oa=>ShC 8 (And (0<=wIq ((wIq ((8:Int)*g.1))+1)/\wIq ((wIq ((8:Int)*g.1))+1)<((b.2.1.len -1:Nat):Int)) (qN (qQ b.2.1.a b.2.1.cap 1 1) fun ob=>LdI cb (qH ob ((wIq ((wIq ((8:Int)*g.1))+1)).toNat) 1) .u8 fun oc=>qO cb fun cc=>And (0<=wIq ((wIq ((8:Int)*g.1))+2)/\wIq ((wIq ((8:Int)*g.1))+2)<((b.2.1.len -1:Nat):Int)) (qN (qQ b.2.1.a b.2.1.cap 1 1) fun od=>LdI cc (qH od ((wIq ((wIq ((8:Int)*g.1))+2)).toNat) 1) .u8 fun oe=>ShC 8 (And (0<=wIq ((wIq ((8:Int)*g.1))+3)/\wIq ((wIq ((8:Int)*g.1))+3)<((b.2.1.len -1:Nat):Int)) (qN (qQ b.2.1.a b.2.1.cap 1 1) fun og=>LdI cc (qH og ((wIq ((wIq ((8:Int)*g.1))+3)).toNat) 1) .u8 fun oh=>qO cc fun cd=>And (0<=wIq ((wIq ((8:Int)*g.1))+4)/\wIq ((wIq ((8:Int)*g.1))+4)<((b.2.1.len -1:Nat):Int)) (qN (qQ b.2.1.a b.2.1.cap 1 1) fun oi=>LdI cd (qH oi ((wIq ((wIq ((8:Int)*g.1))+4)).toNat) 1) .u8 fun oj=>ShC 8 (And (0<=wIq ((wIq ((8:Int)*g.1))+5)/\wIq ((wIq ((8:Int)*g.1))+5)<((b.2.1.len -1:Nat):Int)) (qN (qQ b.2.1.a b.2.1.cap 1 1) fun ok=>LdI cd (qH ok ((wIq ((wIq ((8:Int)*g.1))+5)).toNat) 1) .u8 fun ol=>qO cd fun ce=>And (0<=wIq ((wIq ((8:Int)*g.1))+6)/\wIq ((wIq ((8:Int)*g.1))+6)<((b.2.1.len -1:Nat):Int)) (qN (qQ b.2.1.a b.2.1.cap 1 1) fun om=>LdI ce (qH om ((wIq ((wIq ((8:Int)*g.1))+6)).toNat) 1) .u8 fun on=>ShC 8 (And (0<=wIq ((wIq ((8:Int)*g.1))+7)/\wIq ((wIq ((8:Int)*g.1))+7)<((b.2.1.len -1:Nat):Int)) (qN (qQ b.2.1.a b.2.1.cap 1 1) fun oo=>LdI ce (qH oo ((wIq ((wIq ((8:Int)*g.1))+7)).toNat) 1) .u8 fun op=>CallT Pg 117 #[.pointer c.2.2.2.2.2.2.2.1,iQq g.1,iQq b.2.2.2.1,.agg #[.int .u16 (bOr .u16 (xJ .u16 (wrap .u16 oa) 8) (wrap .u16 oc)),.int .u16 (bOr .u16 (xJ .u16 (wrap .u16 oe) 8) (wrap .u16 oh)),.int .u16 (bOr .u16 (xJ .u16 (wrap .u16 oj) 8) (wrap .u16 ol)),.int .u16 (bOr .u16 (xJ .u16 (wrap .u16 on) 8) (wrap .u16 op))]] ce fun oq os=>And (oq= .tuple #[]) (ny (wIq (g.1+1),()) os)))))))))))))) (j (b.1,(⟨b.2.2.1.a,b.2.2.1.len,b.2.2.1.cap⟩:Sl),(⟨b.2.1.a,b.2.1.len,b.2.1.cap⟩:Sl),wIq (b.2.2.2.1+1),()) eb))) (j (b.1,(⟨b.2.2.1.a,b.2.2.1.len,b.2.2.1.cap⟩:Sl),(⟨b.2.1.a,b.2.1.len,b.2.1.cap⟩:Sl),wIq (b.2.2.2.1+1),()) d)))))))))))))))
def eO(BPP:Int)(b:(Int×Sl×Sl×Int×Unit))(h:Unit ->World ->Prop)(R:vPq)(g:wQ):Prop:=And (0<=(0:Int)/\(0:Int)<(b.2.1.len:Int)) (qN b.2.1.a fun q=>LdI g q .u8 fun i=>IfC (i==0) (h (()) g) (IfC (i==1) (xB (fun(r:(Int×Unit) ->World ->Prop)=>r (BPP,()) g) (fun d n s=>IfC (decide (d.1<((b.2.1.len -1:Nat):Int))) (qO n fun l=>And (0<=d.1/\d.1<((b.2.1.len -1:Nat):Int)) (qN (qQ b.2.1.a b.2.1.cap 1 1) fun t=>LdI l (qH t d.1.toNat 1) .u8 fun u=>And (0<=wIq (d.1 -(BPP))/\wIq (d.1 -(BPP))<((b.2.1.len -1:Nat):Int)) (qN (qQ b.2.1.a b.2.1.cap 1 1) fun v=>LdI l (qH v ((wIq (d.1 -(BPP))).toNat) 1) .u8 fun y=>And (0<=d.1/\d.1<((b.2.1.len -1:Nat):Int)) (qN (qQ b.2.1.a b.2.1.cap 1 1) fun z=>qB l (qH z d.1.toNat 1) (.int .u8 (wrap .u8 (u+y))) fun A=>s (wIq (d.1+1),()) A)))) (h (()) n))) (IfC (i==2) (xB (fun(B:(Int×Unit) ->World ->Prop)=>B (0,()) g) (fun e j C=>IfC (decide (e.1<((b.2.2.1.len -1:Nat):Int))) (And (0<=e.1/\e.1<((b.2.2.1.len -1:Nat):Int)) (qN (qQ b.2.2.1.a b.2.2.1.cap 1 1) fun D=>LdI j (qH D e.1.toNat 1) .u8 fun E=>And (0<=e.1/\e.1<((b.2.1.len -1:Nat):Int)) (qN (qQ b.2.1.a b.2.1.cap 1 1) fun F=>LdI j (qH F e.1.toNat 1) .u8 fun G=>And (0<=e.1/\e.1<((b.2.1.len -1:Nat):Int)) (qN (qQ b.2.1.a b.2.1.cap 1 1) fun H=>qB j (qH H e.1.toNat 1) (.int .u8 (wrap .u8 (G+E))) fun I=>C (wIq (e.1+1),()) I)))) (h (()) j))) (IfC (i==3) (xB (fun(J:(Int×Unit) ->World ->Prop)=>J (0,()) g) (fun f o K=>IfC (decide (f.1<(BPP))) (qO o fun m=>And (0<=f.1/\f.1<((b.2.1.len -1:Nat):Int)) (qN (qQ b.2.1.a b.2.1.cap 1 1) fun L=>LdI m (qH L f.1.toNat 1) .u8 fun M=>And (0<=f.1/\f.1<((b.2.2.1.len -1:Nat):Int)) (qN (qQ b.2.2.1.a b.2.2.1.cap 1 1) fun N=>LdI m (qH N f.1.toNat 1) .u8 fun O=>zQ 2 (And (0<=f.1/\f.1<((b.2.1.len -1:Nat):Int)) (qN (qQ b.2.1.a b.2.1.cap 1 1) fun P=>qB m (qH P f.1.toNat 1) (.int .u8 (wrap .u8 (M+(wrap .u8 (Int.tdiv O 2))))) fun Q=>K (wIq (f.1+1),()) Q))))) (xB (fun(S:(Int×Unit) ->World ->Prop)=>S (BPP,()) o) (fun c p T=>IfC (decide (c.1<((b.2.1.len -1:Nat):Int))) (qO p fun k=>And (0<=c.1/\c.1<((b.2.1.len -1:Nat):Int)) (qN (qQ b.2.1.a b.2.1.cap 1 1) fun U=>LdI k (qH U c.1.toNat 1) .u8 fun V=>And (0<=wIq (c.1 -(BPP))/\wIq (c.1 -(BPP))<((b.2.1.len -1:Nat):Int)) (qN (qQ b.2.1.a b.2.1.cap 1 1) fun X=>LdI k (qH X ((wIq (c.1 -(BPP))).toNat) 1) .u8 fun Y=>And (0<=c.1/\c.1<((b.2.2.1.len -1:Nat):Int)) (qN (qQ b.2.2.1.a b.2.2.1.cap 1 1) fun Z=>LdI k (qH Z c.1.toNat 1) .u8 fun aa=>zQ 2 (And (0<=c.1/\c.1<((b.2.1.len -1:Nat):Int)) (qN (qQ b.2.1.a b.2.1.cap 1 1) fun ab=>qB k (qH ab c.1.toNat 1) (.int .u8 (wrap .u8 (V+(wrap .u8 (wIq (Int.tdiv (wIq ((wIq Y)+(wIq aa))) (2:Int))))))) fun ac=>T (wIq (c.1+1),()) ac)))))) (h (()) p))))) (IfC (i==4) (CallT Pg 113 #[.slice (qQ b.2.1.a b.2.1.cap 1 1) (b.2.1.len -1) (b.2.1.cap -1),.slice (qQ b.2.2.1.a b.2.2.1.cap 1 1) (b.2.2.1.len -1) (b.2.2.1.cap -1),iQq (BPP)] g fun ad ae=>And (ad= .tuple #[]) (h (()) ae)) (R (.tuple #[.nilIface,.iface 125 (.string ⟨#[98,97,100,32,102,105,108,116,101,114,32,116,121,112,101]⟩)]) g))))))
def iQ(x0:Addr)(x1:Value)(x3:Bool)(c:(Int×Int×Unit))(b:(Int×pQ×pQ×pQ×pQ×pQ×pQ×pQ×Value×Unit))(R:vPq)(g:wQ):Prop:=IfC x3 (R (.tuple #[b.2.2.2.2.2.2.2.2.1,.nilIface]) g) (zQ 8 (zQ 8 (IfC ((wIq ((1:Int)+(wIq (Int.tdiv (wIq ((wIq (b.1*c.1))+7)) (8:Int))))) !=(wIq ((1:Int)+(wIq (Int.tdiv (wIq ((wIq (b.1*c.1))+7)) (8:Int)))))) (R (.tuple #[.nilIface,.iface 126 (.string ⟨#[100,105,109,101,110,115,105,111,110,32,111,118,101,114,102,108,111,119]⟩)]) g) (And (0<=wIq ((1:Int)+(wIq (Int.tdiv (wIq ((wIq (b.1*c.1))+7)) (8:Int))))/\wIq ((1:Int)+(wIq (Int.tdiv (wIq ((wIq (b.1*c.1))+7)) (8:Int))))<=wIq ((1:Int)+(wIq (Int.tdiv (wIq ((wIq (b.1*c.1))+7)) (8:Int))))/\wIq ((1:Int)+(wIq (Int.tdiv (wIq ((wIq (b.1*c.1))+7)) (8:Int))))<=281474976710656/\(1:Int)*(wIq ((1:Int)+(wIq (Int.tdiv (wIq ((wIq (b.1*c.1))+7)) (8:Int)))))<=281474976710656) (qL g (.cells (uI Pg 5 ((wIq ((1:Int)+(wIq (Int.tdiv (wIq ((wIq (b.1*c.1))+7)) (8:Int))))).toNat)) 5) fun i j=>And (0<=wIq ((1:Int)+(wIq (Int.tdiv (wIq ((wIq (b.1*c.1))+7)) (8:Int))))/\wIq ((1:Int)+(wIq (Int.tdiv (wIq ((wIq (b.1*c.1))+7)) (8:Int))))<=wIq ((1:Int)+(wIq (Int.tdiv (wIq ((wIq (b.1*c.1))+7)) (8:Int))))/\wIq ((1:Int)+(wIq (Int.tdiv (wIq ((wIq (b.1*c.1))+7)) (8:Int))))<=281474976710656/\(1:Int)*(wIq ((1:Int)+(wIq (Int.tdiv (wIq ((wIq (b.1*c.1))+7)) (8:Int)))))<=281474976710656) (qL j (.cells (uI Pg 5 ((wIq ((1:Int)+(wIq (Int.tdiv (wIq ((wIq (b.1*c.1))+7)) (8:Int))))).toNat)) 5) fun k l=>xB (fun(m:(Int×Sl×Sl×Int×Unit) ->World ->Prop)=>m (0,(⟨some ⟨i,0,none⟩,(wIq ((1:Int)+(wIq (Int.tdiv (wIq ((wIq (b.1*c.1))+7)) (8:Int))))).toNat,(wIq ((1:Int)+(wIq (Int.tdiv (wIq ((wIq (b.1*c.1))+7)) (8:Int))))).toNat⟩:Sl),(⟨some ⟨k,0,none⟩,(wIq ((1:Int)+(wIq (Int.tdiv (wIq ((wIq (b.1*c.1))+7)) (8:Int))))).toNat,(wIq ((1:Int)+(wIq (Int.tdiv (wIq ((wIq (b.1*c.1))+7)) (8:Int))))).toNat⟩:Sl),(0:Int),()) l) (fun d h n=>IfC (decide (d.2.2.2.1<c.2.1)) (CallT Pg 71 #[x1,.slice d.2.1.a d.2.1.len d.2.1.cap] h fun o e=>∃p f,And (o= .tuple #[iQq p,f]) (xR f fun q=>IfC (!q) (LdV e ⟨0,0,none⟩ fun r=>kX Pg 82 (.tmp 339) (.tmp 340) f r e fun s=>IfC s (R (.tuple #[.nilIface,.iface 125 (.string ⟨#[110,111,116,32,101,110,111,117,103,104,32,112,105,120,101,108,32,100,97,116,97]⟩)]) e) (LdV e ⟨1,0,none⟩ fun t=>kX Pg 82 (.tmp 343) (.tmp 344) f t e fun u=>IfC u (R (.tuple #[.nilIface,.iface 125 (.string ⟨#[110,111,116,32,101,110,111,117,103,104,32,112,105,120,101,108,32,100,97,116,97]⟩)]) e) (R (.tuple #[.nilIface,f]) e))) (And (0<=(1:Int)/\(1:Int)<=(d.2.1.len:Int)) (And (0<=(1:Int)/\(1:Int)<=(d.2.2.1.len:Int)) (xH (fun(z:(Unit)) (v:wQ)=>xZ x0 c b d n v) (fun y=>eO (wIq (Int.tdiv (wIq (b.1+7)) 8)) d y R e)))))) (R (.tuple #[b.2.2.2.2.2.2.2.2.1,.nilIface]) h))))))))
def yS(x0:Addr)(a:(Int×Int×Unit))(c:(Int×pQ×pQ×pQ×pQ×pQ×pQ×pQ×Value×Unit) ->World ->Prop)(f:wQ):Prop:=LdI f (aQq x0 7) .i64 fun b=>xH (fun(bi:(Bool×Unit)) (d:wQ)=>IfC bi.1 (LdI d (aQq x0 5) .i64 fun v=>LdB d (aQq x0 779) fun bj=>IfC bj (CallT Pg 106 #[iQq 0,iQq 0,iQq a.1,iQq a.2.1] d fun bk bl=>∃y z A B,And (bk=g4q y z A B) (CallT Pg 105 #[g4q y z A B] bl fun bm bn=>∃i,And (bm= .pointer i) (c (v,none,none,none,i,none,none,none,(.iface 180 (.pointer i):Value),()) bn))) (CallT Pg 106 #[iQq 0,iQq 0,iQq a.1,iQq a.2.1] d fun bo bp=>∃C D E F,And (bo=g4q C D E F) (CallT Pg 107 #[g4q C D E F] bp fun bq br=>∃j,And (bq= .pointer j) (c (v,j,none,none,none,none,none,none,(.iface 166 (.pointer j):Value),()) br)))) (IfC (b==5) (CallT Pg 106 #[iQq 0,iQq 0,iQq a.1,iQq a.2.1] d fun bs bt=>∃G H I J,And (bs=g4q G H I J) (CallT Pg 105 #[g4q G H I J] bt fun bu bv=>∃k,And (bu= .pointer k) (c (16,none,none,none,k,none,none,none,(.iface 180 (.pointer k):Value),()) bv))) (IfC (b==6) (LdB d (aQq x0 779) fun bw=>IfC bw (CallT Pg 106 #[iQq 0,iQq 0,iQq a.1,iQq a.2.1] d fun bx bz=>∃K L M N,And (bx=g4q K L M N) (CallT Pg 105 #[g4q K L M N] bz fun ca cb=>∃l,And (ca= .pointer l) (c (24,none,none,none,l,none,none,none,(.iface 180 (.pointer l):Value),()) cb))) (CallT Pg 106 #[iQq 0,iQq 0,iQq a.1,iQq a.2.1] d fun cc cd=>∃O P Q S,And (cc=g4q O P Q S) (CallT Pg 108 #[g4q O P Q S] cd fun ce cf=>∃m,And (ce= .pointer m) (c (24,none,m,none,none,none,none,none,(.iface 176 (.pointer m):Value),()) cf)))) (xH (fun(cg:(Bool×Unit)) (e:wQ)=>IfC cg.1 (LdI e (aQq x0 5) .i64 fun ch=>qO e fun T=>qS T (aQq x0 6) fun U V X=>CallT Pg 106 #[iQq 0,iQq 0,iQq a.1,iQq a.2.1] T fun ci Y=>∃Z aa ab ac,And (ci=g4q Z aa ab ac) (qS Y (aQq x0 6) fun cj ck cl=>And ((.slice cj ck cl:Value)= .slice U V X) (And ((.pointer (some x0):Value)= .pointer (some x0)) (CallT Pg 109 #[g4q Z aa ab ac,.slice U V X] Y fun cm cn=>∃n,And (cm= .pointer n) (c (ch,none,none,n,none,none,none,none,(.iface 184 (.pointer n):Value),()) cn))))) (IfC (b==11) (CallT Pg 106 #[iQq 0,iQq 0,iQq a.1,iQq a.2.1] e fun co cp=>∃ad ae af ag,And (co=g4q ad ae af ag) (CallT Pg 105 #[g4q ad ae af ag] cp fun cq cr=>∃o,And (cq= .pointer o) (c (32,none,none,none,o,none,none,none,(.iface 180 (.pointer o):Value),()) cr))) (IfC (b==12) (LdB e (aQq x0 779) fun cs=>IfC cs (CallT Pg 106 #[iQq 0,iQq 0,iQq a.1,iQq a.2.1] e fun ct cu=>∃ah ai aj ak,And (ct=g4q ah ai aj ak) (CallT Pg 110 #[g4q ah ai aj ak] cu fun cv cw=>∃p,And (cv= .pointer p) (c (16,none,none,none,none,none,none,p,(.iface 182 (.pointer p):Value),()) cw))) (CallT Pg 106 #[iQq 0,iQq 0,iQq a.1,iQq a.2.1] e fun cx cy=>∃al am ao ap,And (cx=g4q al am ao ap) (CallT Pg 111 #[g4q al am ao ap] cy fun cz da=>∃q,And (cz= .pointer q) (c (16,none,none,none,none,q,none,none,(.iface 174 (.pointer q):Value),()) da)))) (IfC (b==13) (CallT Pg 106 #[iQq 0,iQq 0,iQq a.1,iQq a.2.1] e fun db dc=>∃aq ar au av,And (db=g4q aq ar au av) (CallT Pg 110 #[g4q aq ar au av] dc fun dd de=>∃r,And (dd= .pointer r) (c (32,none,none,none,none,none,none,r,(.iface 182 (.pointer r):Value),()) de))) (IfC (b==14) (LdB e (aQq x0 779) fun df=>IfC df (CallT Pg 106 #[iQq 0,iQq 0,iQq a.1,iQq a.2.1] e fun dg dh=>∃aw ax ay az,And (dg=g4q aw ax ay az) (CallT Pg 110 #[g4q aw ax ay az] dh fun di dj=>∃s,And (di= .pointer s) (c (48,none,none,none,none,none,none,s,(.iface 182 (.pointer s):Value),()) dj))) (CallT Pg 106 #[iQq 0,iQq 0,iQq a.1,iQq a.2.1] e fun dk dl=>∃ba bb bc bd,And (dk=g4q ba bb bc bd) (CallT Pg 112 #[g4q ba bb bc bd] dl fun dm dn=>∃t,And (dm= .pointer t) (c (48,none,none,none,none,none,t,none,(.iface 178 (.pointer t):Value),()) dn)))) (IfC (b==15) (CallT Pg 106 #[iQq 0,iQq 0,iQq a.1,iQq a.2.1] e fun dp dq=>∃be bf bg bh,And (dp=g4q be bf bg bh) (CallT Pg 110 #[g4q be bf bg bh] dq fun dr ds=>∃u,And (dr= .pointer u) (c (64,none,none,none,none,none,none,u,(.iface 182 (.pointer u):Value),()) ds))) (c (0,none,none,none,none,none,none,none,(.nilIface:Value),()) e))))))) (fun g=>IfC (b==7) (g (b==7,()) d) (IfC (b==8) (g (b==8,()) d) (IfC (b==9) (g (b==9,()) d) (g (b==10,()) d)))))))) (fun h=>IfC (b==1) (h (b==1,()) f) (IfC (b==2) (h (b==2,()) f) (IfC (b==3) (h (b==3,()) f) (h (b==4,()) f))))
def eJ(x0:Addr)(x2:Int)(x3:Bool)(e f:Int)(j:(Int×Int×Unit) ->World ->Prop)(R:vPq)(g:wQ):Prop:=xH (fun(p:(Bool×Unit)) (c:wQ)=>IfC p.1 (qS c ⟨6,0,none⟩ fun q r D=>And (0<=x2/\x2<(r:Int)) (qN q fun d=>LdI c (qH d x2.toNat 4) .i64 fun s=>LdI c ⟨(qH d x2.toNat 4).block,(qH d x2.toNat 4).off+1,none⟩ .i64 fun t=>LdI c ⟨(qH d x2.toNat 4).block,(qH d x2.toNat 4).off+2,none⟩ .i64 fun u=>LdI c ⟨(qH d x2.toNat 4).block,(qH d x2.toNat 4).off+3,none⟩ .i64 fun v=>qL c (.cells (zc Pg 215) 215) fun a y=>qB y ⟨a,0,none⟩ (iQq s) fun z=>qB z ⟨a,0+1,none⟩ (iQq t) fun A=>qB A ⟨a,0+2,none⟩ (iQq u) fun B=>qB B ⟨a,0+3,none⟩ (iQq v) fun b=>LdI b ⟨a,0+2,none⟩ .i64 fun k=>LdI b ⟨a,0,none⟩ .i64 fun l=>LdI b ⟨a,0,none⟩ .i64 fun h=>zQ h (LdI b ⟨a,0+3,none⟩ .i64 fun m=>LdI b ⟨a,0+1,none⟩ .i64 fun n=>LdI b ⟨a,0+1,none⟩ .i64 fun i=>zQ i (IfC ((wIq (Int.tdiv (wIq ((wIq ((wIq (e -k))+l)) -1)) h))==0) (R (.tuple #[.nilIface,.nilIface]) b) (IfC ((wIq (Int.tdiv (wIq ((wIq ((wIq (f -m))+n)) -1)) i))==0) (R (.tuple #[.nilIface,.nilIface]) b) (j (wIq (Int.tdiv (wIq ((wIq ((wIq (e -k))+l)) -1)) h),wIq (Int.tdiv (wIq ((wIq ((wIq (f -m))+n)) -1)) i),()) b)))))) (j (e,f,()) c)) (fun o=>LdI g (aQq x0 778) .i64 fun C=>IfC (C==1) (o (!x3,()) g) (o (false,()) g))
def wp102(x0:Addr)(x1:Value)(x2:Int)(x3:Bool)(R:vPq)(w:wQ):Prop:=qO w fun a=>LdI a (aQq x0 3) .i64 fun c=>LdI a (aQq x0 4) .i64 fun d=>xH (fun(b:(Int×Int×Unit)) (e:wQ)=>xH (fun(f:(Int×pQ×pQ×pQ×pQ×pQ×pQ×pQ×Value×Unit)) (g:wQ)=>iQ x0 x1 x3 b f R g) (fun h=>yS x0 b h e)) (fun i=>eJ x0 x2 x3 c d i R a)
theorem call102{x0:Addr}{x1:Value}{x2:Int}{x3:Bool}{R:vPq}{w:wQ}(h:wp102 x0 x1 x2 x3 R w):CallT Pg 102 #[.pointer (some x0),x1,.int .i64 x2,.bool x3] w R:=cVq [(24,[(20,.i .i64),(21,.i .i64)],[0,1,3,10,11,12,13,14,15,16,17,18,19]),(25,[(140,.b)],[0,1,2,3,10,11,12,13,14,15,16,17,18,19,20,21]),(42,[(10,.i .i64),(12,.p),(13,.p),(14,.p),(15,.p),(16,.p),(17,.p),(18,.p),(19,.v)],[0,1,3,11,20,21]),(46,[(177,.b)],[0,1,3,10,11,12,13,14,15,16,17,18,19,20,21,176]),(94,[(228,.b)],[0,1,3,10,11,12,13,14,15,16,17,18,19,20,21,176]),(195,[(11,.i .i64),(25,.sl),(26,.sl),(27,.i .i64)],[0,1,12,13,14,15,16,17,18,19,20,21,23]),(226,[],[0,1,11,12,13,14,15,16,17,18,19,20,21,23,25,26,27,30]),(240,[(32,.i .i64)],[0,1,8,9,11,12,13,14,15,16,17,18,19,20,21,23,25,26,27,30]),(257,[(384,.i .i64)],[0,1,8,9,11,12,13,14,15,16,17,18,19,20,21,23,25,26,27,30,382,383]),(277,[(35,.i .i64)],[0,1,8,9,11,12,13,14,15,16,17,18,19,20,21,23,25,26,27,30,31]),(291,[(36,.i .i64)],[0,1,8,9,11,12,13,14,15,16,17,18,19,20,21,23,25,26,27,30,31]),(324,[(38,.i .i64)],[0,1,8,9,11,12,13,14,15,16,17,18,19,20,21,23,25,26,27,30,37]),(338,[(39,.i .u8),(40,.i .i64)],[0,1,8,9,11,12,13,14,15,16,17,18,19,20,21,23,25,26,27,30,37,38]),(339,[],[0,1,11,12,13,14,15,16,17,18,19,20,21,23,25,26,27,30,37,38,39,40]),(351,[(42,.i .u8)],[0,1,11,12,13,14,15,16,17,18,19,20,21,23,25,26,27,30,37,38,39,40,41]),(365,[(43,.i .i64)],[0,1,8,9,11,12,13,14,15,16,17,18,19,20,21,23,25,26,27,30]),(379,[(44,.i .u8),(45,.i .i64)],[0,1,8,9,11,12,13,14,15,16,17,18,19,20,21,23,25,26,27,30,43]),(380,[],[0,1,11,12,13,14,15,16,17,18,19,20,21,23,25,26,27,30,43,44,45]),(404,[(47,.i .i64)],[0,1,8,9,11,12,13,14,15,16,17,18,19,20,21,23,25,26,27,30,46]),(418,[(48,.i .u8),(49,.i .i64)],[0,1,8,9,11,12,13,14,15,16,17,18,19,20,21,23,25,26,27,30,46,47]),(419,[],[0,1,11,12,13,14,15,16,17,18,19,20,21,23,25,26,27,30,46,47,48,49]),(431,[(51,.i .u8)],[0,1,11,12,13,14,15,16,17,18,19,20,21,23,25,26,27,30,46,47,48,49,50]),(445,[(52,.i .i64)],[0,1,8,9,11,12,13,14,15,16,17,18,19,20,21,23,25,26,27,30]),(459,[(53,.i .u8),(54,.i .i64)],[0,1,8,9,11,12,13,14,15,16,17,18,19,20,21,23,25,26,27,30,52]),(460,[],[0,1,11,12,13,14,15,16,17,18,19,20,21,23,25,26,27,30,52,53,54]),(484,[(56,.i .i64)],[0,1,8,9,11,12,13,14,15,16,17,18,19,20,21,23,25,26,27,30,55]),(498,[(57,.i .u8),(58,.i .i64)],[0,1,8,9,11,12,13,14,15,16,17,18,19,20,21,23,25,26,27,30,55,56]),(499,[],[0,1,11,12,13,14,15,16,17,18,19,20,21,23,25,26,27,30,55,56,57,58]),(511,[(60,.i .u8)],[0,1,11,12,13,14,15,16,17,18,19,20,21,23,25,26,27,30,55,56,57,58,59]),(525,[(61,.i .i64)],[0,1,8,9,11,12,13,14,15,16,17,18,19,20,21,23,25,26,27,30]),(539,[(62,.i .u8),(63,.i .i64)],[0,1,8,9,11,12,13,14,15,16,17,18,19,20,21,23,25,26,27,30,61]),(540,[],[0,1,11,12,13,14,15,16,17,18,19,20,21,23,25,26,27,30,61,62,63]),(564,[(65,.i .i64)],[0,1,8,9,11,12,13,14,15,16,17,18,19,20,21,23,25,26,27,30,64]),(594,[(68,.i .i64)],[0,1,8,9,11,12,13,14,15,16,17,18,19,20,21,23,25,26,27,30]),(621,[(71,.i .i64),(72,.i .i64),(76,.i .i64)],[0,1,8,9,11,12,13,14,15,16,17,18,19,20,21,23,25,26,27,30,70,73,74,75]),(638,[(80,.i .u8)],[0,1,11,12,13,14,15,16,17,18,19,20,21,23,25,26,27,30,70,71,72,73,74,75,76,77,78,79]),(663,[(82,.i .i64),(83,.i .i64),(84,.i .i64)],[0,1,8,9,11,12,13,14,15,16,17,18,19,20,21,23,25,26,27,30,81]),(691,[(85,.i .i64)],[0,1,8,9,11,12,13,14,15,16,17,18,19,20,21,23,25,26,27,30]),(705,[(86,.i .u8),(87,.i .i64)],[0,1,8,9,11,12,13,14,15,16,17,18,19,20,21,23,25,26,27,30,85]),(706,[],[0,1,11,12,13,14,15,16,17,18,19,20,21,23,25,26,27,30,85,86,87]),(733,[(89,.i .i64)],[0,1,8,9,11,12,13,14,15,16,17,18,19,20,21,23,25,26,27,30]),(747,[(90,.i .u8),(91,.i .i64)],[0,1,8,9,11,12,13,14,15,16,17,18,19,20,21,23,25,26,27,30,89]),(748,[],[0,1,11,12,13,14,15,16,17,18,19,20,21,23,25,26,27,30,89,90,91]),(775,[(93,.i .i64)],[0,1,8,9,11,12,13,14,15,16,17,18,19,20,21,23,25,26,27,30]),(789,[(94,.i .u8),(95,.i .i64)],[0,1,8,9,11,12,13,14,15,16,17,18,19,20,21,23,25,26,27,30,93]),(790,[],[0,1,11,12,13,14,15,16,17,18,19,20,21,23,25,26,27,30,93,94,95]),(814,[],[0,1,11,12,13,14,15,16,17,18,19,20,21,23,25,26,27,30]),(821,[(97,.i .i64)],[0,1,8,9,11,12,13,14,15,16,17,18,19,20,21,23,25,26,27,30]),(857,[(99,.i .i64)],[0,1,8,9,11,12,13,14,15,16,17,18,19,20,21,23,25,26,27,30,98]),(881,[(102,.i .i64)],[0,1,8,9,11,12,13,14,15,16,17,18,19,20,21,23,25,26,27,30]),(900,[(104,.i .i64)],[0,1,8,9,11,12,13,14,15,16,17,18,19,20,21,23,25,26,27,30]),(930,[(110,.i .i64)],[0,1,8,9,11,12,13,14,15,16,17,18,19,20,21,23,25,26,27,30,107,108,109]),(958,[(115,.i .i64)],[0,1,8,9,11,12,13,14,15,16,17,18,19,20,21,23,25,26,27,30]),(981,[(119,.i .i64)],[0,1,8,9,11,12,13,14,15,16,17,18,19,20,21,23,25,26,27,30])] Tryz.func102 h
section
variable{w w' w0:wQ}{ib pb bpp W H x y c RS:Nat}{IT:TypeId}{ex:List Value}{Q:List Value ->Prop}
theorem rD(arr:vQ)(n:Nat)(hs:arr.size=n)(h:∀j,j<n ->∃y:UInt8,arr[j]? =some (u8v y)):∃xs:bQ,xs.length=n/\arr=(bv xs).toArray:=by
 induction n generalizing arr with
 |zero=>exact⟨[],rfl,by simpa using Array.eq_empty_of_size_eq_zero hs⟩
 |succ n ih=>
  obtain⟨xs,h1,h2⟩:=ih arr.pop (by simp;omega) (fun j hj=>by
   obtain⟨y,hy⟩:=h j oQ;exact⟨y,by rw[Array.getElem?_pop,if_pos oQ];exact hy⟩)
  obtain⟨y,hy⟩:=h n oQ;refine⟨xs++[y],by simp[h1],?_⟩;apply Array.ext_getElem?;intro j;have hx:(bv xs).toArray[j]? =arr.pop[j]? :=by rw[h2]
  rw[List.getElem?_toArray]at hx;have hg:(bv (xs++[y])).toArray[j]? =(bv xs++bv [y])[j]? :=by rw[List.getElem?_toArray,bv_append]
  rw[hg];rcases Nat.lt_trichotomy j n with hj|hj|hj
  ·rw[List.getElem?_append_left (by rw[bv_length];omega),hx,Array.getElem?_pop,if_pos oQ]
  ·subst hj
   rw[List.getElem?_append_right (by rw[bv_length];omega),bv_length,h1,Nat.sub_self,hy]
   rfl
  ·rw[List.getElem?_append_right (by rw[bv_length];omega),Array.getElem?_eq_none oQ,List.getElem?_eq_none (by rw[bv_length,bv_length];simp;omega)]
theorem qAo{xs:bQ}{j:Nat}(h:j<xs.length):∃y:UInt8,(bv xs)[j]? =some (u8v y):=by
 refine⟨xs[j],?_⟩;rw[kM,List.getElem?_eq_getElem h]
 rfl
theorem uA{s0 W:Nat}{Inv:World ->Prop}{BODY:Int×Unit ->World ->(Int×Unit ->World ->Prop) ->Prop}{DONE:Int×Unit ->World ->Prop}{sI WI:Int}(hs:sI=(s0:Int))(hW:WI=(W:Int))(hl:W<=1000)(h0:Inv w)
  (hB:∀(x:Nat) w' (N:Int×Unit ->World ->Prop),Inv w' ->s0<=x ->x<W ->(∀w'',Inv w'' ->N (wrap .i64 ((x:Int)+1),()) w'') ->BODY ((x:Int),()) w' N)(hD:∀y w',Inv w' ->DONE y w'):
  xB (fun J:Int×Unit ->World ->Prop=>J (sI,()) w) (fun y w' N=>IfC (decide (y.1<WI)) (BODY y w' N) (DONE y w')):=by
 subst hW hs;refine qP (fun y w'=>∃x:Nat,y=((x:Int),())/\s0<=x/\Inv w') (fun y _ =>W -y.1.toNat) ⟨s0,rfl,oQ,h0⟩ ?_;rintro y w' ⟨x,rfl,hx,hI⟩;refine qF (fun hlt=>hB x w' _ hI hx (by dsimp only at hlt;omega) fun w'' hI''=> ?_) (fun _ =>hD _ _ hI);dsimp only at hlt;have e:wrap .i64 ((x:Int)+1)=((x+1:Nat):Int):=by rw[qA oQ oQ];omega
 rw[e];refine⟨⟨x+1,rfl,oQ,hI''⟩,?_⟩;show W -((x+1:Nat):Int).toNat<W -(x:Int).toNat;omega
structure RI (w0 w:wQ) (ib pb:Nat) (IT:TypeId) (bpp W H:Nat) (Q:List Value ->Prop) (c RS:Nat):Prop where
 cr:BR w c RS
 im:∃ex,Q ex/\ImgW w ib pb IT bpp W H ex
 fr:Fr [ib,pb] w0 w
 nn:hn w0<=hn w
 ne:c≠ib/\c≠pb
theorem RI.put(h:RI w0 w ib pb IT bpp W H Q c RS)(hi:ImgW w' ib pb IT bpp W H ex)(hq:Q ex)(hf:Fr [pb] w w')(hh:hn w<=hn w'):RI w0 w' ib pb IT bpp W H Q c RS:=
 ⟨h.cr.fr hf (by simp[h.ne.2]),⟨ex,hq,hi⟩,h.fr.trans (hf.mono sQ),Nat.le_trans h.nn hh,h.ne⟩
theorem RI.fr0(h:RI w0 w ib pb IT bpp W H Q c RS)(hf:Fr [] w w')(hh:hn w'=hn w):RI w0 w' ib pb IT bpp W H Q c RS:=by
 obtain⟨ex,hq,hi⟩:=h.im;exact⟨h.cr.fr0 hf,⟨ex,hq,hi.fr0 hf⟩,h.fr.trans (hf.mono sQ),by rw[hh];exact h.nn,h.ne⟩
theorem RI.ld{i:Int}{k:Nat}{K:Int ->Prop}(h:RI w0 w ib pb IT bpp W H Q c RS)(hi:i=(k:Int))(hk:k+1<RS)(hK:∀n,U8 n ->K n):(0<=i/\i<((RS -1:Nat):Int))/\qN (some ⟨c,1,none⟩) fun a=>LdI w (qH a i.toNat 1) .u8 K:=by
 subst hi;refine⟨⟨oQ,oQ⟩,?_⟩;rw[PtrC_some,elemAt_one,Int.toNat_natCast];exact h.cr.ld oQ hK
theorem RI.st{i v:Int}{k:Nat}{K:World ->Prop}(h:RI w0 w ib pb IT bpp W H Q c RS)(hi:i=(k:Int))(hk:k<bpp*W*H)(hv:U8 v)(hK:∀w',RI w0 w' ib pb IT bpp W H Q c RS ->K w'):(0<=i/\i<((bpp*W*H:Nat):Int))/\qN (some ⟨pb,0,none⟩) fun a=>qB w (qH a i.toNat 1) (.int .u8 v) K:=by
 subst hi;obtain⟨ex,hq,hi⟩:=h.im;refine⟨⟨oQ,oQ⟩,?_⟩;rw[PtrC_some,elemAt_one,Int.toNat_natCast,Nat.zero_add];exact hi.pix.st hk hv.val fun w' b' f' n'=>hK _ (h.put (hi.fp f' b') hq f' oQ)
theorem RI.stride{K:Int ->Prop}(h:RI w0 w ib pb IT bpp W H Q c RS)(hK:K ((bpp*W:Nat):Int)):qN (some ⟨ib,0,none⟩) fun a=>LdI w ⟨a.block,a.off+1,none⟩ .i64 K:=by
 obtain⟨ex,hq,hi⟩:=h.im;rw[PtrC_some];exact qC hi.row rfl hK
theorem RI.pixs{K:pQ ->Nat ->Nat ->Prop}(h:RI w0 w ib pb IT bpp W H Q c RS)(hK:K (some ⟨pb,0,none⟩) (bpp*W*H) (bpp*W*H)):qN (some ⟨ib,0,none⟩) fun a=>qS w a K:=by
 obtain⟨ex,hq,hi⟩:=h.im;rw[PtrC_some];exact qK hi.row rfl hK
theorem RI.copy{po:Nat}{K:Int ->World ->Prop}(h:RI w0 w ib pb IT bpp W H Q c RS)(hpo:po+(RS -1)<=bpp*W*H)(hRS:2<=RS/\RS<=1000)(hK:∀n w',RI w0 w' ib pb IT bpp W H Q c RS ->K n w'):
  jQ Pg w #[33,33] 3 (.slice (qQ (some ⟨pb,0,none⟩) (bpp*W*H) po 1) (bpp*W*H -po) (bpp*W*H -po)) (.slice (some ⟨c,1,none⟩) (RS -1) (RS -1)) K:=by
 obtain⟨ex,hq,hi⟩:=h.im;obtain⟨xs,hx,hc⟩:=h.cr;obtain⟨ps,hp1,hp2⟩:=hi.pix;rw[slAdd_one _ _ _ _ oQ,Nat.zero_add];have hsz:(bv ps).toArray.size=bpp*W*H:=by simp[hp1]
 have hH:Has w (some ⟨c,1,none⟩) (bv (xs.drop 1)):=by
  refine⟨rfl,5,(bv xs).toArray,hc,fun j v hj=> ?_⟩;rw[List.getElem?_toArray];show(bv xs)[1+j]? =some v;rw[kM,List.getElem?_drop]at hj;rw[kM];exact hj
 refine uG hp2 (by rw[hsz];omega) hH (by simp;omega) oQ ?_
 ·intro w' arr' h' hs' hj' f' n'
  obtain⟨zs,hz1,hz2⟩:=rD arr' (bpp*W*H) oQ (fun j hj=>by
   rw[hj' j]
   split
   ·rename_i hc
    exact qAo (by simp;omega)
   ·rw[List.getElem?_toArray]
    exact qAo oQ)
  exact hK _ _ (h.put (hi.fp f' ⟨zs,hz1,by rw[h',hz2]⟩) hq f' oQ)
theorem RI.c114{v0 v1 v2 v3:Int}{K:World ->Prop}(h:RI w0 w ib pb IT 4 W H Q c RS)(hx:x<W)(hy:y<H)(hv0:U8 v0)(hv1:U8 v1)(hv2:U8 v2)(hv3:U8 v3)(hK:∀w',RI w0 w' ib pb IT 4 W H Q c RS ->K w'):
  CallT Pg 114 #[.pointer (some ⟨ib,0,none⟩),.int .i64 x,.int .i64 y,.agg #[.int .u8 v0,.int .u8 v1,.int .u8 v2,.int .u8 v3]] w fun v w'=>v= .tuple #[]/\K w':=by
 obtain⟨ex,hq,hi⟩:=h.im;refine CallT.mono (Go.Proofs.c114 hi hx hy hv0 hv1 hv2 hv3) ?_;rintro _ w' ⟨rfl,i',f',n'⟩;exact⟨rfl,hK _ (h.put i' hq f' n')⟩
theorem RI.c115{v:Int}{K:World ->Prop}(h:RI w0 w ib pb IT 1 W H Q c RS)(hx:x<W)(hy:y<H)(hv:U8 v)(hK:∀w',RI w0 w' ib pb IT 1 W H Q c RS ->K w'):
  CallT Pg 115 #[.pointer (some ⟨ib,0,none⟩),.int .i64 x,.int .i64 y,.agg #[.int .u8 v]] w fun v w'=>v= .tuple #[]/\K w':=by
 obtain⟨ex,hq,hi⟩:=h.im;refine CallT.mono (Go.Proofs.c115 hi hx hy hv) ?_;rintro _ w' ⟨rfl,i',f',n'⟩;exact⟨rfl,hK _ (h.put i' hq f' n')⟩
theorem RI.c116{v:Int}{K:World ->Prop}(h:RI w0 w ib pb IT 1 W H Q c RS)(hx:x<W)(hy:y<H)(hv:U8 v)(hK:∀w',RI w0 w' ib pb IT 1 W H Q c RS ->K w'):
  CallT Pg 116 #[.pointer (some ⟨ib,0,none⟩),.int .i64 x,.int .i64 y,.int .u8 v] w fun v w'=>v= .tuple #[]/\K w':=by
 obtain⟨ex,hq,hi⟩:=h.im;refine CallT.mono (Go.Proofs.c116 hi hx hy hv) ?_;rintro _ w' ⟨rfl,i',f',n'⟩;exact⟨rfl,hK _ (h.put i' hq f' n')⟩
theorem RI.c117{v0 v1 v2 v3:Int}{K:World ->Prop}(h:RI w0 w ib pb IT 8 W H Q c RS)(hx:x<W)(hy:y<H)(hK:∀w',RI w0 w' ib pb IT 8 W H Q c RS ->K w'):
  CallT Pg 117 #[.pointer (some ⟨ib,0,none⟩),.int .i64 x,.int .i64 y,.agg #[.int .u16 v0,.int .u16 v1,.int .u16 v2,.int .u16 v3]] w fun v w'=>v= .tuple #[]/\K w':=by
 obtain⟨ex,hq,hi⟩:=h.im;refine CallT.mono (Go.Proofs.c117 hi hx hy) ?_;rintro _ w' ⟨rfl,i',f',n'⟩;exact⟨rfl,hK _ (h.put i' hq f' n')⟩
theorem RI.c118{v:Int}{K:World ->Prop}(h:RI w0 w ib pb IT 2 W H Q c RS)(hx:x<W)(hy:y<H)(hK:∀w',RI w0 w' ib pb IT 2 W H Q c RS ->K w'):
  CallT Pg 118 #[.pointer (some ⟨ib,0,none⟩),.int .i64 x,.int .i64 y,.agg #[.int .u16 v]] w fun v w'=>v= .tuple #[]/\K w':=by
 obtain⟨ex,hq,hi⟩:=h.im;refine CallT.mono (Go.Proofs.c118 hi hx hy) ?_;rintro _ w' ⟨rfl,i',f',n'⟩;exact⟨rfl,hK _ (h.put i' hq f' n')⟩
theorem RI.c119{v0 v1 v2 v3:Int}{K:World ->Prop}(h:RI w0 w ib pb IT 8 W H Q c RS)(hx:x<W)(hy:y<H)(hK:∀w',RI w0 w' ib pb IT 8 W H Q c RS ->K w'):
  CallT Pg 119 #[.pointer (some ⟨ib,0,none⟩),.int .i64 x,.int .i64 y,.agg #[.int .u16 v0,.int .u16 v1,.int .u16 v2,.int .u16 v3]] w fun v w'=>v= .tuple #[]/\K w':=by
 obtain⟨ex,hq,hi⟩:=h.im;refine CallT.mono (Go.Proofs.c119 hi hx hy) ?_;rintro _ w' ⟨rfl,i',f',n'⟩;exact⟨rfl,hK _ (h.put i' hq f' n')⟩
def QP(pp:pQ)(ex:List Value):Prop:=∃l:Nat,l<=256/\ex=[.slice pp l 256]
theorem RI.pal{pp:pQ}{K:pQ ->Nat ->Nat ->Prop}(h:RI w0 w ib pb IT bpp W H (QP pp) c RS)(hK:∀l,l<=256 ->K pp l 256):qN (some ⟨ib,0,none⟩) fun a=>qS w ⟨a.block,a.off+6,none⟩ K:=by
 obtain⟨_,⟨l,hl,rfl⟩,hi⟩:=h.im;rw[PtrC_some];exact qK hi.row rfl (hK l hl)
theorem RI.setPal{pp:pQ}{l:Nat}{K:World ->Prop}(h:RI w0 w ib pb IT bpp W H (QP pp) c RS)(hl:l<=256)(hK:∀w',RI w0 w' ib pb IT bpp W H (QP pp) c RS ->K w'):qN (some ⟨ib,0,none⟩) fun a=>qB w ⟨a.block,a.off+6,none⟩ (.slice pp l 256) K:=by
 obtain⟨_,⟨l0,hl0,rfl⟩,hi⟩:=h.im;rw[PtrC_some];refine qD hi.row (by simp[iM]) fun w' h' f' n'=>hK w' ⟨h.cr.fr f' (by simp[h.ne.1]),⟨_,⟨l,hl,rfl⟩,⟨h',hi.pix.fr f' (by simp;exact fun e=>hi.ne e.symm),hi.ne,hi.lim⟩⟩,h.fr.trans (f'.mono sQ),?_,h.ne⟩;have:=h.nn;omega
theorem RI.grow{pp:pQ}{V:Int}{K:World ->Prop}(h:RI w0 w ib pb IT bpp W H (QP pp) c RS)(h0:U8 V)(hK:∀w',RI w0 w' ib pb IT bpp W H (QP pp) c RS ->K w'):
  qN (some ⟨ib,0,none⟩) fun a=>qS w ⟨a.block,a.off+6,none⟩ fun(p:pQ) (l:Nat) (_ :Nat)=>IfC (decide ((l:Int)<=wrap .i64 V)) (qN (some ⟨ib,0,none⟩) fun a=>qS w ⟨a.block,a.off+6,none⟩ fun(p':pQ) (_ :Nat) (c':Nat)=>(0<=wrap .i64 (wrap .i64 V+1)/\wrap .i64 (wrap .i64 V+1)<=(c':Int))/\qN (some ⟨ib,0,none⟩) fun a=>qB w ⟨a.block,a.off+6,none⟩ (.slice p' (wrap .i64 (wrap .i64 V+1)).toNat c') K) (K w):=by
 obtain⟨h1,h2⟩:=h0;have e:wrap .i64 (wrap .i64 V+1)=V+1:=by rw[qA (n:=V) oQ oQ,qA oQ oQ]
 refine h.pal fun l hl=>qF (fun _ => ?_) (fun _ =>hK _ h);refine h.pal fun l' hl'=> ?_;rw[e];exact⟨⟨oQ,oQ⟩,h.setPal oQ hK⟩
end
theorem zA{a b:Int}{X Y:Prop}(h:a=b)(hX:X):IfC (a==b) X Y:=qW (fun _ =>hX) (fun hn=>absurd h hn)
theorem xC{a b:Int}{X Y:Prop}(h:a≠b)(hY:Y):IfC (a==b) X Y:=qW (fun e=>absurd e h) (fun _ =>hY)
theorem U8.z:U8 0:=⟨dQ,dQ⟩
theorem U8.t:U8 255:=⟨dQ,dQ⟩
def xT(b W:Nat):Nat:=1+(b*W+7)/8
inductive PK:Nat ->Nat ->Bool ->TypeId ->TypeId ->Nat ->Nat ->Bool ->Prop
 |g1:PK 1 1 false 166 173 1 1 false
 |g1t:PK 1 1 true 180 181 4 1 false
 |g2:PK 2 2 false 166 173 1 2 false
 |g2t:PK 2 2 true 180 181 4 2 false
 |g4:PK 3 4 false 166 173 1 4 false
 |g4t:PK 3 4 true 180 181 4 4 false
 |g8:PK 4 8 false 166 173 1 8 true
 |g8t:PK 4 8 true 180 181 4 8 false
 |ga8 (D:Nat) (t:Bool):PK 5 D t 180 181 4 16 false
 |tc8 (D:Nat):PK 6 D false 176 177 4 24 true
 |tc8t (D:Nat):PK 6 D true 180 181 4 24 true
 |p1 (t:Bool):PK 7 1 t 184 186 1 1 false
 |p2 (t:Bool):PK 8 2 t 184 186 1 2 false
 |p4 (t:Bool):PK 9 4 t 184 186 1 4 false
 |p8 (t:Bool):PK 10 8 t 184 186 1 8 true
 |tca8 (D:Nat) (t:Bool):PK 11 D t 180 181 4 32 true
 |g16 (D:Nat):PK 12 D false 174 175 2 16 false
 |g16t (D:Nat):PK 12 D true 182 183 8 16 false
 |ga16 (D:Nat) (t:Bool):PK 13 D t 182 183 8 32 false
 |tc16 (D:Nat):PK 14 D false 178 179 8 48 false
 |tc16t (D:Nat):PK 14 D true 182 183 8 48 false
 |tca16 (D:Nat) (t:Bool):PK 15 D t 182 183 8 64 false
section
variable{w w' w0:wQ}
theorem qHy{RS W H y c q ib pb db po:Nat}{d:Dec}{Q:List Value ->Prop}{a1 a2 a3 a4 a5 a6 a7:pQ}{iv:Value}{b Hh Wi:Int}{N:Int×Sl×Sl×Int×Unit ->World ->Prop}(hD:hp w db=Row 119 d.arr)(htm:d.tmp.length=768)(htr:d.tr.length=6)(hcb:d.cb=(1:Nat))(hu:d.useT=true)
  (hW:Wi=(W:Int))(hl:W<=20)(hH:H<=20)(hy:y<H)(hRS:RS=xT 1 W)(h:RI w w ib pb 181 4 W H Q c RS)(hQ:(181:TypeId)=186 ->∃pp,Q=QP pp)(hpo:false=true ->po=y*(4*W))
  (s173:(181:TypeId)=173 ->a1=some ⟨ib,0,none⟩)(s177:(181:TypeId)=177 ->a2=some ⟨ib,0,none⟩)(s186:(181:TypeId)=186 ->a3=some ⟨ib,0,none⟩)(s181:(181:TypeId)=181 ->a4=some ⟨ib,0,none⟩)(s175:(181:TypeId)=175 ->a5=some ⟨ib,0,none⟩)(s179:(181:TypeId)=179 ->a6=some ⟨ib,0,none⟩)(s183:(181:TypeId)=183 ->a7=some ⟨ib,0,none⟩)
  (hW1:1<=W)(hN:∀w',RI w w' ib pb 181 4 W H Q c RS ->N (((po+cond false (4*W) 0:Nat):Int),⟨some ⟨q,0,none⟩,RS,RS⟩,⟨some ⟨c,0,none⟩,RS,RS⟩,wrap .i64 ((y:Int)+1),()) w'):
  xZ ⟨db,0,none⟩ (Wi,Hh,()) (b,a1,a2,a3,a4,a5,a6,a7,iv,()) ((po:Int),⟨some ⟨c,0,none⟩,RS,RS⟩,⟨some ⟨q,0,none⟩,RS,RS⟩,(y:Int),()) N w:=by
 unfold xT at hRS;unfold xZ aQq wIq iQq;dsimp only;rw[slAdd_one c 0 RS 1 oQ,Nat.zero_add];refine qC hD (d.at7.trans (gQ hcb)) ?_;refine zA rfl ?_;refine zB hD ((d.at779 htm).trans (congrArg some (congrArg Value.bool hu))) ?_;refine xA ?_;obtain rfl:=s181 rfl;refine⟨⟨dQ,dQ⟩,qC hD (d.at780 htm (i:=1) oQ) ?_⟩;refine kD (k:=8) (RS:=RS) (c:=c) (Inv:=fun w'=>RI w w' ib pb 181 4 W H Q c RS) hW hl rfl dQ dQ dQ oQ oQ (fun _ h=>h.cr) h ?_ (fun _ _ hI=>hN _ hI);intro x j b wd N' hI hb8 hxj hjk hnext;dsimp only;rw[show wrap .i64 ((x:Int)+(j:Int))=((x+j:Nat):Int) by rw[qA oQ oQ];omega];refine qJ (fun z' w'=>U8 z'.1/\w'=wd) ?_ ?_
 ·rintro⟨v,⟨⟩⟩ w' ⟨hv,rfl⟩
  exact hI.c114 hxj hy (U8.wrap _) (U8.wrap _) (U8.wrap _) hv fun w'' hI''=>qU dQ (hnext _ _ hI'' U8.shl)
 ·intro J hJ
  exact qX (fun _ =>hJ _ _ ⟨U8.z,rfl⟩) (fun _ =>hJ _ _ ⟨U8.t,rfl⟩)
theorem qHz{RS W H y c q ib pb db po:Nat}{d:Dec}{Q:List Value ->Prop}{a1 a2 a3 a4 a5 a6 a7:pQ}{iv:Value}{b Hh Wi:Int}{N:Int×Sl×Sl×Int×Unit ->World ->Prop}(hD:hp w db=Row 119 d.arr)(htm:d.tmp.length=768)(htr:d.tr.length=6)(hcb:d.cb=(2:Nat))(hu:d.useT=true)
  (hW:Wi=(W:Int))(hl:W<=20)(hH:H<=20)(hy:y<H)(hRS:RS=xT 2 W)(h:RI w w ib pb 181 4 W H Q c RS)(hQ:(181:TypeId)=186 ->∃pp,Q=QP pp)(hpo:false=true ->po=y*(4*W))
  (s173:(181:TypeId)=173 ->a1=some ⟨ib,0,none⟩)(s177:(181:TypeId)=177 ->a2=some ⟨ib,0,none⟩)(s186:(181:TypeId)=186 ->a3=some ⟨ib,0,none⟩)(s181:(181:TypeId)=181 ->a4=some ⟨ib,0,none⟩)(s175:(181:TypeId)=175 ->a5=some ⟨ib,0,none⟩)(s179:(181:TypeId)=179 ->a6=some ⟨ib,0,none⟩)(s183:(181:TypeId)=183 ->a7=some ⟨ib,0,none⟩)
  (hW1:1<=W)(hN:∀w',RI w w' ib pb 181 4 W H Q c RS ->N (((po+cond false (4*W) 0:Nat):Int),⟨some ⟨q,0,none⟩,RS,RS⟩,⟨some ⟨c,0,none⟩,RS,RS⟩,wrap .i64 ((y:Int)+1),()) w'):
  xZ ⟨db,0,none⟩ (Wi,Hh,()) (b,a1,a2,a3,a4,a5,a6,a7,iv,()) ((po:Int),⟨some ⟨c,0,none⟩,RS,RS⟩,⟨some ⟨q,0,none⟩,RS,RS⟩,(y:Int),()) N w:=by
 unfold xT at hRS;unfold xZ aQq wIq iQq;dsimp only;rw[slAdd_one c 0 RS 1 oQ,Nat.zero_add];refine qC hD (d.at7.trans (gQ hcb)) ?_
 iterate 1 refine xC dQ ?_
 refine zA rfl ?_;refine zB hD ((d.at779 htm).trans (congrArg some (congrArg Value.bool hu))) ?_;refine xA ?_;obtain rfl:=s181 rfl;refine⟨⟨dQ,dQ⟩,qC hD (d.at780 htm (i:=1) oQ) ?_⟩;refine kD (k:=4) (RS:=RS) (c:=c) (Inv:=fun w'=>RI w w' ib pb 181 4 W H Q c RS) hW hl rfl dQ dQ dQ oQ oQ (fun _ h=>h.cr) h ?_ (fun _ _ hI=>hN _ hI);intro x j b wd N' hI hb8 hxj hjk hnext;dsimp only;rw[show wrap .i64 ((x:Int)+(j:Int))=((x+j:Nat):Int) by rw[qA oQ oQ];omega];refine qJ (fun z' w'=>U8 z'.1/\w'=wd) ?_ ?_
 ·rintro⟨v,⟨⟩⟩ w' ⟨hv,rfl⟩
  exact hI.c114 hxj hy (U8.wrap _) (U8.wrap _) (U8.wrap _) hv fun w'' hI''=>qU dQ (hnext _ _ hI'' U8.shl)
 ·intro J hJ
  exact qX (fun _ =>hJ _ _ ⟨U8.z,rfl⟩) (fun _ =>hJ _ _ ⟨U8.t,rfl⟩)
theorem qIa{RS W H y c q ib pb db po:Nat}{d:Dec}{Q:List Value ->Prop}{a1 a2 a3 a4 a5 a6 a7:pQ}{iv:Value}{b Hh Wi:Int}{N:Int×Sl×Sl×Int×Unit ->World ->Prop}(hD:hp w db=Row 119 d.arr)(htm:d.tmp.length=768)(htr:d.tr.length=6)(hcb:d.cb=(3:Nat))(hu:d.useT=true)
  (hW:Wi=(W:Int))(hl:W<=20)(hH:H<=20)(hy:y<H)(hRS:RS=xT 4 W)(h:RI w w ib pb 181 4 W H Q c RS)(hQ:(181:TypeId)=186 ->∃pp,Q=QP pp)(hpo:false=true ->po=y*(4*W))
  (s173:(181:TypeId)=173 ->a1=some ⟨ib,0,none⟩)(s177:(181:TypeId)=177 ->a2=some ⟨ib,0,none⟩)(s186:(181:TypeId)=186 ->a3=some ⟨ib,0,none⟩)(s181:(181:TypeId)=181 ->a4=some ⟨ib,0,none⟩)(s175:(181:TypeId)=175 ->a5=some ⟨ib,0,none⟩)(s179:(181:TypeId)=179 ->a6=some ⟨ib,0,none⟩)(s183:(181:TypeId)=183 ->a7=some ⟨ib,0,none⟩)
  (hW1:1<=W)(hN:∀w',RI w w' ib pb 181 4 W H Q c RS ->N (((po+cond false (4*W) 0:Nat):Int),⟨some ⟨q,0,none⟩,RS,RS⟩,⟨some ⟨c,0,none⟩,RS,RS⟩,wrap .i64 ((y:Int)+1),()) w'):
  xZ ⟨db,0,none⟩ (Wi,Hh,()) (b,a1,a2,a3,a4,a5,a6,a7,iv,()) ((po:Int),⟨some ⟨c,0,none⟩,RS,RS⟩,⟨some ⟨q,0,none⟩,RS,RS⟩,(y:Int),()) N w:=by
 unfold xT at hRS;unfold xZ aQq wIq iQq;dsimp only;rw[slAdd_one c 0 RS 1 oQ,Nat.zero_add];refine qC hD (d.at7.trans (gQ hcb)) ?_
 iterate 2 refine xC dQ ?_
 refine zA rfl ?_;refine zB hD ((d.at779 htm).trans (congrArg some (congrArg Value.bool hu))) ?_;refine xA ?_;obtain rfl:=s181 rfl;refine⟨⟨dQ,dQ⟩,qC hD (d.at780 htm (i:=1) oQ) ?_⟩;refine kD (k:=2) (RS:=RS) (c:=c) (Inv:=fun w'=>RI w w' ib pb 181 4 W H Q c RS) hW hl rfl dQ dQ dQ oQ oQ (fun _ h=>h.cr) h ?_ (fun _ _ hI=>hN _ hI);intro x j b wd N' hI hb8 hxj hjk hnext;dsimp only;rw[show wrap .i64 ((x:Int)+(j:Int))=((x+j:Nat):Int) by rw[qA oQ oQ];omega];refine qJ (fun z' w'=>U8 z'.1/\w'=wd) ?_ ?_
 ·rintro⟨v,⟨⟩⟩ w' ⟨hv,rfl⟩
  exact hI.c114 hxj hy (U8.wrap _) (U8.wrap _) (U8.wrap _) hv fun w'' hI''=>qU dQ (hnext _ _ hI'' U8.shl)
 ·intro J hJ
  exact qX (fun _ =>hJ _ _ ⟨U8.z,rfl⟩) (fun _ =>hJ _ _ ⟨U8.t,rfl⟩)
theorem pix_g1{RS W H y c q ib pb db po:Nat}{d:Dec}{Q:List Value ->Prop}{a1 a2 a3 a4 a5 a6 a7:pQ}{iv:Value}{b Hh Wi:Int}{N:Int×Sl×Sl×Int×Unit ->World ->Prop}(hD:hp w db=Row 119 d.arr)(htm:d.tmp.length=768)(htr:d.tr.length=6)(hcb:d.cb=(1:Nat))(hu:d.useT=false)
  (hW:Wi=(W:Int))(hl:W<=20)(hH:H<=20)(hy:y<H)(hRS:RS=xT 1 W)(h:RI w w ib pb 173 1 W H Q c RS)(hQ:(173:TypeId)=186 ->∃pp,Q=QP pp)(hpo:false=true ->po=y*(1*W))
  (s173:(173:TypeId)=173 ->a1=some ⟨ib,0,none⟩)(s177:(173:TypeId)=177 ->a2=some ⟨ib,0,none⟩)(s186:(173:TypeId)=186 ->a3=some ⟨ib,0,none⟩)(s181:(173:TypeId)=181 ->a4=some ⟨ib,0,none⟩)(s175:(173:TypeId)=175 ->a5=some ⟨ib,0,none⟩)(s179:(173:TypeId)=179 ->a6=some ⟨ib,0,none⟩)(s183:(173:TypeId)=183 ->a7=some ⟨ib,0,none⟩)
  (hW1:1<=W)(hN:∀w',RI w w' ib pb 173 1 W H Q c RS ->N (((po+cond false (1*W) 0:Nat):Int),⟨some ⟨q,0,none⟩,RS,RS⟩,⟨some ⟨c,0,none⟩,RS,RS⟩,wrap .i64 ((y:Int)+1),()) w'):
  xZ ⟨db,0,none⟩ (Wi,Hh,()) (b,a1,a2,a3,a4,a5,a6,a7,iv,()) ((po:Int),⟨some ⟨c,0,none⟩,RS,RS⟩,⟨some ⟨q,0,none⟩,RS,RS⟩,(y:Int),()) N w:=by
 unfold xT at hRS;unfold xZ aQq wIq iQq;dsimp only;rw[slAdd_one c 0 RS 1 oQ,Nat.zero_add];refine qC hD (d.at7.trans (gQ hcb)) ?_;refine zA rfl ?_;refine zB hD ((d.at779 htm).trans (congrArg some (congrArg Value.bool hu))) ?_;refine qM ?_;obtain rfl:=s173 rfl;refine kD (k:=8) (RS:=RS) (c:=c) (Inv:=fun w'=>RI w w' ib pb 173 1 W H Q c RS) hW hl rfl dQ dQ dQ oQ oQ (fun _ h=>h.cr) h ?_ (fun _ _ hI=>hN _ hI);intro x j b wd N' hI hb8 hxj hjk hnext;dsimp only;rw[show wrap .i64 ((x:Int)+(j:Int))=((x+j:Nat):Int) by rw[qA oQ oQ];omega];exact hI.c115 hxj hy (U8.wrap _) fun w'' hI''=>qU dQ (hnext _ _ hI'' U8.shl)
theorem pix_g2{RS W H y c q ib pb db po:Nat}{d:Dec}{Q:List Value ->Prop}{a1 a2 a3 a4 a5 a6 a7:pQ}{iv:Value}{b Hh Wi:Int}{N:Int×Sl×Sl×Int×Unit ->World ->Prop}(hD:hp w db=Row 119 d.arr)(htm:d.tmp.length=768)(htr:d.tr.length=6)(hcb:d.cb=(2:Nat))(hu:d.useT=false)
  (hW:Wi=(W:Int))(hl:W<=20)(hH:H<=20)(hy:y<H)(hRS:RS=xT 2 W)(h:RI w w ib pb 173 1 W H Q c RS)(hQ:(173:TypeId)=186 ->∃pp,Q=QP pp)(hpo:false=true ->po=y*(1*W))
  (s173:(173:TypeId)=173 ->a1=some ⟨ib,0,none⟩)(s177:(173:TypeId)=177 ->a2=some ⟨ib,0,none⟩)(s186:(173:TypeId)=186 ->a3=some ⟨ib,0,none⟩)(s181:(173:TypeId)=181 ->a4=some ⟨ib,0,none⟩)(s175:(173:TypeId)=175 ->a5=some ⟨ib,0,none⟩)(s179:(173:TypeId)=179 ->a6=some ⟨ib,0,none⟩)(s183:(173:TypeId)=183 ->a7=some ⟨ib,0,none⟩)
  (hW1:1<=W)(hN:∀w',RI w w' ib pb 173 1 W H Q c RS ->N (((po+cond false (1*W) 0:Nat):Int),⟨some ⟨q,0,none⟩,RS,RS⟩,⟨some ⟨c,0,none⟩,RS,RS⟩,wrap .i64 ((y:Int)+1),()) w'):
  xZ ⟨db,0,none⟩ (Wi,Hh,()) (b,a1,a2,a3,a4,a5,a6,a7,iv,()) ((po:Int),⟨some ⟨c,0,none⟩,RS,RS⟩,⟨some ⟨q,0,none⟩,RS,RS⟩,(y:Int),()) N w:=by
 unfold xT at hRS;unfold xZ aQq wIq iQq;dsimp only;rw[slAdd_one c 0 RS 1 oQ,Nat.zero_add];refine qC hD (d.at7.trans (gQ hcb)) ?_
 iterate 1 refine xC dQ ?_
 refine zA rfl ?_;refine zB hD ((d.at779 htm).trans (congrArg some (congrArg Value.bool hu))) ?_;refine qM ?_;obtain rfl:=s173 rfl;refine kD (k:=4) (RS:=RS) (c:=c) (Inv:=fun w'=>RI w w' ib pb 173 1 W H Q c RS) hW hl rfl dQ dQ dQ oQ oQ (fun _ h=>h.cr) h ?_ (fun _ _ hI=>hN _ hI);intro x j b wd N' hI hb8 hxj hjk hnext;dsimp only;rw[show wrap .i64 ((x:Int)+(j:Int))=((x+j:Nat):Int) by rw[qA oQ oQ];omega];exact hI.c115 hxj hy (U8.wrap _) fun w'' hI''=>qU dQ (hnext _ _ hI'' U8.shl)
theorem pix_g4{RS W H y c q ib pb db po:Nat}{d:Dec}{Q:List Value ->Prop}{a1 a2 a3 a4 a5 a6 a7:pQ}{iv:Value}{b Hh Wi:Int}{N:Int×Sl×Sl×Int×Unit ->World ->Prop}(hD:hp w db=Row 119 d.arr)(htm:d.tmp.length=768)(htr:d.tr.length=6)(hcb:d.cb=(3:Nat))(hu:d.useT=false)
  (hW:Wi=(W:Int))(hl:W<=20)(hH:H<=20)(hy:y<H)(hRS:RS=xT 4 W)(h:RI w w ib pb 173 1 W H Q c RS)(hQ:(173:TypeId)=186 ->∃pp,Q=QP pp)(hpo:false=true ->po=y*(1*W))
  (s173:(173:TypeId)=173 ->a1=some ⟨ib,0,none⟩)(s177:(173:TypeId)=177 ->a2=some ⟨ib,0,none⟩)(s186:(173:TypeId)=186 ->a3=some ⟨ib,0,none⟩)(s181:(173:TypeId)=181 ->a4=some ⟨ib,0,none⟩)(s175:(173:TypeId)=175 ->a5=some ⟨ib,0,none⟩)(s179:(173:TypeId)=179 ->a6=some ⟨ib,0,none⟩)(s183:(173:TypeId)=183 ->a7=some ⟨ib,0,none⟩)
  (hW1:1<=W)(hN:∀w',RI w w' ib pb 173 1 W H Q c RS ->N (((po+cond false (1*W) 0:Nat):Int),⟨some ⟨q,0,none⟩,RS,RS⟩,⟨some ⟨c,0,none⟩,RS,RS⟩,wrap .i64 ((y:Int)+1),()) w'):
  xZ ⟨db,0,none⟩ (Wi,Hh,()) (b,a1,a2,a3,a4,a5,a6,a7,iv,()) ((po:Int),⟨some ⟨c,0,none⟩,RS,RS⟩,⟨some ⟨q,0,none⟩,RS,RS⟩,(y:Int),()) N w:=by
 unfold xT at hRS;unfold xZ aQq wIq iQq;dsimp only;rw[slAdd_one c 0 RS 1 oQ,Nat.zero_add];refine qC hD (d.at7.trans (gQ hcb)) ?_
 iterate 2 refine xC dQ ?_
 refine zA rfl ?_;refine zB hD ((d.at779 htm).trans (congrArg some (congrArg Value.bool hu))) ?_;refine qM ?_;obtain rfl:=s173 rfl;refine kD (k:=2) (RS:=RS) (c:=c) (Inv:=fun w'=>RI w w' ib pb 173 1 W H Q c RS) hW hl rfl dQ dQ dQ oQ oQ (fun _ h=>h.cr) h ?_ (fun _ _ hI=>hN _ hI);intro x j b wd N' hI hb8 hxj hjk hnext;dsimp only;rw[show wrap .i64 ((x:Int)+(j:Int))=((x+j:Nat):Int) by rw[qA oQ oQ];omega];exact hI.c115 hxj hy (U8.wrap _) fun w'' hI''=>qU dQ (hnext _ _ hI'' U8.shl)
theorem pix_p1{t:Bool}{RS W H y c q ib pb db po:Nat}{d:Dec}{Q:List Value ->Prop}{a1 a2 a3 a4 a5 a6 a7:pQ}{iv:Value}{b Hh Wi:Int}{N:Int×Sl×Sl×Int×Unit ->World ->Prop}(hD:hp w db=Row 119 d.arr)(htm:d.tmp.length=768)(htr:d.tr.length=6)(hcb:d.cb=(7:Nat))(hu:d.useT=t)
  (hW:Wi=(W:Int))(hl:W<=20)(hH:H<=20)(hy:y<H)(hRS:RS=xT 1 W)(h:RI w w ib pb 186 1 W H Q c RS)(hQ:(186:TypeId)=186 ->∃pp,Q=QP pp)(hpo:false=true ->po=y*(1*W))
  (s173:(186:TypeId)=173 ->a1=some ⟨ib,0,none⟩)(s177:(186:TypeId)=177 ->a2=some ⟨ib,0,none⟩)(s186:(186:TypeId)=186 ->a3=some ⟨ib,0,none⟩)(s181:(186:TypeId)=181 ->a4=some ⟨ib,0,none⟩)(s175:(186:TypeId)=175 ->a5=some ⟨ib,0,none⟩)(s179:(186:TypeId)=179 ->a6=some ⟨ib,0,none⟩)(s183:(186:TypeId)=183 ->a7=some ⟨ib,0,none⟩)
  (hW1:1<=W)(hN:∀w',RI w w' ib pb 186 1 W H Q c RS ->N (((po+cond false (1*W) 0:Nat):Int),⟨some ⟨q,0,none⟩,RS,RS⟩,⟨some ⟨c,0,none⟩,RS,RS⟩,wrap .i64 ((y:Int)+1),()) w'):
  xZ ⟨db,0,none⟩ (Wi,Hh,()) (b,a1,a2,a3,a4,a5,a6,a7,iv,()) ((po:Int),⟨some ⟨c,0,none⟩,RS,RS⟩,⟨some ⟨q,0,none⟩,RS,RS⟩,(y:Int),()) N w:=by
 unfold xT at hRS;unfold xZ aQq wIq iQq;dsimp only;rw[slAdd_one c 0 RS 1 oQ,Nat.zero_add];refine qC hD (d.at7.trans (gQ hcb)) ?_
 iterate 6 refine xC dQ ?_
 refine zA rfl ?_;obtain rfl:=s186 rfl;obtain⟨pp,rfl⟩:=hQ rfl;refine kD (k:=8) (RS:=RS) (c:=c) (Inv:=fun w'=>RI w w' ib pb 186 1 W H (QP pp) c RS) hW hl rfl dQ dQ dQ oQ oQ (fun _ h=>h.cr) h ?_ (fun _ _ hI=>hN _ hI);intro x j b wd N' hI hb8 hxj hjk hnext;dsimp only;rw[show wrap .i64 ((x:Int)+(j:Int))=((x+j:Nat):Int) by rw[qA oQ oQ];omega];refine hI.grow (hb8.shr dQ dQ) fun w' hI'=> ?_;exact hI'.c116 hxj hy (hb8.shr dQ dQ) fun w'' hI''=>qU dQ (hnext _ _ hI'' U8.shl)
theorem pix_p2{t:Bool}{RS W H y c q ib pb db po:Nat}{d:Dec}{Q:List Value ->Prop}{a1 a2 a3 a4 a5 a6 a7:pQ}{iv:Value}{b Hh Wi:Int}{N:Int×Sl×Sl×Int×Unit ->World ->Prop}(hD:hp w db=Row 119 d.arr)(htm:d.tmp.length=768)(htr:d.tr.length=6)(hcb:d.cb=(8:Nat))(hu:d.useT=t)
  (hW:Wi=(W:Int))(hl:W<=20)(hH:H<=20)(hy:y<H)(hRS:RS=xT 2 W)(h:RI w w ib pb 186 1 W H Q c RS)(hQ:(186:TypeId)=186 ->∃pp,Q=QP pp)(hpo:false=true ->po=y*(1*W))
  (s173:(186:TypeId)=173 ->a1=some ⟨ib,0,none⟩)(s177:(186:TypeId)=177 ->a2=some ⟨ib,0,none⟩)(s186:(186:TypeId)=186 ->a3=some ⟨ib,0,none⟩)(s181:(186:TypeId)=181 ->a4=some ⟨ib,0,none⟩)(s175:(186:TypeId)=175 ->a5=some ⟨ib,0,none⟩)(s179:(186:TypeId)=179 ->a6=some ⟨ib,0,none⟩)(s183:(186:TypeId)=183 ->a7=some ⟨ib,0,none⟩)
  (hW1:1<=W)(hN:∀w',RI w w' ib pb 186 1 W H Q c RS ->N (((po+cond false (1*W) 0:Nat):Int),⟨some ⟨q,0,none⟩,RS,RS⟩,⟨some ⟨c,0,none⟩,RS,RS⟩,wrap .i64 ((y:Int)+1),()) w'):
  xZ ⟨db,0,none⟩ (Wi,Hh,()) (b,a1,a2,a3,a4,a5,a6,a7,iv,()) ((po:Int),⟨some ⟨c,0,none⟩,RS,RS⟩,⟨some ⟨q,0,none⟩,RS,RS⟩,(y:Int),()) N w:=by
 unfold xT at hRS;unfold xZ aQq wIq iQq;dsimp only;rw[slAdd_one c 0 RS 1 oQ,Nat.zero_add];refine qC hD (d.at7.trans (gQ hcb)) ?_
 iterate 7 refine xC dQ ?_
 refine zA rfl ?_;obtain rfl:=s186 rfl;obtain⟨pp,rfl⟩:=hQ rfl;refine kD (k:=4) (RS:=RS) (c:=c) (Inv:=fun w'=>RI w w' ib pb 186 1 W H (QP pp) c RS) hW hl rfl dQ dQ dQ oQ oQ (fun _ h=>h.cr) h ?_ (fun _ _ hI=>hN _ hI);intro x j b wd N' hI hb8 hxj hjk hnext;dsimp only;rw[show wrap .i64 ((x:Int)+(j:Int))=((x+j:Nat):Int) by rw[qA oQ oQ];omega];refine hI.grow (hb8.shr dQ dQ) fun w' hI'=> ?_;exact hI'.c116 hxj hy (hb8.shr dQ dQ) fun w'' hI''=>qU dQ (hnext _ _ hI'' U8.shl)
theorem pix_p4{t:Bool}{RS W H y c q ib pb db po:Nat}{d:Dec}{Q:List Value ->Prop}{a1 a2 a3 a4 a5 a6 a7:pQ}{iv:Value}{b Hh Wi:Int}{N:Int×Sl×Sl×Int×Unit ->World ->Prop}(hD:hp w db=Row 119 d.arr)(htm:d.tmp.length=768)(htr:d.tr.length=6)(hcb:d.cb=(9:Nat))(hu:d.useT=t)
  (hW:Wi=(W:Int))(hl:W<=20)(hH:H<=20)(hy:y<H)(hRS:RS=xT 4 W)(h:RI w w ib pb 186 1 W H Q c RS)(hQ:(186:TypeId)=186 ->∃pp,Q=QP pp)(hpo:false=true ->po=y*(1*W))
  (s173:(186:TypeId)=173 ->a1=some ⟨ib,0,none⟩)(s177:(186:TypeId)=177 ->a2=some ⟨ib,0,none⟩)(s186:(186:TypeId)=186 ->a3=some ⟨ib,0,none⟩)(s181:(186:TypeId)=181 ->a4=some ⟨ib,0,none⟩)(s175:(186:TypeId)=175 ->a5=some ⟨ib,0,none⟩)(s179:(186:TypeId)=179 ->a6=some ⟨ib,0,none⟩)(s183:(186:TypeId)=183 ->a7=some ⟨ib,0,none⟩)
  (hW1:1<=W)(hN:∀w',RI w w' ib pb 186 1 W H Q c RS ->N (((po+cond false (1*W) 0:Nat):Int),⟨some ⟨q,0,none⟩,RS,RS⟩,⟨some ⟨c,0,none⟩,RS,RS⟩,wrap .i64 ((y:Int)+1),()) w'):
  xZ ⟨db,0,none⟩ (Wi,Hh,()) (b,a1,a2,a3,a4,a5,a6,a7,iv,()) ((po:Int),⟨some ⟨c,0,none⟩,RS,RS⟩,⟨some ⟨q,0,none⟩,RS,RS⟩,(y:Int),()) N w:=by
 unfold xT at hRS;unfold xZ aQq wIq iQq;dsimp only;rw[slAdd_one c 0 RS 1 oQ,Nat.zero_add];refine qC hD (d.at7.trans (gQ hcb)) ?_
 iterate 8 refine xC dQ ?_
 refine zA rfl ?_;obtain rfl:=s186 rfl;obtain⟨pp,rfl⟩:=hQ rfl;refine kD (k:=2) (RS:=RS) (c:=c) (Inv:=fun w'=>RI w w' ib pb 186 1 W H (QP pp) c RS) hW hl rfl dQ dQ dQ oQ oQ (fun _ h=>h.cr) h ?_ (fun _ _ hI=>hN _ hI);intro x j b wd N' hI hb8 hxj hjk hnext;dsimp only;rw[show wrap .i64 ((x:Int)+(j:Int))=((x+j:Nat):Int) by rw[qA oQ oQ];omega];refine hI.grow (hb8.shr dQ dQ) fun w' hI'=> ?_;exact hI'.c116 hxj hy (hb8.shr dQ dQ) fun w'' hI''=>qU dQ (hnext _ _ hI'' U8.shl)
theorem pix_g8{RS W H y c q ib pb db po:Nat}{d:Dec}{Q:List Value ->Prop}{a1 a2 a3 a4 a5 a6 a7:pQ}{iv:Value}{b Hh Wi:Int}{N:Int×Sl×Sl×Int×Unit ->World ->Prop}(hD:hp w db=Row 119 d.arr)(htm:d.tmp.length=768)(htr:d.tr.length=6)(hcb:d.cb=(4:Nat))(hu:d.useT=false)
  (hW:Wi=(W:Int))(hl:W<=20)(hH:H<=20)(hy:y<H)(hRS:RS=xT 8 W)(h:RI w w ib pb 173 1 W H Q c RS)(hQ:(173:TypeId)=186 ->∃pp,Q=QP pp)(hpo:true=true ->po=y*(1*W))
  (s173:(173:TypeId)=173 ->a1=some ⟨ib,0,none⟩)(s177:(173:TypeId)=177 ->a2=some ⟨ib,0,none⟩)(s186:(173:TypeId)=186 ->a3=some ⟨ib,0,none⟩)(s181:(173:TypeId)=181 ->a4=some ⟨ib,0,none⟩)(s175:(173:TypeId)=175 ->a5=some ⟨ib,0,none⟩)(s179:(173:TypeId)=179 ->a6=some ⟨ib,0,none⟩)(s183:(173:TypeId)=183 ->a7=some ⟨ib,0,none⟩)
  (hW1:1<=W)(hN:∀w',RI w w' ib pb 173 1 W H Q c RS ->N (((po+cond true (1*W) 0:Nat):Int),⟨some ⟨q,0,none⟩,RS,RS⟩,⟨some ⟨c,0,none⟩,RS,RS⟩,wrap .i64 ((y:Int)+1),()) w'):
  xZ ⟨db,0,none⟩ (Wi,Hh,()) (b,a1,a2,a3,a4,a5,a6,a7,iv,()) ((po:Int),⟨some ⟨c,0,none⟩,RS,RS⟩,⟨some ⟨q,0,none⟩,RS,RS⟩,(y:Int),()) N w:=by
 unfold xT at hRS;unfold xZ aQq wIq iQq;dsimp only;rw[slAdd_one c 0 RS 1 oQ,Nat.zero_add];refine qC hD (d.at7.trans (gQ hcb)) ?_
 iterate 3 refine xC dQ ?_
 refine zA rfl ?_;refine zB hD ((d.at779 htm).trans (congrArg some (congrArg Value.bool hu))) ?_;refine qM ?_;obtain rfl:=s173 rfl;have hpo':=hpo rfl;have hyH:(y+1)*(1*W)<=H*(1*W):=Nat.mul_le_mul_right _ hy;rw[Nat.add_mul,Nat.mul_comm H]at hyH;obtain⟨ex0,hq0,hi0⟩:=h.im;have hlm:=hi0.lim2;clear hi0 hq0;refine h.pixs ⟨⟨oQ,oQ⟩,?_⟩;rw[Int.toNat_natCast];refine h.copy oQ oQ fun n w' h'=>h'.stride ?_;rw[show wrap .i64 ((po:Int)+((1*W:Nat):Int))=((po+1*W:Nat):Int) by rw[qA oQ oQ];omega];exact hN _ h'
theorem qFq{D:Nat}{t:Bool}{RS W H y c q ib pb db po:Nat}{d:Dec}{Q:List Value ->Prop}{a1 a2 a3 a4 a5 a6 a7:pQ}{iv:Value}{b Hh Wi:Int}{N:Int×Sl×Sl×Int×Unit ->World ->Prop}(hD:hp w db=Row 119 d.arr)(htm:d.tmp.length=768)(htr:d.tr.length=6)(hcb:d.cb=(11:Nat))(hu:d.useT=t)
  (hW:Wi=(W:Int))(hl:W<=20)(hH:H<=20)(hy:y<H)(hRS:RS=xT 32 W)(h:RI w w ib pb 181 4 W H Q c RS)(hQ:(181:TypeId)=186 ->∃pp,Q=QP pp)(hpo:true=true ->po=y*(4*W))
  (s173:(181:TypeId)=173 ->a1=some ⟨ib,0,none⟩)(s177:(181:TypeId)=177 ->a2=some ⟨ib,0,none⟩)(s186:(181:TypeId)=186 ->a3=some ⟨ib,0,none⟩)(s181:(181:TypeId)=181 ->a4=some ⟨ib,0,none⟩)(s175:(181:TypeId)=175 ->a5=some ⟨ib,0,none⟩)(s179:(181:TypeId)=179 ->a6=some ⟨ib,0,none⟩)(s183:(181:TypeId)=183 ->a7=some ⟨ib,0,none⟩)
  (hW1:1<=W)(hN:∀w',RI w w' ib pb 181 4 W H Q c RS ->N (((po+cond true (4*W) 0:Nat):Int),⟨some ⟨q,0,none⟩,RS,RS⟩,⟨some ⟨c,0,none⟩,RS,RS⟩,wrap .i64 ((y:Int)+1),()) w'):
  xZ ⟨db,0,none⟩ (Wi,Hh,()) (b,a1,a2,a3,a4,a5,a6,a7,iv,()) ((po:Int),⟨some ⟨c,0,none⟩,RS,RS⟩,⟨some ⟨q,0,none⟩,RS,RS⟩,(y:Int),()) N w:=by
 unfold xT at hRS;unfold xZ aQq wIq iQq;dsimp only;rw[slAdd_one c 0 RS 1 oQ,Nat.zero_add];refine qC hD (d.at7.trans (gQ hcb)) ?_
 iterate 10 refine xC dQ ?_
 refine zA rfl ?_;obtain rfl:=s181 rfl;have hpo':=hpo rfl;have hyH:(y+1)*(4*W)<=H*(4*W):=Nat.mul_le_mul_right _ hy;rw[Nat.add_mul,Nat.mul_comm H]at hyH;obtain⟨ex0,hq0,hi0⟩:=h.im;have hlm:=hi0.lim2;clear hi0 hq0;refine h.pixs ⟨⟨oQ,oQ⟩,?_⟩;rw[Int.toNat_natCast];refine h.copy oQ oQ fun n w' h'=>h'.stride ?_;rw[show wrap .i64 ((po:Int)+((4*W:Nat):Int))=((po+4*W:Nat):Int) by rw[qA oQ oQ];omega];exact hN _ h'
theorem qIb{RS W H y c q ib pb db po:Nat}{d:Dec}{Q:List Value ->Prop}{a1 a2 a3 a4 a5 a6 a7:pQ}{iv:Value}{b Hh Wi:Int}{N:Int×Sl×Sl×Int×Unit ->World ->Prop}(hD:hp w db=Row 119 d.arr)(htm:d.tmp.length=768)(htr:d.tr.length=6)(hcb:d.cb=(4:Nat))(hu:d.useT=true)
  (hW:Wi=(W:Int))(hl:W<=20)(hH:H<=20)(hy:y<H)(hRS:RS=xT 8 W)(h:RI w w ib pb 181 4 W H Q c RS)(hQ:(181:TypeId)=186 ->∃pp,Q=QP pp)(hpo:false=true ->po=y*(4*W))
  (s173:(181:TypeId)=173 ->a1=some ⟨ib,0,none⟩)(s177:(181:TypeId)=177 ->a2=some ⟨ib,0,none⟩)(s186:(181:TypeId)=186 ->a3=some ⟨ib,0,none⟩)(s181:(181:TypeId)=181 ->a4=some ⟨ib,0,none⟩)(s175:(181:TypeId)=175 ->a5=some ⟨ib,0,none⟩)(s179:(181:TypeId)=179 ->a6=some ⟨ib,0,none⟩)(s183:(181:TypeId)=183 ->a7=some ⟨ib,0,none⟩)
  (hW1:1<=W)(hN:∀w',RI w w' ib pb 181 4 W H Q c RS ->N (((po+cond false (4*W) 0:Nat):Int),⟨some ⟨q,0,none⟩,RS,RS⟩,⟨some ⟨c,0,none⟩,RS,RS⟩,wrap .i64 ((y:Int)+1),()) w'):
  xZ ⟨db,0,none⟩ (Wi,Hh,()) (b,a1,a2,a3,a4,a5,a6,a7,iv,()) ((po:Int),⟨some ⟨c,0,none⟩,RS,RS⟩,⟨some ⟨q,0,none⟩,RS,RS⟩,(y:Int),()) N w:=by
 unfold xT at hRS;unfold xZ aQq wIq iQq;dsimp only;rw[slAdd_one c 0 RS 1 oQ,Nat.zero_add];refine qC hD (d.at7.trans (gQ hcb)) ?_
 iterate 3 refine xC dQ ?_
 refine zA rfl ?_;refine zB hD ((d.at779 htm).trans (congrArg some (congrArg Value.bool hu))) ?_;refine xA ?_;obtain rfl:=s181 rfl;refine⟨⟨dQ,dQ⟩,qC hD (d.at780 htm (i:=1) oQ) ?_⟩;refine uA (s0:=0) (Inv:=fun w'=>RI w w' ib pb 181 4 W H Q c RS) rfl hW oQ h ?_ (fun _ _ hI=>hN _ hI);intro x w' N' hI _ hx hnext;dsimp only;refine hI.ld rfl oQ fun n hn8=> ?_;exact qX (fun _ =>hI.c114 hx hy hn8 hn8 hn8 U8.z hnext) (fun _ =>hI.c114 hx hy hn8 hn8 hn8 U8.t hnext)
theorem qIc{D:Nat}{t:Bool}{RS W H y c q ib pb db po:Nat}{d:Dec}{Q:List Value ->Prop}{a1 a2 a3 a4 a5 a6 a7:pQ}{iv:Value}{b Hh Wi:Int}{N:Int×Sl×Sl×Int×Unit ->World ->Prop}(hD:hp w db=Row 119 d.arr)(htm:d.tmp.length=768)(htr:d.tr.length=6)(hcb:d.cb=(5:Nat))(hu:d.useT=t)
  (hW:Wi=(W:Int))(hl:W<=20)(hH:H<=20)(hy:y<H)(hRS:RS=xT 16 W)(h:RI w w ib pb 181 4 W H Q c RS)(hQ:(181:TypeId)=186 ->∃pp,Q=QP pp)(hpo:false=true ->po=y*(4*W))
  (s173:(181:TypeId)=173 ->a1=some ⟨ib,0,none⟩)(s177:(181:TypeId)=177 ->a2=some ⟨ib,0,none⟩)(s186:(181:TypeId)=186 ->a3=some ⟨ib,0,none⟩)(s181:(181:TypeId)=181 ->a4=some ⟨ib,0,none⟩)(s175:(181:TypeId)=175 ->a5=some ⟨ib,0,none⟩)(s179:(181:TypeId)=179 ->a6=some ⟨ib,0,none⟩)(s183:(181:TypeId)=183 ->a7=some ⟨ib,0,none⟩)
  (hW1:1<=W)(hN:∀w',RI w w' ib pb 181 4 W H Q c RS ->N (((po+cond false (4*W) 0:Nat):Int),⟨some ⟨q,0,none⟩,RS,RS⟩,⟨some ⟨c,0,none⟩,RS,RS⟩,wrap .i64 ((y:Int)+1),()) w'):
  xZ ⟨db,0,none⟩ (Wi,Hh,()) (b,a1,a2,a3,a4,a5,a6,a7,iv,()) ((po:Int),⟨some ⟨c,0,none⟩,RS,RS⟩,⟨some ⟨q,0,none⟩,RS,RS⟩,(y:Int),()) N w:=by
 unfold xT at hRS;unfold xZ aQq wIq iQq;dsimp only;rw[slAdd_one c 0 RS 1 oQ,Nat.zero_add];refine qC hD (d.at7.trans (gQ hcb)) ?_
 iterate 4 refine xC dQ ?_
 refine zA rfl ?_;obtain rfl:=s181 rfl;refine uA (s0:=0) (Inv:=fun w'=>RI w w' ib pb 181 4 W H Q c RS) rfl hW oQ h ?_ (fun _ _ hI=>hN _ hI);intro x w' N' hI _ hx hnext;dsimp only;refine hI.ld (k:=2*x+0) (by rw[qA (n:=(2:Int)*(x:Int)) oQ oQ,qA oQ oQ];omega) oQ fun n hn8=> ?_;refine hI.ld (k:=2*x+1) (by rw[qA (n:=(2:Int)*(x:Int)) oQ oQ,qA oQ oQ];omega) oQ fun m hm8=> ?_;exact hI.c114 hx hy hn8 hn8 hn8 hm8 hnext
theorem qId{D:Nat}{RS W H y c q ib pb db po:Nat}{d:Dec}{Q:List Value ->Prop}{a1 a2 a3 a4 a5 a6 a7:pQ}{iv:Value}{b Hh Wi:Int}{N:Int×Sl×Sl×Int×Unit ->World ->Prop}(hD:hp w db=Row 119 d.arr)(htm:d.tmp.length=768)(htr:d.tr.length=6)(hcb:d.cb=(6:Nat))(hu:d.useT=false)
  (hW:Wi=(W:Int))(hl:W<=20)(hH:H<=20)(hy:y<H)(hRS:RS=xT 24 W)(h:RI w w ib pb 177 4 W H Q c RS)(hQ:(177:TypeId)=186 ->∃pp,Q=QP pp)(hpo:true=true ->po=y*(4*W))
  (s173:(177:TypeId)=173 ->a1=some ⟨ib,0,none⟩)(s177:(177:TypeId)=177 ->a2=some ⟨ib,0,none⟩)(s186:(177:TypeId)=186 ->a3=some ⟨ib,0,none⟩)(s181:(177:TypeId)=181 ->a4=some ⟨ib,0,none⟩)(s175:(177:TypeId)=175 ->a5=some ⟨ib,0,none⟩)(s179:(177:TypeId)=179 ->a6=some ⟨ib,0,none⟩)(s183:(177:TypeId)=183 ->a7=some ⟨ib,0,none⟩)
  (hW1:1<=W)(hN:∀w',RI w w' ib pb 177 4 W H Q c RS ->N (((po+cond true (4*W) 0:Nat):Int),⟨some ⟨q,0,none⟩,RS,RS⟩,⟨some ⟨c,0,none⟩,RS,RS⟩,wrap .i64 ((y:Int)+1),()) w'):
  xZ ⟨db,0,none⟩ (Wi,Hh,()) (b,a1,a2,a3,a4,a5,a6,a7,iv,()) ((po:Int),⟨some ⟨c,0,none⟩,RS,RS⟩,⟨some ⟨q,0,none⟩,RS,RS⟩,(y:Int),()) N w:=by
 unfold xT at hRS;unfold xZ aQq wIq iQq;dsimp only;rw[slAdd_one c 0 RS 1 oQ,Nat.zero_add];refine qC hD (d.at7.trans (gQ hcb)) ?_
 iterate 5 refine xC dQ ?_
 refine zA rfl ?_;refine zB hD ((d.at779 htm).trans (congrArg some (congrArg Value.bool hu))) ?_;refine qM ?_;obtain rfl:=s177 rfl;have hpo':=hpo rfl;have hyH:(y+1)*(4*W)<=H*(4*W):=Nat.mul_le_mul_right _ hy;rw[Nat.add_mul,Nat.mul_comm H]at hyH;obtain⟨ex0,hq0,hi0⟩:=h.im;have hlm:=hi0.lim2;clear hi0 hq0;refine h.pixs ?_;refine qP (fun z' w'=>∃x:Nat,z'=(((po+4*x:Nat):Int),((3*x:Nat):Int),(x:Int),())/\x<=W/\RI w w' ib pb 177 4 W H Q c RS) (fun z' _ =>W -z'.2.2.1.toNat) ⟨0,rfl,oQ,h⟩ ?_;rintro _ w' ⟨x,rfl,hx,hI⟩;dsimp only;rw[hW];refine qF (fun hlt=> ?_) (fun hge=> ?_)
 ·refine hI.ld (k:=3*x+0) (by rw[qA oQ oQ];omega) oQ fun m0 hm0=> ?_
  refine hI.st (k:=po+4*x+0) (by rw[qA oQ oQ];omega) oQ hm0 fun u0 h0=> ?_;refine h0.ld (k:=3*x+1) (by rw[qA oQ oQ];omega) oQ fun m1 hm1=> ?_;refine h0.st (k:=po+4*x+1) (by rw[qA oQ oQ];omega) oQ hm1 fun u1 h1=> ?_;refine h1.ld (k:=3*x+2) (by rw[qA oQ oQ];omega) oQ fun m2 hm2=> ?_;refine h1.st (k:=po+4*x+2) (by rw[qA oQ oQ];omega) oQ hm2 fun u2 h2=> ?_;refine h2.st (k:=po+4*x+3) (by rw[qA oQ oQ];omega) oQ U8.t fun u3 h3=> ?_;rw[show wrap .i64 (((po+4*x:Nat):Int)+4)=((po+4*(x+1):Nat):Int) by rw[qA oQ oQ];omega,show wrap .i64 (((3*x:Nat):Int)+3)=((3*(x+1):Nat):Int) by rw[qA oQ oQ];omega,show wrap .i64 ((x:Int)+1)=((x+1:Nat):Int) by rw[qA oQ oQ];omega];refine⟨⟨x+1,rfl,oQ,h3⟩,?_⟩;show W -((x+1:Nat):Int).toNat<W -(x:Int).toNat;omega
 ·refine hI.stride ?_
  rw[show wrap .i64 ((po:Int)+((4*W:Nat):Int))=((po+4*W:Nat):Int) by rw[qA oQ oQ];omega];exact hN _ hI
theorem qFp{D:Nat}{RS W H y c q ib pb db po:Nat}{d:Dec}{Q:List Value ->Prop}{a1 a2 a3 a4 a5 a6 a7:pQ}{iv:Value}{b Hh Wi:Int}{N:Int×Sl×Sl×Int×Unit ->World ->Prop}(hD:hp w db=Row 119 d.arr)(htm:d.tmp.length=768)(htr:d.tr.length=6)(hcb:d.cb=(6:Nat))(hu:d.useT=true)
  (hW:Wi=(W:Int))(hl:W<=20)(hH:H<=20)(hy:y<H)(hRS:RS=xT 24 W)(h:RI w w ib pb 181 4 W H Q c RS)(hQ:(181:TypeId)=186 ->∃pp,Q=QP pp)(hpo:true=true ->po=y*(4*W))
  (s173:(181:TypeId)=173 ->a1=some ⟨ib,0,none⟩)(s177:(181:TypeId)=177 ->a2=some ⟨ib,0,none⟩)(s186:(181:TypeId)=186 ->a3=some ⟨ib,0,none⟩)(s181:(181:TypeId)=181 ->a4=some ⟨ib,0,none⟩)(s175:(181:TypeId)=175 ->a5=some ⟨ib,0,none⟩)(s179:(181:TypeId)=179 ->a6=some ⟨ib,0,none⟩)(s183:(181:TypeId)=183 ->a7=some ⟨ib,0,none⟩)
  (hW1:1<=W)(hN:∀w',RI w w' ib pb 181 4 W H Q c RS ->N (((po+cond true (4*W) 0:Nat):Int),⟨some ⟨q,0,none⟩,RS,RS⟩,⟨some ⟨c,0,none⟩,RS,RS⟩,wrap .i64 ((y:Int)+1),()) w'):
  xZ ⟨db,0,none⟩ (Wi,Hh,()) (b,a1,a2,a3,a4,a5,a6,a7,iv,()) ((po:Int),⟨some ⟨c,0,none⟩,RS,RS⟩,⟨some ⟨q,0,none⟩,RS,RS⟩,(y:Int),()) N w:=by
 unfold xT at hRS;unfold xZ aQq wIq iQq;dsimp only;rw[slAdd_one c 0 RS 1 oQ,Nat.zero_add];refine qC hD (d.at7.trans (gQ hcb)) ?_
 iterate 5 refine xC dQ ?_
 refine zA rfl ?_;refine zB hD ((d.at779 htm).trans (congrArg some (congrArg Value.bool hu))) ?_;refine xA ?_;obtain rfl:=s181 rfl;have hpo':=hpo rfl;have hyH:(y+1)*(4*W)<=H*(4*W):=Nat.mul_le_mul_right _ hy;rw[Nat.add_mul,Nat.mul_comm H]at hyH;obtain⟨ex0,hq0,hi0⟩:=h.im;have hlm:=hi0.lim2;clear hi0 hq0;refine h.pixs ?_;refine qE fun w1 f1 n1=> ?_;have hD1:=f1.row0 hD;have h:=h.fr0 f1 n1;refine⟨⟨dQ,dQ⟩,qC hD1 (d.at780 htm (i:=1) oQ) ?_⟩;refine⟨⟨dQ,dQ⟩,qC hD1 (d.at780 htm (i:=3) oQ) ?_⟩;refine⟨⟨dQ,dQ⟩,qC hD1 (d.at780 htm (i:=5) oQ) ?_⟩;refine qP (fun z' w'=>∃x:Nat,z'=(((po+4*x:Nat):Int),((3*x:Nat):Int),(x:Int),())/\x<=W/\RI w w' ib pb 181 4 W H Q c RS) (fun z' _ =>W -z'.2.2.1.toNat) ⟨0,rfl,oQ,h⟩ ?_;rintro _ w' ⟨x,rfl,hx,hI⟩;dsimp only;rw[hW];refine qF (fun hlt=> ?_) (fun hge=> ?_)
 ·refine hI.ld (k:=3*x+0) (by rw[qA oQ oQ];omega) oQ fun m0 hm0=> ?_
  refine hI.ld (k:=3*x+1) (by rw[qA oQ oQ];omega) oQ fun m1 hm1=> ?_;refine hI.ld (k:=3*x+2) (by rw[qA oQ oQ];omega) oQ fun m2 hm2=> ?_;refine qJ (fun z' w3=>U8 z'.1/\w3=w') ?_ ?_
  ·rintro⟨v,⟨⟩⟩ w' ⟨hv,rfl⟩
   dsimp only;refine hI.st (k:=po+4*x+0) (by rw[qA oQ oQ];omega) oQ hm0 fun u0 h0=> ?_;refine h0.st (k:=po+4*x+1) (by rw[qA oQ oQ];omega) oQ hm1 fun u1 h1=> ?_;refine h1.st (k:=po+4*x+2) (by rw[qA oQ oQ];omega) oQ hm2 fun u2 h2=> ?_;refine h2.st (k:=po+4*x+3) (by rw[qA oQ oQ];omega) oQ hv fun u3 h3=> ?_;rw[show wrap .i64 (((po+4*x:Nat):Int)+4)=((po+4*(x+1):Nat):Int) by rw[qA oQ oQ];omega,show wrap .i64 (((3*x:Nat):Int)+3)=((3*(x+1):Nat):Int) by rw[qA oQ oQ];omega,show wrap .i64 ((x:Int)+1)=((x+1:Nat):Int) by rw[qA oQ oQ];omega];refine⟨⟨x+1,rfl,oQ,h3⟩,?_⟩;show W -((x+1:Nat):Int).toNat<W -(x:Int).toNat;omega
  ·intro J hJ
   exact qX (fun _ =>qX (fun _ =>qX (fun _ =>hJ _ _ ⟨U8.z,rfl⟩) (fun _ =>hJ _ _ ⟨U8.t,rfl⟩)) (fun _ =>hJ _ _ ⟨U8.t,rfl⟩)) (fun _ =>hJ _ _ ⟨U8.t,rfl⟩)
 ·refine hI.stride ?_
  rw[show wrap .i64 ((po:Int)+((4*W:Nat):Int))=((po+4*W:Nat):Int) by rw[qA oQ oQ];omega];exact hN _ hI
theorem pix_p8{t:Bool}{RS W H y c q ib pb db po:Nat}{d:Dec}{Q:List Value ->Prop}{a1 a2 a3 a4 a5 a6 a7:pQ}{iv:Value}{b Hh Wi:Int}{N:Int×Sl×Sl×Int×Unit ->World ->Prop}(hD:hp w db=Row 119 d.arr)(htm:d.tmp.length=768)(htr:d.tr.length=6)(hcb:d.cb=(10:Nat))(hu:d.useT=t)
  (hW:Wi=(W:Int))(hl:W<=20)(hH:H<=20)(hy:y<H)(hRS:RS=xT 8 W)(h:RI w w ib pb 186 1 W H Q c RS)(hQ:(186:TypeId)=186 ->∃pp,Q=QP pp)(hpo:true=true ->po=y*(1*W))
  (s173:(186:TypeId)=173 ->a1=some ⟨ib,0,none⟩)(s177:(186:TypeId)=177 ->a2=some ⟨ib,0,none⟩)(s186:(186:TypeId)=186 ->a3=some ⟨ib,0,none⟩)(s181:(186:TypeId)=181 ->a4=some ⟨ib,0,none⟩)(s175:(186:TypeId)=175 ->a5=some ⟨ib,0,none⟩)(s179:(186:TypeId)=179 ->a6=some ⟨ib,0,none⟩)(s183:(186:TypeId)=183 ->a7=some ⟨ib,0,none⟩)
  (hW1:1<=W)(hN:∀w',RI w w' ib pb 186 1 W H Q c RS ->N (((po+cond true (1*W) 0:Nat):Int),⟨some ⟨q,0,none⟩,RS,RS⟩,⟨some ⟨c,0,none⟩,RS,RS⟩,wrap .i64 ((y:Int)+1),()) w'):
  xZ ⟨db,0,none⟩ (Wi,Hh,()) (b,a1,a2,a3,a4,a5,a6,a7,iv,()) ((po:Int),⟨some ⟨c,0,none⟩,RS,RS⟩,⟨some ⟨q,0,none⟩,RS,RS⟩,(y:Int),()) N w:=by
 unfold xT at hRS;unfold xZ aQq wIq iQq;dsimp only;rw[slAdd_one c 0 RS 1 oQ,Nat.zero_add];refine qC hD (d.at7.trans (gQ hcb)) ?_
 iterate 9 refine xC dQ ?_
 refine zA rfl ?_;obtain rfl:=s186 rfl;obtain⟨pp,rfl⟩:=hQ rfl;refine qJ (fun _ w'=>RI w w' ib pb 186 1 W H (QP pp) c RS) ?_ ?_
 ·rintro⟨⟩ w' h
  have hpo':=hpo rfl;have hyH:(y+1)*(1*W)<=H*(1*W):=Nat.mul_le_mul_right _ hy;rw[Nat.add_mul,Nat.mul_comm H]at hyH;obtain⟨ex0,hq0,hi0⟩:=h.im;have hlm:=hi0.lim2;clear hi0 hq0;refine h.pixs ⟨⟨oQ,oQ⟩,?_⟩;rw[Int.toNat_natCast];refine h.copy oQ oQ fun n w' h'=>h'.stride ?_;rw[show wrap .i64 ((po:Int)+((1*W:Nat):Int))=((po+1*W:Nat):Int) by rw[qA oQ oQ];omega];exact hN _ h'
 ·intro J hJ
  refine h.pal fun l hl=>qX (fun _ => ?_) (fun _ =>hJ _ _ h);refine uA (s0:=0) (Inv:=fun w'=>RI w w' ib pb 186 1 W H (QP pp) c RS) rfl hW oQ h ?_ (fun _ _ hI=>hJ _ _ hI);intro x w' N' hI _ hx hnext;dsimp only;refine qE fun w1 f1 n1=> ?_;have h1:=hI.fr0 f1 n1;refine h1.pal fun l1 hl1=>h1.ld rfl oQ fun n hn8=>qF (fun _ => ?_) (fun _ =>hnext _ h1);refine qE fun w2 f2 n2=> ?_;have h2:=h1.fr0 f2 n2;refine h2.pal fun l2 hl2=>h2.ld rfl oQ fun m hm8=> ?_;obtain⟨hm1,hm2⟩:=hm8;rw[show wrap .i64 (wrap .i64 m+1)=m+1 by rw[qA (n:=m) oQ oQ,qA oQ oQ]];exact⟨⟨oQ,oQ⟩,h2.setPal oQ hnext⟩
theorem qFm{D:Nat}{RS W H y c q ib pb db po:Nat}{d:Dec}{Q:List Value ->Prop}{a1 a2 a3 a4 a5 a6 a7:pQ}{iv:Value}{b Hh Wi:Int}{N:Int×Sl×Sl×Int×Unit ->World ->Prop}(hD:hp w db=Row 119 d.arr)(htm:d.tmp.length=768)(htr:d.tr.length=6)(hcb:d.cb=(12:Nat))(hu:d.useT=true)
  (hW:Wi=(W:Int))(hl:W<=20)(hH:H<=20)(hy:y<H)(hRS:RS=xT 16 W)(h:RI w w ib pb 183 8 W H Q c RS)(hQ:(183:TypeId)=186 ->∃pp,Q=QP pp)(hpo:false=true ->po=y*(8*W))
  (s173:(183:TypeId)=173 ->a1=some ⟨ib,0,none⟩)(s177:(183:TypeId)=177 ->a2=some ⟨ib,0,none⟩)(s186:(183:TypeId)=186 ->a3=some ⟨ib,0,none⟩)(s181:(183:TypeId)=181 ->a4=some ⟨ib,0,none⟩)(s175:(183:TypeId)=175 ->a5=some ⟨ib,0,none⟩)(s179:(183:TypeId)=179 ->a6=some ⟨ib,0,none⟩)(s183:(183:TypeId)=183 ->a7=some ⟨ib,0,none⟩)
  (hW1:1<=W)(hN:∀w',RI w w' ib pb 183 8 W H Q c RS ->N (((po+cond false (8*W) 0:Nat):Int),⟨some ⟨q,0,none⟩,RS,RS⟩,⟨some ⟨c,0,none⟩,RS,RS⟩,wrap .i64 ((y:Int)+1),()) w'):
  xZ ⟨db,0,none⟩ (Wi,Hh,()) (b,a1,a2,a3,a4,a5,a6,a7,iv,()) ((po:Int),⟨some ⟨c,0,none⟩,RS,RS⟩,⟨some ⟨q,0,none⟩,RS,RS⟩,(y:Int),()) N w:=by
 unfold xT at hRS;unfold xZ aQq wIq iQq;dsimp only;rw[slAdd_one c 0 RS 1 oQ,Nat.zero_add];refine qC hD (d.at7.trans (gQ hcb)) ?_
 iterate 11 refine xC dQ ?_
 refine zA rfl ?_;refine zB hD ((d.at779 htm).trans (congrArg some (congrArg Value.bool hu))) ?_;refine xA ?_;obtain rfl:=s183 rfl;refine qE fun w20 f20 n20=> ?_;have hD20:=f20.row0 hD;have h20:=h.fr0 f20 n20;refine⟨⟨dQ,dQ⟩,qC hD20 (d.at780 htm (i:=0) oQ) ?_⟩;refine qU dQ ⟨⟨dQ,dQ⟩,qC hD20 (d.at780 htm (i:=1) oQ) ?_⟩;refine uA (s0:=0) (Inv:=fun w'=>RI w w' ib pb 183 8 W H Q c RS) rfl hW oQ h20 ?_ (fun _ _ hI=>hN _ hI);intro x w' N' hI _ hx hnext;dsimp only;refine qE fun w10 f10 n10=> ?_;have h10:=hI.fr0 f10 n10;refine h10.ld (k:=2*x+0) (by rw[qA (n:=(2:Int)*(x:Int)) oQ oQ,qA oQ oQ];omega) oQ fun m0 _ =>qU dQ ?_;refine h10.ld (k:=2*x+1) (by rw[qA (n:=(2:Int)*(x:Int)) oQ oQ,qA oQ oQ];omega) oQ fun m1 _ => ?_;exact qX (fun _ =>h10.c117 hx hy hnext) (fun _ =>h10.c117 hx hy hnext)
theorem qHx{D:Nat}{RS W H y c q ib pb db po:Nat}{d:Dec}{Q:List Value ->Prop}{a1 a2 a3 a4 a5 a6 a7:pQ}{iv:Value}{b Hh Wi:Int}{N:Int×Sl×Sl×Int×Unit ->World ->Prop}(hD:hp w db=Row 119 d.arr)(htm:d.tmp.length=768)(htr:d.tr.length=6)(hcb:d.cb=(12:Nat))(hu:d.useT=false)
  (hW:Wi=(W:Int))(hl:W<=20)(hH:H<=20)(hy:y<H)(hRS:RS=xT 16 W)(h:RI w w ib pb 175 2 W H Q c RS)(hQ:(175:TypeId)=186 ->∃pp,Q=QP pp)(hpo:false=true ->po=y*(2*W))
  (s173:(175:TypeId)=173 ->a1=some ⟨ib,0,none⟩)(s177:(175:TypeId)=177 ->a2=some ⟨ib,0,none⟩)(s186:(175:TypeId)=186 ->a3=some ⟨ib,0,none⟩)(s181:(175:TypeId)=181 ->a4=some ⟨ib,0,none⟩)(s175:(175:TypeId)=175 ->a5=some ⟨ib,0,none⟩)(s179:(175:TypeId)=179 ->a6=some ⟨ib,0,none⟩)(s183:(175:TypeId)=183 ->a7=some ⟨ib,0,none⟩)
  (hW1:1<=W)(hN:∀w',RI w w' ib pb 175 2 W H Q c RS ->N (((po+cond false (2*W) 0:Nat):Int),⟨some ⟨q,0,none⟩,RS,RS⟩,⟨some ⟨c,0,none⟩,RS,RS⟩,wrap .i64 ((y:Int)+1),()) w'):
  xZ ⟨db,0,none⟩ (Wi,Hh,()) (b,a1,a2,a3,a4,a5,a6,a7,iv,()) ((po:Int),⟨some ⟨c,0,none⟩,RS,RS⟩,⟨some ⟨q,0,none⟩,RS,RS⟩,(y:Int),()) N w:=by
 unfold xT at hRS;unfold xZ aQq wIq iQq;dsimp only;rw[slAdd_one c 0 RS 1 oQ,Nat.zero_add];refine qC hD (d.at7.trans (gQ hcb)) ?_
 iterate 11 refine xC dQ ?_
 refine zA rfl ?_;refine zB hD ((d.at779 htm).trans (congrArg some (congrArg Value.bool hu))) ?_;refine qM ?_;obtain rfl:=s175 rfl;refine uA (s0:=0) (Inv:=fun w'=>RI w w' ib pb 175 2 W H Q c RS) rfl hW oQ h ?_ (fun _ _ hI=>hN _ hI);intro x w' N' hI _ hx hnext;dsimp only;refine qE fun w10 f10 n10=> ?_;have h10:=hI.fr0 f10 n10;refine h10.ld (k:=2*x+0) (by rw[qA (n:=(2:Int)*(x:Int)) oQ oQ,qA oQ oQ];omega) oQ fun m0 _ =>qU dQ ?_;refine h10.ld (k:=2*x+1) (by rw[qA (n:=(2:Int)*(x:Int)) oQ oQ,qA oQ oQ];omega) oQ fun m1 _ => ?_;exact h10.c118 hx hy hnext
theorem qFn{D:Nat}{t:Bool}{RS W H y c q ib pb db po:Nat}{d:Dec}{Q:List Value ->Prop}{a1 a2 a3 a4 a5 a6 a7:pQ}{iv:Value}{b Hh Wi:Int}{N:Int×Sl×Sl×Int×Unit ->World ->Prop}(hD:hp w db=Row 119 d.arr)(htm:d.tmp.length=768)(htr:d.tr.length=6)(hcb:d.cb=(13:Nat))(hu:d.useT=t)
  (hW:Wi=(W:Int))(hl:W<=20)(hH:H<=20)(hy:y<H)(hRS:RS=xT 32 W)(h:RI w w ib pb 183 8 W H Q c RS)(hQ:(183:TypeId)=186 ->∃pp,Q=QP pp)(hpo:false=true ->po=y*(8*W))
  (s173:(183:TypeId)=173 ->a1=some ⟨ib,0,none⟩)(s177:(183:TypeId)=177 ->a2=some ⟨ib,0,none⟩)(s186:(183:TypeId)=186 ->a3=some ⟨ib,0,none⟩)(s181:(183:TypeId)=181 ->a4=some ⟨ib,0,none⟩)(s175:(183:TypeId)=175 ->a5=some ⟨ib,0,none⟩)(s179:(183:TypeId)=179 ->a6=some ⟨ib,0,none⟩)(s183:(183:TypeId)=183 ->a7=some ⟨ib,0,none⟩)
  (hW1:1<=W)(hN:∀w',RI w w' ib pb 183 8 W H Q c RS ->N (((po+cond false (8*W) 0:Nat):Int),⟨some ⟨q,0,none⟩,RS,RS⟩,⟨some ⟨c,0,none⟩,RS,RS⟩,wrap .i64 ((y:Int)+1),()) w'):
  xZ ⟨db,0,none⟩ (Wi,Hh,()) (b,a1,a2,a3,a4,a5,a6,a7,iv,()) ((po:Int),⟨some ⟨c,0,none⟩,RS,RS⟩,⟨some ⟨q,0,none⟩,RS,RS⟩,(y:Int),()) N w:=by
 unfold xT at hRS;unfold xZ aQq wIq iQq;dsimp only;rw[slAdd_one c 0 RS 1 oQ,Nat.zero_add];refine qC hD (d.at7.trans (gQ hcb)) ?_
 iterate 12 refine xC dQ ?_
 refine zA rfl ?_;obtain rfl:=s183 rfl;refine uA (s0:=0) (Inv:=fun w'=>RI w w' ib pb 183 8 W H Q c RS) rfl hW oQ h ?_ (fun _ _ hI=>hN _ hI);intro x w' N' hI _ hx hnext;dsimp only;refine qE fun w10 f10 n10=> ?_;have h10:=hI.fr0 f10 n10;refine h10.ld (k:=4*x+0) (by rw[qA (n:=(4:Int)*(x:Int)) oQ oQ,qA oQ oQ];omega) oQ fun m0 _ =>qU dQ ?_;refine h10.ld (k:=4*x+1) (by rw[qA (n:=(4:Int)*(x:Int)) oQ oQ,qA oQ oQ];omega) oQ fun m1 _ => ?_;refine qE fun w11 f11 n11=> ?_;have h11:=h10.fr0 f11 n11;refine h11.ld (k:=4*x+2) (by rw[qA (n:=(4:Int)*(x:Int)) oQ oQ,qA oQ oQ];omega) oQ fun m2 _ =>qU dQ ?_;refine h11.ld (k:=4*x+3) (by rw[qA (n:=(4:Int)*(x:Int)) oQ oQ,qA oQ oQ];omega) oQ fun m3 _ => ?_;exact h11.c117 hx hy hnext
theorem qCr{D:Nat}{RS W H y c q ib pb db po:Nat}{d:Dec}{Q:List Value ->Prop}{a1 a2 a3 a4 a5 a6 a7:pQ}{iv:Value}{b Hh Wi:Int}{N:Int×Sl×Sl×Int×Unit ->World ->Prop}(hD:hp w db=Row 119 d.arr)(htm:d.tmp.length=768)(htr:d.tr.length=6)(hcb:d.cb=(14:Nat))(hu:d.useT=true)
  (hW:Wi=(W:Int))(hl:W<=20)(hH:H<=20)(hy:y<H)(hRS:RS=xT 48 W)(h:RI w w ib pb 183 8 W H Q c RS)(hQ:(183:TypeId)=186 ->∃pp,Q=QP pp)(hpo:false=true ->po=y*(8*W))
  (s173:(183:TypeId)=173 ->a1=some ⟨ib,0,none⟩)(s177:(183:TypeId)=177 ->a2=some ⟨ib,0,none⟩)(s186:(183:TypeId)=186 ->a3=some ⟨ib,0,none⟩)(s181:(183:TypeId)=181 ->a4=some ⟨ib,0,none⟩)(s175:(183:TypeId)=175 ->a5=some ⟨ib,0,none⟩)(s179:(183:TypeId)=179 ->a6=some ⟨ib,0,none⟩)(s183:(183:TypeId)=183 ->a7=some ⟨ib,0,none⟩)
  (hW1:1<=W)(hN:∀w',RI w w' ib pb 183 8 W H Q c RS ->N (((po+cond false (8*W) 0:Nat):Int),⟨some ⟨q,0,none⟩,RS,RS⟩,⟨some ⟨c,0,none⟩,RS,RS⟩,wrap .i64 ((y:Int)+1),()) w'):
  xZ ⟨db,0,none⟩ (Wi,Hh,()) (b,a1,a2,a3,a4,a5,a6,a7,iv,()) ((po:Int),⟨some ⟨c,0,none⟩,RS,RS⟩,⟨some ⟨q,0,none⟩,RS,RS⟩,(y:Int),()) N w:=by
 unfold xT at hRS;unfold xZ aQq wIq iQq;dsimp only;rw[slAdd_one c 0 RS 1 oQ,Nat.zero_add];refine qC hD (d.at7.trans (gQ hcb)) ?_
 iterate 13 refine xC dQ ?_
 refine zA rfl ?_;refine zB hD ((d.at779 htm).trans (congrArg some (congrArg Value.bool hu))) ?_;refine xA ?_;obtain rfl:=s183 rfl;refine qE fun w20 f20 n20=> ?_;have hD20:=f20.row0 hD;have h20:=h.fr0 f20 n20;refine⟨⟨dQ,dQ⟩,qC hD20 (d.at780 htm (i:=0) oQ) ?_⟩;refine qU dQ ⟨⟨dQ,dQ⟩,qC hD20 (d.at780 htm (i:=1) oQ) ?_⟩;refine qE fun w21 f21 n21=> ?_;have hD21:=f21.row0 hD20;have h21:=h20.fr0 f21 n21;refine⟨⟨dQ,dQ⟩,qC hD21 (d.at780 htm (i:=2) oQ) ?_⟩;refine qU dQ ⟨⟨dQ,dQ⟩,qC hD21 (d.at780 htm (i:=3) oQ) ?_⟩;refine qE fun w22 f22 n22=> ?_;have hD22:=f22.row0 hD21;have h22:=h21.fr0 f22 n22;refine⟨⟨dQ,dQ⟩,qC hD22 (d.at780 htm (i:=4) oQ) ?_⟩;refine qU dQ ⟨⟨dQ,dQ⟩,qC hD22 (d.at780 htm (i:=5) oQ) ?_⟩;refine uA (s0:=0) (Inv:=fun w'=>RI w w' ib pb 183 8 W H Q c RS) rfl hW oQ h22 ?_ (fun _ _ hI=>hN _ hI);intro x w' N' hI _ hx hnext;dsimp only;refine qE fun w10 f10 n10=> ?_;have h10:=hI.fr0 f10 n10;refine h10.ld (k:=6*x+0) (by rw[qA (n:=(6:Int)*(x:Int)) oQ oQ,qA oQ oQ];omega) oQ fun m0 _ =>qU dQ ?_;refine h10.ld (k:=6*x+1) (by rw[qA (n:=(6:Int)*(x:Int)) oQ oQ,qA oQ oQ];omega) oQ fun m1 _ => ?_;refine qE fun w11 f11 n11=> ?_;have h11:=h10.fr0 f11 n11;refine h11.ld (k:=6*x+2) (by rw[qA (n:=(6:Int)*(x:Int)) oQ oQ,qA oQ oQ];omega) oQ fun m2 _ =>qU dQ ?_;refine h11.ld (k:=6*x+3) (by rw[qA (n:=(6:Int)*(x:Int)) oQ oQ,qA oQ oQ];omega) oQ fun m3 _ => ?_;refine qE fun w12 f12 n12=> ?_;have h12:=h11.fr0 f12 n12;refine h12.ld (k:=6*x+4) (by rw[qA (n:=(6:Int)*(x:Int)) oQ oQ,qA oQ oQ];omega) oQ fun m4 _ =>qU dQ ?_;refine h12.ld (k:=6*x+5) (by rw[qA (n:=(6:Int)*(x:Int)) oQ oQ,qA oQ oQ];omega) oQ fun m5 _ => ?_;exact qX (fun _ =>qX (fun _ =>qX (fun _ =>h12.c117 hx hy hnext) (fun _ =>h12.c117 hx hy hnext)) (fun _ =>h12.c117 hx hy hnext)) (fun _ =>h12.c117 hx hy hnext)
theorem qFo{D:Nat}{RS W H y c q ib pb db po:Nat}{d:Dec}{Q:List Value ->Prop}{a1 a2 a3 a4 a5 a6 a7:pQ}{iv:Value}{b Hh Wi:Int}{N:Int×Sl×Sl×Int×Unit ->World ->Prop}(hD:hp w db=Row 119 d.arr)(htm:d.tmp.length=768)(htr:d.tr.length=6)(hcb:d.cb=(14:Nat))(hu:d.useT=false)
  (hW:Wi=(W:Int))(hl:W<=20)(hH:H<=20)(hy:y<H)(hRS:RS=xT 48 W)(h:RI w w ib pb 179 8 W H Q c RS)(hQ:(179:TypeId)=186 ->∃pp,Q=QP pp)(hpo:false=true ->po=y*(8*W))
  (s173:(179:TypeId)=173 ->a1=some ⟨ib,0,none⟩)(s177:(179:TypeId)=177 ->a2=some ⟨ib,0,none⟩)(s186:(179:TypeId)=186 ->a3=some ⟨ib,0,none⟩)(s181:(179:TypeId)=181 ->a4=some ⟨ib,0,none⟩)(s175:(179:TypeId)=175 ->a5=some ⟨ib,0,none⟩)(s179:(179:TypeId)=179 ->a6=some ⟨ib,0,none⟩)(s183:(179:TypeId)=183 ->a7=some ⟨ib,0,none⟩)
  (hW1:1<=W)(hN:∀w',RI w w' ib pb 179 8 W H Q c RS ->N (((po+cond false (8*W) 0:Nat):Int),⟨some ⟨q,0,none⟩,RS,RS⟩,⟨some ⟨c,0,none⟩,RS,RS⟩,wrap .i64 ((y:Int)+1),()) w'):
  xZ ⟨db,0,none⟩ (Wi,Hh,()) (b,a1,a2,a3,a4,a5,a6,a7,iv,()) ((po:Int),⟨some ⟨c,0,none⟩,RS,RS⟩,⟨some ⟨q,0,none⟩,RS,RS⟩,(y:Int),()) N w:=by
 unfold xT at hRS;unfold xZ aQq wIq iQq;dsimp only;rw[slAdd_one c 0 RS 1 oQ,Nat.zero_add];refine qC hD (d.at7.trans (gQ hcb)) ?_
 iterate 13 refine xC dQ ?_
 refine zA rfl ?_;refine zB hD ((d.at779 htm).trans (congrArg some (congrArg Value.bool hu))) ?_;refine qM ?_;obtain rfl:=s179 rfl;refine uA (s0:=0) (Inv:=fun w'=>RI w w' ib pb 179 8 W H Q c RS) rfl hW oQ h ?_ (fun _ _ hI=>hN _ hI);intro x w' N' hI _ hx hnext;dsimp only;refine qE fun w10 f10 n10=> ?_;have h10:=hI.fr0 f10 n10;refine h10.ld (k:=6*x+0) (by rw[qA (n:=(6:Int)*(x:Int)) oQ oQ,qA oQ oQ];omega) oQ fun m0 _ =>qU dQ ?_;refine h10.ld (k:=6*x+1) (by rw[qA (n:=(6:Int)*(x:Int)) oQ oQ,qA oQ oQ];omega) oQ fun m1 _ => ?_;refine qE fun w11 f11 n11=> ?_;have h11:=h10.fr0 f11 n11;refine h11.ld (k:=6*x+2) (by rw[qA (n:=(6:Int)*(x:Int)) oQ oQ,qA oQ oQ];omega) oQ fun m2 _ =>qU dQ ?_;refine h11.ld (k:=6*x+3) (by rw[qA (n:=(6:Int)*(x:Int)) oQ oQ,qA oQ oQ];omega) oQ fun m3 _ => ?_;refine qE fun w12 f12 n12=> ?_;have h12:=h11.fr0 f12 n12;refine h12.ld (k:=6*x+4) (by rw[qA (n:=(6:Int)*(x:Int)) oQ oQ,qA oQ oQ];omega) oQ fun m4 _ =>qU dQ ?_;refine h12.ld (k:=6*x+5) (by rw[qA (n:=(6:Int)*(x:Int)) oQ oQ,qA oQ oQ];omega) oQ fun m5 _ => ?_;exact h12.c119 hx hy hnext
theorem qCs{D:Nat}{t:Bool}{RS W H y c q ib pb db po:Nat}{d:Dec}{Q:List Value ->Prop}{a1 a2 a3 a4 a5 a6 a7:pQ}{iv:Value}{b Hh Wi:Int}{N:Int×Sl×Sl×Int×Unit ->World ->Prop}(hD:hp w db=Row 119 d.arr)(htm:d.tmp.length=768)(htr:d.tr.length=6)(hcb:d.cb=(15:Nat))(hu:d.useT=t)
  (hW:Wi=(W:Int))(hl:W<=20)(hH:H<=20)(hy:y<H)(hRS:RS=xT 64 W)(h:RI w w ib pb 183 8 W H Q c RS)(hQ:(183:TypeId)=186 ->∃pp,Q=QP pp)(hpo:false=true ->po=y*(8*W))
  (s173:(183:TypeId)=173 ->a1=some ⟨ib,0,none⟩)(s177:(183:TypeId)=177 ->a2=some ⟨ib,0,none⟩)(s186:(183:TypeId)=186 ->a3=some ⟨ib,0,none⟩)(s181:(183:TypeId)=181 ->a4=some ⟨ib,0,none⟩)(s175:(183:TypeId)=175 ->a5=some ⟨ib,0,none⟩)(s179:(183:TypeId)=179 ->a6=some ⟨ib,0,none⟩)(s183:(183:TypeId)=183 ->a7=some ⟨ib,0,none⟩)
  (hW1:1<=W)(hN:∀w',RI w w' ib pb 183 8 W H Q c RS ->N (((po+cond false (8*W) 0:Nat):Int),⟨some ⟨q,0,none⟩,RS,RS⟩,⟨some ⟨c,0,none⟩,RS,RS⟩,wrap .i64 ((y:Int)+1),()) w'):
  xZ ⟨db,0,none⟩ (Wi,Hh,()) (b,a1,a2,a3,a4,a5,a6,a7,iv,()) ((po:Int),⟨some ⟨c,0,none⟩,RS,RS⟩,⟨some ⟨q,0,none⟩,RS,RS⟩,(y:Int),()) N w:=by
 unfold xT at hRS;unfold xZ aQq wIq iQq;dsimp only;rw[slAdd_one c 0 RS 1 oQ,Nat.zero_add];refine qC hD (d.at7.trans (gQ hcb)) ?_
 iterate 14 refine xC dQ ?_
 refine zA rfl ?_;obtain rfl:=s183 rfl;refine uA (s0:=0) (Inv:=fun w'=>RI w w' ib pb 183 8 W H Q c RS) rfl hW oQ h ?_ (fun _ _ hI=>hN _ hI);intro x w' N' hI _ hx hnext;dsimp only;refine qE fun w10 f10 n10=> ?_;have h10:=hI.fr0 f10 n10;refine h10.ld (k:=8*x+0) (by rw[qA (n:=(8:Int)*(x:Int)) oQ oQ,qA oQ oQ];omega) oQ fun m0 _ =>qU dQ ?_;refine h10.ld (k:=8*x+1) (by rw[qA (n:=(8:Int)*(x:Int)) oQ oQ,qA oQ oQ];omega) oQ fun m1 _ => ?_;refine qE fun w11 f11 n11=> ?_;have h11:=h10.fr0 f11 n11;refine h11.ld (k:=8*x+2) (by rw[qA (n:=(8:Int)*(x:Int)) oQ oQ,qA oQ oQ];omega) oQ fun m2 _ =>qU dQ ?_;refine h11.ld (k:=8*x+3) (by rw[qA (n:=(8:Int)*(x:Int)) oQ oQ,qA oQ oQ];omega) oQ fun m3 _ => ?_;refine qE fun w12 f12 n12=> ?_;have h12:=h11.fr0 f12 n12;refine h12.ld (k:=8*x+4) (by rw[qA (n:=(8:Int)*(x:Int)) oQ oQ,qA oQ oQ];omega) oQ fun m4 _ =>qU dQ ?_;refine h12.ld (k:=8*x+5) (by rw[qA (n:=(8:Int)*(x:Int)) oQ oQ,qA oQ oQ];omega) oQ fun m5 _ => ?_;refine qE fun w13 f13 n13=> ?_;have h13:=h12.fr0 f13 n13;refine h13.ld (k:=8*x+6) (by rw[qA (n:=(8:Int)*(x:Int)) oQ oQ,qA oQ oQ];omega) oQ fun m6 _ =>qU dQ ?_;refine h13.ld (k:=8*x+7) (by rw[qA (n:=(8:Int)*(x:Int)) oQ oQ,qA oQ oQ];omega) oQ fun m7 _ => ?_;exact h13.c117 hx hy hnext
theorem qHw{cb D bits bpp:Nat}{t cp:Bool}{pt IT:TypeId}(hk:PK cb D t pt IT bpp bits cp){RS W H y c q ib pb db po:Nat}{d:Dec}{Q:List Value ->Prop}{a1 a2 a3 a4 a5 a6 a7:pQ}{iv:Value}{b Hh Wi:Int}{N:Int×Sl×Sl×Int×Unit ->World ->Prop}(hD:hp w db=Row 119 d.arr)(htm:d.tmp.length=768)(htr:d.tr.length=6)(hcb:d.cb=(cb:Nat))(hu:d.useT=t)
  (hW:Wi=(W:Int))(hl:W<=20)(hH:H<=20)(hy:y<H)(hRS:RS=xT bits W)(h:RI w w ib pb IT bpp W H Q c RS)(hQ:(IT:TypeId)=186 ->∃pp,Q=QP pp)(hpo:cp=true ->po=y*(bpp*W))
  (s173:(IT:TypeId)=173 ->a1=some ⟨ib,0,none⟩)(s177:(IT:TypeId)=177 ->a2=some ⟨ib,0,none⟩)(s186:(IT:TypeId)=186 ->a3=some ⟨ib,0,none⟩)(s181:(IT:TypeId)=181 ->a4=some ⟨ib,0,none⟩)(s175:(IT:TypeId)=175 ->a5=some ⟨ib,0,none⟩)(s179:(IT:TypeId)=179 ->a6=some ⟨ib,0,none⟩)(s183:(IT:TypeId)=183 ->a7=some ⟨ib,0,none⟩)
  (hW1:1<=W)(hN:∀w',RI w w' ib pb IT bpp W H Q c RS ->N (((po+cond cp (bpp*W) 0:Nat):Int),⟨some ⟨q,0,none⟩,RS,RS⟩,⟨some ⟨c,0,none⟩,RS,RS⟩,wrap .i64 ((y:Int)+1),()) w'):
  xZ ⟨db,0,none⟩ (Wi,Hh,()) (b,a1,a2,a3,a4,a5,a6,a7,iv,()) ((po:Int),⟨some ⟨c,0,none⟩,RS,RS⟩,⟨some ⟨q,0,none⟩,RS,RS⟩,(y:Int),()) N w:=by
 cases hk
 case g1=>exact pix_g1 hD htm htr hcb hu hW hl hH hy hRS h hQ hpo s173 s177 s186 s181 s175 s179 s183 hW1 hN
 case g1t=>exact qHy hD htm htr hcb hu hW hl hH hy hRS h hQ hpo s173 s177 s186 s181 s175 s179 s183 hW1 hN
 case g2=>exact pix_g2 hD htm htr hcb hu hW hl hH hy hRS h hQ hpo s173 s177 s186 s181 s175 s179 s183 hW1 hN
 case g2t=>exact qHz hD htm htr hcb hu hW hl hH hy hRS h hQ hpo s173 s177 s186 s181 s175 s179 s183 hW1 hN
 case g4=>exact pix_g4 hD htm htr hcb hu hW hl hH hy hRS h hQ hpo s173 s177 s186 s181 s175 s179 s183 hW1 hN
 case g4t=>exact qIa hD htm htr hcb hu hW hl hH hy hRS h hQ hpo s173 s177 s186 s181 s175 s179 s183 hW1 hN
 case g8=>exact pix_g8 hD htm htr hcb hu hW hl hH hy hRS h hQ hpo s173 s177 s186 s181 s175 s179 s183 hW1 hN
 case g8t=>exact qIb hD htm htr hcb hu hW hl hH hy hRS h hQ hpo s173 s177 s186 s181 s175 s179 s183 hW1 hN
 case ga8=>exact qIc (D:=D) hD htm htr hcb hu hW hl hH hy hRS h hQ hpo s173 s177 s186 s181 s175 s179 s183 hW1 hN
 case tc8=>exact qId (D:=D) hD htm htr hcb hu hW hl hH hy hRS h hQ hpo s173 s177 s186 s181 s175 s179 s183 hW1 hN
 case tc8t=>exact qFp (D:=D) hD htm htr hcb hu hW hl hH hy hRS h hQ hpo s173 s177 s186 s181 s175 s179 s183 hW1 hN
 case p1=>exact pix_p1 hD htm htr hcb hu hW hl hH hy hRS h hQ hpo s173 s177 s186 s181 s175 s179 s183 hW1 hN
 case p2=>exact pix_p2 hD htm htr hcb hu hW hl hH hy hRS h hQ hpo s173 s177 s186 s181 s175 s179 s183 hW1 hN
 case p4=>exact pix_p4 hD htm htr hcb hu hW hl hH hy hRS h hQ hpo s173 s177 s186 s181 s175 s179 s183 hW1 hN
 case p8=>exact pix_p8 hD htm htr hcb hu hW hl hH hy hRS h hQ hpo s173 s177 s186 s181 s175 s179 s183 hW1 hN
 case tca8=>exact qFq (D:=D) hD htm htr hcb hu hW hl hH hy hRS h hQ hpo s173 s177 s186 s181 s175 s179 s183 hW1 hN
 case g16=>exact qHx (D:=D) hD htm htr hcb hu hW hl hH hy hRS h hQ hpo s173 s177 s186 s181 s175 s179 s183 hW1 hN
 case g16t=>exact qFm (D:=D) hD htm htr hcb hu hW hl hH hy hRS h hQ hpo s173 s177 s186 s181 s175 s179 s183 hW1 hN
 case ga16=>exact qFn (D:=D) hD htm htr hcb hu hW hl hH hy hRS h hQ hpo s173 s177 s186 s181 s175 s179 s183 hW1 hN
 case tc16=>exact qFo (D:=D) hD htm htr hcb hu hW hl hH hy hRS h hQ hpo s173 s177 s186 s181 s175 s179 s183 hW1 hN
 case tc16t=>exact qCr (D:=D) hD htm htr hcb hu hW hl hH hy hRS h hQ hpo s173 s177 s186 s181 s175 s179 s183 hW1 hN
 case tca16=>exact qCs (D:=D) hD htm htr hcb hu hW hl hH hy hRS h hQ hpo s173 s177 s186 s181 s175 s179 s183 hW1 hN
end
section
variable{w w' w0:wQ}
theorem BR.ldx{c RS:Nat}{i:Int}{k:Nat}{K:Int ->Prop}(h:BR w c RS)(hi:i=(k:Int))(hk:k+1<RS)(hK:∀n,U8 n ->K n):(0<=i/\i<((RS -1:Nat):Int))/\qN (some ⟨c,1,none⟩) fun a=>LdI w (qH a i.toNat 1) .u8 K:=by
 subst hi;refine⟨⟨oQ,oQ⟩,?_⟩;rw[PtrC_some,elemAt_one,Int.toNat_natCast];exact h.ld oQ hK
theorem BR.stx{c RS:Nat}{i v:Int}{k:Nat}{K:World ->Prop}(h:BR w c RS)(hi:i=(k:Int))(hk:k+1<RS)(hv:U8 v)(hK:∀w',BR w' c RS ->Fr [c] w w' ->hn w'=hn w ->K w'):(0<=i/\i<((RS -1:Nat):Int))/\qN (some ⟨c,1,none⟩) fun a=>qB w (qH a i.toNat 1) (.int .u8 v) K:=by
 subst hi;refine⟨⟨oQ,oQ⟩,?_⟩;rw[PtrC_some,elemAt_one,Int.toNat_natCast];exact h.st oQ hv.val hK
theorem flt_ok{BPP:Int}{po:Int}{y:Int}{c q RS bp:Nat}{xs:bQ}{J:Unit ->World ->Prop}{R:vPq}(hx:hp w c=Row 5 (bv xs).toArray)(hxl:xs.length=RS)(h2:BR w q RS)(hne:c≠q)(hRS:2<=RS/\RS<1000)(hB:BPP=(bp:Int))(hbp:1<=bp/\bp<=8)(hbR:bp+1<=RS)
  (hJ:gb xs 0<5 ->∀w',BR w' c RS ->Fr [c] w w' ->hn w'=hn w ->J () w')(hR:5<=gb xs 0 ->∀s,R (.tuple #[.nilIface,.iface 125 (.string s)]) w):
  eO BPP (po,⟨some ⟨c,0,none⟩,RS,RS⟩,⟨some ⟨q,0,none⟩,RS,RS⟩,y,()) J R w:=by
 have h1:BR w c RS:=⟨xs,hxl,hx⟩;have hg:=yC xs 0;unfold eO wIq iQq;dsimp only;rw[slAdd_one c 0 RS 1 oQ,slAdd_one q 0 RS 1 oQ,Nat.zero_add,PtrC_some];refine⟨⟨dQ,oQ⟩,qC hx (by rw[List.getElem?_toArray];exact kZ oQ) ?_⟩;have base:BR w c RS/\Fr [c] w w/\hn w=hn w:=⟨h1,Fr.refl _ _,rfl⟩;refine qW (fun e0=>hJ oQ _ h1 (Fr.refl _ _) rfl) (fun e0=> ?_);refine qW (fun e1=> ?_) (fun e1=> ?_)
 ·refine uA (s0:=bp) (W:=RS -1) (Inv:=fun w'=>BR w' c RS/\Fr [c] w w'/\hn w'=hn w) hB rfl oQ base ?_ (fun _ w' hI=>hJ oQ w' hI.1 hI.2.1 hI.2.2)
  rintro x w' N ⟨hI,F,nn⟩ hsx hx' hnext;dsimp only;refine qE fun w1 f1 n1=> ?_;have hI1:=hI.fr0 f1;refine hI1.ldx rfl oQ fun m1 u1=>hI1.ldx (k:=x -bp) (by rw[hB,qA oQ oQ];omega) oQ fun m2 u2=> ?_;exact hI1.stx rfl oQ (U8.wrap _) fun w2 b2 f2 n2=>hnext _ ⟨b2,(F.trans (f1.mono sQ)).trans f2,oQ⟩
 refine qW (fun e2=> ?_) (fun e2=> ?_)
 ·refine uA (s0:=0) (W:=RS -1) (Inv:=fun w'=>BR w' c RS/\Fr [c] w w'/\hn w'=hn w) rfl rfl oQ base ?_ (fun _ w' hI=>hJ oQ w' hI.1 hI.2.1 hI.2.2)
  rintro x w' N ⟨hI,F,nn⟩ hsx hx' hnext;dsimp only;have hq:=h2.fr F (by simp;omega);refine hq.ldx rfl oQ fun m1 u1=>hI.ldx rfl oQ fun m2 u2=> ?_;exact hI.stx rfl oQ (U8.wrap _) fun w2 b2 f2 n2=>hnext _ ⟨b2,F.trans f2,oQ⟩
 refine qW (fun e3=> ?_) (fun e3=> ?_)
 ·refine uA (s0:=0) (W:=bp) (Inv:=fun w'=>BR w' c RS/\Fr [c] w w'/\hn w'=hn w) rfl hB oQ base ?_ ?_
  ·rintro x w' N ⟨hI,F,nn⟩ hsx hx' hnext
   dsimp only;refine qE fun w1 f1 n1=> ?_;have hI1:=hI.fr0 f1;have hq:=(h2.fr F (by simp;omega)).fr0 f1;refine hI1.ldx rfl oQ fun m1 u1=>hq.ldx rfl oQ fun m2 u2=>xK dQ ?_;exact hI1.stx rfl oQ (U8.wrap _) fun w2 b2 f2 n2=>hnext _ ⟨b2,(F.trans (f1.mono sQ)).trans f2,oQ⟩
  ·rintro _ w3 hI3
   refine uA (s0:=bp) (W:=RS -1) (Inv:=fun w'=>BR w' c RS/\Fr [c] w w'/\hn w'=hn w) hB rfl oQ hI3 ?_ (fun _ w' hI=>hJ oQ w' hI.1 hI.2.1 hI.2.2);rintro x w' N ⟨hI,F,nn⟩ hsx hx' hnext;dsimp only;refine qE fun w1 f1 n1=> ?_;have hI1:=hI.fr0 f1;have hq:=(h2.fr F (by simp;omega)).fr0 f1;refine hI1.ldx rfl oQ fun m1 u1=>hI1.ldx (k:=x -bp) (by rw[hB,qA oQ oQ];omega) oQ fun m2 u2=>hq.ldx rfl oQ fun m3 u3=>xK dQ ?_;exact hI1.stx rfl oQ (U8.wrap _) fun w2 b2 f2 n2=>hnext _ ⟨b2,(F.trans (f1.mono sQ)).trans f2,oQ⟩
 refine qW (fun e4=> ?_) (fun e4=>hR oQ _);rw[hB];refine CallT.mono (c113 (n:=0) h1 h2 hne hRS.1 hRS.2 hbp) ?_;rintro _ w' ⟨rfl,b',f',n'⟩;exact⟨rfl,hJ oQ w' b' f' n'⟩
structure NewI (w w':wQ) (ib pb:Nat) (pt IT:TypeId) (bpp W H:Nat) (pal:Sl) (a1 a2 a3 a4 a5 a6 a7:pQ):Prop where
 im:∃ex,(IT=186 ->QP pal.a ex)/\(IT≠186 ->ex=[])/\ImgW w' ib pb IT bpp W H ex
 fr:Fr [] w w'
 lo:hn w<=ib/\hn w<=pb
 hi:ib<hn w'/\pb<hn w'
 s173:IT=173 ->a1=some ⟨ib,0,none⟩
 s177:IT=177 ->a2=some ⟨ib,0,none⟩
 s186:IT=186 ->a3=some ⟨ib,0,none⟩
 s181:IT=181 ->a4=some ⟨ib,0,none⟩
 s175:IT=175 ->a5=some ⟨ib,0,none⟩
 s179:IT=179 ->a6=some ⟨ib,0,none⟩
 s183:IT=183 ->a7=some ⟨ib,0,none⟩
theorem qDl{cb D bits bpp:Nat}{t cp:Bool}{pt IT:TypeId}(hk:PK cb D t pt IT bpp bits cp){W H db:Nat}{d:Dec}{J:(Int×pQ×pQ×pQ×pQ×pQ×pQ×pQ×Value×Unit) ->World ->Prop}
  (hD:hp w db=Row 119 d.arr)(htm:d.tmp.length=768)(hcb:d.cb=(cb:Nat))(hu:d.useT=t)(hdD:d.D=(D:Nat))(hpal:IT=186 ->d.pal.cap=256/\d.pal.len<=256)(hl:W<=20)(hH:H<=20)
  (hJ:∀w' ib pb a1 a2 a3 a4 a5 a6 a7,NewI w w' ib pb pt IT bpp W H d.pal a1 a2 a3 a4 a5 a6 a7 ->J ((bits:Int),a1,a2,a3,a4,a5,a6,a7,.iface pt (.pointer (some ⟨ib,0,none⟩)),()) w'):
  yS ⟨db,0,none⟩ ((W:Int),(H:Int),()) J w:=by
 cases hk
 case g1=>
  unfold yS g4q aQq iQq;dsimp only;refine qC hD (d.at7.trans (gQ hcb)) ?_;refine qJ (fun z' w'=>z'.1=true/\w'=w) ?_ ?_
  rotate_left
  ·intro J0 hJ0
   exact zA rfl (hJ0 _ _ ⟨rfl,rfl⟩)
  rintro⟨z,⟨⟩⟩ w' ⟨hz,rfl⟩;dsimp only at hz⊢;subst hz;refine xA (qC hD (d.at5.trans (gQ hdD)) ?_);refine zB hD ((d.at779 htm).trans (congrArg some (congrArg Value.bool hu))) (qM ?_);refine CallT.mono c106 ?_;rintro _ w6 ⟨rfl,f6,n6⟩;refine⟨_,_,_,_,rfl,CallT.mono (c107 hl hH) ?_⟩;rintro _ w7 ⟨ib,pb,rfl,hi,f7,l1,l2,l3,l4⟩;refine⟨_,rfl,hJ _ ib pb _ _ _ _ _ _ _ ⟨⟨_,nQ,fun _ =>rfl,hi⟩,(f6.trans f7),⟨oQ,oQ⟩,⟨l3,l4⟩,fun _ =>rfl,nQ,nQ,nQ,nQ,nQ,nQ⟩⟩
 case g1t=>
  unfold yS g4q aQq iQq;dsimp only;refine qC hD (d.at7.trans (gQ hcb)) ?_;refine qJ (fun z' w'=>z'.1=true/\w'=w) ?_ ?_
  rotate_left
  ·intro J0 hJ0
   exact zA rfl (hJ0 _ _ ⟨rfl,rfl⟩)
  rintro⟨z,⟨⟩⟩ w' ⟨hz,rfl⟩;dsimp only at hz⊢;subst hz;refine xA (qC hD (d.at5.trans (gQ hdD)) ?_);refine zB hD ((d.at779 htm).trans (congrArg some (congrArg Value.bool hu))) (xA ?_);refine CallT.mono c106 ?_;rintro _ w6 ⟨rfl,f6,n6⟩;refine⟨_,_,_,_,rfl,CallT.mono (c105 hl hH) ?_⟩;rintro _ w7 ⟨ib,pb,rfl,hi,f7,l1,l2,l3,l4⟩;refine⟨_,rfl,hJ _ ib pb _ _ _ _ _ _ _ ⟨⟨_,nQ,fun _ =>rfl,hi⟩,(f6.trans f7),⟨oQ,oQ⟩,⟨l3,l4⟩,nQ,nQ,nQ,fun _ =>rfl,nQ,nQ,nQ⟩⟩
 case g2=>
  unfold yS g4q aQq iQq;dsimp only;refine qC hD (d.at7.trans (gQ hcb)) ?_;refine qJ (fun z' w'=>z'.1=true/\w'=w) ?_ ?_
  rotate_left
  ·intro J0 hJ0
   iterate 1 refine xC dQ ?_
   exact zA rfl (hJ0 _ _ ⟨rfl,rfl⟩)
  rintro⟨z,⟨⟩⟩ w' ⟨hz,rfl⟩;dsimp only at hz⊢;subst hz;refine xA (qC hD (d.at5.trans (gQ hdD)) ?_);refine zB hD ((d.at779 htm).trans (congrArg some (congrArg Value.bool hu))) (qM ?_);refine CallT.mono c106 ?_;rintro _ w6 ⟨rfl,f6,n6⟩;refine⟨_,_,_,_,rfl,CallT.mono (c107 hl hH) ?_⟩;rintro _ w7 ⟨ib,pb,rfl,hi,f7,l1,l2,l3,l4⟩;refine⟨_,rfl,hJ _ ib pb _ _ _ _ _ _ _ ⟨⟨_,nQ,fun _ =>rfl,hi⟩,(f6.trans f7),⟨oQ,oQ⟩,⟨l3,l4⟩,fun _ =>rfl,nQ,nQ,nQ,nQ,nQ,nQ⟩⟩
 case g2t=>
  unfold yS g4q aQq iQq;dsimp only;refine qC hD (d.at7.trans (gQ hcb)) ?_;refine qJ (fun z' w'=>z'.1=true/\w'=w) ?_ ?_
  rotate_left
  ·intro J0 hJ0
   iterate 1 refine xC dQ ?_
   exact zA rfl (hJ0 _ _ ⟨rfl,rfl⟩)
  rintro⟨z,⟨⟩⟩ w' ⟨hz,rfl⟩;dsimp only at hz⊢;subst hz;refine xA (qC hD (d.at5.trans (gQ hdD)) ?_);refine zB hD ((d.at779 htm).trans (congrArg some (congrArg Value.bool hu))) (xA ?_);refine CallT.mono c106 ?_;rintro _ w6 ⟨rfl,f6,n6⟩;refine⟨_,_,_,_,rfl,CallT.mono (c105 hl hH) ?_⟩;rintro _ w7 ⟨ib,pb,rfl,hi,f7,l1,l2,l3,l4⟩;refine⟨_,rfl,hJ _ ib pb _ _ _ _ _ _ _ ⟨⟨_,nQ,fun _ =>rfl,hi⟩,(f6.trans f7),⟨oQ,oQ⟩,⟨l3,l4⟩,nQ,nQ,nQ,fun _ =>rfl,nQ,nQ,nQ⟩⟩
 case g4=>
  unfold yS g4q aQq iQq;dsimp only;refine qC hD (d.at7.trans (gQ hcb)) ?_;refine qJ (fun z' w'=>z'.1=true/\w'=w) ?_ ?_
  rotate_left
  ·intro J0 hJ0
   iterate 2 refine xC dQ ?_
   exact zA rfl (hJ0 _ _ ⟨rfl,rfl⟩)
  rintro⟨z,⟨⟩⟩ w' ⟨hz,rfl⟩;dsimp only at hz⊢;subst hz;refine xA (qC hD (d.at5.trans (gQ hdD)) ?_);refine zB hD ((d.at779 htm).trans (congrArg some (congrArg Value.bool hu))) (qM ?_);refine CallT.mono c106 ?_;rintro _ w6 ⟨rfl,f6,n6⟩;refine⟨_,_,_,_,rfl,CallT.mono (c107 hl hH) ?_⟩;rintro _ w7 ⟨ib,pb,rfl,hi,f7,l1,l2,l3,l4⟩;refine⟨_,rfl,hJ _ ib pb _ _ _ _ _ _ _ ⟨⟨_,nQ,fun _ =>rfl,hi⟩,(f6.trans f7),⟨oQ,oQ⟩,⟨l3,l4⟩,fun _ =>rfl,nQ,nQ,nQ,nQ,nQ,nQ⟩⟩
 case g4t=>
  unfold yS g4q aQq iQq;dsimp only;refine qC hD (d.at7.trans (gQ hcb)) ?_;refine qJ (fun z' w'=>z'.1=true/\w'=w) ?_ ?_
  rotate_left
  ·intro J0 hJ0
   iterate 2 refine xC dQ ?_
   exact zA rfl (hJ0 _ _ ⟨rfl,rfl⟩)
  rintro⟨z,⟨⟩⟩ w' ⟨hz,rfl⟩;dsimp only at hz⊢;subst hz;refine xA (qC hD (d.at5.trans (gQ hdD)) ?_);refine zB hD ((d.at779 htm).trans (congrArg some (congrArg Value.bool hu))) (xA ?_);refine CallT.mono c106 ?_;rintro _ w6 ⟨rfl,f6,n6⟩;refine⟨_,_,_,_,rfl,CallT.mono (c105 hl hH) ?_⟩;rintro _ w7 ⟨ib,pb,rfl,hi,f7,l1,l2,l3,l4⟩;refine⟨_,rfl,hJ _ ib pb _ _ _ _ _ _ _ ⟨⟨_,nQ,fun _ =>rfl,hi⟩,(f6.trans f7),⟨oQ,oQ⟩,⟨l3,l4⟩,nQ,nQ,nQ,fun _ =>rfl,nQ,nQ,nQ⟩⟩
 case g8=>
  unfold yS g4q aQq iQq;dsimp only;refine qC hD (d.at7.trans (gQ hcb)) ?_;refine qJ (fun z' w'=>z'.1=true/\w'=w) ?_ ?_
  rotate_left
  ·intro J0 hJ0
   iterate 3 refine xC dQ ?_
   exact hJ0 _ _ ⟨rfl,rfl⟩
  rintro⟨z,⟨⟩⟩ w' ⟨hz,rfl⟩;dsimp only at hz⊢;subst hz;refine xA (qC hD (d.at5.trans (gQ hdD)) ?_);refine zB hD ((d.at779 htm).trans (congrArg some (congrArg Value.bool hu))) (qM ?_);refine CallT.mono c106 ?_;rintro _ w6 ⟨rfl,f6,n6⟩;refine⟨_,_,_,_,rfl,CallT.mono (c107 hl hH) ?_⟩;rintro _ w7 ⟨ib,pb,rfl,hi,f7,l1,l2,l3,l4⟩;refine⟨_,rfl,hJ _ ib pb _ _ _ _ _ _ _ ⟨⟨_,nQ,fun _ =>rfl,hi⟩,(f6.trans f7),⟨oQ,oQ⟩,⟨l3,l4⟩,fun _ =>rfl,nQ,nQ,nQ,nQ,nQ,nQ⟩⟩
 case g8t=>
  unfold yS g4q aQq iQq;dsimp only;refine qC hD (d.at7.trans (gQ hcb)) ?_;refine qJ (fun z' w'=>z'.1=true/\w'=w) ?_ ?_
  rotate_left
  ·intro J0 hJ0
   iterate 3 refine xC dQ ?_
   exact hJ0 _ _ ⟨rfl,rfl⟩
  rintro⟨z,⟨⟩⟩ w' ⟨hz,rfl⟩;dsimp only at hz⊢;subst hz;refine xA (qC hD (d.at5.trans (gQ hdD)) ?_);refine zB hD ((d.at779 htm).trans (congrArg some (congrArg Value.bool hu))) (xA ?_);refine CallT.mono c106 ?_;rintro _ w6 ⟨rfl,f6,n6⟩;refine⟨_,_,_,_,rfl,CallT.mono (c105 hl hH) ?_⟩;rintro _ w7 ⟨ib,pb,rfl,hi,f7,l1,l2,l3,l4⟩;refine⟨_,rfl,hJ _ ib pb _ _ _ _ _ _ _ ⟨⟨_,nQ,fun _ =>rfl,hi⟩,(f6.trans f7),⟨oQ,oQ⟩,⟨l3,l4⟩,nQ,nQ,nQ,fun _ =>rfl,nQ,nQ,nQ⟩⟩
 case ga8=>
  unfold yS g4q aQq iQq;dsimp only;refine qC hD (d.at7.trans (gQ hcb)) ?_;refine qJ (fun z' w'=>z'.1=false/\w'=w) ?_ ?_
  rotate_left
  ·intro J0 hJ0
   iterate 3 refine xC dQ ?_
   exact hJ0 _ _ ⟨rfl,rfl⟩
  rintro⟨z,⟨⟩⟩ w' ⟨hz,rfl⟩;dsimp only at hz⊢;subst hz;refine qM ?_;refine zA rfl ?_;refine CallT.mono c106 ?_;rintro _ w6 ⟨rfl,f6,n6⟩;refine⟨_,_,_,_,rfl,CallT.mono (c105 hl hH) ?_⟩;rintro _ w7 ⟨ib,pb,rfl,hi,f7,l1,l2,l3,l4⟩;refine⟨_,rfl,hJ _ ib pb _ _ _ _ _ _ _ ⟨⟨_,nQ,fun _ =>rfl,hi⟩,(f6.trans f7),⟨oQ,oQ⟩,⟨l3,l4⟩,nQ,nQ,nQ,fun _ =>rfl,nQ,nQ,nQ⟩⟩
 case tc8=>
  unfold yS g4q aQq iQq;dsimp only;refine qC hD (d.at7.trans (gQ hcb)) ?_;refine qJ (fun z' w'=>z'.1=false/\w'=w) ?_ ?_
  rotate_left
  ·intro J0 hJ0
   iterate 3 refine xC dQ ?_
   exact hJ0 _ _ ⟨rfl,rfl⟩
  rintro⟨z,⟨⟩⟩ w' ⟨hz,rfl⟩;dsimp only at hz⊢;subst hz;refine qM ?_;refine xC dQ (zA rfl ?_);refine zB hD ((d.at779 htm).trans (congrArg some (congrArg Value.bool hu))) (qM ?_);refine CallT.mono c106 ?_;rintro _ w6 ⟨rfl,f6,n6⟩;refine⟨_,_,_,_,rfl,CallT.mono (c108 hl hH) ?_⟩;rintro _ w7 ⟨ib,pb,rfl,hi,f7,l1,l2,l3,l4⟩;refine⟨_,rfl,hJ _ ib pb _ _ _ _ _ _ _ ⟨⟨_,nQ,fun _ =>rfl,hi⟩,(f6.trans f7),⟨oQ,oQ⟩,⟨l3,l4⟩,nQ,fun _ =>rfl,nQ,nQ,nQ,nQ,nQ⟩⟩
 case tc8t=>
  unfold yS g4q aQq iQq;dsimp only;refine qC hD (d.at7.trans (gQ hcb)) ?_;refine qJ (fun z' w'=>z'.1=false/\w'=w) ?_ ?_
  rotate_left
  ·intro J0 hJ0
   iterate 3 refine xC dQ ?_
   exact hJ0 _ _ ⟨rfl,rfl⟩
  rintro⟨z,⟨⟩⟩ w' ⟨hz,rfl⟩;dsimp only at hz⊢;subst hz;refine qM ?_;refine xC dQ (zA rfl ?_);refine zB hD ((d.at779 htm).trans (congrArg some (congrArg Value.bool hu))) (xA ?_);refine CallT.mono c106 ?_;rintro _ w6 ⟨rfl,f6,n6⟩;refine⟨_,_,_,_,rfl,CallT.mono (c105 hl hH) ?_⟩;rintro _ w7 ⟨ib,pb,rfl,hi,f7,l1,l2,l3,l4⟩;refine⟨_,rfl,hJ _ ib pb _ _ _ _ _ _ _ ⟨⟨_,nQ,fun _ =>rfl,hi⟩,(f6.trans f7),⟨oQ,oQ⟩,⟨l3,l4⟩,nQ,nQ,nQ,fun _ =>rfl,nQ,nQ,nQ⟩⟩
 case p1=>
  unfold yS g4q aQq iQq;dsimp only;refine qC hD (d.at7.trans (gQ hcb)) ?_;refine qJ (fun z' w'=>z'.1=false/\w'=w) ?_ ?_
  rotate_left
  ·intro J0 hJ0
   iterate 3 refine xC dQ ?_
   exact hJ0 _ _ ⟨rfl,rfl⟩
  rintro⟨z,⟨⟩⟩ w' ⟨hz,rfl⟩;dsimp only at hz⊢;subst hz;refine qM ?_;refine xC dQ (xC dQ ?_);refine qJ (fun z' w''=>z'.1=true/\w''=w') ?_ ?_
  rotate_left
  ·intro J0 hJ0
   exact zA rfl (hJ0 _ _ ⟨rfl,rfl⟩)
  rintro⟨z,⟨⟩⟩ w' ⟨hz,rfl⟩;dsimp only at hz⊢;subst hz;refine xA ?_;refine qC hD (d.at5.trans (gQ hdD)) ?_;refine qE fun w3 f3 n3=> ?_;have hD3:=f3.row0 hD;refine qK hD3 d.at6 ?_;refine CallT.mono c106 ?_;rintro _ w6 ⟨rfl,f6,n6⟩;have hD6:=f6.row0 hD3;refine⟨_,_,_,_,rfl,qK hD6 d.at6 ⟨rfl,rfl,CallT.mono (c109 hl hH) ?_⟩⟩;rintro _ w7 ⟨ib,pb,rfl,hi,f7,l1,l2,l3,l4⟩;refine⟨_,rfl,hJ _ ib pb _ _ _ _ _ _ _ ⟨⟨_,fun _ =>⟨_,(hpal rfl).2,by rw[<-(hpal rfl).1]⟩,fun e=>absurd rfl e,hi⟩,(f3.trans (f6.trans f7)),⟨oQ,oQ⟩,⟨l3,l4⟩,nQ,nQ,fun _ =>rfl,nQ,nQ,nQ,nQ⟩⟩
 case p2=>
  unfold yS g4q aQq iQq;dsimp only;refine qC hD (d.at7.trans (gQ hcb)) ?_;refine qJ (fun z' w'=>z'.1=false/\w'=w) ?_ ?_
  rotate_left
  ·intro J0 hJ0
   iterate 3 refine xC dQ ?_
   exact hJ0 _ _ ⟨rfl,rfl⟩
  rintro⟨z,⟨⟩⟩ w' ⟨hz,rfl⟩;dsimp only at hz⊢;subst hz;refine qM ?_;refine xC dQ (xC dQ ?_);refine qJ (fun z' w''=>z'.1=true/\w''=w') ?_ ?_
  rotate_left
  ·intro J0 hJ0
   iterate 1 refine xC dQ ?_
   exact zA rfl (hJ0 _ _ ⟨rfl,rfl⟩)
  rintro⟨z,⟨⟩⟩ w' ⟨hz,rfl⟩;dsimp only at hz⊢;subst hz;refine xA ?_;refine qC hD (d.at5.trans (gQ hdD)) ?_;refine qE fun w3 f3 n3=> ?_;have hD3:=f3.row0 hD;refine qK hD3 d.at6 ?_;refine CallT.mono c106 ?_;rintro _ w6 ⟨rfl,f6,n6⟩;have hD6:=f6.row0 hD3;refine⟨_,_,_,_,rfl,qK hD6 d.at6 ⟨rfl,rfl,CallT.mono (c109 hl hH) ?_⟩⟩;rintro _ w7 ⟨ib,pb,rfl,hi,f7,l1,l2,l3,l4⟩;refine⟨_,rfl,hJ _ ib pb _ _ _ _ _ _ _ ⟨⟨_,fun _ =>⟨_,(hpal rfl).2,by rw[<-(hpal rfl).1]⟩,fun e=>absurd rfl e,hi⟩,(f3.trans (f6.trans f7)),⟨oQ,oQ⟩,⟨l3,l4⟩,nQ,nQ,fun _ =>rfl,nQ,nQ,nQ,nQ⟩⟩
 case p4=>
  unfold yS g4q aQq iQq;dsimp only;refine qC hD (d.at7.trans (gQ hcb)) ?_;refine qJ (fun z' w'=>z'.1=false/\w'=w) ?_ ?_
  rotate_left
  ·intro J0 hJ0
   iterate 3 refine xC dQ ?_
   exact hJ0 _ _ ⟨rfl,rfl⟩
  rintro⟨z,⟨⟩⟩ w' ⟨hz,rfl⟩;dsimp only at hz⊢;subst hz;refine qM ?_;refine xC dQ (xC dQ ?_);refine qJ (fun z' w''=>z'.1=true/\w''=w') ?_ ?_
  rotate_left
  ·intro J0 hJ0
   iterate 2 refine xC dQ ?_
   exact zA rfl (hJ0 _ _ ⟨rfl,rfl⟩)
  rintro⟨z,⟨⟩⟩ w' ⟨hz,rfl⟩;dsimp only at hz⊢;subst hz;refine xA ?_;refine qC hD (d.at5.trans (gQ hdD)) ?_;refine qE fun w3 f3 n3=> ?_;have hD3:=f3.row0 hD;refine qK hD3 d.at6 ?_;refine CallT.mono c106 ?_;rintro _ w6 ⟨rfl,f6,n6⟩;have hD6:=f6.row0 hD3;refine⟨_,_,_,_,rfl,qK hD6 d.at6 ⟨rfl,rfl,CallT.mono (c109 hl hH) ?_⟩⟩;rintro _ w7 ⟨ib,pb,rfl,hi,f7,l1,l2,l3,l4⟩;refine⟨_,rfl,hJ _ ib pb _ _ _ _ _ _ _ ⟨⟨_,fun _ =>⟨_,(hpal rfl).2,by rw[<-(hpal rfl).1]⟩,fun e=>absurd rfl e,hi⟩,(f3.trans (f6.trans f7)),⟨oQ,oQ⟩,⟨l3,l4⟩,nQ,nQ,fun _ =>rfl,nQ,nQ,nQ,nQ⟩⟩
 case p8=>
  unfold yS g4q aQq iQq;dsimp only;refine qC hD (d.at7.trans (gQ hcb)) ?_;refine qJ (fun z' w'=>z'.1=false/\w'=w) ?_ ?_
  rotate_left
  ·intro J0 hJ0
   iterate 3 refine xC dQ ?_
   exact hJ0 _ _ ⟨rfl,rfl⟩
  rintro⟨z,⟨⟩⟩ w' ⟨hz,rfl⟩;dsimp only at hz⊢;subst hz;refine qM ?_;refine xC dQ (xC dQ ?_);refine qJ (fun z' w''=>z'.1=true/\w''=w') ?_ ?_
  rotate_left
  ·intro J0 hJ0
   iterate 3 refine xC dQ ?_
   exact hJ0 _ _ ⟨rfl,rfl⟩
  rintro⟨z,⟨⟩⟩ w' ⟨hz,rfl⟩;dsimp only at hz⊢;subst hz;refine xA ?_;refine qC hD (d.at5.trans (gQ hdD)) ?_;refine qE fun w3 f3 n3=> ?_;have hD3:=f3.row0 hD;refine qK hD3 d.at6 ?_;refine CallT.mono c106 ?_;rintro _ w6 ⟨rfl,f6,n6⟩;have hD6:=f6.row0 hD3;refine⟨_,_,_,_,rfl,qK hD6 d.at6 ⟨rfl,rfl,CallT.mono (c109 hl hH) ?_⟩⟩;rintro _ w7 ⟨ib,pb,rfl,hi,f7,l1,l2,l3,l4⟩;refine⟨_,rfl,hJ _ ib pb _ _ _ _ _ _ _ ⟨⟨_,fun _ =>⟨_,(hpal rfl).2,by rw[<-(hpal rfl).1]⟩,fun e=>absurd rfl e,hi⟩,(f3.trans (f6.trans f7)),⟨oQ,oQ⟩,⟨l3,l4⟩,nQ,nQ,fun _ =>rfl,nQ,nQ,nQ,nQ⟩⟩
 case tca8=>
  unfold yS g4q aQq iQq;dsimp only;refine qC hD (d.at7.trans (gQ hcb)) ?_;refine qJ (fun z' w'=>z'.1=false/\w'=w) ?_ ?_
  rotate_left
  ·intro J0 hJ0
   iterate 3 refine xC dQ ?_
   exact hJ0 _ _ ⟨rfl,rfl⟩
  rintro⟨z,⟨⟩⟩ w' ⟨hz,rfl⟩;dsimp only at hz⊢;subst hz;refine qM ?_;refine xC dQ (xC dQ ?_);refine qJ (fun z' w''=>z'.1=false/\w''=w') ?_ ?_
  rotate_left
  ·intro J0 hJ0
   iterate 3 refine xC dQ ?_
   exact hJ0 _ _ ⟨rfl,rfl⟩
  rintro⟨z,⟨⟩⟩ w' ⟨hz,rfl⟩;dsimp only at hz⊢;subst hz;refine qM ?_;refine zA rfl ?_;refine CallT.mono c106 ?_;rintro _ w6 ⟨rfl,f6,n6⟩;refine⟨_,_,_,_,rfl,CallT.mono (c105 hl hH) ?_⟩;rintro _ w7 ⟨ib,pb,rfl,hi,f7,l1,l2,l3,l4⟩;refine⟨_,rfl,hJ _ ib pb _ _ _ _ _ _ _ ⟨⟨_,nQ,fun _ =>rfl,hi⟩,(f6.trans f7),⟨oQ,oQ⟩,⟨l3,l4⟩,nQ,nQ,nQ,fun _ =>rfl,nQ,nQ,nQ⟩⟩
 case g16=>
  unfold yS g4q aQq iQq;dsimp only;refine qC hD (d.at7.trans (gQ hcb)) ?_;refine qJ (fun z' w'=>z'.1=false/\w'=w) ?_ ?_
  rotate_left
  ·intro J0 hJ0
   iterate 3 refine xC dQ ?_
   exact hJ0 _ _ ⟨rfl,rfl⟩
  rintro⟨z,⟨⟩⟩ w' ⟨hz,rfl⟩;dsimp only at hz⊢;subst hz;refine qM ?_;refine xC dQ (xC dQ ?_);refine qJ (fun z' w''=>z'.1=false/\w''=w') ?_ ?_
  rotate_left
  ·intro J0 hJ0
   iterate 3 refine xC dQ ?_
   exact hJ0 _ _ ⟨rfl,rfl⟩
  rintro⟨z,⟨⟩⟩ w' ⟨hz,rfl⟩;dsimp only at hz⊢;subst hz;refine qM ?_
  iterate 1 refine xC dQ ?_
  refine zA rfl ?_;refine zB hD ((d.at779 htm).trans (congrArg some (congrArg Value.bool hu))) (qM ?_);refine CallT.mono c106 ?_;rintro _ w6 ⟨rfl,f6,n6⟩;refine⟨_,_,_,_,rfl,CallT.mono (c111 hl hH) ?_⟩;rintro _ w7 ⟨ib,pb,rfl,hi,f7,l1,l2,l3,l4⟩;refine⟨_,rfl,hJ _ ib pb _ _ _ _ _ _ _ ⟨⟨_,nQ,fun _ =>rfl,hi⟩,(f6.trans f7),⟨oQ,oQ⟩,⟨l3,l4⟩,nQ,nQ,nQ,nQ,fun _ =>rfl,nQ,nQ⟩⟩
 case g16t=>
  unfold yS g4q aQq iQq;dsimp only;refine qC hD (d.at7.trans (gQ hcb)) ?_;refine qJ (fun z' w'=>z'.1=false/\w'=w) ?_ ?_
  rotate_left
  ·intro J0 hJ0
   iterate 3 refine xC dQ ?_
   exact hJ0 _ _ ⟨rfl,rfl⟩
  rintro⟨z,⟨⟩⟩ w' ⟨hz,rfl⟩;dsimp only at hz⊢;subst hz;refine qM ?_;refine xC dQ (xC dQ ?_);refine qJ (fun z' w''=>z'.1=false/\w''=w') ?_ ?_
  rotate_left
  ·intro J0 hJ0
   iterate 3 refine xC dQ ?_
   exact hJ0 _ _ ⟨rfl,rfl⟩
  rintro⟨z,⟨⟩⟩ w' ⟨hz,rfl⟩;dsimp only at hz⊢;subst hz;refine qM ?_
  iterate 1 refine xC dQ ?_
  refine zA rfl ?_;refine zB hD ((d.at779 htm).trans (congrArg some (congrArg Value.bool hu))) (xA ?_);refine CallT.mono c106 ?_;rintro _ w6 ⟨rfl,f6,n6⟩;refine⟨_,_,_,_,rfl,CallT.mono (c110 hl hH) ?_⟩;rintro _ w7 ⟨ib,pb,rfl,hi,f7,l1,l2,l3,l4⟩;refine⟨_,rfl,hJ _ ib pb _ _ _ _ _ _ _ ⟨⟨_,nQ,fun _ =>rfl,hi⟩,(f6.trans f7),⟨oQ,oQ⟩,⟨l3,l4⟩,nQ,nQ,nQ,nQ,nQ,nQ,fun _ =>rfl⟩⟩
 case ga16=>
  unfold yS g4q aQq iQq;dsimp only;refine qC hD (d.at7.trans (gQ hcb)) ?_;refine qJ (fun z' w'=>z'.1=false/\w'=w) ?_ ?_
  rotate_left
  ·intro J0 hJ0
   iterate 3 refine xC dQ ?_
   exact hJ0 _ _ ⟨rfl,rfl⟩
  rintro⟨z,⟨⟩⟩ w' ⟨hz,rfl⟩;dsimp only at hz⊢;subst hz;refine qM ?_;refine xC dQ (xC dQ ?_);refine qJ (fun z' w''=>z'.1=false/\w''=w') ?_ ?_
  rotate_left
  ·intro J0 hJ0
   iterate 3 refine xC dQ ?_
   exact hJ0 _ _ ⟨rfl,rfl⟩
  rintro⟨z,⟨⟩⟩ w' ⟨hz,rfl⟩;dsimp only at hz⊢;subst hz;refine qM ?_
  iterate 2 refine xC dQ ?_
  refine zA rfl ?_;refine CallT.mono c106 ?_;rintro _ w6 ⟨rfl,f6,n6⟩;refine⟨_,_,_,_,rfl,CallT.mono (c110 hl hH) ?_⟩;rintro _ w7 ⟨ib,pb,rfl,hi,f7,l1,l2,l3,l4⟩;refine⟨_,rfl,hJ _ ib pb _ _ _ _ _ _ _ ⟨⟨_,nQ,fun _ =>rfl,hi⟩,(f6.trans f7),⟨oQ,oQ⟩,⟨l3,l4⟩,nQ,nQ,nQ,nQ,nQ,nQ,fun _ =>rfl⟩⟩
 case tc16=>
  unfold yS g4q aQq iQq;dsimp only;refine qC hD (d.at7.trans (gQ hcb)) ?_;refine qJ (fun z' w'=>z'.1=false/\w'=w) ?_ ?_
  rotate_left
  ·intro J0 hJ0
   iterate 3 refine xC dQ ?_
   exact hJ0 _ _ ⟨rfl,rfl⟩
  rintro⟨z,⟨⟩⟩ w' ⟨hz,rfl⟩;dsimp only at hz⊢;subst hz;refine qM ?_;refine xC dQ (xC dQ ?_);refine qJ (fun z' w''=>z'.1=false/\w''=w') ?_ ?_
  rotate_left
  ·intro J0 hJ0
   iterate 3 refine xC dQ ?_
   exact hJ0 _ _ ⟨rfl,rfl⟩
  rintro⟨z,⟨⟩⟩ w' ⟨hz,rfl⟩;dsimp only at hz⊢;subst hz;refine qM ?_
  iterate 3 refine xC dQ ?_
  refine zA rfl ?_;refine zB hD ((d.at779 htm).trans (congrArg some (congrArg Value.bool hu))) (qM ?_);refine CallT.mono c106 ?_;rintro _ w6 ⟨rfl,f6,n6⟩;refine⟨_,_,_,_,rfl,CallT.mono (c112 hl hH) ?_⟩;rintro _ w7 ⟨ib,pb,rfl,hi,f7,l1,l2,l3,l4⟩;refine⟨_,rfl,hJ _ ib pb _ _ _ _ _ _ _ ⟨⟨_,nQ,fun _ =>rfl,hi⟩,(f6.trans f7),⟨oQ,oQ⟩,⟨l3,l4⟩,nQ,nQ,nQ,nQ,nQ,fun _ =>rfl,nQ⟩⟩
 case tc16t=>
  unfold yS g4q aQq iQq;dsimp only;refine qC hD (d.at7.trans (gQ hcb)) ?_;refine qJ (fun z' w'=>z'.1=false/\w'=w) ?_ ?_
  rotate_left
  ·intro J0 hJ0
   iterate 3 refine xC dQ ?_
   exact hJ0 _ _ ⟨rfl,rfl⟩
  rintro⟨z,⟨⟩⟩ w' ⟨hz,rfl⟩;dsimp only at hz⊢;subst hz;refine qM ?_;refine xC dQ (xC dQ ?_);refine qJ (fun z' w''=>z'.1=false/\w''=w') ?_ ?_
  rotate_left
  ·intro J0 hJ0
   iterate 3 refine xC dQ ?_
   exact hJ0 _ _ ⟨rfl,rfl⟩
  rintro⟨z,⟨⟩⟩ w' ⟨hz,rfl⟩;dsimp only at hz⊢;subst hz;refine qM ?_
  iterate 3 refine xC dQ ?_
  refine zA rfl ?_;refine zB hD ((d.at779 htm).trans (congrArg some (congrArg Value.bool hu))) (xA ?_);refine CallT.mono c106 ?_;rintro _ w6 ⟨rfl,f6,n6⟩;refine⟨_,_,_,_,rfl,CallT.mono (c110 hl hH) ?_⟩;rintro _ w7 ⟨ib,pb,rfl,hi,f7,l1,l2,l3,l4⟩;refine⟨_,rfl,hJ _ ib pb _ _ _ _ _ _ _ ⟨⟨_,nQ,fun _ =>rfl,hi⟩,(f6.trans f7),⟨oQ,oQ⟩,⟨l3,l4⟩,nQ,nQ,nQ,nQ,nQ,nQ,fun _ =>rfl⟩⟩
 case tca16=>
  unfold yS g4q aQq iQq;dsimp only;refine qC hD (d.at7.trans (gQ hcb)) ?_;refine qJ (fun z' w'=>z'.1=false/\w'=w) ?_ ?_
  rotate_left
  ·intro J0 hJ0
   iterate 3 refine xC dQ ?_
   exact hJ0 _ _ ⟨rfl,rfl⟩
  rintro⟨z,⟨⟩⟩ w' ⟨hz,rfl⟩;dsimp only at hz⊢;subst hz;refine qM ?_;refine xC dQ (xC dQ ?_);refine qJ (fun z' w''=>z'.1=false/\w''=w') ?_ ?_
  rotate_left
  ·intro J0 hJ0
   iterate 3 refine xC dQ ?_
   exact hJ0 _ _ ⟨rfl,rfl⟩
  rintro⟨z,⟨⟩⟩ w' ⟨hz,rfl⟩;dsimp only at hz⊢;subst hz;refine qM ?_
  iterate 4 refine xC dQ ?_
  refine zA rfl ?_;refine CallT.mono c106 ?_;rintro _ w6 ⟨rfl,f6,n6⟩;refine⟨_,_,_,_,rfl,CallT.mono (c110 hl hH) ?_⟩;rintro _ w7 ⟨ib,pb,rfl,hi,f7,l1,l2,l3,l4⟩;refine⟨_,rfl,hJ _ ib pb _ _ _ _ _ _ _ ⟨⟨_,nQ,fun _ =>rfl,hi⟩,(f6.trans f7),⟨oQ,oQ⟩,⟨l3,l4⟩,nQ,nQ,nQ,nQ,nQ,nQ,fun _ =>rfl⟩⟩
def xf:Nat ->Nat|0=>8|1=>8|2=>4|3=>4|4=>2|5=>2|_ =>1
def yf:Nat ->Nat|0=>8|1=>8|2=>8|3=>4|4=>4|5=>2|_ =>2
def xo:Nat ->Nat|0=>0|1=>4|2=>0|3=>2|4=>0|5=>1|_ =>0
def yo:Nat ->Nat|0=>0|1=>0|2=>4|3=>0|4=>2|5=>0|_ =>1
def passW(W k:Nat):Nat:=(W+xf k -1 -xo k)/xf k
def passH(H k:Nat):Nat:=(H+yf k -1 -yo k)/yf k
def qFd:List Value:=([8,8,0,0,8,8,4,0,4,8,0,4,4,4,2,0,2,4,0,2,2,2,1,0,1,2,0,1]:List Int).map (Value.int .i64)
def LaceAt(w:wQ)(n0:Nat):Prop:=∃T p c,hp w 6=Row T #[.slice (some p) 7 c]/\Has w (some p) qFd/\p.block<n0
theorem LaceAt.fr{n0:Nat}{S:List Nat}(h:LaceAt w n0)(hf:Fr S w w')(h0:6<n0)(hS:∀x∈S,n0<=x):LaceAt w' n0:=by
 obtain⟨T,p,c,h1,h2,h3⟩:=h;have no:∀b,b<n0 ->b∉S:=fun b hb hx=>by have:=hS b hx;omega
 obtain⟨e,T',arr,h4,h5⟩:=h2;exact⟨T,p,c,hf.row h1 (no _ h0),⟨e,T',arr,hf.row h4 (no _ h3),h5⟩,h3⟩
theorem zc215:zc Pg 215= #[.int .i64 0,.int .i64 0,.int .i64 0,.int .i64 0]:=by kernel_rfl
theorem qEb{W H db k n0:Nat}{d:Dec}{x3:Bool}{J:Int×Int×Unit ->World ->Prop}{R:vPq}(hD:hp w db=Row 119 d.arr)(htm:d.tmp.length=768)(hL:LaceAt w n0)(hW:1<=W/\W<=20)(hH:1<=H/\H<=20)(hk:k<7)
  (hA:d.lace≠1\/x3=true ->J ((W:Int),(H:Int),()) w)
  (hB:d.lace=1 ->x3=false ->∀w',Fr [] w w' ->hn w<=hn w' ->(passW W k=0\/passH H k=0 ->R (.tuple #[.nilIface,.nilIface]) w')/\(passW W k≠0 ->passH H k≠0 ->J ((passW W k:Nat),(passH H k:Nat),()) w')):
  eJ ⟨db,0,none⟩ (k:Int) x3 W H J R w:=by
 unfold eJ aQq wIq iQq;refine qJ (fun z w'=>w'=w/\(z.1=true ->d.lace=1/\x3=false)/\(z.1=false ->d.lace≠1\/x3=true)) ?_ ?_
 ·rintro⟨z,⟨⟩⟩ w' ⟨rfl,h1,h2⟩
  dsimp only at h1 h2⊢;refine qX (fun hz=> ?_) (fun hz=>hA (h2 hz));obtain⟨e1,e2⟩:=h1 hz;have hB':=hB e1 e2;obtain⟨T,p,c,h6,⟨esp,T',arr,h4,h5⟩,h3⟩:=hL;obtain⟨b,of,sp⟩:=p;dsimp only at esp h4 h5;subst esp;refine qK h6 rfl ⟨⟨oQ,oQ⟩,?_⟩;rw[PtrC_some,xW,Int.toNat_natCast];have e4:(⟨b,of+k*4,none⟩:Addr).off=of+k*4:=rfl;have g0:arr[of+k*4]? =some (.int .i64 (xf k)):=h5 (k*4) _ (by obtain rfl|rfl|rfl|rfl|rfl|rfl|rfl:=(by omega:k=0\/k=1\/k=2\/k=3\/k=4\/k=5\/k=6)<;>rfl);have g1:arr[of+k*4+1]? =some (.int .i64 (yf k)):=h5 (k*4+1) _ (by obtain rfl|rfl|rfl|rfl|rfl|rfl|rfl:=(by omega:k=0\/k=1\/k=2\/k=3\/k=4\/k=5\/k=6)<;>rfl);have g2:arr[of+k*4+2]? =some (.int .i64 (xo k)):=h5 (k*4+2) _ (by obtain rfl|rfl|rfl|rfl|rfl|rfl|rfl:=(by omega:k=0\/k=1\/k=2\/k=3\/k=4\/k=5\/k=6)<;>rfl);have g3:arr[of+k*4+3]? =some (.int .i64 (yo k)):=h5 (k*4+3) _ (by obtain rfl|rfl|rfl|rfl|rfl|rfl|rfl:=(by omega:k=0\/k=1\/k=2\/k=3\/k=4\/k=5\/k=6)<;>rfl);refine qC h4 g0 (qC h4 g1 (qC h4 g2 (qC h4 g3 ?_)));rw[zc215];refine qG fun w1 h1' f1 n1=> ?_;refine qD h1' sQ fun w2 h2' f2 n2=> ?_;refine qD h2' sQ fun w3 h3' f3 n3=> ?_;refine qD h3' sQ fun w4 h4' f4 n4=> ?_;refine qD h4' sQ fun w5 h5' f5 n5=> ?_;have hf:Fr [] w' w5:=f1.trans' (f2.trans (f3.trans (f4.trans f5))) (fun x hx hlt=>by simp at hx;omega);obtain⟨r1,r2⟩:=hB' w5 hf oQ;refine qC h5' rfl (qC h5' rfl (qC h5' rfl (xK ?_ (qC h5' rfl (qC h5' rfl (qC h5' rfl (xK ?_ ?_)))))))
  ·obtain rfl|rfl|rfl|rfl|rfl|rfl|rfl:=(by omega:k=0\/k=1\/k=2\/k=3\/k=4\/k=5\/k=6)<;>decide
  ·obtain rfl|rfl|rfl|rfl|rfl|rfl|rfl:=(by omega:k=0\/k=1\/k=2\/k=3\/k=4\/k=5\/k=6)<;>decide
  ·have hx:xo k<=xf k/\xf k<=8/\1<=xf k/\yo k<=yf k/\yf k<=8/\1<=yf k:=by
    obtain rfl|rfl|rfl|rfl|rfl|rfl|rfl:=(by omega:k=0\/k=1\/k=2\/k=3\/k=4\/k=5\/k=6)<;>decide
   have dv:∀(A f off:Nat),1<=A ->A<=20 ->off<=f ->f<=8 ->1<=f ->wrap .i64 (Int.tdiv (wrap .i64 (wrap .i64 (wrap .i64 ((A:Int) -(off:Int))+(f:Int)) -1)) (f:Int))=(((A+f -1 -off)/f:Nat):Int):=by
    intro A f off a1 a2 a3 a4 a5;rw[qA (n:=(A:Int) -off) oQ oQ,qA (n:=(A:Int) -off+f) oQ oQ,qA (n:=(A:Int) -off+f -1) oQ oQ,show(A:Int) -off+f -1=((A+f -1 -off:Nat):Int) by omega,vR];have:(A+f -1 -off)/f<=A+f -1 -off:=Nat.div_le_self _ _;generalize(A+f -1 -off)/f=q at this⊢;rw[qA oQ oQ]
   rw[dv W (xf k) (xo k) hW.1 hW.2 hx.1 hx.2.1 hx.2.2.1,dv H (yf k) (yo k) hH.1 hH.2 hx.2.2.2.1 hx.2.2.2.2.1 hx.2.2.2.2.2];have q1:(W+xf k -1 -xo k)/xf k=passW W k:=rfl;have q2:(H+yf k -1 -yo k)/yf k=passH H k:=rfl;rw[q1,q2];exact qW (fun e=>r1 (.inl oQ)) (fun e=>qW (fun e'=>r1 (.inr oQ)) (fun e'=>r2 oQ oQ))
 ·intro J0 hJ0
  refine qC hD (d.at778 htm) (qW (fun e=> ?_) (fun e=> ?_))
  ·refine hJ0 _ _ ⟨rfl,fun h=>⟨e,by simpa using h⟩,fun h=> .inr (by simpa using h)⟩
  ·exact hJ0 _ _ ⟨rfl,fun h=>(by cases h),fun _ => .inl e⟩
end
section
variable{w w' w0:wQ}{z:ZP}
theorem PK.lim{cb D bits bpp:Nat}{t cp:Bool}{pt IT:TypeId}(hk:PK cb D t pt IT bpp bits cp):1<=bits/\bits<=64/\1<=bpp/\bpp<=8:=by
 cases hk<;>decide
def nL(xs:bQ)(RS n:Nat):Prop:=∀i,i<n ->gb xs (i*RS)<5
def mH(z:ZP)(pre xs:bQ)(RS n:Nat):Prop:=z.t=none ->(pre++xs=z.fin/\xs.length<n*RS)\/∃i,i<n/\i*RS<xs.length/\5<=gb xs (i*RS)
theorem ERow.fail{E:Er}{e:Value}(h:ERow E e)(hE:Errs w E){x y x' y':Operand}{K:Value ->Prop}(h1:∀s,K (.iface 125 (.string s)))(s:ByteArray):
  LdV w ⟨0,0,none⟩ fun v=>kX Pg 82 x y e v w fun b=>IfC b (K (.iface 125 (.string s))) (LdV w ⟨1,0,none⟩ fun v'=>kX Pg 82 x' y' e v' w fun b'=>IfC b' (K (.iface 125 (.string s))) (K e)):=by
 obtain⟨T0,heof⟩:=hE.eof;obtain⟨T1,hune⟩:=hE.une;refine qT (n:=xP E.ea) heof rfl ?_;rcases h with rfl|rfl|⟨s',rfl,_⟩
 ·exact kN (xA (h1 s))
 ·refine lP (Ne.symm hE.ne) hE.ut hE.et (qM (qT (n:=xP E.ua) hune rfl (kN (xA (h1 s)))))
 ·exact mO dQ (qM (qT (n:=xP E.ua) hune rfl (mO dQ (qM (h1 s')))))
theorem qHr{cb D bits bpp W H RS:Nat}{t cp:Bool}{pt IT:TypeId}{pre:bQ}{ib pb:Nat}{a1 a2 a3 a4 a5 a6 a7:pQ}{w00:wQ}{R:vPq}(hk:PK cb D t pt IT bpp bits cp)(hZ:z.ZS w00 pre)(hcb:z.d.cb=(cb:Nat))(hu:z.d.useT=t)
  (hW:1<=W/\W<=20)(hH:1<=H/\H<=20)(hRS:RS=xT bits W)(hN:NewI w00 w ib pb pt IT bpp W H z.d.pal a1 a2 a3 a4 a5 a6 a7)(hz:z.ab<hn w00)
  (good:∀w' ex xs,ImgW w' ib pb IT bpp W H ex ->(IT=186 ->QP z.d.pal.a ex) ->Fr (z.S z.rb) w00 w' ->hn w<=hn w' ->z.ZS w' (pre++xs) ->xs.length=H*RS ->nL xs RS H ->R (.tuple #[.iface pt (.pointer (some ⟨ib,0,none⟩)),.nilIface]) w')
  (bad:∀w' xs s,Fr (z.S z.rb) w00 w' ->hn w00<=hn w' ->z.ZS w' (pre++xs) ->mH z pre xs RS H ->R (.tuple #[.nilIface,.iface 125 (.string s)]) w'):
  iQ ⟨z.db,0,none⟩ (.iface 244 (.pointer (some ⟨z.zb,0,none⟩))) false ((W:Int),(H:Int),()) ((bits:Int),a1,a2,a3,a4,a5,a6,a7,.iface pt (.pointer (some ⟨ib,0,none⟩)),()) R w:=by
 obtain⟨hb1,hb2,hp1,hp2⟩:=hk.lim;have ho:=hZ.ord;have hbW:bits*W<=64*20:=Nat.mul_le_mul hb2 hW.2;have hbW1:bits*1<=bits*W:=Nat.mul_le_mul_left _ hW.1;unfold iQ wIq iQq;dsimp only;have eR:wrap .i64 ((1:Int)+wrap .i64 (Int.tdiv (wrap .i64 (wrap .i64 ((bits:Int)*(W:Int))+7)) 8))=(RS:Int):=by
  have e1:(bits:Int)*(W:Int)=((bits*W:Nat):Int):=by simp
  rw[e1,qA (n:=((bits*W:Nat):Int)) oQ oQ,qA (n:=((bits*W:Nat):Int)+7) oQ oQ,show((bits*W:Nat):Int)+7=((bits*W+7:Nat):Int) by omega,show(8:Int)=((8:Nat):Int)from rfl,vR];unfold xT at hRS;rw[qA (n:=(((bits*W+7)/8:Nat):Int)) oQ oQ,qA oQ oQ];omega
 have eB:wrap .i64 (Int.tdiv (wrap .i64 ((bits:Int)+7)) 8)=(((bits+7)/8:Nat):Int):=by
  rw[qA (n:=(bits:Int)+7) oQ oQ,show(bits:Int)+7=((bits+7:Nat):Int) by omega,show(8:Int)=((8:Nat):Int)from rfl,vR,qA oQ oQ]
 have hR2:2<=RS/\RS<=200/\(bits+7)/8+1<=RS:=by unfold xT at hRS;omega
 rw[eR,eB,Int.toNat_natCast,rK];refine qM (xK dQ (xK dQ (xU (fun e=>absurd rfl e) (fun _ => ?_))));refine⟨⟨oQ,oQ,oQ,oQ⟩,qG fun w1 h1 f1 n1=>⟨⟨oQ,oQ,oQ,oQ⟩,qG fun w2 h2 f2 n2=> ?_⟩⟩;have hlo:=hN.lo;have hhi:=hN.hi;have hne:ib≠pb:=by obtain⟨ex,_,_,hi⟩:=hN.im;exact hi.ne
 generalize hr:hn w=r at*;have hr2:hn w1=r+1:=oQ;rw[hr2]at h2⊢
 let Q:List Value ->Prop:=fun ex=>(IT=186 ->QP z.d.pal.a ex)/\(IT≠186 ->ex=[])
 refine qP (fun y w'=>∃(c q i:Nat) (xs:bQ),y=(((cond cp (i*(bpp*W)) 0:Nat):Int),⟨some ⟨c,0,none⟩,RS,RS⟩,⟨some ⟨q,0,none⟩,RS,RS⟩,(i:Int),())/\i<=H/\((c=r/\q=r+1)\/(c=r+1/\q=r))/\BR w' c RS/\BR w' q RS/\(∃ex,Q ex/\ImgW w' ib pb IT bpp W H ex)/\Fr (z.S z.rb) w00 w'/\r+2<=hn w'/\z.ZS w' (pre++xs)/\xs.length=i*RS/\nL xs RS i) (fun y _ =>H -y.2.2.2.1.toNat) ?_ ?_
 ·have hf:Fr [] w00 w2:=hN.fr.trans (f1.trans f2)
  obtain⟨ex,e1,e2,hi⟩:=hN.im;refine⟨r,r+1,0,[],?_,oQ,.inl ⟨rfl,rfl⟩,BR.zero (f2.row0 h1),BR.zero h2,⟨ex,⟨e1,e2⟩,(hi.fr0 f1).fr0 f2⟩,hf.mono sQ,oQ,?_,sQ,fun i hi=>absurd hi oQ⟩
  ·cases cp<;>simp
  ·rw[List.append_nil]
   exact hZ.fr hf sQ
 ·rintro y w3 ⟨c,q,i,xs,rfl,hi,hcq,hc,hq,⟨ex,hQ,hI⟩,F,nn,hZ3,hxl,hfil⟩
  dsimp only;refine qF (fun hlt=> ?_) (fun hge=> ?_)
  rotate_left
  ·have:i=H:=oQ
   subst this;exact good _ ex xs hI hQ.1 F oQ hZ3 hxl hfil
  have hiH:i<H:=oQ;obtain⟨bs,hbl,hbr⟩:=hc;have hcr:r<=c/\r<=q/\c≠q:=oQ;refine CallT.mono (ZP.c71 hZ3 (o:=0) (n:=RS) (cap:=RS) hbr oQ oQ (by simp;omega) oQ oQ oQ) ?_;rintro v w4 ⟨F4,n4,hv⟩;have F04:Fr (z.S z.rb) w00 w4:=F.trans' F4 (fun x hx hlt=>by
   have:=ZP.S_mem hx;have hrn:=hN.fr.size;simp only[ZP.S,List.mem_cons,List.not_mem_nil,or_false];omega)
  have nS:∀b,z.ab<b ->b≠c ->b∉z.S c:=fun b h1 h2 hx=>by
   have:=ZP.S_mem hx;omega
  have hI4:ImgW w4 ib pb IT bpp W H ex:=hI.fr F4 (nS _ oQ oQ) (nS _ oQ oQ);have hq4:BR w4 q RS:=hq.fr F4 (nS _ oQ oQ);rcases hv with⟨ys,hyl,rfl,hZ4,arr',hg4,hput⟩|⟨ys,e0,e,hyl,rfl,hE,hZ4,hEnd⟩
  rotate_left
  ·refine⟨_,_,rfl,?_⟩
   obtain⟨⟨T,x,he⟩,_⟩:=hE.isE;have hbad:mH z pre (xs++ys) RS H:=fun ht=>by
    refine .inl ⟨?_,?_⟩
    ·rw[<-List.append_assoc]
     rcases hEnd with⟨h,_⟩|⟨⟨b,hb,_⟩,_⟩
     ·exact h
     ·rw[ht]at hb;cases hb
    ·have:(i+1)*RS<=H*RS:=Nat.mul_le_mul_right _ hiH
     rw[Nat.add_mul]at this;rw[List.length_append,hxl];omega
   have K:=hE.fail (w:=w4) hZ4.er (x:= .tmp 339) (y:= .tmp 340) (x':= .tmp 343) (y':= .tmp 344) (K:=fun v=>R (.tuple #[.nilIface,v]) w4) (fun s=>bad w4 (xs++ys) s F04 (by have:=hN.fr.size;omega) (by rw[<-List.append_assoc];exact hZ4) hbad);have key:∀(K':Bool ->Prop),K' false ->xR e K':=fun K' h=>by rw[he];exact yA h
   refine key _ ?_;exact K _
  ·refine⟨_,_,rfl,qR (qM ⟨⟨dQ,oQ⟩,⟨dQ,oQ⟩,?_⟩)⟩
   have harr:arr'=(bv ys).toArray:=by
    obtain⟨hs,hj⟩:=hput;apply Array.ext_getElem?;intro j;rw[hj j,bv_length,List.getElem?_toArray]
    split
    ·rw[Nat.sub_zero,List.getElem?_toArray]
    ·rw[List.getElem?_toArray,List.getElem?_eq_none (by rw[bv_length];omega),List.getElem?_eq_none (by rw[bv_length];omega)]
   subst harr;have g0:gb (xs++ys) (i*RS)=gb ys 0:=by
    have:=vB xs ys 0;rw[hxl]at this;exact this
   refine qJ (fun _ w'=>gb ys 0<5/\BR w' c RS/\Fr [c] w4 w'/\hn w'=hn w4) ?_ ?_
   ·rintro⟨⟩ w5 ⟨hfl,hc5,F5,n5⟩
    have hI5:=hI4.fr F5 (by simp;omega) (by simp;omega);have hq5:=hq4.fr F5 (by simp;omega);have hZ5:=hZ4.fr F5 (by simp;omega);obtain⟨dd,crc,rs,⟨tmp,idat,hdd⟩,hdst⟩:=hZ5.dw;have hmul:bpp*W<=8*20:=Nat.mul_le_mul hp2 hW.2;refine qHw (d:=dd) (po:=cond cp (i*(bpp*W)) 0) (Q:=Q) (pb:=pb) hk hdst.dec hdst.htmp hdst.htr (by rw[hdd];exact hcb) (by rw[hdd];exact hu) rfl hW.2 hH.2 hiH hRS ⟨hc5,⟨ex,hQ,hI5⟩,Fr.refl _ _,Nat.le_refl _,oQ,oQ⟩ (fun e=>⟨z.d.pal.a,by funext ex;simp[Q,e]⟩) (fun h=>by rw[h];rfl) hN.s173 hN.s177 hN.s186 hN.s181 hN.s175 hN.s179 hN.s183 hW.1 ?_;intro w6 h6;have ei:wrap .i64 ((i:Int)+1)=((i+1:Nat):Int):=by rw[qA oQ oQ];omega
    have ep:cond cp (i*(bpp*W)) 0+cond cp (bpp*W) 0=cond cp ((i+1)*(bpp*W)) 0:=by cases cp<;>simp[Nat.add_mul]
    rw[ei,ep];have hZ6:z.ZS w6 (pre++(xs++ys)):=by
     rw[<-List.append_assoc];exact hZ5.fr h6.fr (by simp;omega)
    have F06:Fr (z.S z.rb) w00 w6:=(F04.trans' F5 (fun x hx hlt=>by simp at hx;have:=hN.fr.size;omega)).trans' h6.fr (fun x hx hlt=>by simp at hx;omega);have n6:=h6.nn;have:=hN.fr.size;refine⟨⟨q,c,i+1,xs++ys,rfl,oQ,oQ,hq5.fr h6.fr (by simp;omega),h6.cr,h6.im,F06,oQ,hZ6,by rw[List.length_append,hxl,hyl,Nat.add_mul];omega,?_⟩,?_⟩
    ·intro k hk'
     rcases Nat.lt_or_ge k i with hki|hki
     ·rw[yL (by rw[hxl];exact Nat.mul_lt_mul_of_pos_right hki oQ)]
      exact hfil k hki
     ·obtain rfl:k=i:=oQ
      rw[g0];exact hfl
    ·show H -((i+1:Nat):Int).toNat<H -(i:Int).toNat
     omega
   ·intro J hJ
    refine flt_ok (bp:=(bits+7)/8) hg4 hyl hq4 hcr.2.2 ⟨hR2.1,oQ⟩ rfl oQ hR2.2.2 (fun h5 w5 hb5 f5 n5=>hJ _ _ ⟨h5,hb5,f5,n5⟩) (fun h5 s=> ?_);refine bad w4 (xs++ys) s F04 (by have:=hN.fr.size;omega) (by rw[<-List.append_assoc];exact hZ4) (fun _ => .inr ⟨i,hiH,?_,by rw[g0];exact h5⟩);rw[List.length_append,hxl];omega
structure Hd (d:Dec) (cb D W H:Nat) (t:Bool) (IT:TypeId):Prop where
 W_ :d.W=(W:Nat)
 H_ :d.H=(H:Nat)
 D_ :d.D=(D:Nat)
 cb_ :d.cb=(cb:Nat)
 u_ :d.useT=t
 pal:IT=186 ->d.pal.cap=256/\d.pal.len<=256
 lW:1<=W/\W<=20
 lH:1<=H/\H<=20
theorem Hd.same{d d':Dec}{cb D W H:Nat}{t:Bool}{IT:TypeId}(h:Hd d cb D W H t IT)(hs:SameD d d'):Hd d' cb D W H t IT:=by
 obtain⟨a,b,rfl⟩:=hs;exact⟨h.W_,h.H_,h.D_,h.cb_,h.u_,h.pal,h.lW,h.lH⟩
theorem qBi{W k:Nat}(hW:1<=W/\W<=20):passW W k<=20/\passH W k<=20:=by
 have d:∀n f:Nat,n/f<=n:=fun n f=>Nat.div_le_self _ _;unfold passW passH;have h1:∀f o:Nat,1<=f ->f<=8 ->(W+f -1 -o)/f<=20:=by
  intro f o a b;have:(W+f -1 -o)/f<=(W*f)/f:=Nat.div_le_div_right (by
   have:W*f=(W -1)*f+f:=by rw[<-Nat.succ_mul];congr 1;omega
   have:(W -1)*1<=(W -1)*f:=Nat.mul_le_mul_left _ a;omega)
  rw[Nat.mul_div_cancel _ oQ]at this;omega
 constructor
 ·refine h1 _ _ ?_ ?_ <;>(unfold xf;split<;>decide)
 ·refine h1 _ _ ?_ ?_ <;>(unfold yf;split<;>decide)
def qAe(z:ZP)(w:wQ)(pre:bQ)(pt IT:TypeId)(bpp bits Wp Hp:Nat)(v:Value)(w':wQ):Prop:=Fr (z.S z.rb) w w'/\hn w<=hn w'/\
   (((Wp=0\/Hp=0)/\v= .tuple #[.nilIface,.nilIface]/\z.ZS w' pre)\/
    (1<=Wp/\1<=Hp/\((∃ib pb ex xs,v= .tuple #[.iface pt (.pointer (some ⟨ib,0,none⟩)),.nilIface]/\ImgW w' ib pb IT bpp Wp Hp ex/\(IT=186 ->QP z.d.pal.a ex)/\hn w<=ib/\hn w<=pb/\ib<hn w'/\pb<hn w'/\z.ZS w' (pre++xs)/\xs.length=Hp*xT bits Wp/\nL xs (xT bits Wp) Hp)\/
     (∃xs s,v= .tuple #[.nilIface,.iface 125 (.string s)]/\z.ZS w' (pre++xs)/\mH z pre xs (xT bits Wp) Hp))))
def qDe(w:wQ)(pal:Sl)(pt IT:TypeId)(bpp W H:Nat)(v:Value)(w':wQ):Prop:=Fr [] w w'/\hn w<=hn w'/\∃ib pb ex,v= .tuple #[.iface pt (.pointer (some ⟨ib,0,none⟩)),.nilIface]/\ImgW w' ib pb IT bpp W H ex/\(IT=186 ->QP pal.a ex)/\hn w<=ib/\hn w<=pb/\ib<hn w'/\pb<hn w'
theorem ZP.c102{cb D bits bpp W H k Wp Hp:Nat}{t cp:Bool}{pt IT:TypeId}{pre:bQ}(hk:PK cb D t pt IT bpp bits cp)(h:z.ZS w pre)(hL:LaceAt w z.E.n0)(hd:Hd z.d cb D W H t IT)(hk7:k<7)(hz:z.ab<hn w)
  (hp:(z.d.lace≠1/\Wp=W/\Hp=H)\/(z.d.lace=1/\Wp=passW W k/\Hp=passH H k)):
  CallT Pg 102 #[.pointer (some ⟨z.db,0,none⟩),.iface 244 (.pointer (some ⟨z.zb,0,none⟩)),.int .i64 (k:Int),.bool false] w (qAe z w pre pt IT bpp bits Wp Hp):=by
 suffices key:∀R:vPq,(∀v w',qAe z w pre pt IT bpp bits Wp Hp v w' ->R v w') ->wp102 ⟨z.db,0,none⟩ (.iface 244 (.pointer (some ⟨z.zb,0,none⟩))) (k:Int) false R w from call102 (key _ fun _ _ h=>h)
 intro R hR;unfold wp102 aQq;refine qE fun w1 f1 n1=> ?_;have hZ1:=h.fr f1 sQ;obtain⟨dd,crc,rs,hs,hdst⟩:=hZ1.dw;have hd1:=hd.same hs;have hlace:dd.lace=z.d.lace:=by obtain⟨a,b,rfl⟩:=hs;rfl
 have hpl:dd.pal=z.d.pal:=by obtain⟨a,b,rfl⟩:=hs;rfl
 refine qC hdst.dec (dd.at3.trans (gQ hd1.W_)) (qC hdst.dec (dd.at4.trans (gQ hd1.H_)) ?_);refine qJ (fun z4 w5=>z4=((Wp:Int),(Hp:Int),())/\1<=Wp/\1<=Hp/\Wp<=20/\Hp<=20/\Fr [] w w5/\hn w<=hn w5) ?_ ?_
 ·rintro _ w5 ⟨rfl,hW1,hH1,hW2,hH2,F5,n5⟩
  have hZ5:=h.fr F5 sQ;obtain⟨dd,crc,rs,hs,hdst⟩:=hZ5.dw;have hd5:=hd.same hs;have hpl:dd.pal=z.d.pal:=by obtain⟨a,b,rfl⟩:=hs;rfl
  refine qJ (fun z7 w8=>∃ib pb a1 a2 a3 a4 a5 a6 a7,z7=((bits:Int),a1,a2,a3,a4,a5,a6,a7,.iface pt (.pointer (some ⟨ib,0,none⟩)),())/\NewI w5 w8 ib pb pt IT bpp Wp Hp z.d.pal a1 a2 a3 a4 a5 a6 a7) ?_ ?_
  ·rintro _ w8 ⟨ib,pb,a1,a2,a3,a4,a5,a6,a7,rfl,hN⟩
   have hlo:=hN.lo;have hhi:=hN.hi;have hfs:=hN.fr.size;refine qHr (R:=R) hk hZ5 hd.cb_ hd.u_ ⟨hW1,hW2⟩ ⟨hH1,hH2⟩ rfl hN oQ ?_ ?_
   ·intro w' ex xs hi hq F nn hZ hl hfil
    exact hR _ _ ⟨F5.mono sQ|>.trans F,oQ,.inr ⟨hW1,hH1,.inl ⟨ib,pb,ex,xs,rfl,hi,hq,oQ,oQ,oQ,oQ,hZ,hl,hfil⟩⟩⟩
   ·intro w' xs s F nn hZ hbad
    exact hR _ _ ⟨F5.mono sQ|>.trans F,oQ,.inr ⟨hW1,hH1,.inr ⟨xs,s,rfl,hZ,hbad⟩⟩⟩
  ·intro J hJ
   refine qDl (J:=J) hk hdst.dec hdst.htmp hd5.cb_ hd5.u_ hd5.D_ (by rw[hpl];exact hd.pal) hW2 hH2 fun w' ib pb a1 a2 a3 a4 a5 a6 a7 hN=>hJ _ _ ⟨ib,pb,a1,a2,a3,a4,a5,a6,a7,rfl,by rw[hpl]at hN;exact hN⟩
 ·intro J hJ
  have hlow:=h.er.low;refine qEb (R:=R) (J:=J) (n0:=z.E.n0) hdst.dec hdst.htmp (hL.fr f1 oQ sQ) hd.lW hd.lH hk7 (fun hA=> ?_) (fun hB _ w2 f2 n2=>⟨fun h0=> ?_,fun a b=> ?_⟩)
  ·rcases hp with⟨_,rfl,rfl⟩|⟨e,_,_⟩
   ·exact hJ _ _ ⟨rfl,hd.lW.1,hd.lH.1,hd.lW.2,hd.lH.2,f1,oQ⟩
   ·rcases hA with hA|hA
    ·exact absurd (hlace.trans e) hA
    ·cases hA
  ·rcases hp with⟨e,_,_⟩|⟨e,rfl,rfl⟩
   ·exact absurd (hlace.symm.trans hB) e
   ·exact hR _ _ ⟨(f1.trans f2).mono sQ,oQ,.inl ⟨h0,rfl,h.fr (f1.trans f2) sQ⟩⟩
  ·rcases hp with⟨e,_,_⟩|⟨e,rfl,rfl⟩
   ·exact absurd (hlace.symm.trans hB) e
   ·exact hJ _ _ ⟨rfl,oQ,oQ,(qBi hd.lW).1,(qBi hd.lH).2,f1.trans f2,oQ⟩
theorem ZP.c102a{cb D bits bpp W H:Nat}{t cp:Bool}{pt IT:TypeId}{pre:bQ}(hk:PK cb D t pt IT bpp bits cp)(h:z.ZS w pre)(hL:LaceAt w z.E.n0)(hd:Hd z.d cb D W H t IT):
  CallT Pg 102 #[.pointer (some ⟨z.db,0,none⟩),.nilIface,.int .i64 (0:Int),.bool true] w (qDe w z.d.pal pt IT bpp W H):=by
 suffices key:∀R:vPq,(∀v w',qDe w z.d.pal pt IT bpp W H v w' ->R v w') ->wp102 ⟨z.db,0,none⟩ .nilIface (0:Int) true R w from call102 (key _ fun _ _ h=>h)
 intro R hR;unfold wp102 aQq;refine qE fun w1 f1 n1=> ?_;have hZ1:=h.fr f1 sQ;obtain⟨dd,crc,rs,hs,hdst⟩:=hZ1.dw;have hd1:=hd.same hs;have hpl:dd.pal=z.d.pal:=by obtain⟨a,b,rfl⟩:=hs;rfl
 refine qC hdst.dec (dd.at3.trans (gQ hd1.W_)) (qC hdst.dec (dd.at4.trans (gQ hd1.H_)) ?_);refine qJ (fun z4 w5=>z4=((W:Int),(H:Int),())/\w5=w1) ?_ ?_
 ·rintro _ w5 ⟨rfl,rfl⟩
  refine qJ (fun z7 w8=>∃ib pb a1 a2 a3 a4 a5 a6 a7,z7=((bits:Int),a1,a2,a3,a4,a5,a6,a7,.iface pt (.pointer (some ⟨ib,0,none⟩)),())/\NewI w5 w8 ib pb pt IT bpp W H z.d.pal a1 a2 a3 a4 a5 a6 a7) ?_ ?_
  ·rintro _ w8 ⟨ib,pb,a1,a2,a3,a4,a5,a6,a7,rfl,hN⟩
   have hlo:=hN.lo;have hhi:=hN.hi;have hfs:=hN.fr.size;obtain⟨ex,hq,_,hi⟩:=hN.im;exact xA (hR _ _ ⟨f1.trans hN.fr,oQ,ib,pb,ex,rfl,hi,hq,oQ,oQ,oQ,oQ⟩)
  ·intro J hJ
   refine qDl (J:=J) hk hdst.dec hdst.htmp hd1.cb_ hd1.u_ hd1.D_ (by rw[hpl];exact hd.pal) hd.lW.2 hd.lH.2 fun w' ib pb a1 a2 a3 a4 a5 a6 a7 hN=>hJ _ _ ⟨ib,pb,a1,a2,a3,a4,a5,a6,a7,rfl,by rw[hpl]at hN;exact hN⟩
 ·intro J hJ
  have hlow:=h.er.low;exact qEb (R:=R) (J:=J) (k:=0) (n0:=z.E.n0) hdst.dec hdst.htmp (hL.fr f1 oQ sQ) hd.lW hd.lH dQ (fun _ =>hJ _ _ ⟨rfl,rfl⟩) (fun _ hB=>by cases hB)
end
end Go.Proofs
