/- Steps of the proofs: contracts of the functions, for all their arguments that meet what each names -/
import Derived.Defers
import Derived.LaidEql
import Derived.Stop.Asserts
import Derived.WalkKit
import Derived.Laws.StructEq
import Derived.ChangeKeysEq
import Derived.Test.YtklagmhonmbdgaaGreatDoorK3
set_option maxRecDepth 1000000
set_option linter.unusedVariables false
set_option linter.unusedSimpArgs false
set_option maxHeartbeats 4000000
namespace Go.Proofs
open Go Go.V
open Go.IntKind (wrap)
def wp103(x0:Addr)(x1:Value)(x2:Value)(x3:Int)(R:vPq)(w:wQ):Prop:=qS w ⟨6,0,none⟩ fun aw ax jn=>And (0<=x3/\x3<(ax:Int)) (qN aw fun k=>LdI w (qH k x3.toNat 4) .i64 fun ay=>LdI w ⟨(qH k x3.toNat 4).block,(qH k x3.toNat 4).off+1,none⟩ .i64 fun az=>LdI w ⟨(qH k x3.toNat 4).block,(qH k x3.toNat 4).off+2,none⟩ .i64 fun ba=>LdI w ⟨(qH k x3.toNat 4).block,(qH k x3.toNat 4).off+3,none⟩ .i64 fun bb=>qL w (.cells (zc Pg 215) 215) fun h bc=>qB bc ⟨h,0,none⟩ (iQq ay) fun bd=>qB bd ⟨h,0+1,none⟩ (iQq az) fun be=>qB be ⟨h,0+2,none⟩ (iQq ba) fun bf=>qB bf ⟨h,0+3,none⟩ (iQq bb) fun bg=>qL bg (.cells (zc Pg 171) 171) fun b c=>xH (fun(d:(Sl×Sl×Int×Int×Unit)) (bh:wQ)=>vG Pg Gg bh x2 "Bounds" [] fun bi bj=>∃Z aa ab ac,And (bi=g4q Z aa ab ac) (qL bj (.cells (zc Pg 171) 171) fun i bk=>qB bk ⟨i,0,none⟩ (iQq Z) fun bl=>qB bl ⟨i,0+1,none⟩ (iQq aa) fun bm=>qB bm ⟨i,0+2,none⟩ (iQq ab) fun bn=>qB bn ⟨i,0+3,none⟩ (iQq ac) fun ad=>LdI ad ⟨i,0+1,none⟩ .i64 fun bo=>xB (fun(bp:(Int×Int×Unit) ->World ->Prop)=>bp (0,bo,()) ad) (fun j g bq=>LdI g ⟨i,0+2+1,none⟩ .i64 fun br=>IfC (decide (j.2.1<br)) (LdI g ⟨h,0+1,none⟩ .i64 fun G=>LdI g ⟨h,0+3,none⟩ .i64 fun H=>LdI g ⟨b,0+1,none⟩ .i64 fun I=>LdI g ⟨h,0+2,none⟩ .i64 fun J=>LdI g ⟨b,0,none⟩ .i64 fun K=>LdI g ⟨i,0,none⟩ .i64 fun bs=>xB (fun(bt:(Int×Int×Unit) ->World ->Prop)=>bt (j.1,bs,()) g) (fun e N bu=>LdI N ⟨i,0+2,none⟩ .i64 fun bv=>IfC (decide (e.2.1<bv)) (LdI N ⟨h,0,none⟩ .i64 fun L=>qO N fun bw=>And (0<=wIq ((wIq ((wIq ((wIq ((wIq ((wIq (j.2.1*G))+H)) -I))*d.2.2.1))+(wIq ((wIq (J -K))*d.2.2.2.1))))+(wIq ((wIq (e.2.1*L))*d.2.2.2.1)))/\wIq ((wIq ((wIq ((wIq ((wIq ((wIq (j.2.1*G))+H)) -I))*d.2.2.1))+(wIq ((wIq (J -K))*d.2.2.2.1))))+(wIq ((wIq (e.2.1*L))*d.2.2.2.1)))<=(d.2.1.len:Int)) (And (0<=wIq (e.1+d.2.2.2.1)/\wIq (e.1+d.2.2.2.1)<=(d.1.cap:Int)) (And (0<=e.1/\e.1<=wIq (e.1+d.2.2.2.1)) (jQ Pg bw #[33,33] 3 (.slice (qQ d.2.1.a d.2.1.cap ((wIq ((wIq ((wIq ((wIq ((wIq ((wIq (j.2.1*G))+H)) -I))*d.2.2.1))+(wIq ((wIq (J -K))*d.2.2.2.1))))+(wIq ((wIq (e.2.1*L))*d.2.2.2.1)))).toNat) 1) (d.2.1.len -((wIq ((wIq ((wIq ((wIq ((wIq ((wIq (j.2.1*G))+H)) -I))*d.2.2.1))+(wIq ((wIq (J -K))*d.2.2.2.1))))+(wIq ((wIq (e.2.1*L))*d.2.2.2.1)))).toNat)) (d.2.1.cap -((wIq ((wIq ((wIq ((wIq ((wIq ((wIq (j.2.1*G))+H)) -I))*d.2.2.1))+(wIq ((wIq (J -K))*d.2.2.2.1))))+(wIq ((wIq (e.2.1*L))*d.2.2.2.1)))).toNat))) (.slice (qQ d.1.a d.1.cap e.1.toNat 1) (((wIq (e.1+d.2.2.2.1)).toNat) -e.1.toNat) (d.1.cap -e.1.toNat)) fun jo bx=>bu (wIq (e.1+d.2.2.2.1),wIq (e.2.1+1),()) bx)))) (bq (e.1,wIq (j.2.1+1),()) N))) (R (.tuple #[]) g)))) (fun f=>TA Pg c x1 115 239 true fun bz ca=>∃O,And (bz= .pointer O) (IfC ca (TA Pg c x2 115 239 false fun cb jp=>∃ae,And (cb= .pointer ae) (qN ae fun cc=>qS c cc fun cd ce cf=>qO c fun l=>qN O fun cg=>qS l cg fun ch ci cj=>qN O fun ck=>LdI l (aQq ck 1) .i64 fun cl=>qN O fun m=>LdI l (aQq m 2) .i64 fun cm=>LdI l ⟨m.block,m.off+2+1,none⟩ .i64 fun cn=>LdI l ⟨m.block,m.off+2+2,none⟩ .i64 fun co=>LdI l ⟨m.block,m.off+2+3,none⟩ .i64 fun cp=>qB l ⟨b,0,none⟩ (iQq cm) fun cq=>qB cq ⟨b,0+1,none⟩ (iQq cn) fun cr=>qB cr ⟨b,0+2,none⟩ (iQq co) fun cs=>qB cs ⟨b,0+3,none⟩ (iQq cp) fun ct=>f ((⟨cd,ce,cf⟩:Sl),(⟨ch,ci,cj⟩:Sl),cl,(1:Int),()) ct)) (TA Pg c x1 115 241 true fun cu cv=>∃P,And (cu= .pointer P) (IfC cv (TA Pg c x2 115 241 false fun cw jq=>∃af,And (cw= .pointer af) (qN af fun cx=>qS c cx fun cy cz da=>qO c fun n=>qN P fun db=>qS n db fun dc dd de=>qN P fun df=>LdI n (aQq df 1) .i64 fun dg=>qN P fun o=>LdI n (aQq o 2) .i64 fun dh=>LdI n ⟨o.block,o.off+2+1,none⟩ .i64 fun di=>LdI n ⟨o.block,o.off+2+2,none⟩ .i64 fun dj=>LdI n ⟨o.block,o.off+2+3,none⟩ .i64 fun dk=>qB n ⟨b,0,none⟩ (iQq dh) fun dl=>qB dl ⟨b,0+1,none⟩ (iQq di) fun dm=>qB dm ⟨b,0+2,none⟩ (iQq dj) fun dn=>qB dn ⟨b,0+3,none⟩ (iQq dk) fun dp=>f ((⟨cy,cz,da⟩:Sl),(⟨dc,dd,de⟩:Sl),dg,(2:Int),()) dp)) (TA Pg c x1 115 166 true fun dq dr=>∃Q,And (dq= .pointer Q) (IfC dr (TA Pg c x2 115 166 false fun ds jr=>∃ag,And (ds= .pointer ag) (qN ag fun dt=>qS c dt fun du dv dw=>qO c fun p=>qN Q fun dx=>qS p dx fun dy dz ea=>qN Q fun eb=>LdI p (aQq eb 1) .i64 fun ec=>qN Q fun q=>LdI p (aQq q 2) .i64 fun ed=>LdI p ⟨q.block,q.off+2+1,none⟩ .i64 fun ee=>LdI p ⟨q.block,q.off+2+2,none⟩ .i64 fun ef=>LdI p ⟨q.block,q.off+2+3,none⟩ .i64 fun eg=>qB p ⟨b,0,none⟩ (iQq ed) fun eh=>qB eh ⟨b,0+1,none⟩ (iQq ee) fun ei=>qB ei ⟨b,0+2,none⟩ (iQq ef) fun ej=>qB ej ⟨b,0+3,none⟩ (iQq eg) fun ek=>f ((⟨du,dv,dw⟩:Sl),(⟨dy,dz,ea⟩:Sl),ec,(1:Int),()) ek)) (TA Pg c x1 115 174 true fun el em=>∃S,And (el= .pointer S) (IfC em (TA Pg c x2 115 174 false fun en js=>∃ah,And (en= .pointer ah) (qN ah fun eo=>qS c eo fun ep eq er=>qO c fun r=>qN S fun es=>qS r es fun et eu ev=>qN S fun ew=>LdI r (aQq ew 1) .i64 fun ex=>qN S fun s=>LdI r (aQq s 2) .i64 fun ey=>LdI r ⟨s.block,s.off+2+1,none⟩ .i64 fun ez=>LdI r ⟨s.block,s.off+2+2,none⟩ .i64 fun fa=>LdI r ⟨s.block,s.off+2+3,none⟩ .i64 fun fb=>qB r ⟨b,0,none⟩ (iQq ey) fun fc=>qB fc ⟨b,0+1,none⟩ (iQq ez) fun fd=>qB fd ⟨b,0+2,none⟩ (iQq fa) fun fe=>qB fe ⟨b,0+3,none⟩ (iQq fb) fun ff=>f ((⟨ep,eq,er⟩:Sl),(⟨et,eu,ev⟩:Sl),ex,(2:Int),()) ff)) (TA Pg c x1 115 180 true fun fg fh=>∃T,And (fg= .pointer T) (IfC fh (TA Pg c x2 115 180 false fun fi jt=>∃ai,And (fi= .pointer ai) (qN ai fun fj=>qS c fj fun fk fl fm=>qO c fun t=>qN T fun fn=>qS t fn fun fo fp fq=>qN T fun fr=>LdI t (aQq fr 1) .i64 fun fs=>qN T fun u=>LdI t (aQq u 2) .i64 fun ft=>LdI t ⟨u.block,u.off+2+1,none⟩ .i64 fun fu=>LdI t ⟨u.block,u.off+2+2,none⟩ .i64 fun fv=>LdI t ⟨u.block,u.off+2+3,none⟩ .i64 fun fw=>qB t ⟨b,0,none⟩ (iQq ft) fun fx=>qB fx ⟨b,0+1,none⟩ (iQq fu) fun fy=>qB fy ⟨b,0+2,none⟩ (iQq fv) fun fz=>qB fz ⟨b,0+3,none⟩ (iQq fw) fun ga=>f ((⟨fk,fl,fm⟩:Sl),(⟨fo,fp,fq⟩:Sl),fs,(4:Int),()) ga)) (TA Pg c x1 115 182 true fun gb gc=>∃U,And (gb= .pointer U) (IfC gc (TA Pg c x2 115 182 false fun gd ju=>∃aj,And (gd= .pointer aj) (qN aj fun ge=>qS c ge fun gf gg gh=>qO c fun v=>qN U fun gi=>qS v gi fun gj gk gl=>qN U fun gm=>LdI v (aQq gm 1) .i64 fun gn=>qN U fun y=>LdI v (aQq y 2) .i64 fun go=>LdI v ⟨y.block,y.off+2+1,none⟩ .i64 fun gp=>LdI v ⟨y.block,y.off+2+2,none⟩ .i64 fun gq=>LdI v ⟨y.block,y.off+2+3,none⟩ .i64 fun gr=>qB v ⟨b,0,none⟩ (iQq go) fun gs=>qB gs ⟨b,0+1,none⟩ (iQq gp) fun gt=>qB gt ⟨b,0+2,none⟩ (iQq gq) fun gu=>qB gu ⟨b,0+3,none⟩ (iQq gr) fun gv=>f ((⟨gf,gg,gh⟩:Sl),(⟨gj,gk,gl⟩:Sl),gn,(8:Int),()) gv)) (TA Pg c x1 115 184 true fun gw gx=>∃F,And (gw= .pointer F) (IfC gx (TA Pg c x2 115 184 false fun gy jv=>∃V,And (gy= .pointer V) (qN V fun gz=>qS c gz fun ak al am=>qO c fun z=>qN F fun ha=>qS z ha fun ao ap aq=>qN F fun hb=>LdI z (aQq hb 1) .i64 fun ar=>qN F fun A=>LdI z (aQq A 2) .i64 fun hc=>LdI z ⟨A.block,A.off+2+1,none⟩ .i64 fun hd=>LdI z ⟨A.block,A.off+2+2,none⟩ .i64 fun he=>LdI z ⟨A.block,A.off+2+3,none⟩ .i64 fun hf=>qB z ⟨b,0,none⟩ (iQq hc) fun hg=>qB hg ⟨b,0+1,none⟩ (iQq hd) fun hh=>qB hh ⟨b,0+2,none⟩ (iQq he) fun hi=>qB hi ⟨b,0+3,none⟩ (iQq hf) fun hj=>qO hj fun M=>qN F fun hk=>qS M (aQq hk 6) fun jw hl jx=>qN V fun hm=>qS M (aQq hm 6) fun jy hn jz=>IfC (decide ((hl:Int)<(hn:Int))) (qN V fun ho=>qS M (aQq ho 6) fun hp hq hr=>qN F fun hs=>qB M (aQq hs 6) (.slice hp hq hr) fun ht=>f ((⟨ak,al,am⟩:Sl),(⟨ao,ap,aq⟩:Sl),ar,(1:Int),()) ht) (f ((⟨ak,al,am⟩:Sl),(⟨ao,ap,aq⟩:Sl),ar,(1:Int),()) M))) (TA Pg c x1 115 176 true fun hu hv=>∃X,And (hu= .pointer X) (IfC hv (TA Pg c x2 115 176 false fun hw ka=>∃au,And (hw= .pointer au) (qN au fun hx=>qS c hx fun hy hz ia=>qO c fun B=>qN X fun ib=>qS B ib fun ic id ie=>qN X fun ig=>LdI B (aQq ig 1) .i64 fun ih=>qN X fun C=>LdI B (aQq C 2) .i64 fun ii=>LdI B ⟨C.block,C.off+2+1,none⟩ .i64 fun ij=>LdI B ⟨C.block,C.off+2+2,none⟩ .i64 fun ik=>LdI B ⟨C.block,C.off+2+3,none⟩ .i64 fun il=>qB B ⟨b,0,none⟩ (iQq ii) fun im=>qB im ⟨b,0+1,none⟩ (iQq ij) fun io=>qB io ⟨b,0+2,none⟩ (iQq ik) fun ip=>qB ip ⟨b,0+3,none⟩ (iQq il) fun iq=>f ((⟨hy,hz,ia⟩:Sl),(⟨ic,id,ie⟩:Sl),ih,(4:Int),()) iq)) (TA Pg c x1 115 178 true fun ir it=>∃Y,And (ir= .pointer Y) (IfC it (TA Pg c x2 115 178 false fun iu kb=>∃av,And (iu= .pointer av) (qN av fun iv=>qS c iv fun iw ix iy=>qO c fun D=>qN Y fun iz=>qS D iz fun ja jb jc=>qN Y fun jd=>LdI D (aQq jd 1) .i64 fun je=>qN Y fun E=>LdI D (aQq E 2) .i64 fun jf=>LdI D ⟨E.block,E.off+2+1,none⟩ .i64 fun jg=>LdI D ⟨E.block,E.off+2+2,none⟩ .i64 fun jh=>LdI D ⟨E.block,E.off+2+3,none⟩ .i64 fun ji=>qB D ⟨b,0,none⟩ (iQq jf) fun jj=>qB jj ⟨b,0+1,none⟩ (iQq jg) fun jk=>qB jk ⟨b,0+2,none⟩ (iQq jh) fun jl=>qB jl ⟨b,0+3,none⟩ (iQq ji) fun jm=>f ((⟨iw,ix,iy⟩:Sl),(⟨ja,jb,jc⟩:Sl),je,(8:Int),()) jm)) (f ((⟨none,0,0⟩:Sl),(⟨none,0,0⟩:Sl),(0:Int),(0:Int),()) c))))))))))))))))))))
theorem call103{x0:Addr}{x1:Value}{x2:Value}{x3:Int}{R:vPq}{w:wQ}(h:wp103 x0 x1 x2 x3 R w):CallT Pg 103 #[.pointer (some x0),x1,x2,.int .i64 x3] w R:=cVq [(12,[(9,.sl),(10,.sl),(11,.i .i64),(13,.i .i64)],[2,8,12]),(120,[(24,.i .i64),(26,.i .i64)],[8,9,10,11,12,13,25]),(134,[(24,.i .i64),(28,.i .i64)],[8,9,10,11,12,13,25,26,27])] Tryz.func103 h
def wp202(x0:Addr)(R:vPq)(w:wQ):Prop:=qL w (.cells (zc Pg 171) 171) fun a b=>LdI b (aQq x0 2) .i64 fun d=>LdI b ⟨x0.block,x0.off+2+1,none⟩ .i64 fun e=>LdI b ⟨x0.block,x0.off+2+2,none⟩ .i64 fun f=>LdI b ⟨x0.block,x0.off+2+3,none⟩ .i64 fun g=>qB b ⟨a,0,none⟩ (iQq d) fun h=>qB h ⟨a,0+1,none⟩ (iQq e) fun i=>qB i ⟨a,0+2,none⟩ (iQq f) fun j=>qB j ⟨a,0+3,none⟩ (iQq g) fun c=>l4q c a fun k l m n=>R (g4q k l m n) c
theorem call202{x0:Addr}{R:vPq}{w:wQ}(h:wp202 x0 R w):CallT Pg 202 #[.pointer (some x0)] w R:=cVq [] Tryz.func202 h
def wp209(x0:Addr)(R:vPq)(w:wQ):Prop:=qL w (.cells (zc Pg 171) 171) fun a b=>LdI b (aQq x0 2) .i64 fun d=>LdI b ⟨x0.block,x0.off+2+1,none⟩ .i64 fun e=>LdI b ⟨x0.block,x0.off+2+2,none⟩ .i64 fun f=>LdI b ⟨x0.block,x0.off+2+3,none⟩ .i64 fun g=>qB b ⟨a,0,none⟩ (iQq d) fun h=>qB h ⟨a,0+1,none⟩ (iQq e) fun i=>qB i ⟨a,0+2,none⟩ (iQq f) fun j=>qB j ⟨a,0+3,none⟩ (iQq g) fun c=>l4q c a fun k l m n=>R (g4q k l m n) c
theorem call209{x0:Addr}{R:vPq}{w:wQ}(h:wp209 x0 R w):CallT Pg 209 #[.pointer (some x0)] w R:=cVq [] Tryz.func209 h
def wp212(x0:Addr)(R:vPq)(w:wQ):Prop:=qL w (.cells (zc Pg 171) 171) fun a b=>LdI b (aQq x0 2) .i64 fun d=>LdI b ⟨x0.block,x0.off+2+1,none⟩ .i64 fun e=>LdI b ⟨x0.block,x0.off+2+2,none⟩ .i64 fun f=>LdI b ⟨x0.block,x0.off+2+3,none⟩ .i64 fun g=>qB b ⟨a,0,none⟩ (iQq d) fun h=>qB h ⟨a,0+1,none⟩ (iQq e) fun i=>qB i ⟨a,0+2,none⟩ (iQq f) fun j=>qB j ⟨a,0+3,none⟩ (iQq g) fun c=>l4q c a fun k l m n=>R (g4q k l m n) c
theorem call212{x0:Addr}{R:vPq}{w:wQ}(h:wp212 x0 R w):CallT Pg 212 #[.pointer (some x0)] w R:=cVq [] Tryz.func212 h
def wp215(x0:Addr)(R:vPq)(w:wQ):Prop:=qL w (.cells (zc Pg 171) 171) fun a b=>LdI b (aQq x0 2) .i64 fun d=>LdI b ⟨x0.block,x0.off+2+1,none⟩ .i64 fun e=>LdI b ⟨x0.block,x0.off+2+2,none⟩ .i64 fun f=>LdI b ⟨x0.block,x0.off+2+3,none⟩ .i64 fun g=>qB b ⟨a,0,none⟩ (iQq d) fun h=>qB h ⟨a,0+1,none⟩ (iQq e) fun i=>qB i ⟨a,0+2,none⟩ (iQq f) fun j=>qB j ⟨a,0+3,none⟩ (iQq g) fun c=>l4q c a fun k l m n=>R (g4q k l m n) c
theorem call215{x0:Addr}{R:vPq}{w:wQ}(h:wp215 x0 R w):CallT Pg 215 #[.pointer (some x0)] w R:=cVq [] Tryz.func215 h
def wp218(x0:Addr)(R:vPq)(w:wQ):Prop:=qL w (.cells (zc Pg 171) 171) fun a b=>LdI b (aQq x0 2) .i64 fun d=>LdI b ⟨x0.block,x0.off+2+1,none⟩ .i64 fun e=>LdI b ⟨x0.block,x0.off+2+2,none⟩ .i64 fun f=>LdI b ⟨x0.block,x0.off+2+3,none⟩ .i64 fun g=>qB b ⟨a,0,none⟩ (iQq d) fun h=>qB h ⟨a,0+1,none⟩ (iQq e) fun i=>qB i ⟨a,0+2,none⟩ (iQq f) fun j=>qB j ⟨a,0+3,none⟩ (iQq g) fun c=>l4q c a fun k l m n=>R (g4q k l m n) c
theorem call218{x0:Addr}{R:vPq}{w:wQ}(h:wp218 x0 R w):CallT Pg 218 #[.pointer (some x0)] w R:=cVq [] Tryz.func218 h
def wp221(x0:Addr)(R:vPq)(w:wQ):Prop:=qL w (.cells (zc Pg 171) 171) fun a b=>LdI b (aQq x0 2) .i64 fun d=>LdI b ⟨x0.block,x0.off+2+1,none⟩ .i64 fun e=>LdI b ⟨x0.block,x0.off+2+2,none⟩ .i64 fun f=>LdI b ⟨x0.block,x0.off+2+3,none⟩ .i64 fun g=>qB b ⟨a,0,none⟩ (iQq d) fun h=>qB h ⟨a,0+1,none⟩ (iQq e) fun i=>qB i ⟨a,0+2,none⟩ (iQq f) fun j=>qB j ⟨a,0+3,none⟩ (iQq g) fun c=>l4q c a fun k l m n=>R (g4q k l m n) c
theorem call221{x0:Addr}{R:vPq}{w:wQ}(h:wp221 x0 R w):CallT Pg 221 #[.pointer (some x0)] w R:=cVq [] Tryz.func221 h
def wp224(x0:Addr)(R:vPq)(w:wQ):Prop:=qL w (.cells (zc Pg 171) 171) fun a b=>LdI b (aQq x0 2) .i64 fun d=>LdI b ⟨x0.block,x0.off+2+1,none⟩ .i64 fun e=>LdI b ⟨x0.block,x0.off+2+2,none⟩ .i64 fun f=>LdI b ⟨x0.block,x0.off+2+3,none⟩ .i64 fun g=>qB b ⟨a,0,none⟩ (iQq d) fun h=>qB h ⟨a,0+1,none⟩ (iQq e) fun i=>qB i ⟨a,0+2,none⟩ (iQq f) fun j=>qB j ⟨a,0+3,none⟩ (iQq g) fun c=>l4q c a fun k l m n=>R (g4q k l m n) c
theorem call224{x0:Addr}{R:vPq}{w:wQ}(h:wp224 x0 R w):CallT Pg 224 #[.pointer (some x0)] w R:=cVq [] Tryz.func224 h
def qFh(x2:Value)(r9 r15:Nat)(z17:(Sl×Sl×Int×Int×Unit))(R:vPq)(w18:wQ):Prop:=vG Pg Gg w18 x2 "Bounds" [] fun(v20:Value) (w21:wQ)=>Exists fun(n22:Int)=>Exists fun(n23:Int)=>Exists fun(n24:Int)=>Exists fun(n25:Int)=>And (v20= .agg #[.int .i64 n22,.int .i64 n23,.int .i64 n24,.int .i64 n25]) (qL w21 (.cells (zc Pg 171) 171) fun(r26:Nat) (w27:wQ)=>qB w27 ⟨r26,0,none⟩ (.int .i64 n22) fun(w28:wQ)=>qB w28 ⟨r26,0+1,none⟩ (.int .i64 n23) fun(w29:wQ)=>qB w29 ⟨r26,0+2,none⟩ (.int .i64 n24) fun(w30:wQ)=>qB w30 ⟨r26,0+3,none⟩ (.int .i64 n25) fun(w31:wQ)=>LdI w31 ⟨r26,0+1,none⟩ .i64 fun(n32:Int)=>xB (fun(J35:(Int×Int×Unit) ->World ->Prop)=>J35 ((0:Int),n32,()) w31) (fun(z33:(Int×Int×Unit)) (w34:wQ) (N36:(Int×Int×Unit) ->World ->Prop)=>LdI w34 ⟨r26,0+2+1,none⟩ .i64 fun(n37:Int)=>IfC (decide (z33.2.1<n37)) (LdI w34 ⟨r9,0+1,none⟩ .i64 fun(n38:Int)=>LdI w34 ⟨r9,0+3,none⟩ .i64 fun(n39:Int)=>LdI w34 ⟨r15,0+1,none⟩ .i64 fun(n40:Int)=>LdI w34 ⟨r9,0+2,none⟩ .i64 fun(n41:Int)=>LdI w34 ⟨r15,0,none⟩ .i64 fun(n42:Int)=>LdI w34 ⟨r26,0,none⟩ .i64 fun(n43:Int)=>xB (fun(J46:(Int×Int×Unit) ->World ->Prop)=>J46 (z33.1,n43,()) w34) (fun(z44:(Int×Int×Unit)) (w45:wQ) (N47:(Int×Int×Unit) ->World ->Prop)=>LdI w45 ⟨r26,0+2,none⟩ .i64 fun(n48:Int)=>IfC (decide (z44.2.1<n48)) (LdI w45 ⟨r9,0,none⟩ .i64 fun(n49:Int)=>qO w45 fun(w50:wQ)=>And (0<=wrap .i64 ((wrap .i64 ((wrap .i64 ((wrap .i64 ((wrap .i64 ((wrap .i64 (z33.2.1*n38))+n39)) -n40))*z17.2.2.1))+(wrap .i64 ((wrap .i64 (n41 -n42))*z17.2.2.2.1))))+(wrap .i64 ((wrap .i64 (z44.2.1*n49))*z17.2.2.2.1)))/\wrap .i64 ((wrap .i64 ((wrap .i64 ((wrap .i64 ((wrap .i64 ((wrap .i64 (z33.2.1*n38))+n39)) -n40))*z17.2.2.1))+(wrap .i64 ((wrap .i64 (n41 -n42))*z17.2.2.2.1))))+(wrap .i64 ((wrap .i64 (z44.2.1*n49))*z17.2.2.2.1)))<=(z17.2.1.len:Int)) (And (0<=wrap .i64 (z44.1+z17.2.2.2.1)/\wrap .i64 (z44.1+z17.2.2.2.1)<=(z17.1.cap:Int)) (And (0<=z44.1/\z44.1<=wrap .i64 (z44.1+z17.2.2.2.1)) (jQ Pg w50 #[33,33] 3 (.slice (qQ z17.2.1.a z17.2.1.cap ((wrap .i64 ((wrap .i64 ((wrap .i64 ((wrap .i64 ((wrap .i64 ((wrap .i64 (z33.2.1*n38))+n39)) -n40))*z17.2.2.1))+(wrap .i64 ((wrap .i64 (n41 -n42))*z17.2.2.2.1))))+(wrap .i64 ((wrap .i64 (z44.2.1*n49))*z17.2.2.2.1)))).toNat) 1) (z17.2.1.len -((wrap .i64 ((wrap .i64 ((wrap .i64 ((wrap .i64 ((wrap .i64 ((wrap .i64 (z33.2.1*n38))+n39)) -n40))*z17.2.2.1))+(wrap .i64 ((wrap .i64 (n41 -n42))*z17.2.2.2.1))))+(wrap .i64 ((wrap .i64 (z44.2.1*n49))*z17.2.2.2.1)))).toNat)) (z17.2.1.cap -((wrap .i64 ((wrap .i64 ((wrap .i64 ((wrap .i64 ((wrap .i64 ((wrap .i64 (z33.2.1*n38))+n39)) -n40))*z17.2.2.1))+(wrap .i64 ((wrap .i64 (n41 -n42))*z17.2.2.2.1))))+(wrap .i64 ((wrap .i64 (z44.2.1*n49))*z17.2.2.2.1)))).toNat))) (.slice (qQ z17.1.a z17.1.cap z44.1.toNat 1) (((wrap .i64 (z44.1+z17.2.2.2.1)).toNat) -z44.1.toNat) (z17.1.cap -z44.1.toNat)) fun(n51:Int) (w52:wQ)=>N47 (wrap .i64 (z44.1+z17.2.2.2.1),wrap .i64 (z44.2.1+(1:Int)),()) w52)))) (N36 (z44.1,wrap .i64 (z33.2.1+(1:Int)),()) w45))) (R (.tuple #[]:Value) w34)))
section
variable{w w' w0:wQ}{ib pb sb qb bpp W H:Nat}{IT:TypeId}{ex:List Value}
theorem c202(h:ImgW w ib pb IT bpp W H ex):CallT Pg 202 #[.pointer (some ⟨ib,0,none⟩)] w fun v w'=>v= .agg #[.int .i64 (0:Int),.int .i64 (0:Int),.int .i64 W,.int .i64 H]/\Fr [] w w'/\hn w<=hn w':=by
 apply call202;unfold wp202 l4q g4q aQq iQq;rw[rJ];refine qG fun w2 h2 f2 n2=> ?_;have i2:=h.fr0 f2
 iterate 4 refine qC i2.row rfl ?_
 refine qD h2 sQ fun w7 h7 f7 n7=> ?_;refine qD h7 sQ fun w8 h8 f8 n8=> ?_;refine qD h8 sQ fun w9 h9 f9 n9=> ?_;refine qD h9 sQ fun w10 h10 f10 n10=> ?_
 iterate 4 refine qC h10 rfl ?_
 exact⟨rfl,f2.trans' (f7.trans (f8.trans (f9.trans f10))) (fun x hx hlt=>by simp at hx;omega),oQ⟩
theorem c209(h:ImgW w ib pb IT bpp W H ex):CallT Pg 209 #[.pointer (some ⟨ib,0,none⟩)] w fun v w'=>v= .agg #[.int .i64 (0:Int),.int .i64 (0:Int),.int .i64 W,.int .i64 H]/\Fr [] w w'/\hn w<=hn w':=by
 apply call209;unfold wp209 l4q g4q aQq iQq;rw[rJ];refine qG fun w2 h2 f2 n2=> ?_;have i2:=h.fr0 f2
 iterate 4 refine qC i2.row rfl ?_
 refine qD h2 sQ fun w7 h7 f7 n7=> ?_;refine qD h7 sQ fun w8 h8 f8 n8=> ?_;refine qD h8 sQ fun w9 h9 f9 n9=> ?_;refine qD h9 sQ fun w10 h10 f10 n10=> ?_
 iterate 4 refine qC h10 rfl ?_
 exact⟨rfl,f2.trans' (f7.trans (f8.trans (f9.trans f10))) (fun x hx hlt=>by simp at hx;omega),oQ⟩
theorem c212(h:ImgW w ib pb IT bpp W H ex):CallT Pg 212 #[.pointer (some ⟨ib,0,none⟩)] w fun v w'=>v= .agg #[.int .i64 (0:Int),.int .i64 (0:Int),.int .i64 W,.int .i64 H]/\Fr [] w w'/\hn w<=hn w':=by
 apply call212;unfold wp212 l4q g4q aQq iQq;rw[rJ];refine qG fun w2 h2 f2 n2=> ?_;have i2:=h.fr0 f2
 iterate 4 refine qC i2.row rfl ?_
 refine qD h2 sQ fun w7 h7 f7 n7=> ?_;refine qD h7 sQ fun w8 h8 f8 n8=> ?_;refine qD h8 sQ fun w9 h9 f9 n9=> ?_;refine qD h9 sQ fun w10 h10 f10 n10=> ?_
 iterate 4 refine qC h10 rfl ?_
 exact⟨rfl,f2.trans' (f7.trans (f8.trans (f9.trans f10))) (fun x hx hlt=>by simp at hx;omega),oQ⟩
theorem c215(h:ImgW w ib pb IT bpp W H ex):CallT Pg 215 #[.pointer (some ⟨ib,0,none⟩)] w fun v w'=>v= .agg #[.int .i64 (0:Int),.int .i64 (0:Int),.int .i64 W,.int .i64 H]/\Fr [] w w'/\hn w<=hn w':=by
 apply call215;unfold wp215 l4q g4q aQq iQq;rw[rJ];refine qG fun w2 h2 f2 n2=> ?_;have i2:=h.fr0 f2
 iterate 4 refine qC i2.row rfl ?_
 refine qD h2 sQ fun w7 h7 f7 n7=> ?_;refine qD h7 sQ fun w8 h8 f8 n8=> ?_;refine qD h8 sQ fun w9 h9 f9 n9=> ?_;refine qD h9 sQ fun w10 h10 f10 n10=> ?_
 iterate 4 refine qC h10 rfl ?_
 exact⟨rfl,f2.trans' (f7.trans (f8.trans (f9.trans f10))) (fun x hx hlt=>by simp at hx;omega),oQ⟩
theorem c218(h:ImgW w ib pb IT bpp W H ex):CallT Pg 218 #[.pointer (some ⟨ib,0,none⟩)] w fun v w'=>v= .agg #[.int .i64 (0:Int),.int .i64 (0:Int),.int .i64 W,.int .i64 H]/\Fr [] w w'/\hn w<=hn w':=by
 apply call218;unfold wp218 l4q g4q aQq iQq;rw[rJ];refine qG fun w2 h2 f2 n2=> ?_;have i2:=h.fr0 f2
 iterate 4 refine qC i2.row rfl ?_
 refine qD h2 sQ fun w7 h7 f7 n7=> ?_;refine qD h7 sQ fun w8 h8 f8 n8=> ?_;refine qD h8 sQ fun w9 h9 f9 n9=> ?_;refine qD h9 sQ fun w10 h10 f10 n10=> ?_
 iterate 4 refine qC h10 rfl ?_
 exact⟨rfl,f2.trans' (f7.trans (f8.trans (f9.trans f10))) (fun x hx hlt=>by simp at hx;omega),oQ⟩
theorem c221(h:ImgW w ib pb IT bpp W H ex):CallT Pg 221 #[.pointer (some ⟨ib,0,none⟩)] w fun v w'=>v= .agg #[.int .i64 (0:Int),.int .i64 (0:Int),.int .i64 W,.int .i64 H]/\Fr [] w w'/\hn w<=hn w':=by
 apply call221;unfold wp221 l4q g4q aQq iQq;rw[rJ];refine qG fun w2 h2 f2 n2=> ?_;have i2:=h.fr0 f2
 iterate 4 refine qC i2.row rfl ?_
 refine qD h2 sQ fun w7 h7 f7 n7=> ?_;refine qD h7 sQ fun w8 h8 f8 n8=> ?_;refine qD h8 sQ fun w9 h9 f9 n9=> ?_;refine qD h9 sQ fun w10 h10 f10 n10=> ?_
 iterate 4 refine qC h10 rfl ?_
 exact⟨rfl,f2.trans' (f7.trans (f8.trans (f9.trans f10))) (fun x hx hlt=>by simp at hx;omega),oQ⟩
theorem c224(h:ImgW w ib pb IT bpp W H ex):CallT Pg 224 #[.pointer (some ⟨ib,0,none⟩)] w fun v w'=>v= .agg #[.int .i64 (0:Int),.int .i64 (0:Int),.int .i64 W,.int .i64 H]/\Fr [] w w'/\hn w<=hn w':=by
 apply call224;unfold wp224 l4q g4q aQq iQq;rw[rJ];refine qG fun w2 h2 f2 n2=> ?_;have i2:=h.fr0 f2
 iterate 4 refine qC i2.row rfl ?_
 refine qD h2 sQ fun w7 h7 f7 n7=> ?_;refine qD h7 sQ fun w8 h8 f8 n8=> ?_;refine qD h8 sQ fun w9 h9 f9 n9=> ?_;refine qD h9 sQ fun w10 h10 f10 n10=> ?_
 iterate 4 refine qC h10 rfl ?_
 exact⟨rfl,f2.trans' (f7.trans (f8.trans (f9.trans f10))) (fun x hx hlt=>by simp at hx;omega),oQ⟩
inductive IK:TypeId ->TypeId ->Nat ->Prop
 |k166:IK 166 173 1
 |k174:IK 174 175 2
 |k180:IK 180 181 4
 |k182:IK 182 183 8
 |k184:IK 184 186 1
 |k176:IK 176 177 4
 |k178:IK 178 179 8
theorem PK.ik{cb D bits bpp:Nat}{t cp:Bool}{pt IT:TypeId}(hk:PK cb D t pt IT bpp bits cp):IK pt IT bpp:=by
 cases hk<;>constructor
theorem qBt{pt:TypeId}{K:vPq}(hk:IK pt IT bpp)(h:ImgW w ib pb IT bpp W H ex)(hK:∀w',Fr [] w w' ->hn w<=hn w' ->K (.agg #[.int .i64 (0:Int),.int .i64 (0:Int),.int .i64 W,.int .i64 H]) w'):vG Pg Gg w (.iface pt (.pointer (some ⟨ib,0,none⟩))) "Bounds" [] K:=by
 cases hk
 case k166=>exact⟨166,.pointer (some ⟨ib,0,none⟩),202,.pointer (some ⟨ib,0,none⟩),rfl,rfl,CallT.mono (c202 h) (by rintro _ w' ⟨rfl,f,n⟩;exact hK _ f n)⟩
 case k174=>exact⟨174,.pointer (some ⟨ib,0,none⟩),209,.pointer (some ⟨ib,0,none⟩),rfl,rfl,CallT.mono (c209 h) (by rintro _ w' ⟨rfl,f,n⟩;exact hK _ f n)⟩
 case k176=>exact⟨176,.pointer (some ⟨ib,0,none⟩),212,.pointer (some ⟨ib,0,none⟩),rfl,rfl,CallT.mono (c212 h) (by rintro _ w' ⟨rfl,f,n⟩;exact hK _ f n)⟩
 case k178=>exact⟨178,.pointer (some ⟨ib,0,none⟩),215,.pointer (some ⟨ib,0,none⟩),rfl,rfl,CallT.mono (c215 h) (by rintro _ w' ⟨rfl,f,n⟩;exact hK _ f n)⟩
 case k180=>exact⟨180,.pointer (some ⟨ib,0,none⟩),218,.pointer (some ⟨ib,0,none⟩),rfl,rfl,CallT.mono (c218 h) (by rintro _ w' ⟨rfl,f,n⟩;exact hK _ f n)⟩
 case k182=>exact⟨182,.pointer (some ⟨ib,0,none⟩),221,.pointer (some ⟨ib,0,none⟩),rfl,rfl,CallT.mono (c221 h) (by rintro _ w' ⟨rfl,f,n⟩;exact hK _ f n)⟩
 case k184=>exact⟨184,.pointer (some ⟨ib,0,none⟩),224,.pointer (some ⟨ib,0,none⟩),rfl,rfl,CallT.mono (c224 h) (by rintro _ w' ⟨rfl,f,n⟩;exact hK _ f n)⟩
theorem BR.copyX{L M d s n c':Nat}{K:Int ->World ->Prop}(h1:BR w pb L)(h2:BR w qb M)(hd:d<L)(hs:s+n<=M)(hn8:n<=8)(hK:∀k w',BR w' pb L ->Fr [pb] w w' ->hn w'=hn w ->K k w'):
  jQ Pg w #[33,33] 3 (.slice (some ⟨pb,d,none⟩) (L -d) (L -d)) (.slice (some ⟨qb,s,none⟩) n c') K:=by
 obtain⟨ps,hp1,hp2⟩:=h1;obtain⟨xs,hx,hc⟩:=h2;have hsz:(bv ps).toArray.size=L:=by simp[hp1]
 have hH:Has w (some ⟨qb,s,none⟩) (bv ((xs.drop s).take n)):=by
  refine⟨rfl,5,(bv xs).toArray,hc,fun j v hj=> ?_⟩;rw[List.getElem?_toArray];show(bv xs)[s+j]? =some v;rw[kM,List.getElem?_take]at hj
  split at hj
  ·rw[List.getElem?_drop]at hj
   rw[kM];exact hj
  ·cases hj
 refine uG hp2 (by rw[hsz];omega) hH (by simp;omega) oQ ?_;intro w' arr' h' hs' hj' f' n';obtain⟨zs,hz1,hz2⟩:=rD arr' L oQ (fun j hj=>by
  rw[hj' j]
  split
  ·rename_i hc
   exact qAo (by simp;omega)
  ·rw[List.getElem?_toArray]
   exact qAo oQ)
 exact hK _ _ ⟨zs,hz1,by rw[h',hz2]⟩ f' n'
theorem qHv{W k x:Nat}(h:x<passW W k):x*xf k+xo k<W:=by
 have h1:1<=xf k:=by unfold xf;split<;>decide
 have h2:=(Nat.le_div_iff_mul_le (by omega:0<xf k)).1 (show x+1<=(W+xf k -1 -xo k)/xf k from h);rw[Nat.add_mul]at h2;omega
theorem qFl{W k x:Nat}(h:x<passH W k):x*yf k+yo k<W:=by
 have h1:1<=yf k:=by unfold yf;split<;>decide
 have h2:=(Nat.le_div_iff_mul_le (by omega:0<yf k)).1 (show x+1<=(W+yf k -1 -yo k)/yf k from h);rw[Nat.add_mul]at h2;omega
theorem mrg_ok{k r9 r15:Nat}{pt:TypeId}{ex2:List Value}{R:vPq}(hk:IK pt IT bpp)(hd:ImgW w ib pb IT bpp W H ex)(hs:ImgW w sb qb IT bpp (passW W k) (passH H k) ex2)(hpq:pb≠qb)(hsp:sb≠pb)(h9:hp w r9=Row 215 #[.int .i64 (xf k),.int .i64 (yf k),.int .i64 (xo k),.int .i64 (yo k)])(h15:hp w r15=Row 171 #[.int .i64 (0:Int),.int .i64 (0:Int),.int .i64 W,.int .i64 H])(hr:pb≠r9/\pb≠r15)
  (hR:∀w',BR w' pb (bpp*W*H) ->Fr [pb] w w' ->hn w<=hn w' ->R (.tuple #[]) w'):
  qFh (.iface pt (.pointer (some ⟨sb,0,none⟩))) r9 r15 (⟨some ⟨qb,0,none⟩,bpp*passW W k*passH H k,bpp*passW W k*passH H k⟩,⟨some ⟨pb,0,none⟩,bpp*W*H,bpp*W*H⟩,((bpp*W:Nat):Int),(bpp:Int),()) R w:=by
 unfold qFh;dsimp only;have hl:=hd.lim;have hl2:=hd.lim2;have hls:=hs.lim;have hls2:=hs.lim2;refine qBt hk hs fun w21 f21 n21=>⟨_,_,_,_,rfl,?_⟩;rw[rJ];refine qG fun w27 h27 f27 n27=> ?_;refine qD h27 sQ fun w28 h28 f28 n28=> ?_;refine qD h28 sQ fun w29 h29 f29 n29=> ?_;refine qD h29 sQ fun w30 h30 f30 n30=> ?_;refine qD h30 sQ fun w31 h31 f31 n31=> ?_;generalize hr26:hn w21=r26 at*;have F:Fr [] w w31:=(f21.trans f27).trans' (f28.trans (f29.trans (f30.trans f31))) (fun x hx hlt=>by simp at hx;omega);have hpbl:=hd.pix.lt;have hd31:=hd.fr0 F;have hs31:=hs.fr0 F;have g9:=F.row0 h9;have g15:=F.row0 h15;refine qC h31 rfl ?_;refine qP (fun y w'=>∃i:Nat,y=(((i*(bpp*passW W k):Nat):Int),(i:Int),())/\i<=passH H k/\BR w' pb (bpp*W*H)/\Fr [pb] w31 w'/\hn w'=hn w31) (fun y _ =>passH H k -y.2.1.toNat) ⟨0,sQ,oQ,hd31.pix,Fr.refl _ _,rfl⟩ ?_;rintro _ w34 ⟨i,rfl,hi,hb,F34,n34⟩;dsimp only;refine qC (F34.row1 h31 oQ) rfl (qF (fun hlt=> ?_) (fun hge=> ?_))
 rotate_left
 ·exact hR _ hb ((F.mono sQ).trans F34) oQ
 have hiH:i<passH H k:=by simpa using hlt
 have aY:=qFl hiH;refine qC (F34.row1 g9 (Ne.symm hr.1)) rfl (qC (F34.row1 g9 (Ne.symm hr.1)) rfl (qC (F34.row1 g15 (Ne.symm hr.2)) rfl (qC (F34.row1 g9 (Ne.symm hr.1)) rfl (qC (F34.row1 g15 (Ne.symm hr.2)) rfl (qC (F34.row1 h31 oQ) rfl ?_)))));refine qP (fun y w'=>∃x:Nat,y=(((i*(bpp*passW W k)+x*bpp:Nat):Int),(x:Int),())/\x<=passW W k/\BR w' pb (bpp*W*H)/\Fr [pb] w31 w'/\hn w'=hn w31) (fun y _ =>passW W k -y.2.1.toNat) ⟨0,sQ,oQ,hb,F34,n34⟩ ?_;rintro _ w45 ⟨x,rfl,hx,hb5,F45,n45⟩;dsimp only;refine qC (F45.row1 h31 oQ) rfl (qF (fun hlt=> ?_) (fun hge=> ?_))
 rotate_left
 ·have e:x=passW W k:=by
   have:¬x<passW W k:=by simpa using hge
   omega
  subst e;have es:i*(bpp*passW W k)+passW W k*bpp=(i+1)*(bpp*passW W k):=by rw[Nat.add_mul,Nat.one_mul,Nat.mul_comm (passW W k)]
  rw[es,show wrap .i64 ((i:Int)+1)=((i+1:Nat):Int) by rw[qA oQ oQ];omega];refine⟨⟨i+1,rfl,oQ,hb5,F45,n45⟩,?_⟩;show passH H k -((i+1:Nat):Int).toNat<passH H k -(i:Int).toNat;omega
 have hxW:x<passW W k:=by simpa using hlt
 have aX:=qHv hxW;have hidx:=hd.idx aX aY;have hidx2:=hs.idx hxW hiH;refine qC (F45.row1 g9 (Ne.symm hr.1)) rfl (qE fun w50 f50 n50=> ?_);have m1:(i*yf k+yo k)*(bpp*W)<=bpp*W*H:=oQ;have m2:(x*xf k+xo k)*bpp<=bpp*W*H:=oQ;have eD:wrap .i64 (wrap .i64 (wrap .i64 (wrap .i64 (wrap .i64 (wrap .i64 ((i:Int)*(yf k:Int))+(yo k:Int)) -0)*((bpp*W:Nat):Int))+wrap .i64 (wrap .i64 ((xo k:Int) -0)*(bpp:Int)))+wrap .i64 (wrap .i64 ((x:Int)*(xf k:Int))*(bpp:Int)))=(((i*yf k+yo k)*(bpp*W)+(x*xf k+xo k)*bpp:Nat):Int):=by
  have q1:(i:Int)*(yf k:Int)=((i*yf k:Nat):Int):=by simp
  have q2:(x:Int)*(xf k:Int)=((x*xf k:Nat):Int):=by simp
  rw[q1,q2,Int.sub_zero,Int.sub_zero];generalize i*yf k=a at*;generalize x*xf k=b at*;generalize bpp*W=st at*;have b8:b*bpp+xo k*bpp=(b+xo k)*bpp:=by rw[Nat.add_mul]
  rw[qA (n:=(a:Int)) oQ oQ,qA (n:=(b:Int)) oQ oQ,qA (n:=(xo k:Int)) oQ oQ,qA (n:=(a:Int)+(yo k:Int)) oQ oQ,qA (n:=(a:Int)+(yo k:Int)) oQ oQ];have q3:((a:Int)+(yo k:Int))*(st:Int)=(((a+yo k)*st:Nat):Int):=by simp
  have q4:(xo k:Int)*(bpp:Int)=((xo k*bpp:Nat):Int):=by simp
  have q5:(b:Int)*(bpp:Int)=((b*bpp:Nat):Int):=by simp
  rw[q3,q4,q5,<-b8];generalize(a+yo k)*st=A at*;generalize xo k*bpp=B at*;generalize b*bpp=C at*;rw[qA (n:=(A:Int)) oQ oQ,qA (n:=(B:Int)) oQ oQ,qA (n:=(C:Int)) oQ oQ,qA (n:=(A:Int)+(B:Int)) oQ oQ,qA oQ oQ];omega
 rw[eD];generalize hd0:(i*yf k+yo k)*(bpp*W)+(x*xf k+xo k)*bpp=dd at*;generalize hs0:i*(bpp*passW W k)+x*bpp=ss at*;rw[show wrap .i64 ((ss:Int)+(bpp:Int))=((ss+bpp:Nat):Int) by rw[qA oQ oQ];omega];refine⟨⟨oQ,oQ⟩,⟨oQ,oQ⟩,⟨oQ,oQ⟩,?_⟩;rw[Int.toNat_natCast,Int.toNat_natCast,Int.toNat_natCast,slAdd_one _ _ _ _ oQ,slAdd_one _ _ _ _ oQ,Nat.zero_add,Nat.zero_add];refine(hb5.fr0 f50).copyX (((hs31.pix).fr F45 (by simp;exact fun e=>hpq e.symm)).fr0 f50) oQ oQ oQ fun _ w52 b52 f52 n52=> ?_;have ex1:ss+bpp=i*(bpp*passW W k)+(x+1)*bpp:=by rw[Nat.add_mul,Nat.one_mul];omega
 rw[ex1,show wrap .i64 ((x:Int)+1)=((x+1:Nat):Int) by rw[qA oQ oQ];omega];refine⟨⟨x+1,rfl,oQ,b52,(F45.trans (f50.mono sQ)).trans f52,oQ⟩,?_⟩;show passW W k -((x+1:Nat):Int).toNat<passW W k -(x:Int).toNat;omega
theorem rX:yW Pg 239=true:=by kernel_rfl
theorem aJ:zv Pg 239=some (.pointer none):=by kernel_rfl
theorem rY:yW Pg 241=true:=by kernel_rfl
theorem aK:zv Pg 241=some (.pointer none):=by kernel_rfl
theorem uM:yW Pg 166=true:=by kernel_rfl
theorem tP:zv Pg 166=some (.pointer none):=by kernel_rfl
theorem jH:yW Pg 174=true:=by kernel_rfl
theorem rL:zv Pg 174=some (.pointer none):=by kernel_rfl
theorem tB:yW Pg 180=true:=by kernel_rfl
theorem cX:zv Pg 180=some (.pointer none):=by kernel_rfl
theorem rW:yW Pg 182=true:=by kernel_rfl
theorem qBq:zv Pg 182=some (.pointer none):=by kernel_rfl
theorem bN:yW Pg 184=true:=by kernel_rfl
theorem zv184:zv Pg 184=some (.pointer none):=by kernel_rfl
theorem tZ:yW Pg 176=true:=by kernel_rfl
theorem pL:zv Pg 176=some (.pointer none):=by kernel_rfl
theorem lS:yW Pg 178=true:=by kernel_rfl
theorem qGm:zv Pg 178=some (.pointer none):=by kernel_rfl
theorem c103{k n0:Nat}{pt:TypeId}{ex2:List Value}{pp:pQ}{x0:Addr}(hk:IK pt IT bpp)(hL:LaceAt w n0)(hk7:k<7)(hd:ImgW w ib pb IT bpp W H ex)(hs:ImgW w sb qb IT bpp (passW W k) (passH H k) ex2)(hpq:pb≠qb)(hsp:sb≠pb)(hsi:sb≠ib)(hqi:qb≠ib)(hQ1:IT=186 ->QP pp ex)(hQ2:IT=186 ->QP pp ex2):
  CallT Pg 103 #[.pointer (some x0),.iface pt (.pointer (some ⟨ib,0,none⟩)),.iface pt (.pointer (some ⟨sb,0,none⟩)),.int .i64 (k:Int)] w fun v w'=>v= .tuple #[]/\Fr [ib,pb] w w'/\hn w<=hn w'/\∃ex',(IT=186 ->QP pp ex')/\ImgW w' ib pb IT bpp W H ex':=by
 suffices key:∀R:vPq,(∀w' ex',Fr [ib,pb] w w' ->hn w<=hn w' ->(IT=186 ->QP pp ex') ->ImgW w' ib pb IT bpp W H ex' ->R (.tuple #[]) w') ->wp103 x0 (.iface pt (.pointer (some ⟨ib,0,none⟩))) (.iface pt (.pointer (some ⟨sb,0,none⟩))) (k:Int) R w from call103 (key _ fun _ _ a b c d=>⟨rfl,a,b,_,c,d⟩)
 intro R hR;unfold wp103 g4q aQq wIq iQq;obtain⟨T,p,c,h6,⟨esp,T',arr,h4,h5⟩,h3⟩:=hL;obtain⟨b,of,sp⟩:=p;dsimp only at esp h4 h5;subst esp;refine qK h6 rfl ⟨⟨oQ,oQ⟩,?_⟩;rw[PtrC_some,xW,Int.toNat_natCast];have g0:arr[of+k*4]? =some (.int .i64 (xf k)):=h5 (k*4) _ (by obtain rfl|rfl|rfl|rfl|rfl|rfl|rfl:=(by omega:k=0\/k=1\/k=2\/k=3\/k=4\/k=5\/k=6)<;>rfl);have g1:arr[of+k*4+1]? =some (.int .i64 (yf k)):=h5 (k*4+1) _ (by obtain rfl|rfl|rfl|rfl|rfl|rfl|rfl:=(by omega:k=0\/k=1\/k=2\/k=3\/k=4\/k=5\/k=6)<;>rfl);have g2:arr[of+k*4+2]? =some (.int .i64 (xo k)):=h5 (k*4+2) _ (by obtain rfl|rfl|rfl|rfl|rfl|rfl|rfl:=(by omega:k=0\/k=1\/k=2\/k=3\/k=4\/k=5\/k=6)<;>rfl);have g3:arr[of+k*4+3]? =some (.int .i64 (yo k)):=h5 (k*4+3) _ (by obtain rfl|rfl|rfl|rfl|rfl|rfl|rfl:=(by omega:k=0\/k=1\/k=2\/k=3\/k=4\/k=5\/k=6)<;>rfl);refine qC h4 g0 (qC h4 g1 (qC h4 g2 (qC h4 g3 ?_)));rw[zc215];refine qG fun w1 h1' f1 n1=> ?_;refine qD h1' sQ fun w2 h2' f2 n2=> ?_;refine qD h2' sQ fun w3 h3' f3 n3=> ?_;refine qD h3' sQ fun w4 h4' f4 n4=> ?_;refine qD h4' sQ fun w5 h5' f5 n5=> ?_;have hf:Fr [] w w5:=f1.trans' (f2.trans (f3.trans (f4.trans f5))) (fun x hx hlt=>by simp at hx;omega);rw[rJ];refine qG fun w16 h16 f16 n16=> ?_;have hf6:=hf.trans f16;have d16:=hd.fr0 hf6;have s16:=hs.fr0 hf6;have e9:=f16.row0 h5';have l1:=hd.pix.lt;have l2:=zM hd.row;have l3:=hs.pix.lt;have l4:=zM hs.row;generalize hr9:hn w=r9 at*;generalize hr15:hn w5=r15 at*;refine qJ (fun z w'=>z=(⟨some ⟨qb,0,none⟩,bpp*passW W k*passH H k,bpp*passW W k*passH H k⟩,⟨some ⟨pb,0,none⟩,bpp*W*H,bpp*W*H⟩,((bpp*W:Nat):Int),(bpp:Int),())/\hp w' r9=Row 215 #[.int .i64 (xf k),.int .i64 (yf k),.int .i64 (xo k),.int .i64 (yo k)]/\hp w' r15=Row 171 #[.int .i64 (0:Int),.int .i64 (0:Int),.int .i64 W,.int .i64 H]/\(∃ex,(IT=186 ->QP pp ex)/\ImgW w' ib pb IT bpp W H ex)/\ImgW w' sb qb IT bpp (passW W k) (passH H k) ex2/\Fr [ib] w w'/\r9<=hn w') ?_ ?_
 ·rintro _ w18 ⟨rfl,a9,a15,⟨ex',aQ,ad⟩,asr,aF,an⟩
  refine mrg_ok (R:=R) hk ad asr hpq hsp a9 a15 oQ fun w' b' f' n'=>hR w' ex' ?_ oQ aQ (ad.fp f' b');exact(aF.mono sQ).trans (f'.mono sQ)
 ·intro J hJ
  cases hk
  case k166=>
   refine xG rX rfl aJ ⟨_,rfl,qM ?_⟩;refine xG rY rfl aK ⟨_,rfl,qM ?_⟩;refine yR uM ⟨_,rfl,xA (yR uM ⟨_,rfl,?_⟩)⟩;rw[PtrC_some];refine qK s16.row rfl (qE fun w7 f7 n7=> ?_);have d7:=d16.fr0 f7;have s7:=s16.fr0 f7;rw[PtrC_some];refine qK d7.row rfl ?_;rw[PtrC_some];refine qC d7.row rfl ?_;rw[PtrC_some]
   iterate 4 refine qC d7.row rfl ?_
   refine qD (f7.row0 h16) sQ fun w8 h8 f8 n8=> ?_;refine qD h8 sQ fun w9 h9 f9 n9=> ?_;refine qD h9 sQ fun w10 h10 f10 n10=> ?_;refine qD h10 sQ fun w11 h11 f11 n11=> ?_;have F8:Fr [r15] w16 w11:=(f7.mono sQ).trans (f8.trans (f9.trans (f10.trans f11)));have d11:=d16.fr F8 (by simp;omega) (by simp;omega);have s11:=s16.fr F8 (by simp;omega) (by simp;omega);have e11:=F8.row1 e9 oQ;have F11:Fr [ib] w w11:=(hf6.mono sQ).trans' F8 (fun x hx hlt=>by simp at hx;omega);exact hJ _ _ ⟨rfl,e11,h11,⟨ex,hQ1,d11⟩,s11,F11,oQ⟩
  case k174=>
   refine xG rX rfl aJ ⟨_,rfl,qM ?_⟩;refine xG rY rfl aK ⟨_,rfl,qM ?_⟩;refine xG uM rfl tP ⟨_,rfl,qM ?_⟩;refine yR jH ⟨_,rfl,xA (yR jH ⟨_,rfl,?_⟩)⟩;rw[PtrC_some];refine qK s16.row rfl (qE fun w7 f7 n7=> ?_);have d7:=d16.fr0 f7;have s7:=s16.fr0 f7;rw[PtrC_some];refine qK d7.row rfl ?_;rw[PtrC_some];refine qC d7.row rfl ?_;rw[PtrC_some]
   iterate 4 refine qC d7.row rfl ?_
   refine qD (f7.row0 h16) sQ fun w8 h8 f8 n8=> ?_;refine qD h8 sQ fun w9 h9 f9 n9=> ?_;refine qD h9 sQ fun w10 h10 f10 n10=> ?_;refine qD h10 sQ fun w11 h11 f11 n11=> ?_;have F8:Fr [r15] w16 w11:=(f7.mono sQ).trans (f8.trans (f9.trans (f10.trans f11)));have d11:=d16.fr F8 (by simp;omega) (by simp;omega);have s11:=s16.fr F8 (by simp;omega) (by simp;omega);have e11:=F8.row1 e9 oQ;have F11:Fr [ib] w w11:=(hf6.mono sQ).trans' F8 (fun x hx hlt=>by simp at hx;omega);exact hJ _ _ ⟨rfl,e11,h11,⟨ex,hQ1,d11⟩,s11,F11,oQ⟩
  case k180=>
   refine xG rX rfl aJ ⟨_,rfl,qM ?_⟩;refine xG rY rfl aK ⟨_,rfl,qM ?_⟩;refine xG uM rfl tP ⟨_,rfl,qM ?_⟩;refine xG jH rfl rL ⟨_,rfl,qM ?_⟩;refine yR tB ⟨_,rfl,xA (yR tB ⟨_,rfl,?_⟩)⟩;rw[PtrC_some];refine qK s16.row rfl (qE fun w7 f7 n7=> ?_);have d7:=d16.fr0 f7;have s7:=s16.fr0 f7;rw[PtrC_some];refine qK d7.row rfl ?_;rw[PtrC_some];refine qC d7.row rfl ?_;rw[PtrC_some]
   iterate 4 refine qC d7.row rfl ?_
   refine qD (f7.row0 h16) sQ fun w8 h8 f8 n8=> ?_;refine qD h8 sQ fun w9 h9 f9 n9=> ?_;refine qD h9 sQ fun w10 h10 f10 n10=> ?_;refine qD h10 sQ fun w11 h11 f11 n11=> ?_;have F8:Fr [r15] w16 w11:=(f7.mono sQ).trans (f8.trans (f9.trans (f10.trans f11)));have d11:=d16.fr F8 (by simp;omega) (by simp;omega);have s11:=s16.fr F8 (by simp;omega) (by simp;omega);have e11:=F8.row1 e9 oQ;have F11:Fr [ib] w w11:=(hf6.mono sQ).trans' F8 (fun x hx hlt=>by simp at hx;omega);exact hJ _ _ ⟨rfl,e11,h11,⟨ex,hQ1,d11⟩,s11,F11,oQ⟩
  case k182=>
   refine xG rX rfl aJ ⟨_,rfl,qM ?_⟩;refine xG rY rfl aK ⟨_,rfl,qM ?_⟩;refine xG uM rfl tP ⟨_,rfl,qM ?_⟩;refine xG jH rfl rL ⟨_,rfl,qM ?_⟩;refine xG tB rfl cX ⟨_,rfl,qM ?_⟩;refine yR rW ⟨_,rfl,xA (yR rW ⟨_,rfl,?_⟩)⟩;rw[PtrC_some];refine qK s16.row rfl (qE fun w7 f7 n7=> ?_);have d7:=d16.fr0 f7;have s7:=s16.fr0 f7;rw[PtrC_some];refine qK d7.row rfl ?_;rw[PtrC_some];refine qC d7.row rfl ?_;rw[PtrC_some]
   iterate 4 refine qC d7.row rfl ?_
   refine qD (f7.row0 h16) sQ fun w8 h8 f8 n8=> ?_;refine qD h8 sQ fun w9 h9 f9 n9=> ?_;refine qD h9 sQ fun w10 h10 f10 n10=> ?_;refine qD h10 sQ fun w11 h11 f11 n11=> ?_;have F8:Fr [r15] w16 w11:=(f7.mono sQ).trans (f8.trans (f9.trans (f10.trans f11)));have d11:=d16.fr F8 (by simp;omega) (by simp;omega);have s11:=s16.fr F8 (by simp;omega) (by simp;omega);have e11:=F8.row1 e9 oQ;have F11:Fr [ib] w w11:=(hf6.mono sQ).trans' F8 (fun x hx hlt=>by simp at hx;omega);exact hJ _ _ ⟨rfl,e11,h11,⟨ex,hQ1,d11⟩,s11,F11,oQ⟩
  case k184=>
   refine xG rX rfl aJ ⟨_,rfl,qM ?_⟩;refine xG rY rfl aK ⟨_,rfl,qM ?_⟩;refine xG uM rfl tP ⟨_,rfl,qM ?_⟩;refine xG jH rfl rL ⟨_,rfl,qM ?_⟩;refine xG tB rfl cX ⟨_,rfl,qM ?_⟩;refine xG rW rfl qBq ⟨_,rfl,qM ?_⟩;refine yR bN ⟨_,rfl,xA (yR bN ⟨_,rfl,?_⟩)⟩;rw[PtrC_some];refine qK s16.row rfl (qE fun w7 f7 n7=> ?_);have d7:=d16.fr0 f7;have s7:=s16.fr0 f7;rw[PtrC_some];refine qK d7.row rfl ?_;rw[PtrC_some];refine qC d7.row rfl ?_;rw[PtrC_some]
   iterate 4 refine qC d7.row rfl ?_
   refine qD (f7.row0 h16) sQ fun w8 h8 f8 n8=> ?_;refine qD h8 sQ fun w9 h9 f9 n9=> ?_;refine qD h9 sQ fun w10 h10 f10 n10=> ?_;refine qD h10 sQ fun w11 h11 f11 n11=> ?_;have F8:Fr [r15] w16 w11:=(f7.mono sQ).trans (f8.trans (f9.trans (f10.trans f11)));have d11:=d16.fr F8 (by simp;omega) (by simp;omega);have s11:=s16.fr F8 (by simp;omega) (by simp;omega);have e11:=F8.row1 e9 oQ;have F11:Fr [ib] w w11:=(hf6.mono sQ).trans' F8 (fun x hx hlt=>by simp at hx;omega);obtain⟨l5,hl5,rfl⟩:=hQ1 rfl;obtain⟨l6,hl6,rfl⟩:=hQ2 rfl;have q9:r9≠ib/\r15≠ib:=oQ;refine qE fun w12 f12 n12=> ?_;have d12:=d11.fr0 f12;have s12:=s11.fr0 f12;have F12:Fr [ib] w w12:=F11.trans (f12.mono sQ);rw[PtrC_some];refine qK d12.row rfl ?_;rw[PtrC_some];refine qK s12.row rfl (qF (fun _ => ?_) (fun _ =>hJ _ _ ⟨rfl,f12.row0 e11,f12.row0 h11,⟨_,fun _ =>⟨l5,hl5,rfl⟩,d12⟩,s12,F12,oQ⟩));rw[PtrC_some];refine qK s12.row rfl ?_;rw[PtrC_some];refine qD d12.row (by simp[iM]) fun w13 h13 f13 n13=>hJ _ _ ⟨rfl,f13.row1 (f12.row0 e11) q9.1,f13.row1 (f12.row0 h11) q9.2,⟨_,fun _ =>⟨l6,hl6,rfl⟩,⟨h13,d12.pix.fr f13 (by simp;exact fun e=>d12.ne e.symm),d12.ne,d12.lim⟩⟩,s12.fr f13 (by simp;omega) (by simp;omega),F12.trans f13,oQ⟩
  case k176=>
   refine xG rX rfl aJ ⟨_,rfl,qM ?_⟩;refine xG rY rfl aK ⟨_,rfl,qM ?_⟩;refine xG uM rfl tP ⟨_,rfl,qM ?_⟩;refine xG jH rfl rL ⟨_,rfl,qM ?_⟩;refine xG tB rfl cX ⟨_,rfl,qM ?_⟩;refine xG rW rfl qBq ⟨_,rfl,qM ?_⟩;refine xG bN rfl zv184 ⟨_,rfl,qM ?_⟩;refine yR tZ ⟨_,rfl,xA (yR tZ ⟨_,rfl,?_⟩)⟩;rw[PtrC_some];refine qK s16.row rfl (qE fun w7 f7 n7=> ?_);have d7:=d16.fr0 f7;have s7:=s16.fr0 f7;rw[PtrC_some];refine qK d7.row rfl ?_;rw[PtrC_some];refine qC d7.row rfl ?_;rw[PtrC_some]
   iterate 4 refine qC d7.row rfl ?_
   refine qD (f7.row0 h16) sQ fun w8 h8 f8 n8=> ?_;refine qD h8 sQ fun w9 h9 f9 n9=> ?_;refine qD h9 sQ fun w10 h10 f10 n10=> ?_;refine qD h10 sQ fun w11 h11 f11 n11=> ?_;have F8:Fr [r15] w16 w11:=(f7.mono sQ).trans (f8.trans (f9.trans (f10.trans f11)));have d11:=d16.fr F8 (by simp;omega) (by simp;omega);have s11:=s16.fr F8 (by simp;omega) (by simp;omega);have e11:=F8.row1 e9 oQ;have F11:Fr [ib] w w11:=(hf6.mono sQ).trans' F8 (fun x hx hlt=>by simp at hx;omega);exact hJ _ _ ⟨rfl,e11,h11,⟨ex,hQ1,d11⟩,s11,F11,oQ⟩
  case k178=>
   refine xG rX rfl aJ ⟨_,rfl,qM ?_⟩;refine xG rY rfl aK ⟨_,rfl,qM ?_⟩;refine xG uM rfl tP ⟨_,rfl,qM ?_⟩;refine xG jH rfl rL ⟨_,rfl,qM ?_⟩;refine xG tB rfl cX ⟨_,rfl,qM ?_⟩;refine xG rW rfl qBq ⟨_,rfl,qM ?_⟩;refine xG bN rfl zv184 ⟨_,rfl,qM ?_⟩;refine xG tZ rfl pL ⟨_,rfl,qM ?_⟩;refine yR lS ⟨_,rfl,xA (yR lS ⟨_,rfl,?_⟩)⟩;rw[PtrC_some];refine qK s16.row rfl (qE fun w7 f7 n7=> ?_);have d7:=d16.fr0 f7;have s7:=s16.fr0 f7;rw[PtrC_some];refine qK d7.row rfl ?_;rw[PtrC_some];refine qC d7.row rfl ?_;rw[PtrC_some]
   iterate 4 refine qC d7.row rfl ?_
   refine qD (f7.row0 h16) sQ fun w8 h8 f8 n8=> ?_;refine qD h8 sQ fun w9 h9 f9 n9=> ?_;refine qD h9 sQ fun w10 h10 f10 n10=> ?_;refine qD h10 sQ fun w11 h11 f11 n11=> ?_;have F8:Fr [r15] w16 w11:=(f7.mono sQ).trans (f8.trans (f9.trans (f10.trans f11)));have d11:=d16.fr F8 (by simp;omega) (by simp;omega);have s11:=s16.fr F8 (by simp;omega) (by simp;omega);have e11:=F8.row1 e9 oQ;have F11:Fr [ib] w w11:=(hf6.mono sQ).trans' F8 (fun x hx hlt=>by simp at hx;omega);exact hJ _ _ ⟨rfl,e11,h11,⟨ex,hQ1,d11⟩,s11,F11,oQ⟩
end
end Go.Proofs
namespace Go.V
open Go
open Go.IntKind (wrap)
def preC(P:Program)(G:Nat ->Bool)(ann:Nat ->Option (Lv×List Nat)):Nat ->Nat ->Code ->(Exit ->Env ->World ->Prop) ->(Env ->World ->Prop) ->Env ->World ->Prop
 |0,_,_,_,M,e,w=>M e w
 |n+1,b,.seq x y,K,M,e,w=>vc P G ann (b+1) x (fun ex e w=>match ex with| .normal=>preC P G ann n (b+1+Code.sz x) y K M e w|ex=>K ex e w) e w
 |_,_,_,_,_,_,_ =>False
def fI:Nat ->Code ->Code
 |0,c=>c
 |n+1,.seq _ y=>fI n y
 |_,c=>c
def oY:Code ->Code| .seq _ r=>r|c=>c
def DefAt(c:Code)(s x y:Nat)(name:String):Prop:=∃id t1 p1 a1 t2 p2 a2 t3 p3 a3,c= .seq (.region id #[⟨some x,.move (.tmp s),t1,p1,a1,none⟩,⟨some y,.nilCheck (.tmp x),t2,p2,a2,none⟩,⟨none,.defer ⟨.invoke (.tmp y) name,#[],#[]⟩,t3,p3,a3,none⟩] false) (oY c)
def bP:List ResultVar ->Bool|[]=>true| .tmp _ ::r=>bP r|_ =>false
section
variable{P:Program}{G:Nat ->Bool}
theorem cM(hm:P.follows .mixedOrders=true)(hG:jW P G){ann:Nat ->Option (Lv×List Nat)}{N:Nat}{dfs:List Deferred}{K:Exit ->Env ->World ->Prop}{M:Env ->World ->Prop}:
  ∀(n b:Nat) (c:Code) (e:Env) (a:Act) (w:wQ),(∀d∈Code.dsts c,d<N) ->preC P G ann n b c K M e w ->Rep N dfs e a ->∀{Q:Exit ->Act ->World ->Prop},
   (∀ex e' a' w',ex≠ .normal ->Rep N dfs e' a' ->K ex e' w' ->Q ex a' w') ->(∀e' a' w',Rep N dfs e' a' ->Ext (Code.dsts c) a a' ->M e' w' ->(fI n c).wp P Q a' w') ->c.wp P Q a w
 |0,b,c,e,a,w,_,h,hr,Q,_,hM=>hM e a w hr (Ext.refl _ _) h
 |n+1,b,.seq x y,e,a,w,hd,h,hr,Q,hK,hM=>by
  have hdx:∀d∈Code.dsts x,d<N:=fun d h=>hd d (List.mem_append_left _ h);have hdy:∀d∈Code.dsts y,d<N:=fun d h=>hd d (List.mem_append_right _ h);refine wp_seq (wp_mono (gT hm hG x _ _ _ _ _ hdx h hr) ?_);rintro ex a1 w1 ⟨e1,hr1,hx1,hk⟩
  cases ex with
  |normal=>
   exact cM hm hG n _ y e1 a1 w1 hdy hk hr1 hK fun e' a' w' hr' hx' hM'=>hM e' a' w' hr' (fun s hs=>(hx' s fun h=>hs (List.mem_append_right _ h)).trans (hx1 s fun h=>hs (List.mem_append_left _ h))) hM'
  |_ =>exact hK _ e1 a1 w1 sQ hr1 hk
 |n+1,b,.skip,_,_,_,_,h,_,_,_,_ |n+1,b,.label _,_,_,_,_,h,_,_,_,_ |n+1,b,.exit _,_,_,_,_,h,_,_,_,_ |n+1,b,.goto _,_,_,_,_,h,_,_,_,_ |n+1,b,.ret,_,_,_,_,h,_,_,_,_ |n+1,b,.region ..,_,_,_,_,h,_,_,_,_ |n+1,b,.cond ..,_,_,_,_,h,_,_,_,_ |n+1,b,.block ..,_,_,_,_,h,_,_,_,_ |n+1,b,.loop ..,_,_,_,_,h,_,_,_,_ |n+1,b,.scope ..,_,_,_,_,h,_,_,_,_ |n+1,b,.refuse ..,_,_,_,_,h,_,_,_,_ |n+1,b,.rangeFunc ..,_,_,_,_,h,_,_,_,_ =>h.elim
theorem iD(hm:P.follows .mixedOrders=true)(hG:jW P G){ann:Nat ->Option (Lv×List Nat)}{f:FuncId}{fn:Func}{c:Code}{args:List Value}{w:wQ}{u:FrameMode}{R:Value ->World ->Prop}(hf:P.funcs[f]? =some fn)(hb:fn.body=some c)
  (hd:okD fn.ntmps (Code.dsts c)=true)(hn:Nat.ble args.length fn.ntmps=true)(h:vc P G ann 0 c (lZ P fn.results.toList R) (jX 0 args) w):CallsD P f args.toArray u w fun e u' w'=>u'=u/\∃v,e= .returned v/\R v w':=by
 have hn:=Nat.le_of_ble_eq_true hn;refine callsD_of_wp hf hb ?_;have hr:Rep fn.ntmps [] (jX 0 args) {tmps:=args.toArray++Array.replicate (fn.ntmps -args.toArray.size) undef,defers:=[]}:=by
  refine⟨by simp;omega,fun s v hs=> ?_,rfl⟩;obtain⟨_,h2⟩:=kH hs;have hlt:s<args.length:=by simpa using(List.getElem?_eq_some_iff.1 h2).1
  refine⟨oQ,?_⟩;simp only[Array.getD_eq_getD_getElem?];rw[Array.getElem?_append_left (by simpa using hlt)];simp at h2;simp[h2]
 refine wp_mono (gT hm hG c 0 _ _ _ w (sT hd) h hr) ?_;rintro ex a' w' ⟨e',hr',_,hk⟩
 cases ex with
 |normal=>
  obtain⟨v,h1,h2⟩:=yJ hr' hk;exact⟨hr'.defers,v,h1,v,rfl,h2⟩
 |ret=>
  obtain⟨v,h1,h2⟩:=yJ hr' hk;exact⟨hr'.defers,v,h1,v,rfl,h2⟩
 |_ =>exact hk.elim
theorem wF{rs:List ResultVar}(ho:bP rs=true){e:Env}{w:wQ}{K:List Value ->Prop}(h:gA P w rs e K):∃vs,K vs/\∀(w':wQ) (K':List Value ->Prop),K' vs ->gA P w' rs e K':=by
 induction rs generalizing K with
 |nil=>exact⟨[],h,fun _ _ h=>h⟩
 |cons r rs ih=>
  cases r with
  |tmp t=>
   simp only[gA]at h
   split at h
   ·rename_i v hv
    obtain⟨vs,h1,h2⟩:=ih ho h;refine⟨v::vs,h1,fun w' K' h=> ?_⟩;simp only[gA,hv];exact h2 w' _ h
   ·exact h.elim
  |cell _ _ =>cases ho
def lI(P:Program)(G:Nat ->Bool)(recv:Value)(name:String)(w:wQ)(K:World ->Prop):Prop:=
 ∃t v f r,recv= .iface t v/\(∀w,(method (P.types.size+Made.depth) t v name).run P w= .ok (f,r) w)/\G f=true/\CallsD P f #[r] .returning w fun e u' w'=>u'= .returning/\∃v,e= .returned v/\K w'
theorem dW{n:Nat}(hm:P.follows .mixedOrders=true)(hG:jW P G){f:FuncId}{fn:Func}{c:Code}{args:List Value}{w:wQ}{R:Value ->World ->Prop}(hf:P.funcs[f]? =some fn)(hb:fn.body=some c)
  (hd:okD fn.ntmps (Code.dsts c)=true)(hdr:okD fn.ntmps (Code.dsts (oY (fI n c)))=true)(hn:Nat.ble args.length fn.ntmps=true)(hk:oL args.length (Code.dsts c)=true)(ho:bP fn.results.toList=true)
  {s x y:Nat}{name:String}(hdef:DefAt (fI n c) s x y name)(hx:args.length<=x/\args.length<=y/\x<fn.ntmps/\y<fn.ntmps/\x≠y){ls:Lv}(hls:∀p∈ls,p.1≠x/\p.1≠y){ann ann2:Nat ->Option (Lv×List Nat)}(M:ST ls ->World ->Prop)
  (start:preC P G ann n 0 c (lZ P fn.results.toList R) (fun e w=>fU ls e fun z=>M z w) (jX 0 args) w)
  (round:∀z w,M z w ->∃t v,(sZ ls z).get s=some (.iface t v)/\vc P G ann2 0 (oY (fI n c)) (lZ P fn.results.toList fun r w'=>lI P G (.iface t v) name w' fun w''=>R r w'') (jX 0 args++sZ ls z) w):CallT P f args.toArray w R:=by
 have hn:=Nat.le_of_ble_eq_true hn;refine calls_of_wp_defers hf hb ?_;have hr:Rep fn.ntmps [] (jX 0 args) {tmps:=args.toArray++Array.replicate (fn.ntmps -args.toArray.size) undef,defers:=[]}:=by
  refine⟨by simp;omega,fun s v hs=> ?_,rfl⟩;obtain⟨_,h2⟩:=kH hs;have hlt:s<args.length:=by simpa using(List.getElem?_eq_some_iff.1 h2).1
  refine⟨oQ,?_⟩;simp only[Array.getD_eq_getD_getElem?];rw[Array.getElem?_append_left (by simpa using hlt)];simp at h2;simp[h2]
 refine cM hm hG n 0 c _ _ _ (sT hd) start hr ?_ ?_
 ·rintro ex e' a' w' _ hr' hK
  cases ex with
  |normal=>contradiction
  |ret=>
   obtain⟨v,h1,h2⟩:=yJ hr' hK;show Leaves P fn a'.tmps _ a'.defers .returning w';rw[hr'.defers];exact⟨v,h1,v,rfl,h2⟩
  |_ =>exact hK.elim
 ·intro e1 a1 w1 hr1 hx1 hM
  obtain⟨z,hz,hM⟩:=kW hM;obtain⟨t,v,hs,hvc⟩:=round z w1 hM;obtain⟨id,t1,p1,q1,t2,p2,q2,t3,p3,q3,hc⟩:=hdef;rw[hc];have hsv:=hr1.get s _ (hz s _ hs);have hex:a1.eval (.tmp s)= .iface t v:=hsv.2;refine wp_seq (wp_region ?_);have hsz:=hr1.size;have ev1:(a1.put (some x) (.iface t v)).eval (.tmp x)= .iface t v:=by
   simp[Act.eval,Act.put,hsz,hx.2.2.1]
  have ev2:((a1.put (some x) (.iface t v)).put (some y) (.iface t v)).eval (.tmp y)= .iface t v:=by
   simp[Act.eval,Act.put,hsz,hx.2.2.2.1]
  have hl:List.range (#[(⟨some x,.move (.tmp s),t1,p1,q1,none⟩:Oper),⟨some y,.nilCheck (.tmp x),t2,p2,q2,none⟩,⟨none,.defer ⟨.invoke (.tmp y) name,#[],#[]⟩,t3,p3,q3,none⟩]:Array Oper).size=[0,1,2]:=rfl;rw[hl];simp only[wpOps,Region.wanted];simp[Oper.wp,execOp,hex,ev1,ev2,resolve,Sem.run_bind,Sem.run_pure];refine .inl ?_;rw[Oper.upon_value];refine .inl ?_;simp only[ev1,Sem.run_pure];rw[Oper.upon_value];refine .inl ?_;rw[Oper.upon_defer];simp only[ev2]
  let dd:Deferred:={target:= .fn (.method name) #[],args:= #[.iface t v]}
  let a2:Act:={(a1.put (some x) (.iface t v)).put (some y) (.iface t v)with defers:=[dd]}
  have ha2:({(a1.put (some x) (.iface t v)).put (some y) (.iface t v)with defers:=dd::((a1.put (some x) (.iface t v)).put (some y) (.iface t v)).defers}:Act).put none undef=a2:=by
   simp only[a2,Act.put];rw[hr1.defers]
  show(oY (fI n c)).wp P (bodyPostD P fn fun e w'=>∃v,e=Ending.returned v/\R v w') _ w1;rw[show({(a1.put (some x) (.iface t v)).put (some y) (.iface t v)with defers:=dd::((a1.put (some x) (.iface t v)).put (some y) (.iface t v)).defers}:Act).put none undef=a2 from ha2];have hg:∀k,k≠x ->k≠y ->a2.tmps.getD k undef=a1.tmps.getD k undef:=by
   intro k h1 h2;simp only[a2,Act.put,Array.getD_eq_getD_getElem?];rw[Array.getElem?_setIfInBounds_ne (Ne.symm h2),Array.getElem?_setIfInBounds_ne (Ne.symm h1)]
  have hr2:Rep fn.ntmps [dd] (jX 0 args++sZ ls z) a2:=by
   refine⟨by simp[a2,Act.put,hsz],fun k u hk'=> ?_,rfl⟩;rw[bI]at hk'
   split at hk'
   ·rename_i u' hu
    have:=Option.some.inj hk';subst this;obtain⟨h3,h4⟩:=hr.get k u' hu;obtain⟨_,h5⟩:=kH hu;have hlt:k<args.length:=by simpa using(List.getElem?_eq_some_iff.1 h5).1
    refine⟨h3,?_⟩;rw[hg k oQ oQ,hx1 k (rU hk k hlt)];exact h4
   ·obtain⟨h3,h4⟩:=hr1.get k u (hz k u hk')
    have hm':∀{ls:Lv} {z:ST ls},(sZ ls z).get k=some u ->∃p∈ls,p.1=k:=by
     intro ls
     induction ls with
     |nil=>intro z h;simp[sZ,Env.get]at h
     |cons q r ih=>
      intro z h;simp only[sZ,Env.get]at h
      split at h
      ·rename_i e;exact⟨q,sQ,(Nat.eq_of_beq_eq_true e)⟩
      ·obtain⟨p,hp,e⟩:=ih h
       exact⟨p,by simp[hp],e⟩
    obtain⟨p,hp,rfl⟩:=hm' hk';exact⟨h3,by rw[hg _ (hls p hp).1 (hls p hp).2];exact h4⟩
  refine wp_mono (gT hm hG _ 0 _ _ _ w1 (sT hdr) hvc hr2) ?_;have fin:∀{e':Env} {a':Act} {w':wQ},Rep fn.ntmps [dd] e' a' ->gA P w' fn.results.toList e' (fun vs=>lI P G (.iface t v) name w' fun w''=>R (cL vs) w'') ->Leaves P fn a'.tmps (fun e w'=>∃v,e=Ending.returned v/\R v w') a'.defers .returning w':=by
   intro e' a' w' hr' hret;rw[hr'.defers];obtain⟨vs,⟨t0,v1,f0,r0,he,hmeth,hG0,hcall⟩,hall⟩:=wF ho hret
   cases he
   refine leaves_cons sQ (f:=f0) (args:= #[r0]) ?_ ?_
   ·have:(#[Value.iface t v]:vQ).extract 1 (#[Value.iface t v]:vQ).size= #[]:=rfl
    simp only[invoke,this];show(callMethod (.iface t v) name #[]).run P w'=_;simp only[callMethod,Sem.run_bind,run_program,Result.andThen_ok,hmeth w'];exact tH hG hG0
   ·refine hcall.mono ?_
    rintro e u' w'' ⟨rfl,x1,rfl,hR⟩;show Leaves P fn a'.tmps _ [] (settle .returning) w'';obtain⟨v2,h2,rfl⟩:=yJ (w:=w'') (R:=fun r _ =>r=cL vs) hr' (hall w'' _ rfl);exact⟨_,h2,_,rfl,hR⟩
  rintro ex a' w' ⟨e',hr',_,hK⟩
  cases ex with
  |normal=>exact fin hr' hK
  |ret=>exact fin hr' hK
  |_ =>exact hK.elim
end
end Go.V
namespace Go.Proofs
open Go Go.V
open Go.IntKind (wrap)
def nH(x0:Addr)(M:(Value×Value×Unit) ->World ->Prop)(R:vPq)(w:wQ):Prop:=CallT Pg 101 #[.iface 110 (.pointer (some x0))] w fun d b=>∃c a,And (d= .tuple #[c,a]) (xR a fun e=>IfC (!e) (R (.tuple #[.nilIface,a]) b) (M ((c:Value),(a:Value),()) b))
theorem qHa(x0:Addr)(M:(Value×Value×Unit) ->World ->Prop)(R:vPq)(w:wQ):preC Pg Gg (tR []) 3 0 (jD Tryz.f92) (lZ Pg Tryz.f92.results.toList R) (fun e w=>fU [(4,.v),(5,.v)] e fun z=>M z w) (jX 0 [.pointer (some x0)]) w=nH x0 M R w:=by kernel_rfl
def nJ(x0:Addr)(z:(Value×Value×Unit))(R:vPq)(w:wQ):Prop:=xH (fun(n:(Value×Value×Unit)) (F:wQ)=>xH (fun(d:(Value×Int×Unit)) (b:wQ)=>xH (fun(ah:(Unit)) (e:wQ)=>IfC (d.2.1 !=(0:Int)) (R (.tuple #[.nilIface,.iface 125 (.string ⟨#[116,111,111,32,109,117,99,104,32,112,105,120,101,108,32,100,97,116,97]⟩)]) e) (LdI e (aQq x0 9) .u32 fun G=>IfC (G !=(0:Int)) (R (.tuple #[.nilIface,.iface 125 (.string ⟨#[116,111,111,32,109,117,99,104,32,112,105,120,101,108,32,100,97,116,97]⟩)]) e) (R (.tuple #[n.2.1,.nilIface]) e))) (fun o=>xR d.1 fun H=>IfC (!H) (LdV b ⟨0,0,none⟩ fun I=>aL Pg 82 (.tmp 97) (.tmp 98) d.1 I b fun J=>IfC (!J) (vG Pg Gg b d.1 "Error" [] fun K L=>∃p,And (K= .string p) (R (.tuple #[.nilIface,.iface 125 (.string p)]) L)) (o (()) b)) (o (()) b))) (fun q=>xB (fun(M:(Value×Int×Int×Unit) ->World ->Prop)=>M ((n.1:Value),(0:Int),(0:Int),()) F) (fun a h N=>xH (fun(ai:(Unit)) (r:wQ)=>IfC (a.2.2.1==100) (qO r fun s=>LdV s ⟨5,0,none⟩ fun O=>R (.tuple #[.nilIface,O]) s) (qO r fun t=>And (0<=(1:Int)/\(1:Int)<=(768:Int)) (∃u x33,And ((#[z.1]:vQ)[0]? =some (.iface u x33)) (And (nN Pg t u x33 "Read") (vG Pg Gg t z.1 "Read" [.slice (some (aQq x0 10)) 1 768] fun P Q=>∃v y,And (P= .tuple #[iQq v,y]) (N ((y:Value),v,wIq (a.2.2.1+1),()) Q)))))) (fun S=>IfC (a.2.1==0) (xR a.1 fun T=>IfC T (S (()) h) (q ((a.1:Value),a.2.1,()) h)) (q ((a.1:Value),a.2.1,()) h))))) (fun i=>LdI w (aQq x0 778) .i64 fun U=>IfC (U==0) (CallT Pg 102 #[.pointer (some x0),z.1,iQq 0,.bool false] w fun V A=>∃B f,And (V= .tuple #[B,f]) (xR f fun X=>IfC (!X) (R (.tuple #[.nilIface,f]) A) (i ((f:Value),(B:Value),()) A))) (LdI w (aQq x0 778) .i64 fun Y=>IfC (Y==1) (CallT Pg 102 #[.pointer (some x0),.nilIface,iQq 0,.bool true] w fun Z C=>∃j g,And (Z= .tuple #[j,g]) (xR g fun aa=>IfC (!aa) (R (.tuple #[.nilIface,g]) C) (xB (fun(ab:(Int×Unit) ->World ->Prop)=>ab (0,()) C) (fun c D E=>IfC (decide (c.1<(7:Int))) (CallT Pg 102 #[.pointer (some x0),z.1,iQq c.1,.bool false] D fun ac k=>∃l m,And (ac= .tuple #[l,m]) (xR m fun ad=>IfC (!ad) (R (.tuple #[.nilIface,m]) k) (xR l fun ae=>IfC (!ae) (CallT Pg 103 #[.pointer (some x0),j,l,iQq c.1] k fun af ag=>And (af= .tuple #[]) (E (wIq (c.1+1),()) ag)) (E (wIq (c.1+1),()) k)))) (i ((g:Value),(j:Value),()) D))))) (i ((z.2.1:Value),(.nilIface:Value),()) w)))
theorem qHb(x0:Addr)(z:ST [(4,.v),(5,.v)])(R:vPq)(w:wQ):vc Pg Gg (tR [(2,[(5,.v),(6,.v)],[0,4]),(31,[(7,.i .i64)],[0,4,5,6]),(59,[(5,.v),(10,.i .i64)],[0,6]),(63,[(5,.v),(10,.i .i64),(11,.i .i64)],[0,4,6]),(64,[],[0,4,6,11]),(82,[],[0,6,10])]) 0 (oY (fI 3 (jD Tryz.f92))) (lZ Pg Tryz.f92.results.toList R) (jX 0 [.pointer (some x0)]++sZ [(4,.v),(5,.v)] z) w=nJ x0 z R w:=by kernel_rfl
theorem qGx:DefAt (fI 3 (jD Tryz.f92)) 4 21 22 "Close" :=⟨4,207,"reader.go:364",#[],207,"reader.go:364",#[⟨0,.data⟩],0,"reader.go:364",#[⟨1,.data⟩],by kernel_rfl⟩
theorem call92{x0:Addr}{R:vPq}{w:wQ}(M:(Value×Value×Unit) ->World ->Prop)(h0:nH x0 M R w)(h1:∀z w,M z w ->∃t v,z.1= .iface t v/\nJ x0 z (fun r w'=>lI Pg Gg (.iface t v) "Close" w' fun w''=>R r w'') w):CallT Pg 92 #[.pointer (some x0)] w R:=
 dW (n:=3) follows dU Tryz.func92 (c:=jD Tryz.f92) (by kernel_rfl) (by kernel_rfl) (by kernel_rfl) (by kernel_rfl) (by kernel_rfl) (by kernel_rfl) qGx (by refine⟨?_,?_,?_,?_,?_⟩<;>first|decide|exact Nat.le_of_ble_eq_true rfl) (ls:=[(4,.v),(5,.v)]) dQ M ((qHa x0 M R w).mpr h0) (fun z w hz=>let⟨t,v,e,h⟩:=h1 z w hz;⟨t,v,congrArg some e,(qHb x0 z _ w).mpr h⟩)
def wp247(x0:Addr)(R:vPq)(w:wQ):Prop:=xH (fun(p:(Unit)) (c:wQ)=>LdV c (aQq x0 1) fun f=>vG Pg Gg c f "Close" [] fun g h=>∃b,And (g=b) (yE (Value.oneCell' b) (qB h (aQq x0 3) b fun d=>LdV d (aQq x0 3) fun i=>R (i:Value) d))) (fun e=>qO w fun a=>LdV a (aQq x0 3) fun j=>xR j fun k=>IfC (!k) (LdV a (aQq x0 3) fun l=>LdV a ⟨0,0,none⟩ fun m=>aL Pg 82 (.tmp 12) (.tmp 13) l m a fun n=>IfC (!n) (LdV a (aQq x0 3) fun o=>R (o:Value) a) (e (()) a)) (e (()) a))
theorem eq247(x0:Addr)(R:vPq)(w:wQ):vc Pg Gg (tR [(2,[],[0])]) 0 (jD Tryz.f247) (lZ Pg Tryz.f247.results.toList R) (jX 0 [.pointer (some x0)]) w=wp247 x0 R w:=by kernel_rfl
def wp257(x0:Addr)(R:vPq)(w:wQ):Prop:=qO w fun a=>LdV a (aQq x0 1048) fun b=>LdV a ⟨0,0,none⟩ fun c=>kX Pg 82 (.tmp 6) (.tmp 7) b c a fun d=>IfC d (R (.nilIface) a) (LdV a (aQq x0 1048) fun e=>R (e:Value) a)
theorem call257{x0:Addr}{R:vPq}{w:wQ}(h:wp257 x0 R w):CallT Pg 257 #[.pointer (some x0)] w R:=cVq [] Tryz.func257 h
def wp194(x0:ByteArray)(R:vPq)(w:wQ):Prop:=And (ByteArray.size ⟨#[112,110,103,58,32,105,110,118,97,108,105,100,32,102,111,114,109,97,116,58,32]⟩+ByteArray.size x0<=9223372036854775807) (R (.string (⟨#[112,110,103,58,32,105,110,118,97,108,105,100,32,102,111,114,109,97,116,58,32]⟩++x0)) w)
theorem call194{x0:ByteArray}{R:vPq}{w:wQ}(h:wp194 x0 R w):CallT Pg 194 #[.string x0] w R:=cVq [] Tryz.func194 h
def wp280(x0:Addr)(R:vPq)(w:wQ):Prop:=LdS w x0 fun a=>R (.string a) w
theorem call280{x0:Addr}{R:vPq}{w:wQ}(h:wp280 x0 R w):CallT Pg 280 #[.pointer (some x0)] w R:=cVq [] Tryz.func280 h
section
variable{w w' w0:wQ}{z:ZP}{E:Er}{pre:bQ}
theorem qHc{x y:Operand}{a:Addr}{K:Bool ->Prop}(h:K false):kX Pg 82 x y .nilIface (xP a) w K:=by
 obtain⟨ms,hi⟩:=u82;refine⟨false,?_,h⟩;have:∀d:Nat,(Op.equalIn (d+1) 82 .nilIface (.iface 310 (.pointer (some a)))).run Pg w= .ok false w:=fun d=>by simp[Op.equalIn,run_underlying hi]
 simp[eqGuard,xP,Op.equal,Op.maxDepth,this 9999]
theorem qCf{K:vPq}{fb:Nat}(h:CallT Pg 257 #[.pointer (some ⟨fb,0,none⟩)] w K):vG Pg Gg w (.iface 285 (.pointer (some ⟨fb,0,none⟩))) "Close" [] K:=
 ⟨285,.pointer (some ⟨fb,0,none⟩),257,.pointer (some ⟨fb,0,none⟩),rfl,rfl,h⟩
theorem c257{fb:Nat}{t:Option Bool}{arr:vQ}{F:Fl}(h:hp w fb=Row 281 arr)(hF:FAt arr F)(he:F.err= .nilIface\/F.err=xP E.ea\/Errx E t F.err)(hE:Errs w E):
  CallT Pg 257 #[.pointer (some ⟨fb,0,none⟩)] w fun v w'=>v.oneCell'=true/\Fr [] w w'/\hn w'=hn w:=by
 apply call257;unfold wp257 aQq;refine qE fun w1 f1 n1=> ?_;have E1:=hE.fr f1 sQ;obtain⟨T,heof⟩:=E1.eof;have h1:=f1.row0 h;refine qT h1 hF.err (qT (n:=xP E.ea) heof rfl ?_);rcases he with e|e|e
 ·rw[e]
  exact qHc (qM (qT h1 hF.err ⟨by rw[e];rfl,f1,n1⟩))
 ·rw[e]
  exact kN (xA ⟨rfl,f1,n1⟩)
 ·obtain⟨b,hb',hec,hne⟩:=e
  exact hec.eqEof E1 (fun he=>absurd he hne) (fun _ =>qM (qT h1 hF.err ⟨hec.one,f1,n1⟩))
theorem ZP.w247{R:vPq}(h:z.ZS w pre)(hR:∀v w',Fr [z.zb] w w' ->hn w'=hn w ->R v w'):wp247 ⟨z.zb,0,none⟩ R w:=by
 have hord:=h.ord;obtain⟨err,hB,hc⟩:=h;obtain⟨us,hus,hz⟩:=hB.row;unfold wp247 aQq;have fin:∀(w2:wQ),Fr [] w w2 ->hn w2=hn w ->∀{arr:vQ} {F:Fl},hp w z.fb=Row 281 arr ->FAt arr F ->(F.err= .nilIface\/F.err=xP z.E.ea\/Errx z.E z.t F.err) ->LdV w2 ⟨z.zb,0+1,none⟩ fun v4=>vG Pg Gg w2 v4 "Close" [] fun v5 w6=>Exists fun v7:Value=>And (v5=v7) (yE (Value.oneCell' v7) (qB w6 ⟨z.zb,0+3,none⟩ v7 fun w8=>LdV w8 ⟨z.zb,0+3,none⟩ fun v9=>R v9 w8)):=by
  intro w2 f2 n2 arr F hr hF he;refine qT (f2.row0 hz) rfl (qCf (CallT.mono (c257 (E:=z.E) (t:=z.t) (f2.row0 hr) hF he (hB.er.fr f2 sQ)) ?_));rintro v7 w6 ⟨hone,f6,n6⟩;refine⟨_,rfl,zK hone ?_⟩;refine qD (f6.row0 (f2.row0 hz)) (by rw[ZP.arr_size];show 0+3<_;omega) fun w8 h8 f8 n8=> ?_;rw[ZP.arr_set]at h8;exact qT h8 rfl (hR _ _ ((f2.trans f6).mono sQ|>.trans f8) oQ)
 have go:∀{arr:vQ} {F:Fl},hp w z.fb=Row 281 arr ->FAt arr F ->(F.err= .nilIface\/F.err=xP z.E.ea\/Errx z.E z.t F.err) ->(err= .nilIface\/err=xP z.E.ea\/Errx z.E z.t err) ->wp247 ⟨z.zb,0,none⟩ R w:=by
  intro arr F hr hF he hx;unfold wp247 aQq;refine qJ (fun _ w'=>Fr [] w w'/\hn w'=hn w) ?_ ?_
  ·rintro⟨⟩ w2 ⟨f2,n2⟩
   exact fin w2 f2 n2 hr hF he
  ·intro J hJ
   refine qE fun w10 f10 n10=> ?_;have h10:=f10.row0 hz;have E10:=hB.er.fr f10 sQ;obtain⟨T,heof⟩:=E10.eof;refine qT h10 rfl ?_;rcases hx with rfl|rfl|hx
   ·exact qR (qM (hJ _ _ ⟨f10,n10⟩))
   ·refine yA (xA (qT h10 rfl (qT (n:=xP z.E.ea) heof rfl (bB (qM (hJ _ _ ⟨f10,n10⟩))))))
   ·refine hx.nil (xA (qT h10 rfl (qT (n:=xP z.E.ea) heof rfl (hx.neEof E10 (xA (qT h10 rfl (hR _ _ (f10.mono sQ) oQ)))))))
 rcases hc with⟨rfl,_,⟨_,F,out,R',Q,bl,hFA⟩|⟨rest,e,hFB,hIs,hM⟩⟩|⟨hI,hEnd,rest,e,hFB,hE⟩
 ·obtain⟨arr,hr,hF⟩:=hFA.fs.fl.row
  exact go hr hF (.inl hFA.idle.err) (.inl rfl)
 ·obtain⟨arr,F,hr,hF,he,_⟩:=hFB.row
  refine go hr hF ?_ (.inl rfl);rw[he];rcases hM with⟨_,h2,_⟩|⟨h1,_⟩
  ·exact .inr (.inl h2)
  ·exact .inr (.inr h1)
 ·obtain⟨arr,F,hr,hF,he,_⟩:=hFB.row
  refine go hr hF (by rw[he];exact .inr hE) ?_;rcases hEnd with⟨_,h2,_⟩|⟨h1,_⟩
  ·exact .inr (.inl h2)
  ·exact .inr (.inr h1)
theorem qDp{x0:Addr}{u:FrameMode}{R:vPq}(h:wp247 x0 R w):CallsD Pg 247 #[.pointer (some x0)] u w fun e u' w'=>u'=u/\∃v,e= .returned v/\R v w':=
 iD follows dU Tryz.func247 (by kernel_rfl) (by kernel_rfl) (by kernel_rfl) ((eq247 x0 R w).mpr h)
theorem ZP.close{K:World ->Prop}(h:z.ZS w pre)(hK:∀w',Fr [z.zb] w w' ->hn w'=hn w ->K w'):lI Pg Gg (.iface 244 (.pointer (some ⟨z.zb,0,none⟩))) "Close" w K:=by
 refine⟨244,.pointer (some ⟨z.zb,0,none⟩),247,.pointer (some ⟨z.zb,0,none⟩),rfl,fun _ =>rfl,rfl,(qDp (ZP.w247 h (R:=fun _ w'=>K w') fun _ w' f n=>hK w' f n)).mono ?_⟩;rintro e u' w' ⟨hu,v,he,hk⟩;exact⟨hu,v,he,hk⟩
end
section
variable{w w' w0:wQ}{z:ZP}{E:Er}{pre:bQ}
def sU(W H bits k:Nat):Nat:=if passW W k=0\/passH H k=0 then 0 else passH H k*xT bits (passW W k)
def gF(W H bits:Nat):Nat ->Nat|0=>0|k+1=>gF W H bits k+sU W H bits k
def PassesOk(W H bits:Nat)(xs:bQ)(n:Nat):Prop:=∀k,k<n ->passW W k≠0 ->∀i,i<passH H k ->gb xs (gF W H bits k+i*xT bits (passW W k))<5
def GoodRows(lace:Int)(W H bits:Nat)(xs:bQ):Prop:=(lace≠1 ->xs.length=H*xT bits W/\nL xs (xT bits W) H)/\(lace=1 ->xs.length=gF W H bits 7/\PassesOk W H bits xs 7)
theorem lU{W H bits j k:Nat}(h:j<=k):gF W H bits j<=gF W H bits k:=by
 induction k with
 |zero=>
  obtain rfl:j=0:=oQ;exact Nat.le_refl _
 |succ k ih=>
  rcases Nat.lt_or_ge j (k+1)with hj|hj
  ·have:=ih oQ
   simp only[gF];omega
  ·obtain rfl:j=k+1:=oQ
   exact Nat.le_refl _
theorem tE{W H bits k:Nat}(h1:passW W k≠0)(h2:passH H k≠0):sU W H bits k=passH H k*xT bits (passW W k):=by
 unfold sU;rw[if_neg oQ]
theorem pos_lt{W H bits j i:Nat}(h1:passW W j≠0)(hi:i<passH H j):gF W H bits j+i*xT bits (passW W j)<gF W H bits (j+1):=by
 simp only[gF];rw[tE h1 oQ];have:i*xT bits (passW W j)<passH H j*xT bits (passW W j):=Nat.mul_lt_mul_of_pos_right hi (by unfold xT;omega);omega
theorem PassesOk.step{W H bits k:Nat}{xs ys:bQ}(h:PassesOk W H bits xs k)(hl:xs.length=gF W H bits k)(h1:passW W k≠0)(hy:nL ys (xT bits (passW W k)) (passH H k)):PassesOk W H bits (xs++ys) (k+1):=by
 intro j hj hw i hi;rcases Nat.lt_or_ge j k with hjk|hjk
 ·have a:=pos_lt (bits:=bits) hw hi
  have b:=lU (W:=W) (H:=H) (bits:=bits) (show j+1<=k by omega);rw[yL oQ];exact h j hjk hw i hi
 ·obtain rfl:j=k:=oQ
  rw[<-hl,vB];exact hy i hi
theorem PassesOk.skip{W H bits k:Nat}{xs:bQ}(h:PassesOk W H bits xs k)(h0:passW W k=0\/passH H k=0):PassesOk W H bits xs (k+1):=by
 intro j hj hw i hi;rcases Nat.lt_or_ge j k with hjk|hjk
 ·exact h j hjk hw i hi
 ·obtain rfl:j=k:=oQ
  omega
theorem cJ{xs ys:bQ}(h:xs<+:ys){i:Nat}(hi:i<xs.length):gb ys i=gb xs i:=by
 obtain⟨zs,rfl⟩:=h;exact yL hi
theorem qDm{W H bits k:Nat}{lace:Int}{xs:bQ}(hl1:lace=1)(hk:k<7)(hpl:pre.length=gF W H bits k)(h1:passW W k≠0)(hp:pre++xs<+:z.fin)(ht:z.t=none)(hb:mH z pre xs (xT bits (passW W k)) (passH H k)):¬GoodRows lace W H bits z.fin:=by
 intro hG;obtain⟨hlen,hP⟩:=hG.2 hl1;rcases hb ht with⟨he,hxl⟩|⟨i,hi,hix,h5⟩
 ·have e:z.fin.length=pre.length+xs.length:=by rw[<-he,List.length_append]
  have h2:passH H k≠0:=by intro h0;rw[h0]at hxl;omega
  have a:gF W H bits (k+1)=gF W H bits k+passH H k*xT bits (passW W k):=by simp only[gF];rw[tE h1 h2]
  have b:=lU (W:=W) (H:=H) (bits:=bits) (show k+1<=7 by omega);omega
 ·have:=hP k hk h1 i hi
  rw[cJ hp (by rw[List.length_append,hpl];omega),<-hpl,vB]at this;omega
theorem qDn{W H bits:Nat}{lace:Int}{xs:bQ}(hl1:lace≠1)(hp:xs<+:z.fin)(ht:z.t=none)(hb:mH z [] xs (xT bits W) H):¬GoodRows lace W H bits z.fin:=by
 intro hG;obtain⟨hlen,hP⟩:=hG.1 hl1;rcases hb ht with⟨he,hxl⟩|⟨i,hi,hix,h5⟩
 ·rw[List.nil_append]at he
  rw[<-he]at hlen;omega
 ·have:=hP i hi
  rw[cJ hp hix]at this;omega
end
section
variable{w w' w0:wQ}{z:ZP}{E:Er}{pre:bQ}
theorem c194{s:ByteArray}(hs:s.size<=100):CallT Pg 194 #[.string s] w fun v w'=>∃s',v= .string s'/\w'=w:=by
 apply call194;unfold wp194;refine⟨?_,_,rfl,rfl⟩;have:ByteArray.size ⟨#[112,110,103,58,32,105,110,118,97,108,105,100,32,102,111,114,109,97,116,58,32]⟩=21:=rfl;omega
theorem c280{a:Addr}{s:ByteArray}(h:ErrAt w a s):CallT Pg 280 #[.pointer (some a)] w fun v w'=>∃s',v= .string s'/\w'=w:=by
 apply call280;unfold wp280;obtain⟨h0,c,T,h1,h2⟩:=h;obtain⟨b,o,sp⟩:=a;dsimp only at h0 h1 h2;subst h0;have hr:hp w b=Row T c:=by simp[hp,h1,gN,Row]
 exact qDd hr h2 ⟨_,rfl,rfl⟩
theorem invErr{t:Option Bool}{e:Value}(h:Errx E t e)(hE:Errs w E){K:vPq}(hK:∀s,K (.string s) w):vG Pg Gg w e "Error" [] K:=by
 obtain⟨b,_,hec,hne⟩:=h
 cases b with
 |true=>
  obtain⟨s,rfl,hs⟩:=hec;refine⟨125,.string s,194,.string s,rfl,rfl,CallT.mono (c194 (hs rfl)) ?_⟩;rintro _ w' ⟨s',rfl,rfl⟩;exact hK _
 |false=>
  rcases hec with rfl|rfl
  ·exact absurd rfl hne
  ·refine⟨310,.pointer (some E.ua),280,.pointer (some E.ua),rfl,rfl,CallT.mono (c280 hE.ut) ?_⟩
   rintro _ w' ⟨s',rfl,rfl⟩;exact hK _
theorem oI{k c:Nat}{rs:bQ}{s:Nat×Nat×bQ}(h:Flow k c rs [] s):k=s.1\/k=0:=by
 cases h with
 |done=>exact .inl rfl
 |next=>exact .inr rfl
theorem GoodRows.len{lace:Int}{W H bits:Nat}{xs ys:bQ}(h1:GoodRows lace W H bits xs)(h2:GoodRows lace W H bits ys):xs.length=ys.length:=by
 by_cases h:lace=1
 ·rw[(h1.2 h).1,(h2.2 h).1]
 ·rw[(h1.1 h).1,(h2.1 h).1]
theorem cO(b W:Nat):1<=xT b W:=by unfold xT;omega
def pM(w:wQ)(db rb kb:Nat)(p:pQ)(d:Dec)(E:Er)(t:Option Bool)(fin:bQ)(s:Nat×Nat×bQ)(n:Nat)(pt IT:TypeId)(bpp bits W H:Nat)(v:Value)(w':wQ):Prop:=Fr [rb,kb,db] w w'/\hn w<=hn w'/\
 ((∃ib pb ex,v= .tuple #[.iface pt (.pointer (some ⟨ib,0,none⟩)),.nilIface]/\ImgW w' ib pb IT bpp W H ex/\(IT=186 ->QP d.pal.a ex)/\hn w<=ib/\hn w<=pb/\(∃dd crc rs,SameD d dd/\Dst w' db rb kb p dd crc rs/\dd.idat=(0:Nat)/\Flow 0 crc rs [] s)/\(t=none ->GoodRows d.lace W H bits fin)/\t≠some false)\/
  (∃e,v= .tuple #[.nilIface,e]/\((e=xP E.ua/\t=some false/\n<2)\/((∃s,e= .iface 125 (.string s))/\(t=some false ->2<=n)))/\DW w' db rb kb p d/\(t=none ->¬GoodRows d.lace W H bits fin)))
theorem c92{db rb kb cb D bits bpp W H:Nat}{tr cp:Bool}{pt IT:TypeId}{p:pQ}{d:Dec}{t:Option Bool}{fin out:bQ}{bl:List Blk}{s:Nat×Nat×bQ}(hk:PK cb D tr pt IT bpp bits cp){ys:bQ}(h:GivesD w db rb kb p d t ([120,1]++out++xI (adlerL fin)) s ys)(hE:Errs w E)(hlo:E.n0<=rb)(hfin:fin.length<32768)(hS:kG fin bl)(hP:rN out (xS 0 bl))
  (hL:LaceAt w E.n0)(hd:Hd d cb D W H tr IT)(hlace:d.lace=0\/d.lace=1)(hs0:t=none ->s.1=0)(hrk:rb<kb/\kb<db/\db<hn w):
  CallT Pg 92 #[.pointer (some ⟨db,0,none⟩)] w (pM w db rb kb p d E t fin s ys.length pt IT bpp bits W H):=by
 suffices key:∀R:vPq,(∀v w',pM w db rb kb p d E t fin s ys.length pt IT bpp bits W H v w' ->R v w') ->CallT Pg 92 #[.pointer (some ⟨db,0,none⟩)] w R from key _ fun _ _ h=>h
 intro R hR;refine call92 (fun y w1=>∃z:ZP,y=(.iface 244 (.pointer (some ⟨z.zb,0,none⟩)),.nilIface,())/\Fr [rb,kb,db] w w1/\z.ZS w1 []/\z.db=db/\z.rb=rb/\z.kb=kb/\z.p=p/\z.d=d/\z.E=E/\z.t=t/\z.fin=fin/\z.s=s/\hn w<=z.zb/\z.ab<hn w1/\2<=ys.length) ?_ ?_
 ·unfold nH
  refine CallT.mono (c101 h hE hlo hfin hS hP) ?_;rintro v w1 ⟨F,nn,⟨z,rfl,hz⟩|⟨e,rfl,hx,hdw,hy2⟩⟩
  ·exact⟨_,_,rfl,qR (qM ⟨z,rfl,F,hz⟩)⟩
  ·refine⟨_,_,rfl,hx.nil (xA (hR _ _ ⟨F,nn,.inr ⟨e,rfl,?_,hdw,?_⟩⟩))⟩
   ·obtain⟨b,hb',hec,hne⟩:=hx
    cases b with
    |true=>obtain⟨s,rfl,_⟩:=hec;exact .inr ⟨⟨s,rfl⟩,fun h=>by rw[hb']at h;cases h⟩
    |false=>exact .inl ⟨hec.resolve_left hne,hb',hy2⟩
   ·intro ht
    obtain⟨b,hb',_⟩:=hx;rw[ht]at hb';cases hb'
 ·rintro _ w1 ⟨z,rfl,F1,hZ,rfl,rfl,rfl,rfl,rfl,rfl,rfl,rfl,rfl,hzb,hab,hy2⟩
  refine⟨244,.pointer (some ⟨z.zb,0,none⟩),rfl,?_⟩;have ho:=hZ.ord;have hL1:LaceAt w1 z.E.n0:=hL.fr F1 (by have:=hE.low;omega) (by simp;omega);have ret:∀(v:Value) (w2:wQ) (pr:bQ),z.ZS w2 pr ->(∀w3,Fr [z.zb] w2 w3 ->hn w3=hn w2 ->pM w z.db z.rb z.kb z.p z.d z.E z.t z.fin z.s ys.length pt IT bpp bits W H v w3) ->lI Pg Gg (.iface 244 (.pointer (some ⟨z.zb,0,none⟩))) "Close" w2 fun w3=>R v w3:=
   fun v w2 pr hz hp=>ZP.close hz fun w3 f n=>hR v w3 (hp w3 f n)
  have FS:∀w2,Fr (z.S z.rb) w1 w2 ->∀w3,Fr [z.zb] w2 w3 ->Fr [z.rb,z.kb,z.db] w w3:=fun w2 f w3 f3=>(F1.trans' f (fun x hx hlt=>by
   have:=ZP.S_mem hx;simp;omega)).trans' f3 (fun x hx hlt=>by simp at hx;omega)
  have refu:∀(w2:wQ) (pr:bQ) (sv:ByteArray),Fr (z.S z.rb) w1 w2 ->hn w1<=hn w2 ->z.ZS w2 pr ->(z.t=none ->¬GoodRows z.d.lace W H bits z.fin) ->lI Pg Gg (.iface 244 (.pointer (some ⟨z.zb,0,none⟩))) "Close" w2 fun w3=>R (.tuple #[.nilIface,.iface 125 (.string sv)]) w3:=fun w2 pr sv f n hz hb=>
   ret _ w2 pr hz fun w3 f3 n3=>⟨FS w2 f w3 f3,by have:=F1.size;omega,.inr ⟨_,rfl,.inr ⟨⟨_,rfl⟩,fun _ =>hy2⟩,DW.fr (ZP.ZS.dw hz) f3 (by simp;omega),hb⟩⟩
  unfold nJ aQq wIq iQq;dsimp only;have Smono:∀x,x∈z.S z.db ->x∈z.S z.rb:=fun x hx=>by
   have:=ZP.S_mem hx;simp[ZP.S];omega
  have no:∀b,hn w1<=b ->b∉z.S z.rb:=fun b hb' hx=>by
   have:=ZP.S_mem hx;omega
  refine qJ (fun z6 w7=>∃ib pb ex pre,z6=(.nilIface,.iface pt (.pointer (some ⟨ib,0,none⟩)),())/\ImgW w7 ib pb IT bpp W H ex/\(IT=186 ->QP z.d.pal.a ex)/\hn w1<=ib/\hn w1<=pb/\Fr (z.S z.rb) w1 w7/\hn w1<=hn w7/\z.ZS w7 pre/\pre≠[]/\GoodRows z.d.lace W H bits pre) ?_ ?_
  ·rintro _ w7 ⟨ib,pb,ex,pre,rfl,hI,hQ,l1,l2,F7,n7,hZ7,hpre,hG⟩
   dsimp only;refine qJ (fun z9 w10=>∃(xs:bQ) (ev:Value),z9=(ev,(xs.length:Int),())/\xs.length<=1/\Fr (z.S z.rb) w1 w10/\hn w1<=hn w10/\ImgW w10 ib pb IT bpp W H ex/\z.ZS w10 (pre++xs)/\((ev= .nilIface/\xs.length=1)\/(IsE ev/\z.End w10 (pre++xs) ev))) ?_ ?_
   ·rintro _ w10 ⟨xs,ev,rfl,hx1,F10,n10,hI10,hZ10,hev⟩
    dsimp only;refine qJ (fun _ w13=>w13=w10/\(xs.length=1\/(xs=[]/\pre=z.fin/\z.Gv w10 []))) ?_ ?_
    ·rintro⟨⟩ w13 ⟨rfl,hc⟩
     refine xU (fun hne=>refu _ _ _ F10 n10 hZ10 fun ht hG'=> ?_) (fun h0=> ?_)
     ·have hp:=ZP.ZS.prefix_ hZ10 ht
      have:=hp.length_le;rw[List.length_append]at this;have:=hG.len hG';omega
     ·rcases hc with hc|⟨rfl,hpf,ys,⟨B,zs,hy,S⟩,hyp,_,hxx⟩
      ·omega
      ·have hys:ys=[]:=List.prefix_nil.1 hyp
       subst hys;obtain⟨rfl,rfl⟩:=List.append_eq_nil_iff.1 hy.symm;obtain⟨dd,k,crc,rs,hsd,hD,hidat,hk32,hF⟩:=S.dec;refine qC hD.dec (dd.at9.trans (congrArg some (congrArg (Value.int .u32) hidat))) (xU (fun hne=> ?_) (fun h0=> ?_))
       ·refine refu _ _ _ F10 n10 hZ10 fun ht _ => ?_
        have:=hs0 ht;rcases oI hF with h|h<;>omega
       ·have hk0:k=0:=oQ
        subst hk0;rw[List.append_nil]at hZ10;refine ret _ _ _ hZ10 fun w3 f3 n3=>⟨FS _ F10 w3 f3,by have:=F1.size;omega,.inl ⟨ib,pb,ex,rfl,hI10.fr f3 (by simp;omega) (by simp;omega),hQ,by have:=F1.size;omega,by have:=F1.size;omega,⟨dd,crc,rs,hsd,hD.fr f3 (by simp;omega),hidat,hF⟩,(fun _ =>by rw[<-hpf];exact hG),fun h=>hxx h rfl⟩⟩
    ·intro J hJ
     have E10:=ZP.ZS.er hZ10;obtain⟨T,heof⟩:=E10.eof;rcases hev with⟨rfl,h1⟩|⟨hIs,⟨h1,rfl,hGv⟩|⟨hx,hDw⟩⟩
     ·exact qR (qM (hJ _ _ ⟨rfl,.inl h1⟩))
     ·refine yA (xA (qT (n:=xP z.E.ea) heof rfl (bB (qM (hJ _ _ ⟨rfl,?_⟩)))))
      rcases xs with _ |⟨x,xs⟩
      ·exact .inr ⟨rfl,by simpa using h1,hGv⟩
      ·exact .inl (by simp at hx1⊢;omega)
     ·refine hx.nil (xA (qT (n:=xP z.E.ea) heof rfl (hx.neEof E10 (xA (invErr hx E10 fun sv=>⟨_,rfl,refu _ _ _ F10 n10 hZ10 fun ht _ => ?_⟩)))))
      obtain⟨b,hb',_⟩:=hx;rw[ht]at hb';cases hb'
   ·intro J hJ
    refine qP (fun y w'=>(y=(.nilIface,0,0,())/\w'=w7)\/∃(xs:bQ) (ev:Value),y=(ev,(xs.length:Int),1,())/\xs.length<=1/\Fr (z.S z.rb) w1 w'/\hn w1<=hn w'/\ImgW w' ib pb IT bpp W H ex/\z.ZS w' (pre++xs)/\((ev= .nilIface/\xs.length=1)\/(IsE ev/\z.End w' (pre++xs) ev))) (fun y _ =>1 -y.2.2.1.toNat) (.inl ⟨rfl,rfl⟩) ?_;rintro y w23 (⟨rfl,rfl⟩|⟨xs,ev,rfl,hx1,F,nn,hI',hZ',hev⟩)
    ·dsimp only
     refine qJ (fun _ w'=>w'=w23) ?_ ?_
     ·rintro⟨⟩ w27 rfl
      refine xC dQ (qE fun w31 f31 n31=>⟨⟨dQ,dQ⟩,_,_,rfl,rfl,244,.pointer (some ⟨z.zb,0,none⟩),248,.pointer (some ⟨z.zb,0,none⟩),rfl,rfl,?_⟩);show CallT Pg 248 #[.pointer (some ⟨z.zb,0,none⟩),.slice (some ⟨z.db,0+10,none⟩) 1 768] w31 _;have hZ31:=ZP.ZS.fr hZ7 f31 sQ;obtain⟨dd,crc,rs,hsd,hD⟩:=ZP.ZS.dw hZ31;refine CallT.mono (ZP.c248 hZ31 (g:=z.db) (o:=10) (n:=1) (cap:=768) hD.dec (by simp;omega) (.inr ⟨rfl,hpre,rfl,dQ⟩) (by rw[dd.size,hD.htmp];omega) dQ dQ) ?_;rintro v w35 ⟨F35,n35,xs,ev,hxl,rfl,hZ35,_,hev⟩;have FF:Fr (z.S z.rb) w1 w35:=(F7.trans (f31.mono sQ)).trans (F35.mono Smono);have F735:Fr (z.S z.rb) w27 w35:=(f31.mono sQ).trans (F35.mono Smono);refine⟨_,_,rfl,.inr ⟨xs,ev,rfl,hxl,FF,oQ,hI.fr F735 (no _ l1) (no _ l2),hZ35,hev⟩,dQ⟩
     ·intro J' hJ'
      exact zA rfl (qR (xA (hJ' _ _ rfl)))
    ·dsimp only
     refine qJ (fun _ _ =>False) (fun _ _ h=>h.elim) ?_;intro J' _;have done:=hJ _ _ ⟨xs,ev,rfl,hx1,F,nn,hI',hZ',hev⟩;refine qW (fun h0=> ?_) (fun _ =>done);rcases hev with⟨_,h1⟩|⟨hIs,_⟩
     ·omega
     ·exact hIs.nil (qM done)
  ·intro J hJ
   obtain⟨dd,crc,rs,hsd,hD⟩:=ZP.ZS.dw hZ;have hlc:dd.lace=z.d.lace:=by obtain⟨a,b,rfl⟩:=hsd;rfl
   rcases hlace with hl0|hl1
   ·refine qC hD.dec ((dd.at778 hD.htmp).trans (congrArg some (congrArg (Value.int .i64) (hlc.trans hl0)))) (zA rfl ?_)
    have hne1:z.d.lace≠1:=by rw[hl0];decide
    refine CallT.mono (ZP.c102 (k:=0) (Wp:=W) (Hp:=H) hk hZ hL1 hd dQ hab (.inl ⟨hne1,rfl,rfl⟩)) ?_;rintro v w2 ⟨F2,n2,⟨h0,_⟩|⟨_,_,⟨ib,pb,ex,xs,rfl,hI,hQ,l1,l2,l3,l4,hZ2,hxl,hfil⟩|⟨xs,sv,rfl,hZ2,hbad⟩⟩⟩
    ·have:=hd.lW;have:=hd.lH;omega
    ·rw[List.nil_append]at hZ2
     refine⟨_,_,rfl,qR (qM (hJ _ _ ⟨ib,pb,ex,xs,rfl,hI,hQ,l1,l2,F2,n2,hZ2,?_,⟨fun _ =>⟨hxl,hfil⟩,fun h=>absurd h hne1⟩⟩))⟩;rintro rfl;have:1*1<=H*xT bits W:=Nat.mul_le_mul hd.lH.1 (cO _ _);simp at hxl;omega
    ·rw[List.nil_append]at hZ2
     exact⟨_,_,rfl,yA (xA (refu _ _ _ F2 n2 hZ2 fun ht=>qDn hne1 (ZP.ZS.prefix_ hZ2 ht) ht hbad))⟩
   ·have hlv:=(dd.at778 hD.htmp).trans (congrArg some (congrArg (Value.int .i64) (hlc.trans hl1)))
    refine qC hD.dec hlv (xC dQ (qC hD.dec hlv (zA rfl ?_)));refine CallT.mono (ZP.c102a hk hZ hL1 hd) ?_;rintro v w47 ⟨F47,n47,ib,pb,ex,rfl,hI,hQ,l1,l2,l3,l4⟩;refine⟨_,_,rfl,qR (qM ?_)⟩;refine qP (fun y w'=>∃(k:Nat) (ex:List Value) (pre:bQ),y=((k:Int),())/\k<=7/\ImgW w' ib pb IT bpp W H ex/\(IT=186 ->QP z.d.pal.a ex)/\Fr (z.S z.rb) w1 w'/\hn w47<=hn w'/\z.ZS w' pre/\pre.length=gF W H bits k/\PassesOk W H bits pre k) (fun y _ =>7 -y.1.toNat) ⟨0,ex,[],rfl,dQ,hI,hQ,F47.mono sQ,Nat.le_refl _,ZP.ZS.fr hZ F47 sQ,rfl,fun k hk=>absurd hk oQ⟩ ?_;rintro _ w52 ⟨k,ex5,pre,rfl,hk7,hI5,hQ5,F5,n5,hZ5,hpl,hPO⟩;dsimp only;refine qF (fun hlt=> ?_) (fun hge=> ?_)
    rotate_left
    ·obtain rfl:k=7:=oQ
     refine hJ _ _ ⟨ib,pb,ex5,pre,rfl,hI5,hQ5,l1,l2,F5,oQ,hZ5,?_,⟨fun h=>absurd hl1 h,fun _ =>⟨hpl,hPO⟩⟩⟩;rintro rfl;have a:=lU (W:=W) (H:=H) (bits:=bits) (show 1<=7 by decide);have hw0:passW W 0≠0:=by have:=hd.lW;show(W+8 -1 -0)/8≠0;omega
     have hh0:passH H 0≠0:=by have:=hd.lH;show(H+8 -1 -0)/8≠0;omega
     have b:gF W H bits 1=passH H 0*xT bits (passW W 0):=by simp only[gF];rw[tE hw0 hh0,Nat.zero_add]
     have c:1*1<=passH H 0*xT bits (passW W 0):=Nat.mul_le_mul oQ (cO _ _);simp at hpl;omega
    have hkk:k<7:=oQ;have ek:wrap .i64 ((k:Int)+1)=((k+1:Nat):Int):=by rw[qA oQ oQ];omega
    have meas:7 -((k+1:Nat):Int).toNat<7 -(k:Int).toNat:=oQ;rw[ek];have hL5:LaceAt w52 z.E.n0:=hL1.fr F5 (by have:=(ZP.ZS.er hZ).low;omega) (fun x hx=>by have:=ZP.S_mem hx;omega);refine CallT.mono (ZP.c102 (k:=k) (Wp:=passW W k) (Hp:=passH H k) hk hZ5 hL5 hd hkk oQ (.inr ⟨hl1,rfl,rfl⟩)) ?_;rintro v w56 ⟨F6,n6,⟨h0,rfl,hZ6⟩|⟨hw1,hh1,⟨sb,qb,ex6,xs,rfl,hI6,hQ6,m1,m2,m3,m4,hZ6,hxl,hfil⟩|⟨xs,sv,rfl,hZ6,hbad⟩⟩⟩
    ·have i6:=hI5.fr F6 (no _ l1) (no _ l2)
     refine⟨_,_,rfl,qR (qM (qR (qM ⟨⟨k+1,ex5,pre,rfl,oQ,i6,hQ5,F5.trans F6,oQ,hZ6,?_,hPO.skip h0⟩,meas⟩)))⟩;simp only[gF];unfold sU;rw[if_pos h0];omega
    ·have i6:=hI5.fr F6 (no _ l1) (no _ l2)
     have hL6:LaceAt w56 z.E.n0:=hL5.fr F6 (by have:=(ZP.ZS.er hZ).low;omega) (fun x hx=>by have:=ZP.S_mem hx;omega);refine⟨_,_,rfl,qR (qM (yA (xA (CallT.mono (c103 hk.ik hL6 hkk i6 hI6 oQ oQ oQ oQ hQ5 hQ6) ?_))))⟩;rintro _ w62 ⟨rfl,F62,n62,ex',hQ',hI'⟩;refine⟨rfl,⟨k+1,ex',pre++xs,rfl,oQ,hI',hQ',(F5.trans F6).trans' F62 (fun x hx hlt=>by simp at hx;omega),oQ,ZP.ZS.fr hZ6 F62 (by simp;omega),?_,hPO.step hpl oQ hfil⟩,meas⟩;simp only[gF];rw[tE oQ oQ,List.length_append,hpl,hxl]
    ·exact⟨_,_,rfl,yA (xA (refu _ _ _ (F5.trans F6) oQ hZ6 fun ht=>qDm hl1 hkk hpl oQ (ZP.ZS.prefix_ hZ6 ht) ht hbad))⟩
end
def wp79(x0:Addr)(x1:Int)(R:vPq)(w:wQ):Prop:=qB w (aQq x0 9) (.int .u32 x1) fun e=>CallT Pg 92 #[.pointer (some x0)] e fun f g=>∃a b,And (f= .tuple #[a,b]) (yE (Value.oneCell' a) (qB g (aQq x0 1) a fun c=>xR b fun h=>IfC (!h) (R (b:Value) c) (CallT Pg 81 #[.pointer (some x0)] c fun i j=>∃d,And (i=d) (R (d:Value) j))))
theorem call79{x0:Addr}{x1:Int}{R:vPq}{w:wQ}(h:wp79 x0 x1 R w):CallT Pg 79 #[.pointer (some x0),.int .u32 x1] w R:=cVq [] Tryz.func79 h
def wp80(x0:Addr)(x1:Int)(R:vPq)(w:wQ):Prop:=IfC (x1 !=(0:Int)) (R (.iface 125 (.string ⟨#[98,97,100,32,73,69,78,68,32,108,101,110,103,116,104]⟩)) w) (CallT Pg 81 #[.pointer (some x0)] w fun b c=>∃a,And (b=a) (R (a:Value) c))
theorem call80{x0:Addr}{x1:Int}{R:vPq}{w:wQ}(h:wp80 x0 x1 R w):CallT Pg 80 #[.pointer (some x0),.int .u32 x1] w R:=cVq [] Tryz.func80 h
section
variable{w w':wQ}{db rb kb crc:Nat}{p:pQ}{d:Dec}{rs:bQ}{E:Er}
def ErrD(E:Er)(e:Value):Prop:=e=xP E.ea\/e=xP E.ua\/∃s,e= .iface 125 (.string s)
theorem ECl.errD{t:Bool}{e:Value}(h:ECl E t e):ErrD E e:=by
 cases t with
 |true=>obtain⟨s,rfl,_⟩:=h;exact .inr (.inr ⟨s,rfl⟩)
 |false=>exact h.imp id .inl
theorem Refuse.errD{e:Value}(h:Refuse 125 e):ErrD E e:=by obtain⟨s,rfl,_⟩:=h;exact .inr (.inr ⟨s,rfl⟩)
theorem ErrD.nil{e:Value}(h:ErrD E e){K:Bool ->Prop}(hK:K false):xR e K:=by
 rcases h with rfl|rfl|⟨s,rfl⟩<;>exact yA hK
theorem Dec.set1(d:Dec)(x:Value):d.arr.setIfInBounds (0+1) x=({d with img:=x}:Dec).arr:=by simp[Dec.arr,Dec.cells]
theorem Dst.c81any(h:Dst w db rb kb p d crc rs)(hE:Errs w E)(hlo:E.n0<=rb):
  CallT Pg 81 #[.pointer (some ⟨db,0,none⟩)] w fun v w'=>Fr [rb,kb,db] w w'/\hn w'=hn w/\((v= .nilIface/\4<=rs.length/\be4 rs 0=crc/\∃tmp,Dst w' db rb kb p {d with tmp:=tmp} crc (rs.drop 4))\/(ErrD E v/\¬(4<=rs.length/\be4 rs 0=crc)/\(4<=rs.length ->∃sv,v= .iface 125 (.string sv))/\(rs.length<4 ->v=xP E.ea\/v=xP E.ua)/\∃tmp rs',Dst w' db rb kb p {d with tmp:=tmp} crc rs')):=by
 rcases Nat.lt_or_ge rs.length 4 with hlt|hge
 ·refine CallT.mono (h.c81_short hE hlo hlt) ?_
  rintro v w' ⟨hec,hD,f,n⟩;exact⟨f.mono sQ,n,.inr ⟨hec.errD,fun h=>by omega,fun h=>by omega,fun _ =>hec,_,_,hD⟩⟩
 ·refine CallT.mono (h.c81 hge) ?_
  rintro v w' ⟨hv,hD,f,n⟩
  split at hv
  ·rename_i hc
   exact⟨f.mono sQ,n,.inl ⟨hv,hge,hc,_,hD⟩⟩
  ·rename_i hc
   exact⟨f.mono sQ,n,.inr ⟨hv.errD,fun h=>hc h.2,fun _ =>by obtain⟨sv,rfl,_⟩:=hv;exact⟨sv,rfl⟩,fun h=>by omega,_,_,hD⟩⟩
theorem Dst.c80{len:Nat}(h:Dst w db rb kb p d crc rs)(hE:Errs w E)(hlo:E.n0<=rb):
  CallT Pg 80 #[.pointer (some ⟨db,0,none⟩),.int .u32 len] w fun v w'=>Fr [rb,kb,db] w w'/\hn w'=hn w/\((v= .nilIface/\len=0/\4<=rs.length/\be4 rs 0=crc/\∃tmp,Dst w' db rb kb p {d with tmp:=tmp} crc (rs.drop 4))\/(ErrD E v/\¬(len=0/\4<=rs.length/\be4 rs 0=crc)/\((len≠0\/4<=rs.length) ->∃sv,v= .iface 125 (.string sv))/\(len=0 ->rs.length<4 ->v=xP E.ea\/v=xP E.ua)/\∃tmp rs',Dst w' db rb kb p {d with tmp:=tmp} crc rs')):=by
 apply call80;unfold wp80;refine xU (fun hne=>⟨Fr.refl _ _,rfl,.inr ⟨.inr (.inr ⟨_,rfl⟩),fun hc=>by omega,fun _ =>⟨_,rfl⟩,fun h0=>by omega,d.tmp,rs,h⟩⟩) (fun h0=> ?_);refine CallT.mono (h.c81any hE hlo) ?_;rintro v w' ⟨f,n,⟨rfl,h1,h2,h3⟩|⟨he,hc,hf1,hf2,h3⟩⟩
 ·exact⟨_,rfl,f,n,.inl ⟨rfl,oQ,h1,h2,h3⟩⟩
 ·exact⟨_,rfl,f,n,.inr ⟨he,fun hh=>hc hh.2,fun hh=>hf1 (hh.resolve_left oQ),fun _ =>hf2,h3⟩⟩
def qAd(w:wQ)(db rb kb:Nat)(p:pQ)(d:Dec)(E:Er)(t:Option Bool)(fin:bQ)(s:Nat×Nat×bQ)(n:Nat)(pt IT:TypeId)(bpp bits W H:Nat)(v:Value)(w':wQ):Prop:=Fr [rb,kb,db] w w'/\hn w<=hn w'/\
 ((∃ib pb ex dd crc rs,v= .nilIface/\ImgW w' ib pb IT bpp W H ex/\(IT=186 ->QP d.pal.a ex)/\hn w<=ib/\hn w<=pb/\SameD {d with img:= .iface pt (.pointer (some ⟨ib,0,none⟩))} dd/\Dst w' db rb kb p dd crc (rs.drop 4)/\Flow 0 crc rs [] s/\4<=rs.length/\be4 rs 0=crc/\(t=none ->GoodRows d.lace W H bits fin)/\t≠some false)\/
  (ErrD E v/\(t≠some false ->(∀crc rs,Flow 0 crc rs [] s ->4<=rs.length) ->∃sv,v= .iface 125 (.string sv))/\(t=none ->(∀crc rs,Flow 0 crc rs [] s ->4<=rs.length/\be4 rs 0=crc) ->¬GoodRows d.lace W H bits fin)/\
   (t=some false ->(n<2 ->v=xP E.ua)/\(2<=n ->∃sv,v= .iface 125 (.string sv)))/\(t=none ->GoodRows d.lace W H bits fin ->(∀crc rs,Flow 0 crc rs [] s ->rs.length<4) ->v=xP E.ea\/v=xP E.ua)))
theorem Dst.c79{cb D bits bpp W H len:Nat}{tr cp:Bool}{pt IT:TypeId}{t:Option Bool}{fin out ys:bQ}{bl:List Blk}{s:Nat×Nat×bQ}(h:Dst w db rb kb p d crc rs)(hk:PK cb D tr pt IT bpp bits cp)(hE:Errs w E)(hlo:E.n0<=rb)(hlen:len<4294967296)(hF:Flow len crc rs ys s)(hA:fB s)
  (hpre:ys<+:[120,1]++out++xI (adlerL fin))(hor:ys=[120,1]++out++xI (adlerL fin)\/∃b,t=some b/\dM b s)(hx:t=some false ->ys≠[120,1]++out++xI (adlerL fin))(hfin:fin.length<32768)(hS:kG fin bl)(hP:rN out (xS 0 bl))
  (hL:LaceAt w E.n0)(hd:Hd d cb D W H tr IT)(hlace:d.lace=0\/d.lace=1)(hs0:t=none ->s.1=0):
  CallT Pg 79 #[.pointer (some ⟨db,0,none⟩),.int .u32 len] w (qAd w db rb kb p d E t fin s ys.length pt IT bpp bits W H):=by
 suffices key:∀R:vPq,(∀v w',qAd w db rb kb p d E t fin s ys.length pt IT bpp bits W H v w' ->R v w') ->CallT Pg 79 #[.pointer (some ⟨db,0,none⟩),.int .u32 len] w R from key _ fun _ _ h=>h
 intro R hR;apply call79;unfold wp79 aQq;have hne:=h.ne;have hdl:=zM h.dec;have hlow:=hE.low;refine qD h.dec (by rw[d.size,h.htmp];show 0+9<_;omega) fun w1 h1 f1 n1=> ?_;rw[d.set9]at h1;have D1:Dst w1 db rb kb p {d with idat:=(len:Int)} crc rs:=h.upd f1 h1 rfl rfl h.htmp h.htr;have E1:=hE.fr f1 (by simp;omega);have L1:=hL.fr f1 oQ (by simp;omega);have hd1:Hd {d with idat:=(len:Int)} cb D W H tr IT:=hd.same ⟨d.tmp,_,rfl⟩;refine CallT.mono (c92 (d:={d with idat:=(len:Int)}) (ys:=ys) hk ⟨⟨_,len,crc,rs,SameD.refl _,D1,rfl,hlen,hF,hA⟩,hpre,hor,hx⟩ E1 hlo hfin hS hP L1 hd1 hlace hs0 ⟨hne.2.2.1,hne.2.2.2,oQ⟩) ?_;rintro v w3 ⟨F3,n3,⟨ib,pb,ex,rfl,hI,hQ,l1,l2,⟨dd,crc',rs',hsd,hD,hid,hFl⟩,hG,htf⟩|⟨e,rfl,he,hdw,hb⟩⟩
 ·refine⟨_,_,rfl,zK rfl (qD hD.dec (by rw[dd.size,hD.htmp];show 0+1<_;omega) fun w6 h6 f6 n6=>qR (qM ?_))⟩
  rw[dd.set1]at h6;have D6:Dst w6 db rb kb p {dd with img:= .iface pt (.pointer (some ⟨ib,0,none⟩))} crc' rs':=hD.upd f6 h6 rfl rfl hD.htmp hD.htr;have E6:=(E1.fr F3 (by simp;omega)).fr f6 (by simp;omega);refine CallT.mono (D6.c81any E6 hlo) ?_;have F6:Fr [rb,kb,db] w w6:=((f1.mono sQ).trans F3).trans (f6.mono sQ);rintro v w9 ⟨f9,n9,⟨rfl,c1,c2,tmp,D9⟩|⟨hv,hc,hf1,hf2,_⟩⟩
  ·refine⟨_,rfl,hR _ _ ⟨F6.trans f9,oQ,.inl ⟨ib,pb,ex,_,crc',rs',rfl,(hI.fr f6 (by simp;omega) (by simp;omega)).fr f9 (by simp;omega) (by simp;omega),hQ,oQ,oQ,?_,D9,hFl,c1,c2,hG,htf⟩⟩⟩
   obtain⟨a,b,rfl⟩:=hsd;exact⟨_,_,rfl⟩
  ·exact⟨_,rfl,hR _ _ ⟨F6.trans f9,oQ,.inr ⟨hv,fun _ hall=>hf1 (hall _ _ hFl),fun _ hall=>absurd (hall _ _ hFl) hc,fun h=>absurd h htf,fun _ _ hall=>hf2 (hall _ _ hFl)⟩⟩⟩
 ·obtain⟨dd,crc',rs',hsd,hD⟩:=hdw
  have he':ErrD E e:=he.elim (fun h=> .inr (.inl h.1)) (fun h=> .inr (.inr h.1));refine⟨_,_,rfl,zK rfl (qD hD.dec (by rw[dd.size,hD.htmp];show 0+1<_;omega) fun w6 h6 f6 n6=>he'.nil (xA (hR _ _ ⟨((f1.mono sQ).trans F3).trans (f6.mono sQ),oQ,.inr ⟨he',fun ht _ =>he.elim (fun h=>absurd h.2.1 ht) (fun h=>h.1),fun ht _ =>hb ht,fun ht=>he.elim (fun h=>⟨fun _ =>h.1,fun h2=>by have:=h.2.2;omega⟩) (fun h=>⟨fun h2=>by have:=h.2 ht;omega,fun _ =>h.1⟩),fun ht hg _ =>absurd hg (hb ht)⟩⟩)))⟩
end
def wp69(x0:Value)(R:vPq)(w:wQ):Prop:=qL w (.cells (zc Pg 113) 113) fun g h=>yE (Value.oneCell' x0) (qL h (.cells (pX Pg 119 [(0,.agg #[x0]),(2,.agg #[.pointer (some ⟨g,0,none⟩)])]) 119) fun c i=>CallT Pg 59 #[.pointer (some ⟨c,0,none⟩)] i fun j a=>∃d,And (j=d) (xR d fun k=>IfC (!k) (LdV a ⟨0,0,none⟩ fun l=>kX Pg 82 (.tmp 15) (.tmp 16) d l a fun m=>IfC m (LdV a ⟨1,0,none⟩ fun n=>R (.tuple #[.nilIface,n]) a) (R (.tuple #[.nilIface,d]) a)) (xB (fun(o:(Unit) ->World ->Prop)=>o (()) a) (fun z e p=>LdI e ⟨c,0+8,none⟩ .i64 fun q=>IfC (q !=(5:Int)) (CallT Pg 60 #[.pointer (some ⟨c,0,none⟩),.bool false] e fun r b=>∃f,And (r=f) (xR f fun s=>IfC (!s) (LdV b ⟨0,0,none⟩ fun t=>kX Pg 82 (.tmp 29) (.tmp 30) f t b fun u=>IfC u (LdV b ⟨1,0,none⟩ fun v=>R (.tuple #[.nilIface,v]) b) (R (.tuple #[.nilIface,f]) b)) (p (()) b))) (LdV e ⟨c,0+1,none⟩ fun y=>R (.tuple #[y,.nilIface]) e)))))
theorem call69{x0:Value}{R:vPq}{w:wQ}(h:wp69 x0 R w):CallT Pg 69 #[x0] w R:=cVq [(22,[],[4])] Tryz.func69 h
section
variable{w w':wQ}{rb:Nat}{p:pQ}{xs:bQ}{E:Er}
def ErrF(E:Er)(e:Value):Prop:=e=xP E.ea\/e=xP E.ua\/∃(T:TypeId) (s:ByteArray),T≠310/\e= .iface T (.string s)
def outE(E:Er)(e e':Value):Prop:=(e=xP E.ea/\e'=xP E.ua)\/(e≠xP E.ea/\e'=e)
theorem ErrD.f{e:Value}(h:ErrD E e):ErrF E e:=h.imp id fun h=>h.imp id fun⟨s,h⟩=>⟨125,s,dQ,h⟩
theorem ErrF.nil{e:Value}(h:ErrF E e){K:Bool ->Prop}(hK:K false):xR e K:=by
 rcases h with rfl|rfl|⟨T,s,_,rfl⟩<;>exact yA hK
theorem ErrF.out{e:Value}(h:ErrF E e)(hE:Errs w E){x y:Operand}{K:Value ->Prop}(hK:∀e',outE E e e' ->K e'):
  LdV w ⟨0,0,none⟩ fun v=>kX Pg 82 x y e v w fun b=>IfC b (LdV w ⟨1,0,none⟩ fun v'=>K v') (K e):=by
 obtain⟨T0,heof⟩:=hE.eof;obtain⟨T1,hune⟩:=hE.une;have hn':xP E.ua≠xP E.ea:=by
  intro h;simp only[xP,Value.iface.injEq,Value.pointer.injEq,Option.some.injEq,true_and]at h;exact hE.ne h.symm
 refine qT (n:=xP E.ea) heof rfl ?_;rcases h with rfl|rfl|⟨T,s,hT,rfl⟩
 ·exact kN (xA (qT (n:=xP E.ua) hune rfl (hK _ (.inl ⟨rfl,rfl⟩))))
 ·exact lP (Ne.symm hE.ne) hE.ut hE.et (qM (hK _ (.inr ⟨hn',rfl⟩)))
 ·exact mO hT (qM (hK _ (.inr ⟨by simp[xP],rfl⟩)))
theorem Dst.c59_short{db rb kb crc:Nat}{d:Dec}{rs:bQ}(h:Dst w db rb kb p d crc rs)(hE:Errs w E)(hlo:E.n0<=rb)(hl:rs.length<8):
  CallT Pg 59 #[.pointer (some ⟨db,0,none⟩)] w fun v w'=>ECl E false v/\Fr [rb,db] w w':=by
 apply call59;unfold wp59 aQq iQq;refine qE fun w1 f1 n1=> ?_;have h:=h.fr0 f1;refine qT h.dec d.at0 ⟨⟨dQ,dQ⟩,?_⟩;refine CallT.mono (h.readShort (hE.fr f1 sQ) hlo (n:=8) dQ hl) ?_;rintro _ w4 ⟨e,rfl,he,h4,f4,n4⟩;exact⟨_,_,rfl,he.nil (xA ⟨he,(f1.mono sQ).trans f4⟩)⟩
theorem Dst.c60_short{db rb kb crc:Nat}{d:Dec}{rs:bQ}{b:Bool}(h:Dst w db rb kb p d crc rs)(hE:Errs w E)(hlo:E.n0<=rb)(hl:rs.length<8):
  CallT Pg 60 #[.pointer (some ⟨db,0,none⟩),.bool b] w fun v w'=>ECl E false v/\Fr [rb,db] w w':=by
 apply call60;unfold wp60 aQq wIq iQq;refine qE fun w1 f1 n1=> ?_;have h:=h.fr0 f1;refine qT h.dec d.at0 ⟨⟨dQ,dQ⟩,?_⟩;refine CallT.mono (h.readShort (hE.fr f1 sQ) hlo (n:=8) dQ hl) ?_;rintro _ w4 ⟨e,rfl,he,h4,f4,n4⟩;exact⟨_,_,rfl,he.nil (xA ⟨he,(f1.mono sQ).trans f4⟩)⟩
theorem c69s(hr:RdAt w rb p xs)(hT:Tab w)(hE:Errs w E)(hlo:E.n0<=rb)(hrb:3<rb/\rb<hn w)(hp:∀a,p=some a ->3<a.block/\a.block<rb){R:vPq}(Inv:World ->Prop)(μ:World ->Nat)
  (start:∀w6 tmp,xs.take 8=sigL ->Fr [rb] w w6 ->hn w+2<=hn w6 ->Dst w6 (hn w+1) rb (hn w) p {eG (.iface 85 (.pointer (some ⟨rb,0,none⟩))) (hn w)with tmp:=tmp} 0 (xs.drop 8) ->Inv w6)
  (badsig:∀w6 s,8<=xs.length ->xs.take 8≠sigL ->Fr [rb] w w6 ->R (.tuple #[.nilIface,.iface 125 (.string s)]) w6)
  (short:xs.length<8 ->∀w6 e e',Fr [rb] w w6 ->(e=xP E.ea\/e=xP E.ua) ->outE E e e' ->R (.tuple #[.nilIface,e']) w6)
  (step:∀w',Inv w' ->∃d crc rs,Dst w' (hn w+1) rb (hn w) p d crc rs/\(d.stage=5 ->R (.tuple #[d.img,.nilIface]) w')/\(d.stage≠5 ->CallT Pg 60 #[.pointer (some ⟨hn w+1,0,none⟩),.bool false] w' fun v w''=>(v= .nilIface/\Inv w''/\μ w''<μ w')\/(ErrF E v/\Errs w'' E/\∀e',outE E v e' ->R (.tuple #[.nilIface,e']) w''))):
  CallT Pg 69 #[.iface 85 (.pointer (some ⟨rb,0,none⟩))] w R:=by
 apply call69;unfold wp69;refine qG fun w2 h2 f2 n2=>zK (by simp[Value.oneCell']) ?_;rw[qDo];refine qG fun w4 h4 f4 n4=> ?_;rw[qGl]at h2;have h2:=f4.row0 h2;have F4:=f2.trans f4;have hdb:hn w2=hn w+1:=oQ;rw[hdb]at h4⊢;have D4:Dst w4 (hn w+1) rb (hn w) p (eG (.iface 85 (.pointer (some ⟨rb,0,none⟩))) (hn w)) 0 xs:=
  ⟨h4,rfl,rfl,rfl,rfl,hr.fr F4 sQ sQ,h2,dQ,hT.fr F4 sQ,hrb.1,hp,oQ,oQ⟩
 have hlow:=hE.low;rcases Nat.lt_or_ge xs.length 8 with hlt|h8
 ·refine CallT.mono (D4.c59_short (hE.fr F4 sQ) hlo hlt) ?_
  rintro v w6 ⟨hv,F6⟩;have FF:Fr [rb] w w6:=(F4.mono sQ).trans' F6 (fun x hx hlt=>by simp at hx⊢;omega);have E6:=(hE.fr F4 sQ).fr F6 (by simp;omega);refine⟨_,rfl,hv.errD.nil (xA ?_)⟩;exact(ErrD.f hv.errD).out (K:=fun e=>R (.tuple #[.nilIface,e]) w6) E6 fun e' he'=>short hlt w6 v e' FF hv he'
 refine CallT.mono (D4.c59 h8) ?_;rintro v w6 ⟨hv,D6,F6,n6⟩;have FF:Fr [rb] w w6:=(F4.mono sQ).trans' F6 (fun x hx hlt=>by simp at hx⊢;omega);have E6:=(hE.fr F4 sQ).fr F6 (by simp;omega);refine⟨_,rfl,?_⟩
 split at hv
 ·rename_i hs
  subst hv;refine qR (qM (qP (fun _ w'=>Inv w') (fun _ w'=>μ w') (start w6 _ hs FF oQ D6) ?_));rintro⟨⟩ w13 hI;obtain⟨d,crc,rs,hD,h5,hn5⟩:=step w13 hI;refine qC hD.dec d.at8 (xU (fun hne=> ?_) (fun he=>qT hD.dec d.at1 (h5 he)));refine CallT.mono (hn5 hne) ?_;rintro v w18 (⟨rfl,hI',hm⟩|⟨hv,E18,hR⟩)
  ·exact⟨_,rfl,qR (qM ⟨hI',hm⟩)⟩
  ·refine⟨_,rfl,hv.nil (xA ?_)⟩
   exact hv.out (K:=fun e=>R (.tuple #[.nilIface,e]) w18) E18 hR
 ·rename_i hs
  obtain⟨sv,rfl,_⟩:=hv;refine yA (xA ?_);have hf:ErrF E (.iface 125 (.string sv)):= .inr (.inr ⟨125,sv,dQ,rfl⟩);refine hf.out (K:=fun e=>R (.tuple #[.nilIface,e]) w6) E6 fun e' he'=> ?_;rcases he' with⟨h,_⟩|⟨_,rfl⟩
  ·simp[xP]at h
  ·exact badsig w6 sv h8 hs FF
theorem c69(hr:RdAt w rb p xs)(hT:Tab w)(hE:Errs w E)(hlo:E.n0<=rb)(hrb:3<rb/\rb<hn w)(hp:∀a,p=some a ->3<a.block/\a.block<rb)(h8:8<=xs.length){R:vPq}(Inv:World ->Prop)(μ:World ->Nat)
  (start:∀w6 tmp,xs.take 8=sigL ->Fr [rb] w w6 ->hn w+2<=hn w6 ->Dst w6 (hn w+1) rb (hn w) p {eG (.iface 85 (.pointer (some ⟨rb,0,none⟩))) (hn w)with tmp:=tmp} 0 (xs.drop 8) ->Inv w6)
  (badsig:∀w6 s,xs.take 8≠sigL ->Fr [rb] w w6 ->R (.tuple #[.nilIface,.iface 125 (.string s)]) w6)
  (step:∀w',Inv w' ->∃d crc rs,Dst w' (hn w+1) rb (hn w) p d crc rs/\(d.stage=5 ->R (.tuple #[d.img,.nilIface]) w')/\(d.stage≠5 ->CallT Pg 60 #[.pointer (some ⟨hn w+1,0,none⟩),.bool false] w' fun v w''=>(v= .nilIface/\Inv w''/\μ w''<μ w')\/(ErrF E v/\Errs w'' E/\∀e',outE E v e' ->R (.tuple #[.nilIface,e']) w''))):
  CallT Pg 69 #[.iface 85 (.pointer (some ⟨rb,0,none⟩))] w R:=
 c69s hr hT hE hlo hrb hp Inv μ start (fun w6 s _ =>badsig w6 s) (fun h=>absurd h oQ) step
end
def wp70(x0:Value)(R:vPq)(w:wQ):Prop:=qL w (.cells (zc Pg 66) 66) fun a c=>TA Pg c x0 115 166 true fun ef eg=>∃K,And (ef= .pointer K) (IfC eg (qO c fun h=>qN K fun i=>LdI h (aQq i 2) .i64 fun eh=>LdI h ⟨i.block,i.off+2+1,none⟩ .i64 fun ei=>LdI h ⟨i.block,i.off+2+2,none⟩ .i64 fun ej=>LdI h ⟨i.block,i.off+2+3,none⟩ .i64 fun ek=>qN K fun el=>LdI h (aQq el 1) .i64 fun em=>qN K fun en=>qS h en fun eo ep eq=>CallT Pg 90 #[iQq 1,g4q eh ei ej ek,iQq em,.slice eo ep eq] h fun er es=>∃aa ab ac ad ae af ag ah ai aj ak al,And (er= .agg #[iQq aa,iQq ab,iQq ac,iQq ad,iQq ae,iQq af,.slice ag ah ai,.slice aj ak al]) (qB es ⟨a,0,none⟩ (iQq aa) fun et=>qB et ⟨a,0+1,none⟩ (iQq ab) fun eu=>qB eu ⟨a,0+2,none⟩ (iQq ac) fun ev=>qB ev ⟨a,0+3,none⟩ (iQq ad) fun ew=>qB ew ⟨a,0+4,none⟩ (iQq ae) fun ex=>qB ex ⟨a,0+5,none⟩ (iQq af) fun ey=>qB ey ⟨a,0+6,none⟩ (.slice ag ah ai) fun ez=>qB ez ⟨a,0+7,none⟩ (.slice aj ak al) fun v=>l4q v a fun fa fb fc fd=>LdI v ⟨a,0+4,none⟩ .i64 fun fe=>LdI v ⟨a,0+5,none⟩ .i64 fun ff=>qS v ⟨a,0+6,none⟩ fun fg fh fi=>qS v ⟨a,0+7,none⟩ fun fj fk fl=>R (.agg #[iQq fa,iQq fb,iQq fc,iQq fd,iQq fe,iQq ff,.slice fg fh fi,.slice fj fk fl]) v)) (TA Pg c x0 115 174 true fun fm fn=>∃L,And (fm= .pointer L) (IfC fn (qO c fun j=>qN L fun k=>LdI j (aQq k 2) .i64 fun fo=>LdI j ⟨k.block,k.off+2+1,none⟩ .i64 fun fp=>LdI j ⟨k.block,k.off+2+2,none⟩ .i64 fun fq=>LdI j ⟨k.block,k.off+2+3,none⟩ .i64 fun fr=>qN L fun fs=>LdI j (aQq fs 1) .i64 fun ft=>qN L fun fu=>qS j fu fun fv fw fx=>CallT Pg 90 #[iQq 2,g4q fo fp fq fr,iQq ft,.slice fv fw fx] j fun fy fz=>∃am ao ap aq ar au av aw ax ay az ba,And (fy= .agg #[iQq am,iQq ao,iQq ap,iQq aq,iQq ar,iQq au,.slice av aw ax,.slice ay az ba]) (qB fz ⟨a,0,none⟩ (iQq am) fun ga=>qB ga ⟨a,0+1,none⟩ (iQq ao) fun gb=>qB gb ⟨a,0+2,none⟩ (iQq ap) fun gc=>qB gc ⟨a,0+3,none⟩ (iQq aq) fun gd=>qB gd ⟨a,0+4,none⟩ (iQq ar) fun ge=>qB ge ⟨a,0+5,none⟩ (iQq au) fun gf=>qB gf ⟨a,0+6,none⟩ (.slice av aw ax) fun gg=>qB gg ⟨a,0+7,none⟩ (.slice ay az ba) fun y=>l4q y a fun gh gi gj gk=>LdI y ⟨a,0+4,none⟩ .i64 fun gl=>LdI y ⟨a,0+5,none⟩ .i64 fun gm=>qS y ⟨a,0+6,none⟩ fun gn go gp=>qS y ⟨a,0+7,none⟩ fun gq gr gs=>R (.agg #[iQq gh,iQq gi,iQq gj,iQq gk,iQq gl,iQq gm,.slice gn go gp,.slice gq gr gs]) y)) (TA Pg c x0 115 176 true fun gt gu=>∃M,And (gt= .pointer M) (IfC gu (qO c fun l=>qN M fun m=>LdI l (aQq m 2) .i64 fun gv=>LdI l ⟨m.block,m.off+2+1,none⟩ .i64 fun gw=>LdI l ⟨m.block,m.off+2+2,none⟩ .i64 fun gx=>LdI l ⟨m.block,m.off+2+3,none⟩ .i64 fun gy=>qN M fun gz=>LdI l (aQq gz 1) .i64 fun ha=>qN M fun hb=>qS l hb fun hc hd he=>CallT Pg 90 #[iQq 3,g4q gv gw gx gy,iQq ha,.slice hc hd he] l fun hf hg=>∃bb bc bd be bf bg bh bi bj bk bl bm,And (hf= .agg #[iQq bb,iQq bc,iQq bd,iQq be,iQq bf,iQq bg,.slice bh bi bj,.slice bk bl bm]) (qB hg ⟨a,0,none⟩ (iQq bb) fun hh=>qB hh ⟨a,0+1,none⟩ (iQq bc) fun hi=>qB hi ⟨a,0+2,none⟩ (iQq bd) fun hj=>qB hj ⟨a,0+3,none⟩ (iQq be) fun hk=>qB hk ⟨a,0+4,none⟩ (iQq bf) fun hl=>qB hl ⟨a,0+5,none⟩ (iQq bg) fun hm=>qB hm ⟨a,0+6,none⟩ (.slice bh bi bj) fun hn=>qB hn ⟨a,0+7,none⟩ (.slice bk bl bm) fun z=>l4q z a fun ho hp hq hr=>LdI z ⟨a,0+4,none⟩ .i64 fun hs=>LdI z ⟨a,0+5,none⟩ .i64 fun ht=>qS z ⟨a,0+6,none⟩ fun hu hv hw=>qS z ⟨a,0+7,none⟩ fun hx hy hz=>R (.agg #[iQq ho,iQq hp,iQq hq,iQq hr,iQq hs,iQq ht,.slice hu hv hw,.slice hx hy hz]) z)) (TA Pg c x0 115 178 true fun ia ib=>∃N,And (ia= .pointer N) (IfC ib (qO c fun n=>qN N fun o=>LdI n (aQq o 2) .i64 fun ic=>LdI n ⟨o.block,o.off+2+1,none⟩ .i64 fun id=>LdI n ⟨o.block,o.off+2+2,none⟩ .i64 fun ie=>LdI n ⟨o.block,o.off+2+3,none⟩ .i64 fun ig=>qN N fun ih=>LdI n (aQq ih 1) .i64 fun ii=>qN N fun ij=>qS n ij fun ik il im=>CallT Pg 90 #[iQq 4,g4q ic id ie ig,iQq ii,.slice ik il im] n fun io ip=>∃bn bo bp bq br bs bt bu bv bw bx bz,And (io= .agg #[iQq bn,iQq bo,iQq bp,iQq bq,iQq br,iQq bs,.slice bt bu bv,.slice bw bx bz]) (qB ip ⟨a,0,none⟩ (iQq bn) fun iq=>qB iq ⟨a,0+1,none⟩ (iQq bo) fun ir=>qB ir ⟨a,0+2,none⟩ (iQq bp) fun it=>qB it ⟨a,0+3,none⟩ (iQq bq) fun iu=>qB iu ⟨a,0+4,none⟩ (iQq br) fun iv=>qB iv ⟨a,0+5,none⟩ (iQq bs) fun iw=>qB iw ⟨a,0+6,none⟩ (.slice bt bu bv) fun ix=>qB ix ⟨a,0+7,none⟩ (.slice bw bx bz) fun A=>l4q A a fun iy iz ja jb=>LdI A ⟨a,0+4,none⟩ .i64 fun jc=>LdI A ⟨a,0+5,none⟩ .i64 fun jd=>qS A ⟨a,0+6,none⟩ fun je jf jg=>qS A ⟨a,0+7,none⟩ fun jh ji jj=>R (.agg #[iQq iy,iQq iz,iQq ja,iQq jb,iQq jc,iQq jd,.slice je jf jg,.slice jh ji jj]) A)) (TA Pg c x0 115 180 true fun jk jl=>∃O,And (jk= .pointer O) (IfC jl (qO c fun p=>qN O fun q=>LdI p (aQq q 2) .i64 fun jm=>LdI p ⟨q.block,q.off+2+1,none⟩ .i64 fun jn=>LdI p ⟨q.block,q.off+2+2,none⟩ .i64 fun jo=>LdI p ⟨q.block,q.off+2+3,none⟩ .i64 fun jp=>qN O fun jq=>LdI p (aQq jq 1) .i64 fun jr=>qN O fun js=>qS p js fun jt ju jv=>CallT Pg 90 #[iQq 5,g4q jm jn jo jp,iQq jr,.slice jt ju jv] p fun jw jx=>∃ca cb cc cd ce cf cg ch ci cj ck cl,And (jw= .agg #[iQq ca,iQq cb,iQq cc,iQq cd,iQq ce,iQq cf,.slice cg ch ci,.slice cj ck cl]) (qB jx ⟨a,0,none⟩ (iQq ca) fun jy=>qB jy ⟨a,0+1,none⟩ (iQq cb) fun jz=>qB jz ⟨a,0+2,none⟩ (iQq cc) fun ka=>qB ka ⟨a,0+3,none⟩ (iQq cd) fun kb=>qB kb ⟨a,0+4,none⟩ (iQq ce) fun kc=>qB kc ⟨a,0+5,none⟩ (iQq cf) fun kd=>qB kd ⟨a,0+6,none⟩ (.slice cg ch ci) fun ke=>qB ke ⟨a,0+7,none⟩ (.slice cj ck cl) fun B=>l4q B a fun kf kg kh ki=>LdI B ⟨a,0+4,none⟩ .i64 fun kj=>LdI B ⟨a,0+5,none⟩ .i64 fun kk=>qS B ⟨a,0+6,none⟩ fun kl km kn=>qS B ⟨a,0+7,none⟩ fun ko kp kq=>R (.agg #[iQq kf,iQq kg,iQq kh,iQq ki,iQq kj,iQq kk,.slice kl km kn,.slice ko kp kq]) B)) (TA Pg c x0 115 182 true fun kr ks=>∃P,And (kr= .pointer P) (IfC ks (qO c fun r=>qN P fun s=>LdI r (aQq s 2) .i64 fun kt=>LdI r ⟨s.block,s.off+2+1,none⟩ .i64 fun ku=>LdI r ⟨s.block,s.off+2+2,none⟩ .i64 fun kv=>LdI r ⟨s.block,s.off+2+3,none⟩ .i64 fun kw=>qN P fun kx=>LdI r (aQq kx 1) .i64 fun ky=>qN P fun kz=>qS r kz fun la lb lc=>CallT Pg 90 #[iQq 6,g4q kt ku kv kw,iQq ky,.slice la lb lc] r fun ld le=>∃cm cn co cp cq cr cs ct cu cv cw cx,And (ld= .agg #[iQq cm,iQq cn,iQq co,iQq cp,iQq cq,iQq cr,.slice cs ct cu,.slice cv cw cx]) (qB le ⟨a,0,none⟩ (iQq cm) fun lf=>qB lf ⟨a,0+1,none⟩ (iQq cn) fun lg=>qB lg ⟨a,0+2,none⟩ (iQq co) fun lh=>qB lh ⟨a,0+3,none⟩ (iQq cp) fun li=>qB li ⟨a,0+4,none⟩ (iQq cq) fun lj=>qB lj ⟨a,0+5,none⟩ (iQq cr) fun lk=>qB lk ⟨a,0+6,none⟩ (.slice cs ct cu) fun ll=>qB ll ⟨a,0+7,none⟩ (.slice cv cw cx) fun C=>l4q C a fun lm ln lo lp=>LdI C ⟨a,0+4,none⟩ .i64 fun lq=>LdI C ⟨a,0+5,none⟩ .i64 fun lr=>qS C ⟨a,0+6,none⟩ fun ls lt lu=>qS C ⟨a,0+7,none⟩ fun lv lw lx=>R (.agg #[iQq lm,iQq ln,iQq lo,iQq lp,iQq lq,iQq lr,.slice ls lt lu,.slice lv lw lx]) C)) (TA Pg c x0 115 184 true fun ly lz=>∃f,And (ly= .pointer f) (IfC lz (qO c fun g=>qN f fun b=>LdI g (aQq b 2) .i64 fun Q=>LdI g ⟨b.block,b.off+2+1,none⟩ .i64 fun S=>LdI g ⟨b.block,b.off+2+2,none⟩ .i64 fun T=>LdI g ⟨b.block,b.off+2+3,none⟩ .i64 fun U=>qN f fun I=>LdI g (aQq I 1) .i64 fun V=>qN f fun J=>qS g J fun X Y Z=>And (CallT Pg 90 #[iQq 7,g4q Q S T U,iQq V,.slice X Y Z] g fun ma mb=>∃cy cz da db dc dd de df dg dh di dj,And (ma= .agg #[iQq cy,iQq cz,iQq da,iQq db,iQq dc,iQq dd,.slice de df dg,.slice dh di dj]) (qL mb (.cells (zc Pg 66) 66) fun d t=>qS t J fun mc md me=>And ((.slice mc md me:Value)= .slice X Y Z) (qN f fun mf=>And ((.pointer (some mf):Value)= .pointer (some J)) (LdI t (aQq I 1) .i64 fun mg=>And ((iQq mg:Value)=iQq V) (qN f fun mh=>And ((.pointer (some mh):Value)= .pointer (some I)) (LdI t (aQq b 2) .i64 fun mi=>LdI t ⟨b.block,b.off+2+1,none⟩ .i64 fun mj=>LdI t ⟨b.block,b.off+2+2,none⟩ .i64 fun mk=>LdI t ⟨b.block,b.off+2+3,none⟩ .i64 fun ml=>And ((g4q mi mj mk ml)=g4q Q S T U) (qN f fun mm=>And ((.pointer (some mm):Value)= .pointer (some b)) (qB t ⟨d,0,none⟩ (iQq cy) fun mn=>qB mn ⟨d,0+1,none⟩ (iQq cz) fun mo=>qB mo ⟨d,0+2,none⟩ (iQq da) fun mp=>qB mp ⟨d,0+3,none⟩ (iQq db) fun mq=>qB mq ⟨d,0+4,none⟩ (iQq dc) fun mr=>qB mr ⟨d,0+5,none⟩ (iQq dd) fun ms=>qB ms ⟨d,0+6,none⟩ (.slice de df dg) fun mt=>qB mt ⟨d,0+7,none⟩ (.slice dh di dj) fun dk=>qN f fun mu=>qS dk (aQq mu 6) fun mv mw mx=>CallT Pg 45 #[.slice mv mw mx] dk fun my mz=>∃dl dm dn,And (my= .slice dl dm dn) (qB mz ⟨d,0+7,none⟩ (.slice dl dm dn) fun D=>l4q D d fun na nb nc nd=>LdI D ⟨d,0+4,none⟩ .i64 fun ne=>LdI D ⟨d,0+5,none⟩ .i64 fun nf=>qS D ⟨d,0+6,none⟩ fun ng nh ni=>qS D ⟨d,0+7,none⟩ fun nj nk nl=>qB D ⟨a,0,none⟩ (iQq na) fun nm=>qB nm ⟨a,0+1,none⟩ (iQq nb) fun nn=>qB nn ⟨a,0+2,none⟩ (iQq nc) fun no=>qB no ⟨a,0+3,none⟩ (iQq nd) fun np=>qB np ⟨a,0+4,none⟩ (iQq ne) fun nq=>qB nq ⟨a,0+5,none⟩ (iQq nf) fun nr=>qB nr ⟨a,0+6,none⟩ (.slice ng nh ni) fun ns=>qB ns ⟨a,0+7,none⟩ (.slice nj nk nl) fun E=>l4q E a fun nt nu nv nw=>LdI E ⟨a,0+4,none⟩ .i64 fun nx=>LdI E ⟨a,0+5,none⟩ .i64 fun ny=>qS E ⟨a,0+6,none⟩ fun nz oa ob=>qS E ⟨a,0+7,none⟩ fun oc od oe=>R (.agg #[iQq nt,iQq nu,iQq nv,iQq nw,iQq nx,iQq ny,.slice nz oa ob,.slice oc od oe]) E))))))))) (qL g (.cells (zc Pg 66) 66) fun e u=>qS u J fun og oh oi=>And ((.slice og oh oi:Value)= .slice X Y Z) (qN f fun oj=>And ((.pointer (some oj):Value)= .pointer (some J)) (LdI u (aQq I 1) .i64 fun ok=>And ((iQq ok:Value)=iQq V) (qN f fun ol=>And ((.pointer (some ol):Value)= .pointer (some I)) (LdI u (aQq b 2) .i64 fun om=>LdI u ⟨b.block,b.off+2+1,none⟩ .i64 fun on=>LdI u ⟨b.block,b.off+2+2,none⟩ .i64 fun oo=>LdI u ⟨b.block,b.off+2+3,none⟩ .i64 fun op=>And ((g4q om on oo op)=g4q Q S T U) (qN f fun oq=>And ((.pointer (some oq):Value)= .pointer (some b)) (CallT Pg 90 #[iQq 7,g4q Q S T U,iQq V,.slice X Y Z] u fun os ot=>∃dp dq dr ds dt du dv dw dx dy dz ea,And (os= .agg #[iQq dp,iQq dq,iQq dr,iQq ds,iQq dt,iQq du,.slice dv dw dx,.slice dy dz ea]) (qB ot ⟨e,0,none⟩ (iQq dp) fun ou=>qB ou ⟨e,0+1,none⟩ (iQq dq) fun ov=>qB ov ⟨e,0+2,none⟩ (iQq dr) fun ow=>qB ow ⟨e,0+3,none⟩ (iQq ds) fun ox=>qB ox ⟨e,0+4,none⟩ (iQq dt) fun oy=>qB oy ⟨e,0+5,none⟩ (iQq du) fun oz=>qB oz ⟨e,0+6,none⟩ (.slice dv dw dx) fun pa=>qB pa ⟨e,0+7,none⟩ (.slice dy dz ea) fun eb=>qN f fun pb=>qS eb (aQq pb 6) fun pc pd pe=>CallT Pg 45 #[.slice pc pd pe] eb fun pf pg=>∃ec ed ee,And (pf= .slice ec ed ee) (qB pg ⟨e,0+7,none⟩ (.slice ec ed ee) fun F=>l4q F e fun ph pi pj pk=>LdI F ⟨e,0+4,none⟩ .i64 fun pl=>LdI F ⟨e,0+5,none⟩ .i64 fun pm=>qS F ⟨e,0+6,none⟩ fun pn po pp=>qS F ⟨e,0+7,none⟩ fun pq pr ps=>qB F ⟨a,0,none⟩ (iQq ph) fun pt=>qB pt ⟨a,0+1,none⟩ (iQq pi) fun pu=>qB pu ⟨a,0+2,none⟩ (iQq pj) fun pv=>qB pv ⟨a,0+3,none⟩ (iQq pk) fun pw=>qB pw ⟨a,0+4,none⟩ (iQq pl) fun px=>qB px ⟨a,0+5,none⟩ (iQq pm) fun py=>qB py ⟨a,0+6,none⟩ (.slice pn po pp) fun pz=>qB pz ⟨a,0+7,none⟩ (.slice pq pr ps) fun G=>l4q G a fun qa qb qc qd=>LdI G ⟨a,0+4,none⟩ .i64 fun qe=>LdI G ⟨a,0+5,none⟩ .i64 fun qf=>qS G ⟨a,0+6,none⟩ fun qg qh qi=>qS G ⟨a,0+7,none⟩ fun qj qk ql=>R (.agg #[iQq qa,iQq qb,iQq qc,iQq qd,iQq qe,iQq qf,.slice qg qh qi,.slice qj qk ql]) G)))))))))) (qB c ⟨a,0,none⟩ (iQq 0) fun qm=>qB qm ⟨a,0+1,none⟩ (iQq 0) fun qn=>qB qn ⟨a,0+2,none⟩ (iQq 0) fun qo=>qB qo ⟨a,0+3,none⟩ (iQq 0) fun qp=>qB qp ⟨a,0+4,none⟩ (iQq 0) fun qq=>qB qq ⟨a,0+5,none⟩ (iQq 0) fun qr=>qB qr ⟨a,0+6,none⟩ (.slice none 0 0) fun qs=>qB qs ⟨a,0+7,none⟩ (.slice none 0 0) fun H=>l4q H a fun qt qu qv qw=>LdI H ⟨a,0+4,none⟩ .i64 fun qx=>LdI H ⟨a,0+5,none⟩ .i64 fun qy=>qS H ⟨a,0+6,none⟩ fun qz ra rb=>qS H ⟨a,0+7,none⟩ fun rc rd re=>R (.agg #[iQq qt,iQq qu,iQq qv,iQq qw,iQq qx,iQq qy,.slice qz ra rb,.slice rc rd re]) H))))))))))))))
theorem call70{x0:Value}{R:vPq}{w:wQ}(h:wp70 x0 R w):CallT Pg 70 #[x0] w R:=cVq [] Tryz.func70 h
def wp90(x0:Int)(x1_0:Int)(x1_1:Int)(x1_2:Int)(x1_3:Int)(x2:Int)(x3:pQ)(x3l:Nat)(x3c:Nat)(R:vPq)(w:wQ):Prop:=qL w (.cells #[iQq x1_0,iQq x1_1,iQq x1_2,iQq x1_3] 171) fun b m=>qL m (.cells (zc Pg 66) 66) fun a n=>qO n fun d=>LdI d ⟨b,0,none⟩ .i64 fun f=>LdI d ⟨b,0+1,none⟩ .i64 fun g=>LdI d ⟨b,0+2,none⟩ .i64 fun h=>LdI d ⟨b,0+2+1,none⟩ .i64 fun i=>CallT Pg 42 #[.slice x3 x3l x3c] d fun o e=>∃j k l,And (o= .slice j k l) (LdI e ⟨b,0+2+1,none⟩ .i64 fun p=>And ((iQq p:Value)=iQq i) (LdI e ⟨b,0+2,none⟩ .i64 fun q=>And ((iQq q:Value)=iQq h) (LdI e ⟨b,0+1,none⟩ .i64 fun r=>And ((iQq r:Value)=iQq g) (LdI e ⟨b,0,none⟩ .i64 fun s=>And ((iQq s:Value)=iQq f) (qB e ⟨a,0,none⟩ (iQq x0) fun t=>qB t ⟨a,0+1,none⟩ (iQq f) fun u=>qB u ⟨a,0+2,none⟩ (iQq g) fun v=>qB v ⟨a,0+3,none⟩ (iQq h) fun y=>qB y ⟨a,0+4,none⟩ (iQq i) fun z=>qB z ⟨a,0+5,none⟩ (iQq x2) fun A=>qB A ⟨a,0+6,none⟩ (.slice j k l) fun B=>qB B ⟨a,0+7,none⟩ (.slice none 0 0) fun c=>l4q c a fun C D E F=>LdI c ⟨a,0+4,none⟩ .i64 fun G=>LdI c ⟨a,0+5,none⟩ .i64 fun H=>qS c ⟨a,0+6,none⟩ fun I J K=>qS c ⟨a,0+7,none⟩ fun L M N=>R (.agg #[iQq C,iQq D,iQq E,iQq F,iQq G,iQq H,.slice I J K,.slice L M N]) c)))))
theorem call90{x0:Int}{x1_0:Int}{x1_1:Int}{x1_2:Int}{x1_3:Int}{x2:Int}{x3:pQ}{x3l:Nat}{x3c:Nat}{R:vPq}{w:wQ}(h:wp90 x0 x1_0 x1_1 x1_2 x1_3 x2 x3 x3l x3c R w):CallT Pg 90 #[.int .i64 x0,.agg #[.int .i64 x1_0,.int .i64 x1_1,.int .i64 x1_2,.int .i64 x1_3],.int .i64 x2,.slice x3 x3l x3c] w R:=cVq [] Tryz.func90 h
section
variable{w w':wQ}{ib pb bpp W H:Nat}{IT:TypeId}{ex:List Value}
theorem zc66:zc Pg 66= #[.int .i64 0,.int .i64 0,.int .i64 0,.int .i64 0,.int .i64 0,.int .i64 0,.slice none 0 0,.slice none 0 0]:=by kernel_rfl
theorem jZ{r:Nat}{a0 a1 a2 a3 a4 a5:Int}{p1 p2:pQ}{l1 c1 l2 c2:Nat}{K:World ->Prop}(h:hp w r=Row 66 (zc Pg 66))(hK:∀w',hp w' r=Row 66 #[.int .i64 a0,.int .i64 a1,.int .i64 a2,.int .i64 a3,.int .i64 a4,.int .i64 a5,.slice p1 l1 c1,.slice p2 l2 c2] ->Fr [r] w w' ->hn w'=hn w ->K w'):
  qB w ⟨r,0,none⟩ (.int .i64 a0) fun w=>qB w ⟨r,0+1,none⟩ (.int .i64 a1) fun w=>qB w ⟨r,0+2,none⟩ (.int .i64 a2) fun w=>qB w ⟨r,0+3,none⟩ (.int .i64 a3) fun w=>qB w ⟨r,0+4,none⟩ (.int .i64 a4) fun w=>qB w ⟨r,0+5,none⟩ (.int .i64 a5) fun w=>qB w ⟨r,0+6,none⟩ (.slice p1 l1 c1) fun w=>qB w ⟨r,0+7,none⟩ (.slice p2 l2 c2) K:=by
 rw[zc66]at h;refine qD h sQ fun w1 h1 f1 n1=> ?_;refine qD h1 sQ fun w2 h2 f2 n2=> ?_;refine qD h2 sQ fun w3 h3 f3 n3=> ?_;refine qD h3 sQ fun w4 h4 f4 n4=> ?_;refine qD h4 sQ fun w5 h5 f5 n5=> ?_;refine qD h5 sQ fun w6 h6 f6 n6=> ?_;refine qD h6 sQ fun w7 h7 f7 n7=> ?_;refine qD h7 sQ fun w8 h8 f8 n8=> ?_;exact hK w8 (by simpa using h8) (f1.trans (f2.trans (f3.trans (f4.trans (f5.trans (f6.trans (f7.trans f8))))))) oQ
theorem c90{k st a0 a1 a2 a3:Int}{p:pQ}{l c:Nat}{xs:bQ}(hx:Has w p (bv xs))(hl:l=xs.length)(hlb:l<1099511627776):CallT Pg 90 #[.int .i64 k,.agg #[.int .i64 a0,.int .i64 a1,.int .i64 a2,.int .i64 a3],.int .i64 st,.slice p l c] w fun v w'=>Fr [] w w'/\hn w<=hn w'/\∃q c',v= .agg #[.int .i64 k,.int .i64 a0,.int .i64 a1,.int .i64 a2,.int .i64 a3,.int .i64 st,.slice q l c',.slice none 0 0]:=by
 apply call90;unfold wp90 l4q iQq;refine qG fun w2 h2 f2 n2=>qG fun w4 h4 f4 n4=>qE fun w5 f5 n5=> ?_;have h2:=f5.row0 (f4.row0 h2);have h4:=f5.row0 h4;have F5:=(f2.trans f4).trans f5
 iterate 4 refine qC h2 rfl ?_
 refine CallT.mono (c42 (hx.fr0 F5) hl hlb) ?_;rintro _ w11 ⟨f11,q,c',rfl,_⟩;have h2:=f11.row0 h2;have h4:=f11.row0 h4;have n11:=f11.size;refine⟨_,_,_,rfl,qC h2 rfl ⟨rfl,qC h2 rfl ⟨rfl,qC h2 rfl ⟨rfl,qC h2 rfl ⟨rfl,?_⟩⟩⟩⟩⟩;refine jZ h4 fun w12 h12 f12 n12=> ?_
 iterate 6 refine qC h12 rfl ?_
 refine qK h12 rfl (qK h12 rfl ⟨(F5.trans f11).trans' f12 (fun x hx hlt=>by simp at hx;omega),oQ,q,c',rfl⟩)
theorem BR.has{n:Nat}(h:BR w pb n):∃xs:bQ,xs.length=n/\Has w (some ⟨pb,0,none⟩) (bv xs):=by
 obtain⟨xs,h1,h2⟩:=h;exact⟨xs,h1,by simpa using Has.of_row h2⟩
def qDf(w:wQ)(v:Value)(w':wQ):Prop:=Fr [] w w'/\hn w<=hn w'/\∃(k n1 n2 n3 n4 n5:Int) (p:pQ) (l c:Nat) (p':pQ) (l' c':Nat),v= .agg #[.int .i64 k,.int .i64 n1,.int .i64 n2,.int .i64 n3,.int .i64 n4,.int .i64 n5,.slice p l c,.slice p' l' c']/\0<k
theorem pE{cs:List (Bool×Px)}{g l:Nat}(h:hp w g=Row 131 (cs.map jA).toArray):Has w (some ⟨g,0,none⟩) ((cs.take l).map jA):=by
 refine⟨rfl,131,_,h,fun j v hj=> ?_⟩;rw[List.map_take,List.getElem?_take]at hj
 split at hj
 ·rw[List.getElem?_toArray]
  show((cs.map jA))[0+j]? =_;rw[Nat.zero_add];exact hj
 ·cases hj
theorem c70{pt:TypeId}{g:Nat}{cs:List (Bool×Px)}(hk:IK pt IT bpp)(h:ImgW w ib pb IT bpp W H ex)(hQ:IT=186 ->QP (some ⟨g,0,none⟩) ex/\hp w g=Row 131 (cs.map jA).toArray/\cs.length=256):
  CallT Pg 70 #[.iface pt (.pointer (some ⟨ib,0,none⟩))] w (qDf w):=by
 suffices key:∀R:vPq,(∀v w',qDf w v w' ->R v w') ->CallT Pg 70 #[.iface pt (.pointer (some ⟨ib,0,none⟩))] w R from key _ fun _ _ h=>h
 intro R hR;apply call70;unfold wp70 l4q g4q aQq iQq;have hl2:=h.lim2;refine qG fun w2 h2 f2 n2=> ?_;have i2:=h.fr0 f2;generalize hr1:hn w=r1 at*
 cases hk
 case k166=>
  refine yR uM ⟨_,rfl,xA (qE fun w6 f6 n6=> ?_)⟩;have i6:=i2.fr0 f6;have h6:=f6.row0 h2;rw[PtrC_some]
  iterate 4 refine qC i6.row rfl ?_
  rw[PtrC_some];refine qC i6.row rfl ?_;rw[PtrC_some];refine qK i6.row rfl ?_;obtain⟨xs,hxl,hxs⟩:=i6.pix.has;refine CallT.mono (c90 hxs hxl.symm oQ) ?_;rintro _ w19 ⟨f19,n19,q,c',rfl⟩;refine⟨_,_,_,_,_,_,_,_,_,_,_,_,rfl,jZ (f19.row0 h6) fun w20 h20 f20 n20=> ?_⟩
  iterate 6 refine qC h20 rfl ?_
  refine qK h20 rfl (qK h20 rfl (hR _ _ ⟨((f2.trans f6).trans f19).trans' f20 (fun x hx hlt=>by simp at hx;omega),oQ,_,_,_,_,_,_,_,_,_,_,_,_,rfl,dQ⟩))
 case k174=>
  refine xG uM rfl tP ⟨_,rfl,qM ?_⟩;refine yR jH ⟨_,rfl,xA (qE fun w6 f6 n6=> ?_)⟩;have i6:=i2.fr0 f6;have h6:=f6.row0 h2;rw[PtrC_some]
  iterate 4 refine qC i6.row rfl ?_
  rw[PtrC_some];refine qC i6.row rfl ?_;rw[PtrC_some];refine qK i6.row rfl ?_;obtain⟨xs,hxl,hxs⟩:=i6.pix.has;refine CallT.mono (c90 hxs hxl.symm oQ) ?_;rintro _ w19 ⟨f19,n19,q,c',rfl⟩;refine⟨_,_,_,_,_,_,_,_,_,_,_,_,rfl,jZ (f19.row0 h6) fun w20 h20 f20 n20=> ?_⟩
  iterate 6 refine qC h20 rfl ?_
  refine qK h20 rfl (qK h20 rfl (hR _ _ ⟨((f2.trans f6).trans f19).trans' f20 (fun x hx hlt=>by simp at hx;omega),oQ,_,_,_,_,_,_,_,_,_,_,_,_,rfl,dQ⟩))
 case k176=>
  refine xG uM rfl tP ⟨_,rfl,qM ?_⟩;refine xG jH rfl rL ⟨_,rfl,qM ?_⟩;refine yR tZ ⟨_,rfl,xA (qE fun w6 f6 n6=> ?_)⟩;have i6:=i2.fr0 f6;have h6:=f6.row0 h2;rw[PtrC_some]
  iterate 4 refine qC i6.row rfl ?_
  rw[PtrC_some];refine qC i6.row rfl ?_;rw[PtrC_some];refine qK i6.row rfl ?_;obtain⟨xs,hxl,hxs⟩:=i6.pix.has;refine CallT.mono (c90 hxs hxl.symm oQ) ?_;rintro _ w19 ⟨f19,n19,q,c',rfl⟩;refine⟨_,_,_,_,_,_,_,_,_,_,_,_,rfl,jZ (f19.row0 h6) fun w20 h20 f20 n20=> ?_⟩
  iterate 6 refine qC h20 rfl ?_
  refine qK h20 rfl (qK h20 rfl (hR _ _ ⟨((f2.trans f6).trans f19).trans' f20 (fun x hx hlt=>by simp at hx;omega),oQ,_,_,_,_,_,_,_,_,_,_,_,_,rfl,dQ⟩))
 case k178=>
  refine xG uM rfl tP ⟨_,rfl,qM ?_⟩;refine xG jH rfl rL ⟨_,rfl,qM ?_⟩;refine xG tZ rfl pL ⟨_,rfl,qM ?_⟩;refine yR lS ⟨_,rfl,xA (qE fun w6 f6 n6=> ?_)⟩;have i6:=i2.fr0 f6;have h6:=f6.row0 h2;rw[PtrC_some]
  iterate 4 refine qC i6.row rfl ?_
  rw[PtrC_some];refine qC i6.row rfl ?_;rw[PtrC_some];refine qK i6.row rfl ?_;obtain⟨xs,hxl,hxs⟩:=i6.pix.has;refine CallT.mono (c90 hxs hxl.symm oQ) ?_;rintro _ w19 ⟨f19,n19,q,c',rfl⟩;refine⟨_,_,_,_,_,_,_,_,_,_,_,_,rfl,jZ (f19.row0 h6) fun w20 h20 f20 n20=> ?_⟩
  iterate 6 refine qC h20 rfl ?_
  refine qK h20 rfl (qK h20 rfl (hR _ _ ⟨((f2.trans f6).trans f19).trans' f20 (fun x hx hlt=>by simp at hx;omega),oQ,_,_,_,_,_,_,_,_,_,_,_,_,rfl,dQ⟩))
 case k180=>
  refine xG uM rfl tP ⟨_,rfl,qM ?_⟩;refine xG jH rfl rL ⟨_,rfl,qM ?_⟩;refine xG tZ rfl pL ⟨_,rfl,qM ?_⟩;refine xG lS rfl qGm ⟨_,rfl,qM ?_⟩;refine yR tB ⟨_,rfl,xA (qE fun w6 f6 n6=> ?_)⟩;have i6:=i2.fr0 f6;have h6:=f6.row0 h2;rw[PtrC_some]
  iterate 4 refine qC i6.row rfl ?_
  rw[PtrC_some];refine qC i6.row rfl ?_;rw[PtrC_some];refine qK i6.row rfl ?_;obtain⟨xs,hxl,hxs⟩:=i6.pix.has;refine CallT.mono (c90 hxs hxl.symm oQ) ?_;rintro _ w19 ⟨f19,n19,q,c',rfl⟩;refine⟨_,_,_,_,_,_,_,_,_,_,_,_,rfl,jZ (f19.row0 h6) fun w20 h20 f20 n20=> ?_⟩
  iterate 6 refine qC h20 rfl ?_
  refine qK h20 rfl (qK h20 rfl (hR _ _ ⟨((f2.trans f6).trans f19).trans' f20 (fun x hx hlt=>by simp at hx;omega),oQ,_,_,_,_,_,_,_,_,_,_,_,_,rfl,dQ⟩))
 case k182=>
  refine xG uM rfl tP ⟨_,rfl,qM ?_⟩;refine xG jH rfl rL ⟨_,rfl,qM ?_⟩;refine xG tZ rfl pL ⟨_,rfl,qM ?_⟩;refine xG lS rfl qGm ⟨_,rfl,qM ?_⟩;refine xG tB rfl cX ⟨_,rfl,qM ?_⟩;refine yR rW ⟨_,rfl,xA (qE fun w6 f6 n6=> ?_)⟩;have i6:=i2.fr0 f6;have h6:=f6.row0 h2;rw[PtrC_some]
  iterate 4 refine qC i6.row rfl ?_
  rw[PtrC_some];refine qC i6.row rfl ?_;rw[PtrC_some];refine qK i6.row rfl ?_;obtain⟨xs,hxl,hxs⟩:=i6.pix.has;refine CallT.mono (c90 hxs hxl.symm oQ) ?_;rintro _ w19 ⟨f19,n19,q,c',rfl⟩;refine⟨_,_,_,_,_,_,_,_,_,_,_,_,rfl,jZ (f19.row0 h6) fun w20 h20 f20 n20=> ?_⟩
  iterate 6 refine qC h20 rfl ?_
  refine qK h20 rfl (qK h20 rfl (hR _ _ ⟨((f2.trans f6).trans f19).trans' f20 (fun x hx hlt=>by simp at hx;omega),oQ,_,_,_,_,_,_,_,_,_,_,_,_,rfl,dQ⟩))
 case k184=>
  refine xG uM rfl tP ⟨_,rfl,qM ?_⟩;refine xG jH rfl rL ⟨_,rfl,qM ?_⟩;refine xG tZ rfl pL ⟨_,rfl,qM ?_⟩;refine xG lS rfl qGm ⟨_,rfl,qM ?_⟩;refine xG tB rfl cX ⟨_,rfl,qM ?_⟩;refine xG rW rfl qBq ⟨_,rfl,qM ?_⟩;refine yR bN ⟨_,rfl,xA (qE fun w6 f6 n6=> ?_)⟩;have i6:=i2.fr0 f6;have h6:=f6.row0 h2;rw[PtrC_some]
  iterate 4 refine qC i6.row rfl ?_
  rw[PtrC_some];refine qC i6.row rfl ?_;rw[PtrC_some];refine qK i6.row rfl ?_;obtain⟨⟨l,hl,rfl⟩,hg,hcl⟩:=hQ rfl;refine⟨?_,?_⟩
  ·obtain⟨xs,hxl,hxs⟩:=i6.pix.has
   refine CallT.mono (c90 hxs hxl.symm oQ) ?_;rintro _ w19 ⟨f19,n19,q,c',rfl⟩;refine⟨_,_,_,_,_,_,_,_,_,_,_,_,rfl,?_⟩;refine qG fun w27 h27 f27 n27=> ?_;have i27:=(i6.fr0 f19).fr0 f27;have k27:=f27.row0 (f19.row0 h6);refine qK i27.row rfl ⟨rfl,?_⟩;rw[PtrC_some];refine⟨rfl,qC i27.row rfl ⟨rfl,?_⟩⟩;rw[PtrC_some];refine⟨rfl,?_⟩
   iterate 4 refine qC i27.row rfl ?_
   refine⟨rfl,?_⟩;rw[PtrC_some];refine⟨rfl,?_⟩;have FF:Fr [] w w27:=((f2.trans f6).trans f19).trans f27;generalize hrr:hn w19=rr at*;have g27:=FF.row0 hg;have hgl:=zM hg;have hib:=zM h.row;refine jZ h27 fun w28 h28 f28 n28=> ?_;have i28:=i27.row;have i28:=f28.row1 i28 oQ;rw[PtrC_some];refine qK i28 rfl ?_;refine CallT.mono (c45 (pE (l:=l) (f28.row1 g27 oQ)) (by simp;omega) oQ) ?_;rintro _ w29 ⟨f29,q2,c2,rfl,_⟩;have n29:=f29.size;refine⟨_,_,_,rfl,qD (f29.row0 h28) sQ fun w30 h30 f30 n30=> ?_⟩
   iterate 6 refine qC h30 rfl ?_
   refine qK h30 rfl (qK h30 rfl ?_);have k30:=f30.row1 (f29.row0 (f28.row1 k27 oQ)) oQ;refine jZ k30 fun w31 h31 f31 n31=> ?_
   iterate 6 refine qC h31 rfl ?_
   have Fin:Fr [] w w31:=(((FF.trans' f28 (fun x hx hlt=>by simp at hx;omega)).trans f29).trans' f30 (fun x hx hlt=>by simp at hx;omega)).trans' f31 (fun x hx hlt=>by simp at hx;omega);exact qK h31 rfl (qK h31 rfl (hR _ _ ⟨Fin,oQ,_,_,_,_,_,_,_,_,_,_,_,_,rfl,dQ⟩))
  ·refine qG fun w20 h20 f20 n20=> ?_
   have i20:=i6.fr0 f20;refine qK i20.row rfl ⟨rfl,?_⟩;rw[PtrC_some];refine⟨rfl,qC i20.row rfl ⟨rfl,?_⟩⟩;rw[PtrC_some];refine⟨rfl,?_⟩
   iterate 4 refine qC i20.row rfl ?_
   refine⟨rfl,?_⟩;rw[PtrC_some];refine⟨rfl,?_⟩;obtain⟨xs,hxl,hxs⟩:=i20.pix.has;refine CallT.mono (c90 hxs hxl.symm oQ) ?_;rintro _ w27 ⟨f27,n27,q,c',rfl⟩;refine⟨_,_,_,_,_,_,_,_,_,_,_,_,rfl,?_⟩;have i27:=i20.fr0 f27;have k27:=f27.row0 (f20.row0 h6);have h27:=f27.row0 h20;have FF:Fr [] w w27:=((f2.trans f6).trans f20).trans f27;generalize hrr:hn w6=rr at*;have g27:=FF.row0 hg;have hgl:=zM hg;have hib:=zM h.row;refine jZ h27 fun w28 h28 f28 n28=> ?_;have i28:=i27.row;have i28:=f28.row1 i28 oQ;rw[PtrC_some];refine qK i28 rfl ?_;refine CallT.mono (c45 (pE (l:=l) (f28.row1 g27 oQ)) (by simp;omega) oQ) ?_;rintro _ w29 ⟨f29,q2,c2,rfl,_⟩;have n29:=f29.size;refine⟨_,_,_,rfl,qD (f29.row0 h28) sQ fun w30 h30 f30 n30=> ?_⟩
   iterate 6 refine qC h30 rfl ?_
   refine qK h30 rfl (qK h30 rfl ?_);have k30:=f30.row1 (f29.row0 (f28.row1 k27 oQ)) oQ;refine jZ k30 fun w31 h31 f31 n31=> ?_
   iterate 6 refine qC h31 rfl ?_
   have Fin:Fr [] w w31:=(((FF.trans' f28 (fun x hx hlt=>by simp at hx;omega)).trans f29).trans' f30 (fun x hx hlt=>by simp at hx;omega)).trans' f31 (fun x hx hlt=>by simp at hx;omega);exact qK h31 rfl (qK h31 rfl (hR _ _ ⟨Fin,oQ,_,_,_,_,_,_,_,_,_,_,_,_,rfl,dQ⟩))
end
def wp43(x0:Value)(R:vPq)(w:wQ):Prop:=qL w (.cells (zc Pg 125) 125) fun f g=>qL g (.cells (zc Pg 126) 126) fun h a=>xR x0 fun i=>IfC i (R (iQq 0) a) (CallT Pg 62 #[x0,.iface 128 (.pointer (some ⟨f,0,none⟩))] a fun j b=>∃c,And (j= .bool c) (IfC c (R (iQq 1) b) (CallT Pg 62 #[x0,.iface 129 (.pointer (some ⟨h,0,none⟩))] b fun k d=>∃e,And (k= .bool e) (IfC e (R (iQq 2) d) (R (iQq 3) d)))))
theorem call43{x0:Value}{R:vPq}{w:wQ}(h:wp43 x0 R w):CallT Pg 43 #[x0] w R:=cVq [] Tryz.func43 h
def wp62(x0:Value)(x1:Value)(R:vPq)(w:wQ):Prop:=xR x0 fun q=>IfC q (R (.bool false) w) (xH (fun(af:(Unit)) (r:wQ)=>gH Pg r 82 #[x1] fun s t=>∃h i j,And (s= .agg #[.pointer h,.pointer i,.int .u64 j]) (qL t (.cells (zc Pg 154) 154) fun a u=>qB u ⟨a,0,none⟩ (.pointer h) fun v=>qB v ⟨a,0+1,none⟩ (.pointer i) fun y=>qB y ⟨a,0+2,none⟩ (.int .u64 j) fun d=>LdP d ⟨a,0,none⟩ fun z=>LdP d ⟨a,0+1,none⟩ fun A=>LdI d ⟨a,0+2,none⟩ .u64 fun B=>gH Pg d 83 #[.agg #[.pointer z,.pointer A,.int .u64 B]] fun C D=>∃g,And (C=g) (xH (fun(ag:(Unit)) (E:wQ)=>vG Pg Gg E g "Elem" [] fun F G=>∃c,And (F=c) (vG Pg Gg G c "Kind" [] fun H b=>∃k,And (H= .int .u8 k) (IfC (k !=(20:Int)) (LdV b ⟨2,0,none⟩ fun I=>vG Pg Gg b c "Implements" [I] fun J e=>∃l,And (J= .bool l) (IfC (!l) (False) (LdP e ⟨a,0,none⟩ fun K=>LdP e ⟨a,0+1,none⟩ fun L=>LdI e ⟨a,0+2,none⟩ .u64 fun M=>CallT Pg 85 #[x0,x1,.agg #[.pointer K,.pointer L,.int .u64 M],c] e fun N O=>∃m,And (N= .bool m) (R (.bool m) O)))) (LdP b ⟨a,0,none⟩ fun P=>LdP b ⟨a,0+1,none⟩ fun Q=>LdI b ⟨a,0+2,none⟩ .u64 fun S=>CallT Pg 85 #[x0,x1,.agg #[.pointer P,.pointer Q,.int .u64 S],c] b fun T U=>∃n,And (T= .bool n) (R (.bool n) U))))) (fun V=>vG Pg Gg D g "Kind" [] fun X f=>∃o,And (X= .int .u8 o) (IfC (o !=(22:Int)) (False) (LdP f ⟨a,0,none⟩ fun Y=>LdP f ⟨a,0+1,none⟩ fun Z=>LdI f ⟨a,0+2,none⟩ .u64 fun aa=>gH Pg f 84 #[.agg #[.pointer Y,.pointer Z,.int .u64 aa]] fun ab ac=>∃p,And (ab= .bool p) (IfC p (False) (V (()) ac)))))))) (fun ad=>xR x1 fun ae=>IfC ae (False) (ad (()) w)))
theorem call62{x0:Value}{x1:Value}{R:vPq}{w:wQ}(h:wp62 x0 x1 R w):CallT Pg 62 #[x0,x1] w R:=cVq [(10,[],[0,1]),(20,[],[0,1,5,6])] Tryz.func62 h
def wp85(x0:Value)(x1:Value)(x2_0:Addr)(x2_1:Addr)(x2_2:Int)(x3:Value)(R:vPq)(w:wQ):Prop:=qL w (.cells #[.pointer (some x2_0),.pointer (some x2_1),.int .u64 x2_2] 154) fun c E=>xB (fun(F:(Value×Unit) ->World ->Prop)=>F ((x0:Value),()) E) (fun e G H=>gH Pg G 94 #[e.1] fun I J=>∃i,And (I=i) (vG Pg Gg J i "AssignableTo" [x3] fun K a=>∃j,And (K= .bool j) (IfC j (LdP a ⟨c,0,none⟩ fun L=>LdP a ⟨c,0+1,none⟩ fun M=>LdI a ⟨c,0+2,none⟩ .u64 fun N=>gH Pg a 95 #[.agg #[.pointer L,.pointer M,.int .u64 N]] fun O P=>∃k l m,And (O= .agg #[.pointer k,.pointer l,.int .u64 m]) (gH Pg P 82 #[e.1] fun Q S=>∃n o p,And (Q= .agg #[.pointer n,.pointer o,.int .u64 p]) (gH Pg S 96 #[.agg #[.pointer k,.pointer l,.int .u64 m],.agg #[.pointer n,.pointer o,.int .u64 p]] fun T U=>And (T= .tuple #[]) (R (.bool true) U)))) (xH (fun(aq:(Unit)) (f:wQ)=>TAI Pg f e.1 82 200 fun V X=>∃q,And (V=q) (IfC X (vG Pg Gg f q "Unwrap" [] fun Y r=>∃g,And (Y=g) (xR g fun Z=>IfC Z (R (.bool false) r) (H ((g:Value),()) r))) (TAI Pg f e.1 82 201 fun aa ab=>∃s,And (aa=s) (IfC ab (vG Pg Gg f s "Unwrap" [] fun ac ad=>∃t h ae,And (ac= .slice t h ae) (xB (fun(af:(Int×Unit) ->World ->Prop)=>af (0,()) ad) (fun d b u=>IfC (decide (d.1<(h:Int))) (And (0<=d.1/\d.1<(h:Int)) (qN t fun ag=>LdV b (qH ag d.1.toNat 1) fun v=>xR v fun ah=>IfC ah (u (wIq (d.1+1),()) b) (LdP b ⟨c,0,none⟩ fun ai=>LdP b ⟨c,0+1,none⟩ fun aj=>LdI b ⟨c,0+2,none⟩ .u64 fun ak=>CallT Pg 85 #[v,x1,.agg #[.pointer ai,.pointer aj,.int .u64 ak],x3] b fun al y=>∃z,And (al= .bool z) (IfC z (R (.bool true) y) (u (wIq (d.1+1),()) y))))) (R (.bool false) b)))) (R (.bool false) f))))) (fun A=>TAI Pg a e.1 82 197 fun am ao=>∃B,And (am=B) (IfC ao (vG Pg Gg a B "As" [x1] fun ap C=>∃D,And (ap= .bool D) (IfC D (R (.bool true) C) (A (()) C))) (A (()) a)))))))
theorem call85{x0:Value}{x1:Value}{x2_0:Addr}{x2_1:Addr}{x2_2:Int}{x3:Value}{R:vPq}{w:wQ}(h:wp85 x0 x1 x2_0 x2_1 x2_2 x3 R w):CallT Pg 85 #[x0,x1,.agg #[.pointer (some x2_0),.pointer (some x2_1),.int .u64 x2_2],x3] w R:=cVq [(3,[(0,.v)],[1,3,6]),(15,[],[0,1,3,6]),(51,[(50,.i .i64)],[0,1,3,6,48,49])] Tryz.func85 h
section
open Go.Extern
variable{w w':wQ}{K:vPq}{v:Value}
def Vv(T:Nat)(a:Addr)(fl:Int):Value:= .agg #[.pointer (some ⟨16,T,none⟩),.pointer (some a),.int .u64 fl]
def Ha(T:Nat):Value:= .pointer (some ⟨16,T,none⟩)
def Rt(T:Nat):Value:= .iface 192 (.agg #[Ha T])
theorem jO{f:FuncId}{args:vQ}{e:Sem Value}(hr:(callFunc f args).run Pg w=(e.run Pg w).andThen fun v w'=> .ok (.value v) w')(h:e.run Pg w= .ok v w')(hK:K v w'):gH Pg w f args K:=
 ⟨v,w',by rw[hr,h];rfl,hK⟩
theorem x82{a:Value}(h:(ReflectliteValue.unpack a).run Pg w= .ok v w')(hK:K v w'):gH Pg w 82 #[a] K:=
 jO (run_callFunc_extern Tryz.func82 (by kernel_rfl) (by kernel_rfl) (by kernel_rfl) (e:=fun args=>ReflectliteValue.unpack (args.getD 0 (.tuple #[]))) (by kernel_rfl) #[a] w) h hK
theorem x83{a:Value}(h:(ReflectliteValue.methodAny (ReflectliteValue.valueError "reflectlite.Value.Type" 0) (fun t _ _ _ =>ReflectliteType.toType t) #[a]).run Pg w= .ok v w')(hK:K v w'):gH Pg w 83 #[a] K:=
 jO (run_callFunc_extern Tryz.func83 (by kernel_rfl) (by kernel_rfl) (by kernel_rfl) (by kernel_rfl) #[a] w) h hK
theorem x84{a:Value}(h:(ReflectliteValue.method (ReflectliteValue.valueError "reflectlite.Value.IsNil" 0) ReflectliteValue.isNil #[a]).run Pg w= .ok v w')(hK:K v w'):gH Pg w 84 #[a] K:=
 jO (run_callFunc_extern Tryz.func84 (by kernel_rfl) (by kernel_rfl) (by kernel_rfl) (by kernel_rfl) #[a] w) h hK
theorem x94{a:Value}(h:(ReflectliteType.typeOf #[a]).run Pg w= .ok v w')(hK:K v w'):gH Pg w 94 #[a] K:=
 jO (run_callFunc_extern Tryz.func94 (by kernel_rfl) (by kernel_rfl) (by kernel_rfl) (by kernel_rfl) #[a] w) h hK
theorem x95{a:Value}(h:(ReflectliteValue.method (ReflectliteValue.valueError "reflectlite.Value.Elem" 0) ReflectliteValue.elem #[a]).run Pg w= .ok v w')(hK:K v w'):gH Pg w 95 #[a] K:=
 jO (run_callFunc_extern Tryz.func95 (by kernel_rfl) (by kernel_rfl) (by kernel_rfl) (by kernel_rfl) #[a] w) h hK
theorem x96{a b:Value}(h:(ReflectliteValue.set #[a,b]).run Pg w= .ok v w')(hK:K v w'):gH Pg w 96 #[a,b] K:=
 jO (run_callFunc_extern Tryz.func96 (by kernel_rfl) (by kernel_rfl) (by kernel_rfl) (by kernel_rfl) #[a,b] w) h hK
theorem x184{a:Value}(h:((ReflectliteType.abiMethod fun t=>do pure (.int .u8 (<-Rtype.kind t))) #[a]).run Pg w= .ok v w')(hK:K v w'):gH Pg w 184 #[a] K:=
 jO (run_callFunc_extern Tryz.func184 (by kernel_rfl) (by kernel_rfl) (by kernel_rfl) (by kernel_rfl) #[a] w) h hK
theorem x227{a b:Value}(h:(ReflectliteType.relation "AssignableTo" ReflectliteType.assignableTo #[a,b]).run Pg w= .ok v w')(hK:K v w'):gH Pg w 227 #[a,b] K:=
 jO (run_callFunc_extern Tryz.func227 (by kernel_rfl) (by kernel_rfl) (by kernel_rfl) (by kernel_rfl) #[a,b] w) h hK
theorem x229{a:Value}(h:(ReflectliteType.method ReflectliteType.elem #[a]).run Pg w= .ok v w')(hK:K v w'):gH Pg w 229 #[a] K:=
 jO (run_callFunc_extern Tryz.func229 (by kernel_rfl) (by kernel_rfl) (by kernel_rfl) (by kernel_rfl) #[a] w) h hK
theorem x230{a b:Value}(h:(ReflectliteType.relation "Implements" ReflectliteType.implements_ #[a,b]).run Pg w= .ok v w')(hK:K v w'):gH Pg w 230 #[a,b] K:=
 jO (run_callFunc_extern Tryz.func230 (by kernel_rfl) (by kernel_rfl) (by kernel_rfl) (by kernel_rfl) #[a,b] w) h hK
theorem qBg(h:Value)(w:wQ):(Go.method (Pg.types.size+Made.depth) 192 (.agg #[h]) "Kind").run Pg w= .ok (184,h) w:=by kernel_rfl
theorem mElem(h:Value)(w:wQ):(Go.method (Pg.types.size+Made.depth) 192 (.agg #[h]) "Elem").run Pg w= .ok (229,.agg #[h]) w:=by kernel_rfl
theorem mImpl(h:Value)(w:wQ):(Go.method (Pg.types.size+Made.depth) 192 (.agg #[h]) "Implements").run Pg w= .ok (230,.agg #[h]) w:=by kernel_rfl
theorem mAss(h:Value)(w:wQ):(Go.method (Pg.types.size+Made.depth) 192 (.agg #[h]) "AssignableTo").run Pg w= .ok (227,.agg #[h]) w:=by kernel_rfl
theorem wV(t:Addr)(w:wQ):(ReflectliteValue.unpack (.iface 128 (.pointer (some t)))).run Pg w= .ok (Vv 128 ⟨w.heap.size,0,none⟩ 150) (w.alloc (.cells #[.pointer (some t)] 128)):=by kernel_rfl
theorem wW(t:Addr)(w:wQ):(ReflectliteValue.unpack (.iface 129 (.pointer (some t)))).run Pg w= .ok (Vv 129 ⟨w.heap.size,0,none⟩ 150) (w.alloc (.cells #[.pointer (some t)] 129)):=by kernel_rfl
theorem wT(s:ByteArray)(w:wQ):(ReflectliteValue.unpack (.iface 125 (.string s))).run Pg w= .ok (Vv 125 ⟨w.heap.size,0,none⟩ 152) (w.alloc (.cells #[.string s] 125)):=by kernel_rfl
theorem wU(s:ByteArray)(w:wQ):(ReflectliteValue.unpack (.iface 126 (.string s))).run Pg w= .ok (Vv 126 ⟨w.heap.size,0,none⟩ 152) (w.alloc (.cells #[.string s] 126)):=by kernel_rfl
theorem qIm(a:Addr)(w:wQ):(ReflectliteValue.methodAny (ReflectliteValue.valueError "reflectlite.Value.Type" 0) (fun t _ _ _ =>ReflectliteType.toType t) #[Vv 128 a 150]).run Pg w= .ok (Rt 128) w:=by kernel_rfl
theorem qIn(a:Addr)(w:wQ):(ReflectliteValue.methodAny (ReflectliteValue.valueError "reflectlite.Value.Type" 0) (fun t _ _ _ =>ReflectliteType.toType t) #[Vv 129 a 150]).run Pg w= .ok (Rt 129) w:=by kernel_rfl
theorem qCw(v:Value)(w:wQ):(ReflectliteType.typeOf #[.iface 125 v]).run Pg w= .ok (Rt 125) w:=by kernel_rfl
theorem cR(v:Value)(w:wQ):(ReflectliteType.typeOf #[.iface 126 v]).run Pg w= .ok (Rt 126) w:=by kernel_rfl
theorem cS(v:Value)(w:wQ):(ReflectliteType.typeOf #[.iface 310 v]).run Pg w= .ok (Rt 310) w:=by kernel_rfl
theorem qHp(w:wQ):((ReflectliteType.abiMethod fun t=>do pure (.int .u8 (<-Rtype.kind t))) #[Ha 128]).run Pg w= .ok (.int .u8 22) w:=by kernel_rfl
theorem qHq(w:wQ):((ReflectliteType.abiMethod fun t=>do pure (.int .u8 (<-Rtype.kind t))) #[Ha 129]).run Pg w= .ok (.int .u8 22) w:=by kernel_rfl
theorem qHn(w:wQ):((ReflectliteType.abiMethod fun t=>do pure (.int .u8 (<-Rtype.kind t))) #[Ha 125]).run Pg w= .ok (.int .u8 24) w:=by kernel_rfl
theorem qHo(w:wQ):((ReflectliteType.abiMethod fun t=>do pure (.int .u8 (<-Rtype.kind t))) #[Ha 126]).run Pg w= .ok (.int .u8 24) w:=by kernel_rfl
theorem qGy(w:wQ):(ReflectliteType.method ReflectliteType.elem #[.agg #[Ha 128]]).run Pg w= .ok (Rt 125) w:=by kernel_rfl
theorem qGz(w:wQ):(ReflectliteType.method ReflectliteType.elem #[.agg #[Ha 129]]).run Pg w= .ok (Rt 126) w:=by kernel_rfl
theorem qHk(w:wQ):(ReflectliteType.relation "Implements" ReflectliteType.implements_ #[.agg #[Ha 125],Rt 82]).run Pg w= .ok (.bool true) w:=by kernel_rfl
theorem qHl(w:wQ):(ReflectliteType.relation "Implements" ReflectliteType.implements_ #[.agg #[Ha 126],Rt 82]).run Pg w= .ok (.bool true) w:=by kernel_rfl
theorem pR(w:wQ):(ReflectliteType.relation "AssignableTo" ReflectliteType.assignableTo #[.agg #[Ha 125],Rt 125]).run Pg w= .ok (.bool true) w:=by kernel_rfl
theorem pT(w:wQ):(ReflectliteType.relation "AssignableTo" ReflectliteType.assignableTo #[.agg #[Ha 126],Rt 126]).run Pg w= .ok (.bool true) w:=by kernel_rfl
theorem pS(w:wQ):(ReflectliteType.relation "AssignableTo" ReflectliteType.assignableTo #[.agg #[Ha 126],Rt 125]).run Pg w= .ok (.bool false) w:=by kernel_rfl
theorem pU(w:wQ):(ReflectliteType.relation "AssignableTo" ReflectliteType.assignableTo #[.agg #[Ha 310],Rt 125]).run Pg w= .ok (.bool false) w:=by kernel_rfl
theorem pV(w:wQ):(ReflectliteType.relation "AssignableTo" ReflectliteType.assignableTo #[.agg #[Ha 310],Rt 126]).run Pg w= .ok (.bool false) w:=by kernel_rfl
theorem oS(a:Addr)(w:wQ):(ReflectliteValue.parts (Vv 128 a 150)).run Pg w= .ok (some (128,a,150)) w:=by kernel_rfl
theorem oT(a:Addr)(w:wQ):(ReflectliteValue.parts (Vv 129 a 150)).run Pg w= .ok (some (129,a,150)) w:=by kernel_rfl
theorem qCp(a:Addr)(w:wQ):(ReflectliteValue.parts (Vv 125 a 408)).run Pg w= .ok (some (125,a,408)) w:=by kernel_rfl
theorem qFj(a:Addr)(w:wQ):(ReflectliteValue.parts (Vv 125 a 152)).run Pg w= .ok (some (125,a,152)) w:=by kernel_rfl
theorem qCq(a:Addr)(w:wQ):(ReflectliteValue.parts (Vv 126 a 408)).run Pg w= .ok (some (126,a,408)) w:=by kernel_rfl
theorem qFk(a:Addr)(w:wQ):(ReflectliteValue.parts (Vv 126 a 152)).run Pg w= .ok (some (126,a,152)) w:=by kernel_rfl
theorem mk125(p:Addr)(w:wQ):(ReflectliteValue.mk 125 p ReflectliteValue.flagAddr).run Pg w= .ok (Vv 125 p 408) w:=by kernel_rfl
theorem mk126(p:Addr)(w:wQ):(ReflectliteValue.mk 126 p ReflectliteValue.flagAddr).run Pg w= .ok (Vv 126 p 408) w:=by kernel_rfl
theorem qBy(w:wQ):(Rtype.elem? 128).run Pg w= .ok (some 125) w:=by kernel_rfl
theorem qBz(w:wQ):(Rtype.elem? 129).run Pg w= .ok (some 126) w:=by kernel_rfl
theorem qBw(w:wQ):(Rtype.directlyAssignable 125 125).run Pg w= .ok true w:=by kernel_rfl
theorem qBx(w:wQ):(Rtype.directlyAssignable 126 126).run Pg w= .ok true w:=by kernel_rfl
theorem un128:Pg.underlying 128=some (.pointer 125):=by kernel_rfl
theorem un129:Pg.underlying 129=some (.pointer 126):=by kernel_rfl
end
section
open Go.Extern
variable{w w':wQ}{K:vPq}{v:Value}
theorem rlm(z:Sem Value)(f:TypeId ->Addr ->Nat ->Nat ->Sem Value)(v:Value):
  ReflectliteValue.method z f #[v]=(do match<-ReflectliteValue.parts v with|none=>z|some (t,a,fl)=>f t a fl (fl%32)):=rfl
theorem rls(v x:Value):ReflectliteValue.set #[v,x]=(do
  let(some (dst,a,fl),some (src,b,_)):=(<-ReflectliteValue.parts v,<-ReflectliteValue.parts x)
   |unsupported (.noEntry "extern/(internal/reflectlite.Value).Set.zeroValue")
  if fl/ReflectliteValue.flagAddr%2==0 then unsupported (.noEntry "extern/(internal/reflectlite.Value).Set.unaddressable")
  let val<-loadVar src b
  if<-Rtype.directlyAssignable dst src then storeVar dst a val
  else if<-Rtype.implements dst src then
   if(<-Rtype.kind src)==20 then
    match val with
    | .nilIface=>unsupported (.noEntry "extern/reflectlite: a nil value of one interface type handed on as a value of another")
    |_ =>storeVar dst a val
   else storeVar dst a (.iface src val)
  else panicString ("reflectlite.Set: value of type " ++(<-Rtype.spelt src)++ " is not assignable to type " ++(<-Rtype.spelt dst))
  pure (.tuple #[])):=rfl
theorem un125:Pg.underlying 125=some .string:=by kernel_rfl
theorem un126:Pg.underlying 126=some .string:=by kernel_rfl
theorem qFb{a p:Addr}(ha:w.cell? a=some (.pointer (some p))):(ReflectliteValue.method (ReflectliteValue.valueError "reflectlite.Value.IsNil" 0) ReflectliteValue.isNil #[Vv 128 a 150]).run Pg w= .ok (.bool false) w:=by
 rw[rlm];simp only[Sem.run_bind,oS,Result.andThen];simp[ReflectliteValue.isNil,loadVar,isAgg,underlying,un128,ha,Result.andThen]
theorem qFc{a p:Addr}(ha:w.cell? a=some (.pointer (some p))):(ReflectliteValue.method (ReflectliteValue.valueError "reflectlite.Value.IsNil" 0) ReflectliteValue.isNil #[Vv 129 a 150]).run Pg w= .ok (.bool false) w:=by
 rw[rlm];simp only[Sem.run_bind,oT,Result.andThen];simp[ReflectliteValue.isNil,loadVar,isAgg,underlying,un129,ha,Result.andThen]
theorem qEg{a p:Addr}(ha:w.cell? a=some (.pointer (some p))):(ReflectliteValue.method (ReflectliteValue.valueError "reflectlite.Value.Elem" 0) ReflectliteValue.elem #[Vv 128 a 150]).run Pg w= .ok (Vv 125 p 408) w:=by
 rw[rlm];simp only[Sem.run_bind,oS,Result.andThen];simp[ReflectliteValue.elem,loadVar,isAgg,underlying,un128,ha,Result.andThen,qBy,mk125]
theorem qEh{a p:Addr}(ha:w.cell? a=some (.pointer (some p))):(ReflectliteValue.method (ReflectliteValue.valueError "reflectlite.Value.Elem" 0) ReflectliteValue.elem #[Vv 129 a 150]).run Pg w= .ok (Vv 126 p 408) w:=by
 rw[rlm];simp only[Sem.run_bind,oT,Result.andThen];simp[ReflectliteValue.elem,loadVar,isAgg,underlying,un129,ha,Result.andThen,qBz,mk126]
theorem set125{ta b:Addr}{s:ByteArray}{old:Value}(hb:w.cell? b=some (.string s))(ht:w.cell? ta=some old)(hf:w.frozen? ta=false):(ReflectliteValue.set #[Vv 125 ta 408,Vv 125 b 152]).run Pg w= .ok (.tuple #[]) (w.setCell ta (.string s)):=by
 rw[rls];simp only[Sem.run_bind,qCp,qFj,Result.andThen];simp[ReflectliteValue.flagAddr,loadVar,isAgg,underlying,un125,hb,Result.andThen,qBw,storeVar,Value.cells,storeCells,Addr.add];rw[run_store Pg w ta _ _ (by rfl)];simp[ht,hf]
theorem set126{ta b:Addr}{s:ByteArray}{old:Value}(hb:w.cell? b=some (.string s))(ht:w.cell? ta=some old)(hf:w.frozen? ta=false):(ReflectliteValue.set #[Vv 126 ta 408,Vv 126 b 152]).run Pg w= .ok (.tuple #[]) (w.setCell ta (.string s)):=by
 rw[rls];simp only[Sem.run_bind,qCq,qFk,Result.andThen];simp[ReflectliteValue.flagAddr,loadVar,isAgg,underlying,un126,hb,Result.andThen,qBx,storeVar,Value.cells,storeCells,Addr.add];rw[run_store Pg w ta _ _ (by rfl)];simp[ht,hf]
end
section
open Go.Extern
variable{w w' w0:wQ}{K:vPq}{v:Value}
theorem zc154:zc Pg 154= #[.pointer none,.pointer none,.int .u64 0]:=by kernel_rfl
theorem zc125:zc Pg 125= #[.string ⟨#[]⟩]:=by kernel_rfl
theorem zc126:zc Pg 126= #[.string ⟨#[]⟩]:=by kernel_rfl
def ETyp(w:wQ):Prop:=w.cell? ⟨2,0,none⟩=some (Rt 82)
theorem ETyp.lt(h:ETyp w):2<hn w:=by
 have h:w.cell? ⟨2,0,none⟩=some (Rt 82):=h;rw[yO]at h;unfold hp at h;rcases Nat.lt_or_ge 2 (hn w)with h1|h1
 ·exact h1
 ·rw[Array.getElem?_eq_none (by exact h1)]at h
  cases h
theorem ETyp.fr{S:List Nat}(h:ETyp w)(hf:Fr S w w')(hS:2∉S):ETyp w':=by
 have hl:=h.lt;have h:w.cell? ⟨2,0,none⟩=some (Rt 82):=h;show w'.cell? ⟨2,0,none⟩=some (Rt 82);rw[yO]at h⊢;rw[hf.keep 2 hl hS];exact h
theorem ETyp.fr0(h:ETyp w)(hf:Fr [] w w'):ETyp w':=h.fr hf sQ
theorem tU{b i:Nat}{T:TypeId}{arr:vQ}{v:Value}(h:hp w b=Row T arr)(hv:arr[i]? =some v):w.cell? ⟨b,i,none⟩=some v:=by rw[yO,h];exact hv
noncomputable def qAa(t:TypeId):Array (String×TypeId):=match Pg.underlying t with|some (.interface ms)=>ms|_ => #[]
theorem qGb:Pg.underlying 197=some (.interface (qAa 197)):=by kernel_rfl
theorem wH(s:ByteArray)(w:wQ):(Instr.typeAssert (.iface 126 (.string s)) 82 197 true).run Pg w= .ok (.tuple #[.nilIface,.bool false]) w:=Go.run_typeAssert_lacksB qGb (by kernel_rfl) (by kernel_rfl) _ 82 w
theorem bY(a:pQ)(w:wQ):(Instr.typeAssert (.iface 310 (.pointer a)) 82 197 true).run Pg w= .ok (.tuple #[.nilIface,.bool false]) w:=Go.run_typeAssert_lacksB qGb (by kernel_rfl) (by kernel_rfl) _ 82 w
theorem qGc:Pg.underlying 200=some (.interface (qAa 200)):=by kernel_rfl
theorem wI(s:ByteArray)(w:wQ):(Instr.typeAssert (.iface 126 (.string s)) 82 200 true).run Pg w= .ok (.tuple #[.nilIface,.bool false]) w:=Go.run_typeAssert_lacksB qGc (by kernel_rfl) (by kernel_rfl) _ 82 w
theorem bZ(a:pQ)(w:wQ):(Instr.typeAssert (.iface 310 (.pointer a)) 82 200 true).run Pg w= .ok (.tuple #[.nilIface,.bool false]) w:=Go.run_typeAssert_lacksB qGc (by kernel_rfl) (by kernel_rfl) _ 82 w
theorem qGd:Pg.underlying 201=some (.interface (qAa 201)):=by kernel_rfl
theorem wJ(s:ByteArray)(w:wQ):(Instr.typeAssert (.iface 126 (.string s)) 82 201 true).run Pg w= .ok (.tuple #[.nilIface,.bool false]) w:=Go.run_typeAssert_lacksB qGd (by kernel_rfl) (by kernel_rfl) _ 82 w
theorem aA(a:pQ)(w:wQ):(Instr.typeAssert (.iface 310 (.pointer a)) 82 201 true).run Pg w= .ok (.tuple #[.nilIface,.bool false]) w:=Go.run_typeAssert_lacksB qGd (by kernel_rfl) (by kernel_rfl) _ 82 w
theorem c85_hit125{s old:ByteArray}{x1:Value}{ab r1:Nat}(ha:hp w ab=Row 128 #[.pointer (some ⟨r1,0,none⟩)])(hr:hp w r1=Row 125 #[.string old]):
  CallT Pg 85 #[.iface 125 (.string s),x1,.agg #[.pointer (some ⟨16,128,none⟩),.pointer (some ⟨ab,0,none⟩),.int .u64 150],Rt 125] w fun v w'=>v= .bool true/\Fr [r1] w w':=by
 apply call85;unfold wp85 wIq;refine qG fun w2 h2 f2 n2=> ?_;refine qP (fun z w'=>z=(.iface 125 (.string s),())/\w'=w2) (fun _ _ =>0) ⟨rfl,rfl⟩ ?_;rintro _ w2 ⟨rfl,rfl⟩;dsimp only;refine x94 (qCw _ _) ⟨_,rfl,⟨192,.agg #[Ha 125],227,.agg #[Ha 125],rfl,mAss _ _,?_⟩⟩;refine x227 (pR _) ⟨_,rfl,xA (zZ h2 rfl (zZ h2 rfl (qC h2 rfl ?_)))⟩;have a2:=f2.row0 ha;have r2:=f2.row0 hr;refine x95 (qEg (tU a2 rfl)) ⟨_,_,_,rfl,?_⟩;have l2:=zM r2;refine x82 (wT s _) ⟨_,_,_,rfl,?_⟩;have fa:Fr [] w2 (w2.alloc (.cells #[.string s] 125)):=Fr.alloc [] w2 _;have hb:hp (w2.alloc (.cells #[.string s] 125)) (hn w2)=Row 125 #[.string s]:=hp_alloc_new _ _ _;have r3:=fa.row0 r2;refine x96 (set125 (tU hb rfl) (tU r3 rfl) (sR _ _ _ r3 sQ)) ⟨rfl,rfl,?_⟩;exact(f2.mono sQ).trans ((fa.mono sQ).trans (Fr.upd sQ))
theorem c85_hit126{s old:ByteArray}{x1:Value}{ab r1:Nat}(ha:hp w ab=Row 129 #[.pointer (some ⟨r1,0,none⟩)])(hr:hp w r1=Row 126 #[.string old]):
  CallT Pg 85 #[.iface 126 (.string s),x1,.agg #[.pointer (some ⟨16,129,none⟩),.pointer (some ⟨ab,0,none⟩),.int .u64 150],Rt 126] w fun v w'=>v= .bool true/\Fr [r1] w w':=by
 apply call85;unfold wp85 wIq;refine qG fun w2 h2 f2 n2=> ?_;refine qP (fun z w'=>z=(.iface 126 (.string s),())/\w'=w2) (fun _ _ =>0) ⟨rfl,rfl⟩ ?_;rintro _ w2 ⟨rfl,rfl⟩;dsimp only;refine x94 (cR _ _) ⟨_,rfl,⟨192,.agg #[Ha 126],227,.agg #[Ha 126],rfl,mAss _ _,?_⟩⟩;refine x227 (pT _) ⟨_,rfl,xA (zZ h2 rfl (zZ h2 rfl (qC h2 rfl ?_)))⟩;have a2:=f2.row0 ha;have r2:=f2.row0 hr;refine x95 (qEh (tU a2 rfl)) ⟨_,_,_,rfl,?_⟩;have l2:=zM r2;refine x82 (wU s _) ⟨_,_,_,rfl,?_⟩;have fa:Fr [] w2 (w2.alloc (.cells #[.string s] 126)):=Fr.alloc [] w2 _;have hb:hp (w2.alloc (.cells #[.string s] 126)) (hn w2)=Row 126 #[.string s]:=hp_alloc_new _ _ _;have r3:=fa.row0 r2;refine x96 (set126 (tU hb rfl) (tU r3 rfl) (sR _ _ _ r3 sQ)) ⟨rfl,rfl,?_⟩;exact(f2.mono sQ).trans ((fa.mono sQ).trans (Fr.upd sQ))
theorem c85_miss126_125{s:ByteArray}{x1:Value}{a0 a1:Addr}{n:Int}:
  CallT Pg 85 #[.iface 126 (.string s),x1,.agg #[.pointer (some a0),.pointer (some a1),.int .u64 n],Rt 125] w fun v w'=>v= .bool false/\Fr [] w w':=by
 apply call85;unfold wp85 wIq;refine qG fun w2 h2 f2 n2=> ?_;refine qP (fun z w'=>z=(.iface 126 (.string s),())/\w'=w2) (fun _ _ =>0) ⟨rfl,rfl⟩ ?_;rintro _ w2 ⟨rfl,rfl⟩;dsimp only;refine x94 (cR _ _) ⟨_,rfl,⟨192,.agg #[Ha 126],227,.agg #[Ha 126],rfl,mAss _ _,?_⟩⟩;refine x227 (pS _) ⟨_,rfl,qM ?_⟩;refine qJ (fun _ w'=>w'=w2) ?_ ?_
 ·rintro⟨⟩ w2 rfl
  exact⟨_,_,wI s _,_,rfl,qM ⟨_,_,wJ s _,_,rfl,qM ⟨rfl,f2⟩⟩⟩
 ·intro J hJ
  exact⟨_,_,wH s _,_,rfl,qM (hJ _ _ rfl)⟩
theorem c85_miss310_125{a:pQ}{x1:Value}{a0 a1:Addr}{n:Int}:
  CallT Pg 85 #[.iface 310 (.pointer a),x1,.agg #[.pointer (some a0),.pointer (some a1),.int .u64 n],Rt 125] w fun v w'=>v= .bool false/\Fr [] w w':=by
 apply call85;unfold wp85 wIq;refine qG fun w2 h2 f2 n2=> ?_;refine qP (fun z w'=>z=(.iface 310 (.pointer a),())/\w'=w2) (fun _ _ =>0) ⟨rfl,rfl⟩ ?_;rintro _ w2 ⟨rfl,rfl⟩;dsimp only;refine x94 (cS _ _) ⟨_,rfl,⟨192,.agg #[Ha 310],227,.agg #[Ha 310],rfl,mAss _ _,?_⟩⟩;refine x227 (pU _) ⟨_,rfl,qM ?_⟩;refine qJ (fun _ w'=>w'=w2) ?_ ?_
 ·rintro⟨⟩ w2 rfl
  exact⟨_,_,bZ a _,_,rfl,qM ⟨_,_,aA a _,_,rfl,qM ⟨rfl,f2⟩⟩⟩
 ·intro J hJ
  exact⟨_,_,bY a _,_,rfl,qM (hJ _ _ rfl)⟩
theorem c85_miss310_126{a:pQ}{x1:Value}{a0 a1:Addr}{n:Int}:
  CallT Pg 85 #[.iface 310 (.pointer a),x1,.agg #[.pointer (some a0),.pointer (some a1),.int .u64 n],Rt 126] w fun v w'=>v= .bool false/\Fr [] w w':=by
 apply call85;unfold wp85 wIq;refine qG fun w2 h2 f2 n2=> ?_;refine qP (fun z w'=>z=(.iface 310 (.pointer a),())/\w'=w2) (fun _ _ =>0) ⟨rfl,rfl⟩ ?_;rintro _ w2 ⟨rfl,rfl⟩;dsimp only;refine x94 (cS _ _) ⟨_,rfl,⟨192,.agg #[Ha 310],227,.agg #[Ha 310],rfl,mAss _ _,?_⟩⟩;refine x227 (pV _) ⟨_,rfl,qM ?_⟩;refine qJ (fun _ w'=>w'=w2) ?_ ?_
 ·rintro⟨⟩ w2 rfl
  exact⟨_,_,bZ a _,_,rfl,qM ⟨_,_,aA a _,_,rfl,qM ⟨rfl,f2⟩⟩⟩
 ·intro J hJ
  exact⟨_,_,bY a _,_,rfl,qM (hJ _ _ rfl)⟩
theorem c62_128{t:TypeId}{u:Value}{r1:Nat}{S:List Nat}{b:Bool}(hE:ETyp w)
  (h85:∀w2 ab,Fr [] w w2 ->hp w2 ab=Row 128 #[.pointer (some ⟨r1,0,none⟩)] ->CallT Pg 85 #[.iface t u,.iface 128 (.pointer (some ⟨r1,0,none⟩)),.agg #[.pointer (some ⟨16,128,none⟩),.pointer (some ⟨ab,0,none⟩),.int .u64 150],Rt 125] w2 fun v w'=>v= .bool b/\Fr S w2 w'):
  CallT Pg 62 #[.iface t u,.iface 128 (.pointer (some ⟨r1,0,none⟩))] w fun v w'=>v= .bool b/\Fr S w w':=by
 apply call62;unfold wp62;refine yA (qM (qJ (fun _ w'=>w'=w) ?_ ?_))
 ·rintro⟨⟩ w rfl
  refine x82 (wV _ _) ⟨_,_,_,rfl,?_⟩;have fa:Fr [] w (w.alloc (.cells #[.pointer (some ⟨r1,0,none⟩)] 128)):=Fr.alloc [] w _;have hb:hp (w.alloc (.cells #[.pointer (some ⟨r1,0,none⟩)] 128)) (hn w)=Row 128 #[.pointer (some ⟨r1,0,none⟩)]:=hp_alloc_new _ _ _;have hbl:hn (w.alloc (.cells #[.pointer (some ⟨r1,0,none⟩)] 128))=hn w+1:=by simp
  show qL _ _ _;generalize w.alloc (.cells #[.pointer (some ⟨r1,0,none⟩)] 128)=wa at*;have hsz:w.heap.size=hn w:=rfl;rw[hsz,zc154];refine qG fun w11 h11 f11 n11=> ?_;refine qD h11 sQ fun w12 h12 f12 n12=> ?_;refine qD h12 sQ fun w13 h13 f13 n13=> ?_;refine qD h13 sQ fun w14 h14 f14 n14=> ?_;have F14:Fr [] wa w14:=f11.trans' (f12.trans (f13.trans f14)) (fun x hx hlt=>by simp at hx;omega);have b14:=F14.row0 hb;have E14:=(hE.fr0 fa).fr0 F14;refine zZ h14 rfl (zZ h14 rfl (qC h14 rfl ?_));refine x83 (qIm _ _) ⟨_,rfl,qJ (fun _ w'=>w'=w14) ?_ ?_⟩
  ·rintro⟨⟩ w14 rfl
   refine⟨192,.agg #[Ha 128],229,.agg #[Ha 128],rfl,mElem _ _,x229 (qGy _) ⟨_,rfl,?_⟩⟩;refine⟨192,.agg #[Ha 125],184,Ha 125,rfl,qBg _ _,x184 (qHn _) ⟨_,rfl,?_⟩⟩;refine xU (fun _ => ?_) (fun h=>absurd h dQ);rw[vM,<-yO,show w14.cell? ⟨2,0,none⟩=some (Rt 82)from E14,RdV_some];refine⟨192,.agg #[Ha 125],230,.agg #[Ha 125],rfl,mImpl _ _,x230 (qHk _) ⟨_,rfl,qM ?_⟩⟩;refine zZ h14 rfl (zZ h14 rfl (qC h14 rfl ?_));refine CallT.mono (h85 _ _ (fa.trans F14) b14) ?_;rintro _ w' ⟨rfl,f⟩;exact⟨_,rfl,rfl,((fa.trans F14).mono sQ).trans f⟩
  ·intro J hJ
   refine⟨192,.agg #[Ha 128],184,Ha 128,rfl,qBg _ _,x184 (qHp _) ⟨_,rfl,?_⟩⟩;refine xU (fun h=>absurd rfl h) (fun _ =>zZ h14 rfl (zZ h14 rfl (qC h14 rfl ?_)));exact x84 (qFb (tU b14 rfl)) ⟨_,rfl,qM (hJ _ _ rfl)⟩
 ·intro J hJ
  exact yA (qM (hJ _ _ rfl))
theorem c62_129{t:TypeId}{u:Value}{r1:Nat}{S:List Nat}{b:Bool}(hE:ETyp w)
  (h85:∀w2 ab,Fr [] w w2 ->hp w2 ab=Row 129 #[.pointer (some ⟨r1,0,none⟩)] ->CallT Pg 85 #[.iface t u,.iface 129 (.pointer (some ⟨r1,0,none⟩)),.agg #[.pointer (some ⟨16,129,none⟩),.pointer (some ⟨ab,0,none⟩),.int .u64 150],Rt 126] w2 fun v w'=>v= .bool b/\Fr S w2 w'):
  CallT Pg 62 #[.iface t u,.iface 129 (.pointer (some ⟨r1,0,none⟩))] w fun v w'=>v= .bool b/\Fr S w w':=by
 apply call62;unfold wp62;refine yA (qM (qJ (fun _ w'=>w'=w) ?_ ?_))
 ·rintro⟨⟩ w rfl
  refine x82 (wW _ _) ⟨_,_,_,rfl,?_⟩;have fa:Fr [] w (w.alloc (.cells #[.pointer (some ⟨r1,0,none⟩)] 129)):=Fr.alloc [] w _;have hb:hp (w.alloc (.cells #[.pointer (some ⟨r1,0,none⟩)] 129)) (hn w)=Row 129 #[.pointer (some ⟨r1,0,none⟩)]:=hp_alloc_new _ _ _;have hbl:hn (w.alloc (.cells #[.pointer (some ⟨r1,0,none⟩)] 129))=hn w+1:=by simp
  show qL _ _ _;generalize w.alloc (.cells #[.pointer (some ⟨r1,0,none⟩)] 129)=wa at*;have hsz:w.heap.size=hn w:=rfl;rw[hsz,zc154];refine qG fun w11 h11 f11 n11=> ?_;refine qD h11 sQ fun w12 h12 f12 n12=> ?_;refine qD h12 sQ fun w13 h13 f13 n13=> ?_;refine qD h13 sQ fun w14 h14 f14 n14=> ?_;have F14:Fr [] wa w14:=f11.trans' (f12.trans (f13.trans f14)) (fun x hx hlt=>by simp at hx;omega);have b14:=F14.row0 hb;have E14:=(hE.fr0 fa).fr0 F14;refine zZ h14 rfl (zZ h14 rfl (qC h14 rfl ?_));refine x83 (qIn _ _) ⟨_,rfl,qJ (fun _ w'=>w'=w14) ?_ ?_⟩
  ·rintro⟨⟩ w14 rfl
   refine⟨192,.agg #[Ha 129],229,.agg #[Ha 129],rfl,mElem _ _,x229 (qGz _) ⟨_,rfl,?_⟩⟩;refine⟨192,.agg #[Ha 126],184,Ha 126,rfl,qBg _ _,x184 (qHo _) ⟨_,rfl,?_⟩⟩;refine xU (fun _ => ?_) (fun h=>absurd h dQ);rw[vM,<-yO,show w14.cell? ⟨2,0,none⟩=some (Rt 82)from E14,RdV_some];refine⟨192,.agg #[Ha 126],230,.agg #[Ha 126],rfl,mImpl _ _,x230 (qHl _) ⟨_,rfl,qM ?_⟩⟩;refine zZ h14 rfl (zZ h14 rfl (qC h14 rfl ?_));refine CallT.mono (h85 _ _ (fa.trans F14) b14) ?_;rintro _ w' ⟨rfl,f⟩;exact⟨_,rfl,rfl,((fa.trans F14).mono sQ).trans f⟩
  ·intro J hJ
   refine⟨192,.agg #[Ha 129],184,Ha 129,rfl,qBg _ _,x184 (qHq _) ⟨_,rfl,?_⟩⟩;refine xU (fun h=>absurd rfl h) (fun _ =>zZ h14 rfl (zZ h14 rfl (qC h14 rfl ?_)));exact x84 (qFc (tU b14 rfl)) ⟨_,rfl,qM (hJ _ _ rfl)⟩
 ·intro J hJ
  exact yA (qM (hJ _ _ rfl))
def mL:Value ->Int
 | .iface t _ =>if t=125 then 1 else if t=126 then 2 else 3
 |_ =>0
theorem c43{e:Value}(hE:ETyp w)(he:(∃s,e= .iface 125 (.string s))\/(∃s,e= .iface 126 (.string s))\/∃a,e=xP a):CallT Pg 43 #[e] w fun v w'=>v= .int .i64 (mL e)/\Fr [] w w':=by
 apply call43;unfold wp43 iQq;rw[zc125,zc126];refine qG fun w2 h2 f2 n2=>qG fun w4 h4 f4 n4=> ?_;have F4:=f2.trans f4;have E4:=hE.fr0 F4;have h2:=f4.row0 h2;have l2:hn w<hn w4:=oQ;have fin:∀{a b:wQ} {r:Nat},Fr [] w a ->Fr [r] a b ->hn w<=r ->Fr [] w b:=fun h1 h2 hr=>h1.trans' h2 (fun x hx hlt=>by simp at hx;omega);rcases he with⟨s,rfl⟩|⟨s,rfl⟩|⟨a,rfl⟩
 ·refine yA (qM (CallT.mono (c62_128 (S:=[hn w]) (b:=true) E4 fun w5 ab f5 hab=>c85_hit125 hab (f5.row0 h2)) ?_))
  rintro _ w7 ⟨rfl,f7⟩;exact⟨_,rfl,xA ⟨rfl,fin F4 f7 oQ⟩⟩
 ·refine yA (qM (CallT.mono (c62_128 (S:=[]) (b:=false) E4 fun w5 ab f5 hab=>c85_miss126_125) ?_))
  rintro _ w7 ⟨rfl,f7⟩;refine⟨_,rfl,qM (CallT.mono (c62_129 (S:=[hn w2]) (b:=true) (E4.fr0 f7) fun w5 ab f5 hab=>c85_hit126 hab (f5.row0 (f7.row0 h4))) ?_)⟩;rintro _ w10 ⟨rfl,f10⟩;exact⟨_,rfl,xA ⟨rfl,fin (F4.trans f7) f10 oQ⟩⟩
 ·refine yA (qM (CallT.mono (c62_128 (S:=[]) (b:=false) E4 fun w5 ab f5 hab=>c85_miss310_125) ?_))
  rintro _ w7 ⟨rfl,f7⟩;refine⟨_,rfl,qM (CallT.mono (c62_129 (S:=[]) (b:=false) (E4.fr0 f7) fun w5 ab f5 hab=>c85_miss310_126) ?_)⟩;rintro _ w10 ⟨rfl,f10⟩;exact⟨_,rfl,qM ⟨rfl,(F4.trans f7).trans f10⟩⟩
end
def wp57(x0:Value)(R:vPq)(w:wQ):Prop:=qL w (.cells (zc Pg 66) 66) fun a t=>CallT Pg 69 #[x0] t fun u e=>∃f d,And (u= .tuple #[f,d]) (xR d fun v=>IfC (!v) (CallT Pg 43 #[d] e fun y z=>∃g,And (y=iQq g) (qB z ⟨a,0,none⟩ (iQq 0) fun A=>qB A ⟨a,0+1,none⟩ (iQq 0) fun B=>qB B ⟨a,0+2,none⟩ (iQq 0) fun C=>qB C ⟨a,0+3,none⟩ (iQq 0) fun D=>qB D ⟨a,0+4,none⟩ (iQq 0) fun E=>qB E ⟨a,0+5,none⟩ (iQq 0) fun F=>qB F ⟨a,0+6,none⟩ (.slice none 0 0) fun G=>qB G ⟨a,0+7,none⟩ (.slice none 0 0) fun b=>l4q b a fun H I J K=>LdI b ⟨a,0+4,none⟩ .i64 fun L=>LdI b ⟨a,0+5,none⟩ .i64 fun M=>qS b ⟨a,0+6,none⟩ fun N O P=>qS b ⟨a,0+7,none⟩ fun Q S T=>R (.tuple #[.agg #[iQq H,iQq I,iQq J,iQq K,iQq L,iQq M,.slice N O P,.slice Q S T],iQq g]) b)) (CallT Pg 70 #[f] e fun U V=>∃h i j k l m n o p q r s,And (U= .agg #[iQq h,iQq i,iQq j,iQq k,iQq l,iQq m,.slice n o p,.slice q r s]) (qB V ⟨a,0,none⟩ (iQq h) fun X=>qB X ⟨a,0+1,none⟩ (iQq i) fun Y=>qB Y ⟨a,0+2,none⟩ (iQq j) fun Z=>qB Z ⟨a,0+3,none⟩ (iQq k) fun aa=>qB aa ⟨a,0+4,none⟩ (iQq l) fun ab=>qB ab ⟨a,0+5,none⟩ (iQq m) fun ac=>qB ac ⟨a,0+6,none⟩ (.slice n o p) fun ad=>qB ad ⟨a,0+7,none⟩ (.slice q r s) fun c=>l4q c a fun ae af ag ah=>LdI c ⟨a,0+4,none⟩ .i64 fun ai=>LdI c ⟨a,0+5,none⟩ .i64 fun aj=>qS c ⟨a,0+6,none⟩ fun ak al am=>qS c ⟨a,0+7,none⟩ fun ao ap aq=>R (.tuple #[.agg #[iQq ae,iQq af,iQq ag,iQq ah,iQq ai,iQq aj,.slice ak al am,.slice ao ap aq],iQq 0]) c)))
theorem call57{x0:Value}{R:vPq}{w:wQ}(h:wp57 x0 R w):CallT Pg 57 #[x0] w R:=cVq [] Tryz.func57 h
def wp35(x0:pQ)(x0l:Nat)(x0c:Nat)(R:vPq)(w:wQ):Prop:=qL w (.cells (zc Pg 66) 66) fun a t=>CallT Pg 42 #[.slice x0 x0l x0c] t fun u v=>∃c d e,And (u= .slice c d e) (CallT Pg 41 #[.slice c d e] v fun y z=>∃f,And (y= .pointer f) (CallT Pg 57 #[.iface 85 (.pointer f)] z fun A B=>∃g h i j k l m n o p q r s,And (A= .tuple #[.agg #[iQq g,iQq h,iQq i,iQq j,iQq k,iQq l,.slice m n o,.slice p q r],iQq s]) (qB B ⟨a,0,none⟩ (iQq g) fun C=>qB C ⟨a,0+1,none⟩ (iQq h) fun D=>qB D ⟨a,0+2,none⟩ (iQq i) fun E=>qB E ⟨a,0+3,none⟩ (iQq j) fun F=>qB F ⟨a,0+4,none⟩ (iQq k) fun G=>qB G ⟨a,0+5,none⟩ (iQq l) fun H=>qB H ⟨a,0+6,none⟩ (.slice m n o) fun I=>qB I ⟨a,0+7,none⟩ (.slice p q r) fun b=>l4q b a fun J K L M=>LdI b ⟨a,0+4,none⟩ .i64 fun N=>LdI b ⟨a,0+5,none⟩ .i64 fun O=>qS b ⟨a,0+6,none⟩ fun P Q S=>qS b ⟨a,0+7,none⟩ fun T U V=>R (.tuple #[.agg #[iQq J,iQq K,iQq L,iQq M,iQq N,iQq O,.slice P Q S,.slice T U V],iQq s]) b)))
theorem call35{x0:pQ}{x0l:Nat}{x0c:Nat}{R:vPq}{w:wQ}(h:wp35 x0 x0l x0c R w):CallT Pg 35 #[.slice x0 x0l x0c] w R:=cVq [] Tryz.func35 h
def wp28(x0:pQ)(x0l:Nat)(x0c:Nat)(R:vPq)(w:wQ):Prop:=CallT Pg 35 #[.slice x0 x0l x0c] w fun p q=>∃c d e f g h i j k l m n o,And (p= .tuple #[.agg #[iQq c,iQq d,iQq e,iQq f,iQq g,iQq h,.slice i j k,.slice l m n],iQq o]) (qL q (.cells (zc Pg 66) 66) fun a r=>qB r ⟨a,0,none⟩ (iQq c) fun s=>qB s ⟨a,0+1,none⟩ (iQq d) fun t=>qB t ⟨a,0+2,none⟩ (iQq e) fun u=>qB u ⟨a,0+3,none⟩ (iQq f) fun v=>qB v ⟨a,0+4,none⟩ (iQq g) fun y=>qB y ⟨a,0+5,none⟩ (iQq h) fun z=>qB z ⟨a,0+6,none⟩ (.slice i j k) fun A=>qB A ⟨a,0+7,none⟩ (.slice l m n) fun b=>IfC (o==0) (LdI b ⟨a,0,none⟩ .i64 fun B=>R (.bool (decide (B>(0:Int))):Value) b) (R (.bool false) b))
theorem call28{x0:pQ}{x0l:Nat}{x0c:Nat}{R:vPq}{w:wQ}(h:wp28 x0 x0l x0c R w):CallT Pg 28 #[.slice x0 x0l x0c] w R:=cVq [] Tryz.func28 h
def wp29(x0:pQ)(x0l:Nat)(x0c:Nat)(x1:Int)(R:vPq)(w:wQ):Prop:=CallT Pg 35 #[.slice x0 x0l x0c] w fun p q=>∃c d e f g h i j k l m n o,And (p= .tuple #[.agg #[iQq c,iQq d,iQq e,iQq f,iQq g,iQq h,.slice i j k,.slice l m n],iQq o]) (qL q (.cells (zc Pg 66) 66) fun a r=>qB r ⟨a,0,none⟩ (iQq c) fun s=>qB s ⟨a,0+1,none⟩ (iQq d) fun t=>qB t ⟨a,0+2,none⟩ (iQq e) fun u=>qB u ⟨a,0+3,none⟩ (iQq f) fun v=>qB v ⟨a,0+4,none⟩ (iQq g) fun y=>qB y ⟨a,0+5,none⟩ (iQq h) fun z=>qB z ⟨a,0+6,none⟩ (.slice i j k) fun A=>qB A ⟨a,0+7,none⟩ (.slice l m n) fun b=>IfC (o==x1) (LdI b ⟨a,0,none⟩ .i64 fun B=>IfC (B==0) (qS b ⟨a,0+6,none⟩ fun E C F=>IfC ((C:Int)==0) (qS b ⟨a,0+7,none⟩ fun G D H=>R (.bool ((D:Int)==0):Value) b) (R (.bool false) b)) (R (.bool false) b)) (R (.bool false) b))
theorem call29{x0:pQ}{x0l:Nat}{x0c:Nat}{x1:Int}{R:vPq}{w:wQ}(h:wp29 x0 x0l x0c x1 R w):CallT Pg 29 #[.slice x0 x0l x0c,.int .i64 x1] w R:=cVq [] Tryz.func29 h
section
variable{w w' w0:wQ}{v:Value}
def pO(v:Value)(k:Int)(l l':Nat)(code:Int):Prop:=∃(n1 n2 n3 n4 n5:Int) (p:pQ) (c:Nat) (p':pQ) (c':Nat),v= .tuple #[.agg #[.int .i64 k,.int .i64 n1,.int .i64 n2,.int .i64 n3,.int .i64 n4,.int .i64 n5,.slice p l c,.slice p' l' c'],.int .i64 code]
def qAc(v:Value)(w:wQ):Prop:=∃(pt IT:TypeId) (bpp ib pb W H:Nat) (ex:List Value) (g:Nat) (cs:List (Bool×Px)),v= .tuple #[.iface pt (.pointer (some ⟨ib,0,none⟩)),.nilIface]/\IK pt IT bpp/\ImgW w ib pb IT bpp W H ex/\(IT=186 ->QP (some ⟨g,0,none⟩) ex/\hp w g=Row 131 (cs.map jA).toArray/\cs.length=256)
def ErrK(e:Value):Prop:=(∃s,e= .iface 125 (.string s))\/(∃s,e= .iface 126 (.string s))\/∃a,e=xP a
theorem ErrK.nil{e:Value}(h:ErrK e){K:Bool ->Prop}(hK:K false):xR e K:=by
 rcases h with⟨s,rfl⟩|⟨s,rfl⟩|⟨a,rfl⟩<;>exact yA hK
def DecV(A:Prop)(B:Int ->Prop)(v:Value):Prop:=(A/\∃k l l',0<k/\pO v k l l' 0)\/(∃code,B code/\pO v 0 0 0 code)
theorem DecV.shape{A:Prop}{B:Int ->Prop}(h:DecV A B v):∃k l l' code,pO v k l l' code/\((A/\0<k/\code=0)\/(B code/\k=0/\l=0/\l'=0)):=by
 rcases h with⟨hA,k,l,l',hk,h⟩|⟨code,hB,h⟩
 ·exact⟨k,l,l',0,h,.inl ⟨hA,hk,rfl⟩⟩
 ·exact⟨0,0,0,code,h,.inr ⟨hB,rfl,rfl,rfl⟩⟩
theorem c57{x0:Value}{S:List Nat}{A:Prop}{B:Value ->Prop}(hS:∀x∈S,x<hn w)
  (h69:∀w2,Fr [] w w2 ->hn w<=hn w2 ->CallT Pg 69 #[x0] w2 fun v w'=>Fr S w2 w'/\ETyp w'/\((A/\qAc v w')\/(∃e,v= .tuple #[.nilIface,e]/\B e/\ErrK e))):
  CallT Pg 57 #[x0] w fun v w'=>Fr S w w'/\DecV A (fun code=>∃e,B e/\code=mL e) v:=by
 apply call57;unfold wp57 l4q iQq;refine qG fun w2 h2 f2 n2=>CallT.mono (h69 w2 f2 oQ) ?_;generalize hr1:hn w=r1 at*;have hr:r1∉S:=fun h=>by have:=hS _ h;omega
 rintro v w4 ⟨F4,E4,⟨hA,pt,IT,bpp,ib,pb,W,H,ex,g,cs,rfl,hk,hI,hQ⟩|⟨e,rfl,hB,hK⟩⟩
 ·have h4:=F4.row h2 hr
  refine⟨_,_,rfl,qR (qM (CallT.mono (c70 hk hI hQ) ?_))⟩;rintro _ w32 ⟨f32,n32,k,n1,n2',n3,n4,n5,p,l,c,p',l',c',rfl,hk0⟩;refine⟨_,_,_,_,_,_,_,_,_,_,_,_,rfl,jZ (f32.row0 h4) fun w33 h33 f33 n33=> ?_⟩
  iterate 6 refine qC h33 rfl ?_
  refine qK h33 rfl (qK h33 rfl ⟨?_,.inl ⟨hA,k,l,l',hk0,_,_,_,_,_,_,_,_,_,rfl⟩⟩);exact(((f2.mono sQ).trans F4).trans (f32.mono sQ)).trans' f33 (fun x hx hlt=>by simp at hx;omega)
 ·have h4:=F4.row h2 hr
  refine⟨_,_,rfl,hK.nil (xA (CallT.mono (c43 E4 hK) ?_))⟩;rintro _ w9 ⟨rfl,f9⟩;refine⟨_,rfl,jZ (f9.row0 h4) fun w33 h33 f33 n33=> ?_⟩
  iterate 6 refine qC h33 rfl ?_
  refine qK h33 rfl (qK h33 rfl ⟨?_,.inr ⟨_,⟨e,hB,rfl⟩,_,_,_,_,_,_,_,_,_,rfl⟩⟩);exact(((f2.mono sQ).trans F4).trans (f9.mono sQ)).trans' f33 (fun x hx hlt=>by simp at hx;omega)
theorem c35{p:pQ}{l c:Nat}{xs:bQ}{A:Prop}{B:Int ->Prop}(hx:Has w p (bv xs))(hl:l=xs.length)(hlb:l<1099511627776)
  (h57:∀w9 rb q,Fr [] w w9 ->RdAt w9 rb q xs ->hn w<=rb ->rb<hn w9 ->(∀a,q=some a ->hn w<=a.block/\a.block<rb) ->CallT Pg 57 #[.iface 85 (.pointer (some ⟨rb,0,none⟩))] w9 fun v w'=>Fr [rb] w9 w'/\DecV A B v):
  CallT Pg 35 #[.slice p l c] w fun v w'=>Fr [] w w'/\DecV A B v:=by
 apply call35;unfold wp35 l4q iQq;refine qG fun w2 h2 f2 n2=> ?_;refine CallT.mono (c42 (hx.fr0 f2) hl hlb) ?_;rintro _ w4 ⟨f4,q,c',rfl,hq,hqc,hqb⟩;refine⟨_,_,_,rfl,?_⟩;refine CallT.mono (c41 hq hl hqc hlb) ?_;rintro _ w9 ⟨rfl,hr9,f9,n9⟩;refine⟨_,rfl,?_⟩;have F9:=(f2.trans f4).trans f9;have hs4:=f4.size;refine CallT.mono (h57 w9 (hn w4) q F9 hr9 oQ oQ (fun a ha=>by have:=hqb a ha;omega)) ?_;rintro v w12 ⟨f12,hV⟩;obtain⟨k,l1,l2,code,⟨n1,n2',n3,n4,n5,p1,c1,p2,c2,rfl⟩,hsh⟩:=hV.shape;have h12:=f12.row1 (f9.row0 (f4.row0 h2)) oQ;refine⟨_,_,_,_,_,_,_,_,_,_,_,_,_,rfl,jZ h12 fun w33 h33 f33 n33=> ?_⟩
 iterate 6 refine qC h33 rfl ?_
 refine qK h33 rfl (qK h33 rfl ⟨?_,hV⟩);exact(F9.trans' f12 (fun x hx hlt=>by simp at hx;omega)).trans' f33 (fun x hx hlt=>by simp at hx;omega)
theorem c28{p:pQ}{l c:Nat}{A:Prop}{B:Int ->Prop}(h35:CallT Pg 35 #[.slice p l c] w fun v w'=>Fr [] w w'/\DecV A B v)(hB:∀code,¬B code):CallT Pg 28 #[.slice p l c] w fun v w'=>v= .bool true/\Fr [] w w':=by
 apply call28;unfold wp28 iQq;refine CallT.mono h35 ?_;rintro v w2 ⟨f2,⟨_,k,l1,l2,hk,n1,n2',n3,n4,n5,p1,c1,p2,c2,rfl⟩|⟨code,hc,_⟩⟩
 ·refine⟨_,_,_,_,_,_,_,_,_,_,_,_,_,rfl,qG fun w17 h17 f17 n17=>jZ h17 fun w25 h25 f25 n25=> ?_⟩
  refine qW (fun _ =>qC h25 rfl ⟨by rw[decide_eq_true hk],?_⟩) (fun h=>absurd rfl h);exact(f2.trans f17).trans' f25 (fun x hx hlt=>by simp at hx;have:=f2.size;omega)
 ·exact absurd hc (hB code)
theorem c29n{p:pQ}{l c:Nat}{code co:Int}(h35:CallT Pg 35 #[.slice p l c] w fun v w'=>Fr [] w w'/\DecV False (fun n=>n=co) v):CallT Pg 29 #[.slice p l c,.int .i64 code] w fun v w'=>v= .bool (decide (co=code))/\Fr [] w w':=by
 apply call29;unfold wp29 iQq;refine CallT.mono h35 ?_;rintro v w2 ⟨f2,⟨hF,_⟩|⟨code',rfl,n1,n2',n3,n4,n5,p1,c1,p2,c2,rfl⟩⟩
 ·exact hF.elim
 ·refine⟨_,_,_,_,_,_,_,_,_,_,_,_,_,rfl,qG fun w17 h17 f17 n17=>jZ h17 fun w25 h25 f25 n25=> ?_⟩
  have F:Fr [] w w25:=(f2.trans f17).trans' f25 (fun x hx hlt=>by simp at hx;have:=f2.size;omega);refine qW (fun hc=>qC h25 rfl (qW (fun _ =>qK h25 rfl (qW (fun _ =>qK h25 rfl ⟨(rfl:_ =Value.bool true).trans (congrArg Value.bool (decide_eq_true hc).symm),F⟩) (fun h=>absurd rfl h))) (fun h=>absurd rfl h))) (fun hc=>⟨congrArg Value.bool (decide_eq_false hc).symm,F⟩)
end
section
theorem pC:∀{rows:List (bQ)},(∀r∈rows,r≠[]) ->∀i,i<rows.length ->∃r,rows[i]? =some r/\gb rows.flatten (((rows.map List.length).take i).sum)=gb r 0
 |[],_,i,h=>by simp at h
 |r::rs,hne,0,_ =>⟨r,rfl,by
  have h:=hne r sQ;have:0<r.length:=List.length_pos_iff.2 h;simp only[List.map_cons,List.take_zero,List.sum_nil,List.flatten_cons];exact yL this⟩
 |r::rs,hne,i+1,hi=>by
  obtain⟨r',h1,h2⟩:=pC (rows:=rs) (fun x hx=>hne x (by simp[hx])) i (by simpa using hi);refine⟨r',by simpa using h1,?_⟩;simp only[List.map_cons,List.take_succ_cons,List.sum_cons,List.flatten_cons];rw[vB];exact h2
theorem qBl{ls:List Nat}{kind:Nat ->Nat}{xs:bQ}(h:RowsOf ls kind xs):xs.length=ls.sum/\∀i,i<ls.length ->gb xs ((ls.take i).sum)=kind i:=by
 obtain⟨rows,rfl,rfl,hk⟩:=h;refine⟨by rw[List.length_flatten],fun i hi=> ?_⟩;have hne:∀r∈rows,r≠[]:=by
  intro r hr;obtain⟨j,hj⟩:=List.mem_iff_getElem?.1 hr;obtain⟨k,t,rfl,_⟩:=hk j r hj;simp
 obtain⟨r,hr,hg⟩:=pC hne i (by simpa using hi);rw[hg];obtain⟨k,t,rfl,hkk⟩:=hk i r hr;exact hkk
theorem qAw(fl:bQ)(i:Nat):kY fl i<5:=by
 unfold kY
 split
 ·decide
 ·exact Nat.mod_lt _ dQ
theorem dK(n x:Nat):(List.replicate n x).sum=n*x:=by simp
theorem qBk{C D W:Nat}:rowB C D W+1=xT (chN C*D) W:=by
 unfold rowB xT;rw[Nat.mul_assoc,Nat.mul_comm W,Nat.add_comm]
theorem qDu{W k:Nat}(hk:k<7):vH (zN true k).1 (zN true k).2.2.1 W=passW W k/\vH (zN true k).2.1 (zN true k).2.2.2 W=passH W k:=by
 obtain rfl|rfl|rfl|rfl|rfl|rfl|rfl:=(by omega:k=0\/k=1\/k=2\/k=3\/k=4\/k=5\/k=6)<;>(simp[zN,vH,passW,passH,xf,yf,xo,yo];try omega)
theorem oO{W H D C k:Nat}(hk:k<7):uD W H D C true k=if passW W k=0\/passH H k=0 then []else List.replicate (passH H k) (xT (chN C*D) (passW W k)):=by
 unfold uD;simp only;rw[(qDu (W:=W) hk).1,(qDu (W:=H) hk).2,qBk]
theorem qCk{W H D C k:Nat}(hk:k<7):(uD W H D C true k).sum=sU W H (chN C*D) k:=by
 rw[oO hk];unfold sU
 split
 ·rfl
 ·exact dK _ _
theorem bL{W H D C:Nat}:∀k,k<=7 ->((List.range k).flatMap (uD W H D C true)).sum=gF W H (chN C*D) k
 |0,_ =>rfl
 |k+1,h=>by
  rw[List.range_succ,List.flatMap_append,List.sum_append,bL k oQ];simp only[List.flatMap_cons,List.flatMap_nil,List.append_nil,gF];rw[qCk oQ]
theorem eV{W H D C k:Nat}(hk:k<7):∃rest,(List.range 7).flatMap (uD W H D C true)=(List.range k).flatMap (uD W H D C true)++(uD W H D C true k++rest):=by
 have e:List.range 7=List.range k++(k::(List.range (6 -k)).map (fun x=>k+1+x)):=by
  obtain rfl|rfl|rfl|rfl|rfl|rfl|rfl:=(by omega:k=0\/k=1\/k=2\/k=3\/k=4\/k=5\/k=6)<;>rfl
 rw[e,List.flatMap_append,List.flatMap_cons];exact⟨_,rfl⟩
theorem mV{W H D C:Nat}{L:Bool}{fl xs:bQ}(hW:1<=W)(hH:1<=H)(h:RowsOf (rV W H D C L) (kY fl) xs):GoodRows (if L then 1 else 0) W H (chN C*D) xs:=by
 obtain⟨hl,hf⟩:=qBl h
 cases L with
 |false=>
  refine⟨fun _ => ?_,fun h=>absurd h dQ⟩;have e:rV W H D C false=List.replicate H (xT (chN C*D) W):=by
   have a:vH 0 1 W=W:=by unfold vH;simp
   have b:vH 0 1 H=H:=by unfold vH;simp
   have ep:uD W H D C false 0=List.replicate H (xT (chN C*D) W):=by
    unfold uD;show(if vH 0 1 W=0\/vH 0 1 H=0 then []else List.replicate (vH 0 1 H) (rowB C D (vH 0 1 W)+1))=_;rw[a,b,if_neg oQ,qBk]
   show(List.range 1).flatMap (uD W H D C false)=_;rw[show List.range 1=[0]from rfl];simp only[List.flatMap_cons,List.flatMap_nil,List.append_nil];exact ep
  rw[e]at hl hf;refine⟨by rw[hl,dK],fun i hi=> ?_⟩;have:=hf i (by simpa using hi);rw[List.take_replicate,Nat.min_eq_left oQ,dK]at this;rw[this];exact qAw _ _
 |true=>
  refine⟨fun h=>absurd rfl h,fun _ => ?_⟩;have e:rV W H D C true=(List.range 7).flatMap (uD W H D C true):=rfl;rw[e]at hl hf;refine⟨by rw[hl,bL 7 dQ],fun k hk hw i hi=> ?_⟩;obtain⟨rest,hs⟩:=eV (W:=W) (H:=H) (D:=D) (C:=C) hk;have hle:=oO (W:=W) (H:=H) (D:=D) (C:=C) hk;rw[if_neg oQ]at hle;rw[hs]at hf;have:=hf (((List.range k).flatMap (uD W H D C true)).length+i) (by rw[List.length_append,List.length_append,hle,List.length_replicate];omega);rw[List.take_length_add_append,List.sum_append,bL k oQ,hle,List.take_append_of_le_length (by rw[List.length_replicate];omega),List.take_replicate,Nat.min_eq_left oQ,dK]at this;rw[this];exact qAw _ _
end
section
theorem gZ{s:Nat×Nat×bQ}{rs ys:bQ}:∀{d:bQ} {c:Nat},Flow 0 (zR c d) rs ys s ->Flow d.length c (d++rs) (d++ys) s
 |[],c,h=>by
  have e:zR c []=c:=by simp[zR,gW,Nat.xor_assoc]
  rw[e]at h;exact h
 |y::d,c,h=>by
  refine Flow.byte (gZ ?_);rw[mM];exact h
theorem qAl(c:Nat)(zs:bQ):be4 (xI c++zs) 4=be4 zs 0:=by
 have h:∀i,gb (xI c++zs) (4+i)=gb zs i:=fun i=>vB (xI c) zs i;unfold be4;rw[show 4+1=4+1 from rfl,h 1,h 2,h 3,show gb (xI c++zs) 4=gb zs 0 from h 0]
theorem cH{tail:bQ}:∀(ds:List (bQ)) {c:Nat},c<4294967296 ->(∀d∈ds,d≠[]/\d.length<4294967296) ->∃cl,cl<4294967296/\Flow 0 c (xI c++(chs (zI ds)++tail)) ds.flatten (0,cl,xI cl++tail)
 |[],c,hc,_ =>⟨c,hc,by simpa [zI,chs]using Flow.done 0 c (xI c++tail)⟩
 |d::ds,c,hc,hd=>by
  obtain⟨hne,hlen⟩:=hd d sQ;have hcl:=jN (nIDAT++d);obtain⟨cl,h1,h2⟩:=cH (tail:=tail) ds (c:=vU (nIDAT++d)) hcl (fun x hx=>hd x (by simp[hx]));refine⟨cl,h1,?_⟩;have e:xI c++(chs (zI (d::ds))++tail)=xI c++(xI d.length++(nIDAT++(d++(xI (vU (nIDAT++d))++(chs (zI ds)++tail))))):=by
   rw[show zI (d::ds)=(nIDAT,d)::zI ds from rfl,xN];simp[qV]
  rw[e];have b4:be4 (xI c++(xI d.length++(nIDAT++(d++(xI (vU (nIDAT++d))++(chs (zI ds)++tail)))))) 4=d.length:=by
   rw[qAl,yH (by rw[qZ];omega),vA hlen]
  have hpos:0<d.length:=List.length_pos_iff.2 hne;refine Flow.next (by rw[b4];exact hpos) (by simp only[List.length_append,qZ];simp[nIDAT];omega) (by rw[yH (by rw[qZ];omega),vA hc]) rfl ?_;rw[b4];show Flow d.length (zR 0 nIDAT) (d++_) _ _;rw[List.flatten_cons];refine gZ ?_;rw[uL];exact h2
theorem qHi{tail d:bQ}{ds:List (bQ)}(hd:∀x∈d::ds,x≠[]/\x.length<4294967296):∃cl,cl<4294967296/\Flow d.length (zR 0 nIDAT) (d++(xI (vU (nIDAT++d))++(chs (zI ds)++tail))) (d++ds.flatten) (0,cl,xI cl++tail):=by
 obtain⟨cl,h1,h2⟩:=cH (tail:=tail) ds (c:=vU (nIDAT++d)) (jN _) (fun x hx=>hd x (by simp[hx]));exact⟨cl,h1,gZ (by rw[uL];exact h2)⟩
theorem tX{c cl:Nat}{rs tail:bQ}(h:Flow 0 c rs [] (0,cl,tail)):c=cl/\rs=tail:=by
 cases h with
 |done=>exact⟨rfl,rfl⟩
 |next hpos _ _ _ h2=>
  rcases oI h2 with h|h
  ·have:be4 rs 4=0:=h
   omega
  ·omega
end
section
variable{w w':wQ}{db rb kb crc:Nat}{p:pQ}{d:Dec}{rs:bQ}
def Dec.front(d:Dec):List Value:=d.rd::d.img::d.crc:: .int .i64 d.W:: .int .i64 d.H:: .int .i64 d.D:: .slice d.pal.a d.pal.len d.pal.cap:: .int .i64 d.cb:: .int .i64 d.stage:: .int .u32 d.idat::(bv d.tmp++[.int .i64 d.lace,.bool d.useT])
theorem Dec.split(d:Dec):d.arr=(d.front++bv d.tr).toArray:=by simp[Dec.arr,Dec.cells,Dec.front]
theorem Dec.front_len(d:Dec)(h:d.tmp.length=768):d.front.length=780:=by simp[Dec.front,h]
theorem Dec.putT{d:Dec}{xs:bQ}{arr':vQ}{m:Nat}(hm:m=xs.length)(htm:d.tmp.length=768)(hj:∀j,arr'[j]? =if 780<=j/\j<780+m then(bv xs)[j -780]? else d.arr[j]?)(hl:xs.length<=d.tr.length):arr'=({d with tr:=xs++d.tr.drop xs.length}:Dec).arr:=by
 subst hm;have hf:=d.front_len htm;apply Array.ext_getElem?;intro j;rw[hj j,Dec.split,Dec.split];have ef:({d with tr:=xs++d.tr.drop xs.length}:Dec).front=d.front:=rfl;rw[ef];simp only[List.getElem?_toArray];rcases Nat.lt_or_ge j 780 with h|h
 ·rw[if_neg oQ,List.getElem?_append_left oQ,List.getElem?_append_left oQ]
 ·rw[List.getElem?_append_right oQ (l₂:=bv (xs++_)),List.getElem?_append_right oQ (l₂:=bv d.tr),hf,bv_append]
  split
  ·rw[List.getElem?_append_left (by rw[bv_length];omega)]
  ·rw[List.getElem?_append_right (by rw[bv_length];omega),bv_length]
   have:bv (d.tr.drop xs.length)=(bv d.tr).drop xs.length:=by simp[bv,List.map_drop]
   rw[this,List.getElem?_drop]
   congr 1;omega
theorem Dec.setT{d:Dec}{k:Nat}{y:UInt8}(htm:d.tmp.length=768):d.arr.setIfInBounds (0+780+k) (u8v y)=({d with tr:=d.tr.set k y}:Dec).arr:=by
 rw[Dec.split,Dec.split];have ef:({d with tr:=d.tr.set k y}:Dec).front=d.front:=rfl;have hf:=d.front_len htm;rw[ef,List.setIfInBounds_toArray,List.set_append_right _ _ oQ,hf]
 congr 2
 rw[show 0+780+k -780=k by omega];simp[bv,List.map_set]
theorem Dst.trIn{n:Nat}{K:vPq}{P R:vPq}(h:Dst w db rb kb p d crc rs)(hn0:0<n)(hn6:n<=6)(hs:rs.length<n ->rO w rb db d.rd n P)(hP:∀v w',Fr [rb,kb,db] w w' ->hn w'=hn w ->P v w' ->R v w'){X:Int ->World ->Prop}
  (hX:n<=rs.length ->∀(k:Int) w',Fr [rb,kb,db] w w' ->hn w'=hn w ->(∃tmp tr,Dst w' db rb kb p {d with tmp:=tmp,tr:=tr} (zR crc (rs.take n)) (rs.drop n)) ->X k w'):
  qO w fun w5=>LdV w5 ⟨db,0,none⟩ fun v6=>And (0<=(n:Int)/\(n:Int)<=(768:Int)) (CallT Pg 71 #[v6,.slice (some ⟨db,0+10,none⟩) n 768] w5 fun v7 w8=>Exists fun n9:Int=>Exists fun v10:Value=>And (v7= .tuple #[.int .i64 n9,v10]) (xR v10 fun b11=>IfC (!b11) (R v10 w8) (qO w8 fun w12=>LdP w12 ⟨db,0+2,none⟩ fun p13=>And (0<=n9/\n9<=(768:Int)) (CallT Pg 74 #[.pointer p13,.slice (some ⟨db,0+10,none⟩) n9.toNat 768] w12 fun v14 w15=>Exists fun n16:Int=>Exists fun v17:Value=>And (v14= .tuple #[.int .i64 n16,v17]) (qO w15 fun w18=>And (0<=(n:Int)/\(n:Int)<=(768:Int)) (jQ Pg w18 #[33,33] 3 (.slice (some ⟨db,0+780,none⟩) 6 6) (.slice (some ⟨db,0+10,none⟩) n 768) X)))))):=by
 have hne:=h.ne;refine qE fun w5 f5 n5=> ?_;have h5:=h.fr0 f5;refine qT h5.dec d.at0 ⟨⟨oQ,oQ⟩,?_⟩;rcases Nat.lt_or_ge rs.length n with hlt|hl
 ·refine CallT.mono (hs hlt w5 f5) ?_
  rintro _ w7 ⟨m,e,rfl,hE,f7,n7,hPe⟩;exact⟨_,_,rfl,hE _ (xA (hP _ _ ((f5.mono sQ).trans (f7.mono sQ)) oQ hPe))⟩
 have hX:=hX hl;refine CallT.mono (h5.read hn0 oQ hl) ?_;rintro _ w8 ⟨rfl,h8,f8,n8⟩;refine⟨_,_,rfl,qR (qM (qE fun w12 f12 n12=> ?_))⟩;have h12:=h8.fr0 f12;refine zZ h12.dec ((Dec.at2 _).trans (congrArg some h12.ck)) ⟨⟨oQ,oQ⟩,?_⟩;rw[Int.toNat_natCast];refine CallT.mono (h12.sums (o:=0) (n:=n) rfl oQ) ?_;rintro _ w15 ⟨rfl,h15,f15,n15⟩;refine⟨_,_,rfl,qE fun w18 f18 n18=>⟨⟨oQ,oQ⟩,?_⟩⟩;have h18:=h15.fr0 f18;have hhas:=Dec.has _ h18.dec 0 n;have e1:(({d with tmp:=rs.take n++d.tmp.drop n}:Dec).tmp.drop 0).take n=rs.take n:=by
  show((rs.take n++d.tmp.drop n).drop 0).take n=_;rw[List.drop_zero,List.take_append_of_le_length (by simp;omega),List.take_take,Nat.min_self]
 rw[e1]at hhas h18;have hnl:(rs.take n).length=n:=by simp;omega
 refine uG h18.dec (by rw[Dec.size,h18.htmp,h18.htr];omega) hhas (by rw[hnl]) oQ fun w20 arr' h20 hs20 hj20 f20 n20=>hX _ w20 ?_ oQ ?_
 ·exact((((f5.mono sQ).trans (f8.mono sQ)).trans (f12.mono sQ)).trans (f15.mono sQ)).trans ((f18.mono sQ).trans (f20.mono sQ))
 ·have:=Dec.putT (xs:=rs.take n) (m:=min n 6) (by rw[hnl];omega) h18.htmp (fun j=>by rw[hj20 j]) (by rw[hnl,h18.htr];omega)
  rw[this]at h20;have D20:=h18.upd (d':={d with tmp:=rs.take n++d.tmp.drop n,tr:=rs.take n++d.tr.drop (rs.take n).length}) f20 h20 rfl rfl h18.htmp (by have:=h.htr;simp;omega);exact⟨_,_,D20⟩
end
section
variable{w w':wQ}{db rb kb crc:Nat}{p:pQ}{d:Dec}{rs:bQ}
def qDk(w:wQ)(db rb kb:Nat)(p:pQ)(d:Dec)(crc:Nat)(rs:bQ)(n:Nat)(v:Value)(w':wQ):Prop:=Fr [rb,kb,db] w w'/\hn w'=hn w/\(if be4 (rs.drop n) 0=zR crc (rs.take n)then v= .nilIface else Refuse 125 v)/\∃tmp tr,Dst w' db rb kb p {d with tmp:=tmp,tr:=tr,useT:=true} (zR crc (rs.take n)) (rs.drop (n+4))
def TrS(w:wQ)(rb kb db:Nat)(P:vPq)(v:Value)(w':wQ):Prop:=Fr [rb,kb,db] w w'/\hn w'=hn w/\P v w'
theorem wL{n:Nat}{P R:vPq}{w1:wQ}{tmp tr:bQ}(D:Dst w1 db rb kb p {d with tmp:=tmp,tr:=tr} (zR crc (rs.take n)) (rs.drop n))(F:Fr [rb,kb,db] w w1)(hh:hn w1=hn w)
  (h81:∀w2 tmp tr,Dst w2 db rb kb p {d with tmp:=tmp,tr:=tr,useT:=true} (zR crc (rs.take n)) (rs.drop n) ->Fr [rb,kb,db] w w2 ->CallT Pg 81 #[.pointer (some ⟨db,0,none⟩)] w2 fun v w'=>Fr [rb,db] w2 w'/\hn w'=hn w2/\P v w')(hR:∀v w',TrS w rb kb db P v w' ->R v w'):
  qB w1 ⟨db,0+779,none⟩ (.bool true) fun w2=>CallT Pg 81 #[.pointer (some ⟨db,0,none⟩)] w2 fun v w'=>Exists fun u:Value=>And (v=u) (R u w'):=by
 refine qD D.dec (by rw[Dec.size,D.htmp,D.htr];show 0+779<_;omega) fun w2 h2 f2 n2=> ?_;rw[Dec.set779 _ _ D.htmp]at h2;have D2:Dst w2 db rb kb p {d with tmp:=tmp,tr:=tr,useT:=true} (zR crc (rs.take n)) (rs.drop n):=D.upd f2 h2 rfl rfl D.htmp D.htr;refine CallT.mono (h81 _ _ _ D2 (F.trans (f2.mono sQ))) ?_;rintro v w3 ⟨f3,n3,hP⟩;exact⟨_,rfl,hR _ _ ⟨F.trans ((f2.mono sQ).trans (f3.mono sQ)),oQ,hP⟩⟩
theorem Dst.c78Gk{P:vPq}(h:Dst w db rb kb p d crc rs)(hcb:d.cb=1\/d.cb=2\/d.cb=3\/d.cb=4\/d.cb=12)(hs:rs.length<2 ->rO w rb db d.rd 2 P)
  (h81:2<=rs.length ->∀w2 tmp tr,Dst w2 db rb kb p {d with tmp:=tmp,tr:=tr,useT:=true} (zR crc (rs.take 2)) (rs.drop 2) ->Fr [rb,kb,db] w w2 ->CallT Pg 81 #[.pointer (some ⟨db,0,none⟩)] w2 fun v w'=>Fr [rb,db] w2 w'/\hn w'=hn w2/\P v w'):CallT Pg 78 #[.pointer (some ⟨db,0,none⟩),.int .u32 (2:Nat)] w (TrS w rb kb db P):=by
 suffices key:∀R:vPq,(∀v w',TrS w rb kb db P v w' ->R v w') ->CallT Pg 78 #[.pointer (some ⟨db,0,none⟩),.int .u32 (2:Nat)] w R from key _ fun _ _ h=>h
 intro R hR;apply call78;unfold wp78 aQq wIq iQq;refine qC h.dec d.at7 (qJ (fun z' w'=>z'.1=true/\w'=w) ?_ ?_)
 ·rintro⟨z,⟨⟩⟩ w' ⟨hz,rfl⟩
  dsimp only at hz⊢;subst hz;refine xA (xU (fun hne=>absurd rfl hne) (fun _ => ?_));refine h.trIn (n:=2) (K:=R) (R:=R) dQ dQ hs (fun v w' f n hp=>hR v w' ⟨f,n,hp⟩) fun hl k w20 F n20 ⟨tmp,tr,D⟩=> ?_;have at1:=Dec.at780 {d with tmp:=tmp,tr:=tr} D.htmp (i:=1) (by show 1<tr.length;rw[show tr.length=6 from D.htr];decide);have scale:∀(y:Int),(∃u:UInt8,Value.int .u8 y=u8v u) ->∀w22,Fr [] w20 w22 ->hn w22=hn w20 ->qB w22 ⟨db,0+780+1,none⟩ (.int .u8 y) fun w24=>qB w24 ⟨db,0+779,none⟩ (.bool true) fun w25=>CallT Pg 81 #[.pointer (some ⟨db,0,none⟩)] w25 fun v w'=>Exists fun u:Value=>And (v=u) (R u w'):=by
   rintro y ⟨u,hu⟩ w22 f22 n22;rw[hu];have D22:=D.fr0 f22;refine qD D22.dec (by rw[Dec.size,D22.htmp,D22.htr];show 0+780+1<_;omega) fun w24 h24 f24 n24=> ?_;rw[Dec.setT (d:={d with tmp:=tmp,tr:=tr}) D22.htmp]at h24;have D24:Dst w24 db rb kb p {d with tmp:=tmp,tr:=tr.set 1 u} (zR crc (rs.take 2)) (rs.drop 2):=D22.upd f24 h24 rfl rfl D22.htmp (by have:=D22.htr;simpa using this);exact wL D24 (F.trans ((f22.mono sQ).trans (f24.mono sQ))) oQ (h81 hl) hR
  refine qC D.dec (Dec.at7 _) (qW (fun _ =>qE fun w22 f22 n22=>⟨⟨dQ,dQ⟩,qC (f22.row0 D.dec) at1 ⟨⟨dQ,dQ⟩,scale _ (zS _) w22 f22 n22⟩⟩) (fun _ => ?_));refine qW (fun _ =>qE fun w22 f22 n22=>⟨⟨dQ,dQ⟩,qC (f22.row0 D.dec) at1 ⟨⟨dQ,dQ⟩,scale _ (zS _) w22 f22 n22⟩⟩) (fun _ => ?_);refine qW (fun _ =>qE fun w22 f22 n22=>⟨⟨dQ,dQ⟩,qC (f22.row0 D.dec) at1 ⟨⟨dQ,dQ⟩,scale _ (zS _) w22 f22 n22⟩⟩) (fun _ => ?_);exact wL D F n20 (h81 hl) hR
 ·intro J hJ
  have fin:∀z:Bool,z=true ->J (z,()) w:=fun z hz=>hJ _ _ ⟨hz,rfl⟩;refine qW (fun e=>fin _ (by simp[e])) (fun e1=>qW (fun e=>fin _ (by simp[e])) (fun e2=>qW (fun e=>fin _ (by simp[e])) (fun e3=>qW (fun e=>fin _ (by simp[e])) (fun e4=>fin _ ?_))));have:d.cb=12:=oQ;simp[this]
theorem Dst.c78Tk{P:vPq}(h:Dst w db rb kb p d crc rs)(hcb:d.cb=6\/d.cb=14)(hs:rs.length<6 ->rO w rb db d.rd 6 P)
  (h81:6<=rs.length ->∀w2 tmp tr,Dst w2 db rb kb p {d with tmp:=tmp,tr:=tr,useT:=true} (zR crc (rs.take 6)) (rs.drop 6) ->Fr [rb,kb,db] w w2 ->CallT Pg 81 #[.pointer (some ⟨db,0,none⟩)] w2 fun v w'=>Fr [rb,db] w2 w'/\hn w'=hn w2/\P v w'):CallT Pg 78 #[.pointer (some ⟨db,0,none⟩),.int .u32 (6:Nat)] w (TrS w rb kb db P):=by
 suffices key:∀R:vPq,(∀v w',TrS w rb kb db P v w' ->R v w') ->CallT Pg 78 #[.pointer (some ⟨db,0,none⟩),.int .u32 (6:Nat)] w R from key _ fun _ _ h=>h
 intro R hR;apply call78;unfold wp78 aQq wIq iQq;refine qC h.dec d.at7 (qJ (fun z' w'=>z'.1=false/\w'=w) ?_ ?_)
 ·rintro⟨z,⟨⟩⟩ w' ⟨hz,rfl⟩
  dsimp only at hz⊢;subst hz;refine qM (qJ (fun z' w''=>z'.1=true/\w''=w') ?_ ?_)
  ·rintro⟨z,⟨⟩⟩ w' ⟨hz,rfl⟩
   dsimp only at hz⊢;subst hz;refine xA (xU (fun hne=>absurd rfl hne) (fun _ => ?_));exact h.trIn (n:=6) (K:=R) (R:=R) dQ dQ hs (fun v w' f n hp=>hR v w' ⟨f,n,hp⟩) fun hl k w20 F n20 ⟨tmp,tr,D⟩=>wL D F n20 (h81 hl) hR
  ·intro J hJ
   have fin:∀z:Bool,z=true ->J (z,()) w':=fun z hz=>hJ _ _ ⟨hz,rfl⟩;refine qW (fun e=>fin _ (by simp[e])) (fun e1=>fin _ ?_);have:d.cb=14:=oQ;simp[this]
 ·intro J hJ
  refine xC oQ (xC oQ (xC oQ (xC oQ (hJ _ _ ⟨?_,rfl⟩))));show(d.cb==12)=false;rcases hcb with h|h<;>simp[h]
theorem Dst.c78G(h:Dst w db rb kb p d crc rs)(hcb:d.cb=1\/d.cb=2\/d.cb=3\/d.cb=4\/d.cb=12)(hl:6<=rs.length):CallT Pg 78 #[.pointer (some ⟨db,0,none⟩),.int .u32 (2:Nat)] w (qDk w db rb kb p d crc rs 2):=by
 refine h.c78Gk hcb (fun h=>absurd h oQ) fun _ w2 tmp tr D _ =>CallT.mono (D.c81 (by simp;omega)) ?_;rintro v w3 ⟨hv,D3,f3,n3⟩;rw[List.drop_drop]at D3;exact⟨f3,n3,hv,_,_,D3⟩
theorem Dst.c78T(h:Dst w db rb kb p d crc rs)(hcb:d.cb=6\/d.cb=14)(hl:10<=rs.length):CallT Pg 78 #[.pointer (some ⟨db,0,none⟩),.int .u32 (6:Nat)] w (qDk w db rb kb p d crc rs 6):=by
 refine h.c78Tk hcb (fun h=>absurd h oQ) fun _ w2 tmp tr D _ =>CallT.mono (D.c81 (by simp;omega)) ?_;rintro v w3 ⟨hv,D3,f3,n3⟩;rw[List.drop_drop]at D3;exact⟨f3,n3,hv,_,_,D3⟩
end
section
variable{w w':wQ}{db rb kb crc:Nat}{p:pQ}{d:Dec}{E:Er}
theorem qEw{tail:bQ}(h:Dst w db rb kb p d crc (qV zY []++tail))(hs:d.stage=4)(hE:Errs w E)(hlo:E.n0<=rb):
  CallT Pg 60 #[.pointer (some ⟨db,0,none⟩),.bool false] w fun v w'=>v= .nilIface/\Fr [rb,kb,db] w w'/\hn w'=hn w/\∃tmp crc',Dst w' db rb kb p {d with stage:=5,tmp:=tmp} crc' tail:=by
 obtain⟨h1,h2,h3,h4⟩:=zX (nm:=zY) (d:=[]) (rest:=tail) rfl dQ;refine h.c60 oQ fun w1 tmp s F1 n1 D1=> ?_;rw[h2];have hnx:zT d zY= .call 80 5:=by
  unfold zT;rw[if_neg dQ,if_neg dQ,if_neg dQ,if_neg dQ,if_pos rfl,if_neg (by rw[hs];decide)]
 rw[hnx];dsimp only;intro hs5;subst hs5;rw[h1];rw[h2,h3,oD,List.nil_append]at D1;have hne:=h.ne;have hlow:=hE.low;refine CallT.mono (D1.c80 (len:=0) (hE.fr F1 (by simp;omega)) hlo) ?_;rintro v w2 ⟨f2,n2,⟨rfl,_,_,_,tmp',D2⟩|⟨_,hc,_⟩⟩
 ·have e:(xI (vU (zY++[]))++tail).drop 4=tail:=rfl
  rw[e]at D2;exact⟨rfl,F1.trans f2,oQ,tmp',_,D2⟩
 ·refine absurd ⟨rfl,by rw[List.length_append,qZ];omega,?_⟩ hc
  rw[yH (by rw[qZ];omega),vA (jN _),List.append_nil]
theorem bM{x:bQ}:∀{l:List (bQ)},x∈l ->x.length<=l.flatten.length
 |y::l,h=>by
  rw[List.flatten_cons,List.length_append];rcases List.mem_cons.1 h with rfl|h
  ·omega
  ·have:=bM h
   omega
theorem qEv{cb D bits bpp W H:Nat}{tr cp:Bool}{pt IT:TypeId}{xs zs d0 tail:bQ}{dr:List (bQ)}(h:Dst w db rb kb p d crc (chs (zI (d0::dr))++tail))(hk:PK cb D tr pt IT bpp bits cp)(hE:Errs w E)(hlo:E.n0<=rb)(hL:LaceAt w E.n0)(hd:Hd d cb D W H tr IT)(hlace:d.lace=0\/d.lace=1)
  (hs:1<=d.stage/\d.stage<=3)(hsp:d.stage=1 ->¬(7<=d.cb/\d.cb<=10))(hZ:gE xs zs)(hds:(d0::dr).flatten=zs)(hne:∀x∈d0::dr,x≠[])(hzl:zs.length<=2097152)(hxl:xs.length<32768)(hG:GoodRows d.lace W H bits xs):
  CallT Pg 60 #[.pointer (some ⟨db,0,none⟩),.bool false] w fun v w'=>v= .nilIface/\Fr [rb,kb,db] w w'/\hn w<=hn w'/\∃(ib pb:Nat) (ex:List Value) (dd:Dec) (crc':Nat),ImgW w' ib pb IT bpp W H ex/\(IT=186 ->QP d.pal.a ex)/\hn w<=ib/\hn w<=pb/\dd.stage=4/\dd.img= .iface pt (.pointer (some ⟨ib,0,none⟩))/\dd.pal=d.pal/\Dst w' db rb kb p dd crc' tail:=by
 obtain⟨bl,out,hS,hP,hzs⟩:=hZ;have hlen:∀x∈d0::dr,x≠[]/\x.length<4294967296:=by
  intro x hx;refine⟨hne x hx,?_⟩;have:x.length<=(d0::dr).flatten.length:=bM hx;rw[hds]at this;omega
 have hd0:=(hlen d0 sQ).2;obtain⟨cl,hcl,hF⟩:=qHi (tail:=tail) hlen;have ech:chs (zI (d0::dr))++tail=qV nIDAT d0++(chs (zI dr)++tail):=by
  rw[show zI (d0::dr)=(nIDAT,d0)::zI dr from rfl,xN,List.append_assoc]
 rw[ech]at h;obtain⟨h1,h2,h3,h4⟩:=zX (nm:=nIDAT) (d:=d0) (rest:=chs (zI dr)++tail) rfl hd0;refine h.c60 oQ fun w1 tmp s F1 n1 D1=> ?_;rw[h2];have hnx:zT d nIDAT= .idat:=by
  unfold zT;rw[if_neg dQ,if_neg dQ,if_neg dQ,if_pos rfl,if_neg oQ,if_neg (fun hc=>hsp hc.1 hc.2),if_neg oQ]
 rw[hnx];dsimp only;intro hs4;subst hs4;rw[if_neg dQ,h1];rw[h2,h3]at D1;have hne':=h.ne;have hlow:=hE.low;have hdn:=zM h.dec;have hend:∀c rs,Flow 0 c rs [] (0,cl,xI cl++tail) ->4<=rs.length/\be4 rs 0=c:=by
  intro c rs hf;obtain⟨rfl,rfl⟩:=tX hf;exact⟨by rw[List.length_append,qZ];omega,by rw[yH (by rw[qZ];omega),vA hcl]⟩
 have hd1:Hd {d with tmp:=tmp,stage:=4} cb D W H tr IT:=⟨hd.W_,hd.H_,hd.D_,hd.cb_,hd.u_,hd.pal,hd.lW,hd.lH⟩;refine CallT.mono (D1.c79 (t:=none) (s:=(0,cl,xI cl++tail)) (ys:=d0++dr.flatten) hk (hE.fr F1 (by simp;omega)) hlo hd0 hF (.inl rfl) (by rw[<-List.flatten_cons,hds,hzs];exact List.prefix_refl _) (.inl (by rw[<-List.flatten_cons,hds,hzs])) (fun h=>by cases h) hxl hS hP (hL.fr F1 oQ (by simp;omega)) hd1 hlace (fun _ =>rfl)) ?_;rintro v w2 ⟨F2,n2,⟨ib,pb,ex,dd,crc',rs',rfl,hI,hQ,l1,l2,hsd,hD,hFl,_,_,_⟩|⟨_,_,hb⟩⟩
 ·obtain⟨rfl,rfl⟩:=tX hFl
  obtain⟨a,b,rfl⟩:=hsd;refine⟨rfl,F1.trans F2,oQ,ib,pb,ex,_,_,hI,hQ,oQ,oQ,?_,?_,?_,hD⟩<;>rfl
 ·exact absurd hG (hb.1 rfl hend)
end
section
variable{w w':wQ}{db rb kb crc:Nat}{p:pQ}{d:Dec}{rest:bQ}
theorem qAy{al:bQ}{b:Bool}(h:Dst w db rb kb p d crc (qV zC al++rest))(hs:d.stage=1)(hc:(al.length=2/\(d.cb=1\/d.cb=2\/d.cb=3\/d.cb=4\/d.cb=12))\/(al.length=6/\(d.cb=6\/d.cb=14))):
  CallT Pg 60 #[.pointer (some ⟨db,0,none⟩),.bool b] w fun v w'=>v= .nilIface/\Fr [rb,kb,db] w w'/\hn w'=hn w/\∃tmp tr crc',Dst w' db rb kb p {d with stage:=3,tmp:=tmp,tr:=tr,useT:=true} crc' rest:=by
 have hal:al.length<4294967296:=oQ;obtain⟨h1,h2,h3,h4⟩:=zX (nm:=zC) (d:=al) (rest:=rest) rfl hal;obtain⟨b1,b2,b3,b4⟩:=kL (d:=al) (rest:=rest) (k:=vU (zC++al)) (jN _);refine h.c60 oQ fun w1 tmp s F1 n1 D1=> ?_;rw[h2];have hnx:zT d zC= .call 78 3:=by
  unfold zT;rw[if_neg dQ,if_neg dQ,if_pos rfl,if_neg oQ];rcases hc with⟨_,hc⟩|⟨_,hc⟩
  ·rw[if_neg oQ,if_neg oQ]
  ·rw[if_pos oQ,if_neg oQ]
 rw[hnx];dsimp only;intro hs3;subst hs3;rw[h1];rw[h2,h3]at D1;have fin:∀n,al.length=n ->∀v w2,qDk w1 db rb kb p {d with tmp:=tmp,stage:=3} (zR 0 zC) (al++(xI (vU (zC++al))++rest)) n v w2 ->v= .nilIface/\Fr [rb,kb,db] w w2/\hn w2=hn w/\∃tmp tr crc',Dst w2 db rb kb p {d with stage:=3,tmp:=tmp,tr:=tr,useT:=true} crc' rest:=by
  rintro n rfl v w2 ⟨F2,n2,hv,tmp',tr,D2⟩;rw[b1,b2,uL,if_pos rfl]at hv;rw[b3]at D2;exact⟨hv,F1.trans F2,oQ,tmp',tr,_,D2⟩
 rcases hc with⟨e,hc⟩|⟨e,hc⟩
 ·rw[e]
  exact CallT.mono (D1.c78G hc (by rw[List.length_append,List.length_append,qZ];omega)) (fin 2 e)
 ·rw[e]
  exact CallT.mono (D1.c78T hc (by rw[List.length_append,List.length_append,qZ];omega)) (fin 6 e)
end
section
variable{w w':wQ}{rb:Nat}{p:pQ}{E:Er}
theorem pk_of{k:Nat}(hk:k<15)(tr:Bool)(htr:tr=true ->(qI k).1=0\/(qI k).1=2):∃pt IT bpp cp,PK (cbN (qI k).1 (qI k).2) (qI k).2 tr pt IT bpp (chN (qI k).1*(qI k).2) cp/\(IT=186↔(qI k).1=3):=by
 obtain rfl|rfl|rfl|rfl|rfl|rfl|rfl|rfl|rfl|rfl|rfl|rfl|rfl|rfl|rfl:=(by omega:k=0\/k=1\/k=2\/k=3\/k=4\/k=5\/k=6\/k=7\/k=8\/k=9\/k=10\/k=11\/k=12\/k=13\/k=14)<;>cases tr<;>first
  |exact absurd (htr rfl) dQ
  |exact⟨_,_,_,_,PK.g1,dQ⟩|exact⟨_,_,_,_,PK.g1t,dQ⟩|exact⟨_,_,_,_,PK.g2,dQ⟩|exact⟨_,_,_,_,PK.g2t,dQ⟩|exact⟨_,_,_,_,PK.g4,dQ⟩|exact⟨_,_,_,_,PK.g4t,dQ⟩
  |exact⟨_,_,_,_,PK.g8,dQ⟩|exact⟨_,_,_,_,PK.g8t,dQ⟩|exact⟨_,_,_,_,PK.ga8 _ _,dQ⟩|exact⟨_,_,_,_,PK.tc8 _,dQ⟩|exact⟨_,_,_,_,PK.tc8t _,dQ⟩
  |exact⟨_,_,_,_,PK.p1 _,dQ⟩|exact⟨_,_,_,_,PK.p2 _,dQ⟩|exact⟨_,_,_,_,PK.p4 _,dQ⟩|exact⟨_,_,_,_,PK.p8 _,dQ⟩|exact⟨_,_,_,_,PK.tca8 _ _,dQ⟩
  |exact⟨_,_,_,_,PK.g16 _,dQ⟩|exact⟨_,_,_,_,PK.g16t _,dQ⟩|exact⟨_,_,_,_,PK.ga16 _ _,dQ⟩|exact⟨_,_,_,_,PK.tc16 _,dQ⟩|exact⟨_,_,_,_,PK.tc16t _,dQ⟩|exact⟨_,_,_,_,PK.tca16 _ _,dQ⟩
structure kF (d:Dec) (k W H:Nat) (L:Bool):Prop where
 W_ :d.W=(W:Nat)
 H_ :d.H=(H:Nat)
 D_ :d.D=((qI k).2:Nat)
 cb_ :d.cb=(cbN (qI k).1 (qI k).2:Nat)
 lace_ :d.lace=if L then 1 else 0
theorem qCt{db kb crc k W H:Nat}{L:Bool}{d:Dec}{xs zs d0 tail:bQ}{dr:List (bQ)}{fl:bQ}(h:Dst w db rb kb p d crc (chs (zI (d0::dr))++tail))(hk:k<15)(hW:1<=W/\W<=20)(hH:1<=H/\H<=20)(hE:Errs w E)(hlo:E.n0<=rb)(hL:LaceAt w E.n0)(hh:kF d k W H L)
  (hs:1<=d.stage/\d.stage<=3)(hp3:(qI k).1=3 ->d.stage≠1/\∃n cs,uC w db d.pal n cs)(hut:d.useT=true ->(qI k).1=0\/(qI k).1=2)
  (hrows:RowsOf (rV W H (qI k).2 (qI k).1 L) (kY fl) xs)(hZ:gE xs zs)(hds:(d0::dr).flatten=zs)(hne:∀x∈d0::dr,x≠[])(hzl:zs.length<=2097152)(hxl:xs.length<32768):
  CallT Pg 60 #[.pointer (some ⟨db,0,none⟩),.bool false] w fun v w'=>v= .nilIface/\Fr [rb,kb,db] w w'/\hn w<=hn w'/\∃(dd:Dec) (crc':Nat),dd.stage=4/\Dst w' db rb kb p dd crc' tail/\∃(ib pb:Nat) (pt IT:TypeId) (bpp:Nat) (ex:List Value) (g:Nat) (cs:List (Bool×Px)),dd.img= .iface pt (.pointer (some ⟨ib,0,none⟩))/\IK pt IT bpp/\ImgW w' ib pb IT bpp W H ex/\hn w<=ib/\hn w<=pb/\db<g/\(IT=186 ->QP (some ⟨g,0,none⟩) ex/\hp w' g=Row 131 (cs.map jA).toArray/\cs.length=256):=by
 obtain⟨pt,IT,bpp,cp,hPK,hIT⟩:=pk_of hk d.useT hut;have hcb:=kB hk;have hd:Hd d (cbN (qI k).1 (qI k).2) (qI k).2 W H d.useT IT:=by
  refine⟨hh.W_,hh.H_,hh.D_,hh.cb_,rfl,fun e=> ?_,hW,hH⟩;obtain⟨_,n,cs,g,hpal,_,_,_,hn256⟩:=hp3 (hIT.1 e);rw[hpal];exact⟨rfl,hn256⟩
 have hG:=mV hW.1 hH.1 hrows;rw[<-hh.lace_]at hG;refine CallT.mono (qEv h hPK hE hlo hL hd (by rw[hh.lace_];cases L<;>simp) hs (fun e hc=> ?_) hZ hds hne hzl hxl hG) ?_
 ·rw[hh.cb_]at hc
  exact(hp3 (hcb.2.2 oQ)).1 e
 ·rintro v w2 ⟨rfl,F,nn,ib,pb,ex,dd,crc',hI,hQ,l1,l2,h4,himg,hpe,hD⟩
  refine⟨rfl,F,nn,dd,crc',h4,hD,?_⟩;have hne':=h.ne
  by_cases e:IT=186
  ·obtain⟨_,n,cs,g,hpal,hdg,hrow,hcl,_⟩:=hp3 (hIT.1 e)
   refine⟨ib,pb,pt,IT,bpp,ex,g,cs,himg,hPK.ik,hI,l1,l2,hdg,fun _ =>⟨?_,F.row hrow (by simp;omega),hcl⟩⟩;have:=hQ e;rw[hpal]at this;exact this
  ·exact⟨ib,pb,pt,IT,bpp,ex,db+1,[],himg,hPK.ik,hI,l1,l2,oQ,fun h=>absurd h e⟩
end
section
variable{w w':wQ}{rb:Nat}{p:pQ}{E:Er}
theorem eC{k:Nat}(hk:k<15):((qI k).1=0 ->cbN (qI k).1 (qI k).2=1\/cbN (qI k).1 (qI k).2=2\/cbN (qI k).1 (qI k).2=3\/cbN (qI k).1 (qI k).2=4\/cbN (qI k).1 (qI k).2=12)/\((qI k).1=2 ->cbN (qI k).1 (qI k).2=6\/cbN (qI k).1 (qI k).2=14):=by
 obtain rfl|rfl|rfl|rfl|rfl|rfl|rfl|rfl|rfl|rfl|rfl|rfl|rfl|rfl|rfl:=(by omega:k=0\/k=1\/k=2\/k=3\/k=4\/k=5\/k=6\/k=7\/k=8\/k=9\/k=10\/k=11\/k=12\/k=13\/k=14)<;>decide
theorem rT(cl:List Nat):(zW cl).length=2*cl.length:=by
 induction cl with
 |nil=>rfl
 |cons a l ih=>
  have:zW (a::l)=[UInt8.ofNat (a/256),UInt8.ofNat a]++zW l:=rfl;rw[this,List.length_append,ih];simp;omega
theorem qEs{db kb crc k W H:Nat}{L:Bool}{d:Dec}{body:bQ}{pal:List Px}{cl:List Nat}(hk:k<15)(hok:yG (qI k).2 (qI k).1 pal cl)(hh:kF d k W H L)(hs:d.stage=1)(hu:d.useT=false)
  (h:Dst w db rb kb p d crc (chs ((if 0<pal.length then [(vE,xM pal)]else [])++((if zH pal then [(zC,xO pal)]else [])++(if 0<cl.length then [(zC,zW cl)]else [])))++body)):
  ((qI k).1≠3/\cl=[]/\Dst w db rb kb p d crc body)\/
  CallT Pg 60 #[.pointer (some ⟨db,0,none⟩),.bool false] w fun v w'=>v= .nilIface/\Fr [rb,kb,db] w w'/\∃(dd:Dec) (crc':Nat),kF dd k W H L/\
   ((dd.stage=3/\((qI k).1=0\/(qI k).1=2)/\Dst w' db rb kb p dd crc' body)\/
    (dd.stage=2/\(qI k).1=3/\dd.useT=false/\uC w' db dd.pal pal.length (jC (xM pal) pal.length)/\((zH pal=false/\Dst w' db rb kb p dd crc' body)\/(zH pal=true/\Dst w' db rb kb p dd crc' (qV zC (xO pal)++body))))):=by
 have hcb:=kB hk
 by_cases hC:(qI k).1=3
 ·obtain⟨q1,q2,q3⟩:=hok.pal3 hC
  have hcl:=hok.cl0 oQ oQ;subst hcl;rw[if_pos (by omega:0<pal.length),show(if 0<([]:List Nat).length then [(zC,zW [])]else [])=([]:List Ch)from rfl,List.append_nil,List.singleton_append,xN,List.append_assoc]at h;refine .inr (CallT.mono (Dst.goodPLTE h hs hh.D_ (vV hk).1 (by rw[hh.cb_];have:=hcb.2.1 hC;omega) oQ oQ q3) ?_);rintro v w2 ⟨rfl,F,tmp,crc',pl,hD,hP⟩
  cases ha:zH pal with
  |false=>
   rw[ha]at hD;have hD':Dst w2 db rb kb p {d with stage:=2,pal:=pl,tmp:=tmp} crc' body:=by simpa [chs]using hD
   refine⟨rfl,F,_,crc',?_,.inr ⟨?_,hC,?_,?_,.inl ⟨rfl,hD'⟩⟩⟩
   ·exact⟨hh.W_,hh.H_,hh.D_,hh.cb_,hh.lace_⟩
   ·rfl
   ·exact hu
   ·exact hP
  |true=>
   rw[ha]at hD;have hD':Dst w2 db rb kb p {d with stage:=2,pal:=pl,tmp:=tmp} crc' (qV zC (xO pal)++body):=by simpa [chs]using hD
   refine⟨rfl,F,_,crc',?_,.inr ⟨?_,hC,?_,?_,.inr ⟨rfl,hD'⟩⟩⟩
   ·exact⟨hh.W_,hh.H_,hh.D_,hh.cb_,hh.lace_⟩
   ·rfl
   ·exact hu
   ·exact hP
 ·have hpn:=hok.paln hC
  subst hpn;have e0:zH []=false:=rfl;rw[if_neg sQ,e0]at h
  by_cases hcl:cl=[]
  ·subst hcl
   refine .inl ⟨hC,rfl,by simpa [chs]using h⟩
  ·have hl:=hok.cll.resolve_left hcl
   have hpos:0<cl.length:=List.length_pos_iff.2 hcl;rw[if_pos hpos]at h;have h':Dst w db rb kb p d crc (qV zC (zW cl)++body):=by simpa [chs]using h
   have h02:(qI k).1=0\/(qI k).1=2:=by
    by_cases h0:(qI k).1=0
    ·exact .inl h0
    ·by_cases h2:(qI k).1=2
     ·exact .inr h2
     ·exact absurd (hok.cl0 h0 h2) hcl
   have hcc:=eC hk;refine .inr (CallT.mono (qAy h' hs ?_) ?_)
   ·rw[rT,hl,hh.cb_]
    rcases h02 with h0|h2
    ·refine .inl ⟨by rw[h0];rfl,?_⟩
     have:=hcc.1 h0;omega
    ·refine .inr ⟨by rw[h2];rfl,?_⟩
     have:=hcc.2 h2;omega
   ·rintro v w2 ⟨rfl,F,n2,tmp,tr,crc',hD⟩
    refine⟨rfl,F,_,crc',?_,.inl ⟨?_,h02,hD⟩⟩
    ·exact⟨hh.W_,hh.H_,hh.D_,hh.cb_,hh.lace_⟩
    ·rfl
end
section
variable{w w':wQ}{rb:Nat}{p:pQ}{E:Er}
def ImgAt(w:wQ)(db:Nat)(d:Dec):Prop:=∃(ib pb:Nat) (pt IT:TypeId) (bpp W H:Nat) (ex:List Value) (g:Nat) (cs:List (Bool×Px)),d.img= .iface pt (.pointer (some ⟨ib,0,none⟩))/\IK pt IT bpp/\ImgW w ib pb IT bpp W H ex/\db<ib/\db<pb/\db<g/\(IT=186 ->QP (some ⟨g,0,none⟩) ex/\hp w g=Row 131 (cs.map jA).toArray/\cs.length=256)
theorem ImgAt.fr{db:Nat}{d d':Dec}{S:List Nat}(h:ImgAt w db d)(hf:Fr S w w')(hS:∀x∈S,x<=db)(he:d'.img=d.img):ImgAt w' db d':=by
 obtain⟨ib,pb,pt,IT,bpp,W,H,ex,g,cs,h1,h2,h3,h4,h5,h6,h7⟩:=h;have no:∀b,db<b ->b∉S:=fun b hb hx=>by have:=hS b hx;omega
 exact⟨ib,pb,pt,IT,bpp,W,H,ex,g,cs,he.trans h1,h2,h3.fr hf (no _ h4) (no _ h5),h4,h5,h6,fun e=>⟨(h7 e).1,hf.row (h7 e).2.1 (no _ h6),(h7 e).2.2⟩⟩
theorem walk69{k W H:Nat}{L:Bool}{xs zs d0:bQ}{dr:List (bQ)}{fl:bQ}{pal:List Px}{cl:List Nat}(hr:RdAt w rb p (xD (zU W H (qI k).2 (qI k).1 L pal cl++zI (d0::dr)++[(zY,[])])))(hT:Tab w)(hE:Errs w E)(hlo:E.n0<=rb)(hrb:3<rb/\rb<hn w)(hp:∀a,p=some a ->3<a.block/\a.block<rb)
  (hL:LaceAt w E.n0)(hET:ETyp w)(hk:k<15)(hW:1<=W/\W<=20)(hH:1<=H/\H<=20)(hok:yG (qI k).2 (qI k).1 pal cl)
  (hrows:RowsOf (rV W H (qI k).2 (qI k).1 L) (kY fl) xs)(hZ:gE xs zs)(hds:(d0::dr).flatten=zs)(hne:∀x∈d0::dr,x≠[])(hzl:zs.length<=2097152)(hxl:xs.length<32768):
  CallT Pg 69 #[.iface 85 (.pointer (some ⟨rb,0,none⟩))] w fun v w'=>Fr [rb] w w'/\ETyp w'/\qAc v w':=by
 generalize hbody:chs (zI (d0::dr))++qV zY []=body;generalize hfore:((if 0<pal.length then [(vE,xM pal)]else [])++((if zH pal then [(zC,xO pal)]else [])++(if 0<cl.length then [(zC,zW cl)]else [])):List Ch)=fore;have efile:xD (zU W H (qI k).2 (qI k).1 L pal cl++zI (d0::dr)++[(zY,[])])=sigL++(qV zJ (zO W H (qI k).2 (qI k).1 L)++(chs fore++body)):=by
  unfold xD zU;rw[hfore,<-hbody,zL,zL,xN];simp[chs]
 rw[efile]at hr;have frO:∀{a b:wQ} {S:List Nat},Fr [rb] w a ->Fr S a b ->(∀x∈S,x=rb\/hn w<=x) ->Fr [rb] w b:=fun h1 h2 h3=>h1.trans' h2 (fun x hx hlt=>by have:=h3 x hx;simp;omega);have hlow:=hE.low;refine c69 hr hT hE hlo hrb hp (by simp[zP]) (fun w'=>Fr [rb] w w'/\hn w+2<=hn w'/\∃d crc rs,Dst w' (hn w+1) rb (hn w) p d crc rs/\
   ((d.stage=0/\d.useT=false/\rs=qV zJ (zO W H (qI k).2 (qI k).1 L)++(chs fore++body))\/
    (d.stage=1/\d.useT=false/\kF d k W H L/\rs=chs fore++body)\/
    (d.stage=2/\(qI k).1=3/\d.useT=false/\kF d k W H L/\uC w' (hn w+1) d.pal pal.length (jC (xM pal) pal.length)/\rs=qV zC (xO pal)++body)\/
    (kF d k W H L/\(2<=d.stage/\d.stage<=3)/\((qI k).1=3 ->∃n cs,uC w' (hn w+1) d.pal n cs)/\(d.useT=true ->(qI k).1=0\/(qI k).1=2)/\rs=body)\/
    (d.stage=4/\ImgAt w' (hn w+1) d/\rs=qV zY [])\/(d.stage=5/\ImgAt w' (hn w+1) d))) (fun w'=>5 -(kC w' (hn w+1)).toNat) ?_ ?_ ?_
 ·intro w6 tmp _ F6 n6 D6
  exact⟨F6,n6,_,_,_,D6,.inl ⟨rfl,rfl,by rw[gK]⟩⟩
 ·intro w6 s hs
  exact absurd (gL _) hs
 ·rintro w1 ⟨F1,n1,d,crc,rs,hD,hph⟩
  have E1:=hE.fr F1 (by simp;omega);have L1:=hL.fr F1 oQ (by simp;omega);have hst:=hD.stage_eq;refine⟨d,crc,rs,hD,fun h5=> ?_,fun h5=> ?_⟩
  ·rcases hph with⟨h,_⟩|⟨h,_⟩|⟨h,_⟩|⟨_,h,_⟩|⟨h,_⟩|⟨_,hI⟩
   iterate 5 omega
   obtain⟨ib,pb,pt,IT,bpp,W',H',ex,g,cs,e1,e2,e3,_,_,_,e7⟩:=hI;exact⟨F1,hET.fr F1 (by simp;omega),pt,IT,bpp,ib,pb,W',H',ex,g,cs,by rw[e1],e2,e3,e7⟩
  ·have ready:∀{d:Dec} {crc:Nat},Dst w1 (hn w+1) rb (hn w) p d crc body ->kF d k W H L ->(1<=d.stage/\d.stage<=3) ->((qI k).1=3 ->d.stage≠1/\∃n cs,uC w1 (hn w+1) d.pal n cs) ->(d.useT=true ->(qI k).1=0\/(qI k).1=2) ->
     CallT Pg 60 #[.pointer (some ⟨hn w+1,0,none⟩),.bool false] w1 fun v w''=>(v= .nilIface/\(Fr [rb] w w''/\hn w+2<=hn w''/\∃d crc rs,Dst w'' (hn w+1) rb (hn w) p d crc rs/\d.stage=4/\ImgAt w'' (hn w+1) d/\rs=qV zY [])):=by
    intro d crc hD hh hs hp3 hut;rw[<-hbody]at hD;refine CallT.mono (qCt hD hk hW hH E1 hlo L1 hh hs hp3 hut hrows hZ hds hne hzl hxl) ?_;rintro v w2 ⟨rfl,F,nn,dd,crc',h4,hD',ib,pb,pt,IT,bpp,ex,g,cs,i1,i2,i3,i4,i5,i6,i7⟩;exact⟨rfl,frO F1 F sQ,oQ,dd,crc',_,hD',h4,⟨ib,pb,pt,IT,bpp,W,H,ex,g,cs,i1,i2,i3,oQ,oQ,i6,i7⟩,rfl⟩
   have out:∀{v:Value} {w'':wQ},v= .nilIface ->Fr [rb] w w'' ->hn w+2<=hn w'' ->∀{d':Dec} {crc':Nat} {rs':bQ},Dst w'' (hn w+1) rb (hn w) p d' crc' rs' ->d.stage<d'.stage ->0<=d.stage/\d'.stage<=5 ->5 -(kC w'' (hn w+1)).toNat<5 -(kC w1 (hn w+1)).toNat:=by
    intro v w'' _ _ _ d' crc' rs' hD' h1 h2;rw[hD'.stage_eq,hst];omega
   rcases hph with⟨h0,hu,rfl⟩|⟨h1,hu,hh,rfl⟩|⟨h2,hC,hu,hh,hP,rfl⟩|⟨hh,h23,hP,hut,rfl⟩|⟨h4,hI,rfl⟩|⟨h5',_⟩
   ·refine CallT.mono (Dst.goodIHDR hD h0 oQ oQ hk) ?_
    rintro v w2 ⟨rfl,F,tmp,crc',hD'⟩;have Fx:=frO F1 F sQ;have nx:=F.size;exact .inl ⟨rfl,⟨Fx,oQ,_,_,_,hD',.inr (.inl ⟨rfl,hu,⟨rfl,rfl,rfl,rfl,rfl⟩,rfl⟩)⟩,out rfl Fx oQ hD' (by rw[h0];show(0:Int)<1;decide) (by rw[h0];exact⟨dQ,(show(1:Int)<=5 by decide)⟩)⟩
   ·rw[<-hfore]at hD
    rcases qEs hk hok hh h1 hu hD with⟨hC,_,hD'⟩|hcall
    ·refine CallT.mono (ready hD' hh oQ (fun h=>absurd h hC) (fun h=>by rw[hu]at h;cases h)) ?_
     rintro v w2 ⟨rfl,Fx,nx,d',crc',rs',hD2,h4,hI,hrs⟩;exact .inl ⟨rfl,⟨Fx,nx,d',crc',rs',hD2,.inr (.inr (.inr (.inr (.inl ⟨h4,hI,hrs⟩))))⟩,out rfl Fx nx hD2 oQ oQ⟩
    ·refine CallT.mono hcall ?_
     rintro v w2 ⟨rfl,F,d',crc',hh',⟨h3,h02,hD2⟩|⟨h2,hC,hu2,hP,⟨_,hD2⟩|⟨_,hD2⟩⟩⟩
     ·have Fx:=frO F1 F sQ
      have nx:=F.size;exact .inl ⟨rfl,⟨Fx,oQ,d',crc',_,hD2,.inr (.inr (.inr (.inl ⟨hh',oQ,fun h=>by omega,fun _ =>h02,rfl⟩)))⟩,out rfl Fx oQ hD2 oQ oQ⟩
     ·have Fx:=frO F1 F sQ
      have nx:=F.size;exact .inl ⟨rfl,⟨Fx,oQ,d',crc',_,hD2,.inr (.inr (.inr (.inl ⟨hh',oQ,fun _ =>⟨_,_,hP⟩,(fun h=>by rw[hu2]at h;cases h),rfl⟩)))⟩,out rfl Fx oQ hD2 oQ oQ⟩
     ·have Fx:=frO F1 F sQ
      have nx:=F.size;exact .inl ⟨rfl,⟨Fx,oQ,d',crc',_,hD2,.inr (.inr (.inl ⟨h2,hC,hu2,hh',hP,rfl⟩))⟩,out rfl Fx oQ hD2 oQ oQ⟩
   ·have hcb:=kB hk
    obtain⟨q1,q2,q3⟩:=hok.pal3 hC;have hal:(xO pal).length=pal.length:=by simp[xO]
    obtain⟨g,hpal,hdg,hrow,hcl,hn256⟩:=hP;refine CallT.mono (Dst.goodTRNS hD h2 (by rw[hh.cb_];have:=hcb.2.1 hC;omega) ⟨g,hpal,hdg,hrow,hcl,hn256⟩ (tG _ _) oQ oQ) ?_;rintro v w2 ⟨rfl,hF,tmp,crc',pl,hD',_,hP'⟩;have F:=hF g (by rw[hpal]);have Fx:=frO F1 F (by simp;omega);have nx:=F.size;exact .inl ⟨rfl,⟨Fx,oQ,_,_,_,hD',.inr (.inr (.inr (.inl ⟨⟨hh.W_,hh.H_,hh.D_,hh.cb_,hh.lace_⟩,⟨(show(2:Int)<=3 by decide),(show(3:Int)<=3 by decide)⟩,fun _ =>⟨_,_,hP'⟩,(fun h=>by rw[hu]at h;cases h),rfl⟩)))⟩,out rfl Fx oQ hD' (by rw[h2];show(2:Int)<3;decide) (by rw[h2];exact⟨dQ,(show(3:Int)<=5 by decide)⟩)⟩
   ·refine CallT.mono (ready hD hh oQ (fun h=>⟨oQ,hP h⟩) hut) ?_
    rintro v w2 ⟨rfl,Fx,nx,d',crc',rs',hD2,h4,hI,hrs⟩;exact .inl ⟨rfl,⟨Fx,nx,d',crc',rs',hD2,.inr (.inr (.inr (.inr (.inl ⟨h4,hI,hrs⟩))))⟩,out rfl Fx nx hD2 oQ oQ⟩
   ·rw[<-List.append_nil (qV zY [])]at hD
    refine CallT.mono (qEw hD h4 E1 hlo) ?_;rintro v w2 ⟨rfl,F,nn,tmp,crc',hD'⟩;have Fx:=frO F1 F sQ;exact .inl ⟨rfl,⟨Fx,oQ,_,_,_,hD',.inr (.inr (.inr (.inr (.inr ⟨rfl,hI.fr F (by simp;omega) rfl⟩))))⟩,out rfl Fx oQ hD' (by rw[h4];show(4:Int)<5;decide) (by rw[h4];exact⟨dQ,(show(5:Int)<=5 by decide)⟩)⟩
   ·exact absurd h5' h5
end
section
variable{w w':wQ}{E:Er}
theorem qBp{q:pQ}{l c k W H:Nat}{L:Bool}{xs zs d0:bQ}{dr:List (bQ)}{fl:bQ}{pal:List Px}{cl:List Nat}{file:bQ}(hf:file=xD (zU W H (qI k).2 (qI k).1 L pal cl++zI (d0::dr)++[(zY,[])]))(hx:Has w q (bv file))(hl:l=file.length)(hlb:l<1099511627776)
  (hT:Tab w)(hE:Errs w E)(hlo:E.n0<=hn w)(hL:LaceAt w E.n0)(hET:ETyp w)(hk:k<15)(hW:1<=W/\W<=20)(hH:1<=H/\H<=20)(hok:yG (qI k).2 (qI k).1 pal cl)
  (hrows:RowsOf (rV W H (qI k).2 (qI k).1 L) (kY fl) xs)(hZ:gE xs zs)(hds:(d0::dr).flatten=zs)(hne:∀x∈d0::dr,x≠[])(hzl:zs.length<=2097152)(hxl:xs.length<32768):
  CallT Pg 28 #[.slice q l c] w fun v w'=>v= .bool true/\Fr [] w w':=by
 subst hf;have h3:3<hn w:=by obtain⟨_,_,h,_⟩:=hT;exact zM h
 have hlow:=hE.low;refine c28 (A:=True) (B:=fun code=>∃e:Value,False/\code=mL e) (c35 hx hl hlb fun w9 rb p F9 hr h1 h2 hp=> ?_) (fun code h=>by obtain⟨_,h,_⟩:=h;exact h);refine c57 (S:=[rb]) (A:=True) (B:=fun _ =>False) (by simp;omega) fun w2 F2 n2=> ?_;have FF:=F9.trans F2;refine CallT.mono (walk69 (hr.fr F2 sQ sQ) (hT.fr FF sQ) (hE.fr FF sQ) oQ ⟨oQ,oQ⟩ (fun a ha=>by have:=hp a ha;omega) (hL.fr FF oQ sQ) (hET.fr0 FF) hk hW hH hok hrows hZ hds hne hzl hxl) ?_;rintro v w3 ⟨f,hT3,hG⟩;exact⟨f,hT3,.inl ⟨trivial,hG⟩⟩
end
section
theorem eU{W H D C:Nat}{L:Bool}(hW:W<=20)(hH:H<=20)(hD:D<=16):(rV W H D C L).sum<=22540:=by
 have hcN:=tV C;have one:∀p,p<7 ->(uD W H D C L p).sum<=3220:=by
  intro p hp;obtain⟨hDX,hDY,_,_⟩:=bT L hp;have h1:=sM (X:=(zN L p).1) (W:=W) hDX;have h2:=sM (X:=(zN L p).2.1) (W:=H) hDY;unfold uD;dsimp only
  split
  ·simp
  ·rw[List.sum_replicate_nat]
   have h3:rowB C D (vH (zN L p).1 (zN L p).2.2.1 W)+1<=161:=by
    have h1:vH (zN L p).1 (zN L p).2.2.1 W*chN C<=20*4:=Nat.mul_le_mul oQ hcN.2;have h2:vH (zN L p).1 (zN L p).2.2.1 W*chN C*D<=20*4*16:=Nat.mul_le_mul h1 hD;unfold rowB;omega
   have:=Nat.mul_le_mul (show vH (zN L p).2.1 (zN L p).2.2.2 H<=20 by omega) h3;omega
 have all:∀n,n<=7 ->((List.range n).flatMap (uD W H D C L)).sum<=n*3220:=by
  intro n
  induction n with
  |zero=>intro _;simp
  |succ n ih=>
   intro hn;have:=ih oQ;have:=one n oQ;rw[List.range_succ,List.flatMap_append,List.sum_append_nat];simp only[List.flatMap_cons,List.flatMap_nil,List.append_nil];omega
 have h7:nPass L<=7:=by unfold nPass;split<;>omega
 have:=all (nPass L) h7;unfold rV;omega
theorem bX{W H D C:Nat}{L:Bool}{kind:Nat ->Nat}{xs:bQ}(h:RowsOf (rV W H D C L) kind xs)(hW:W<=20)(hH:H<=20)(hD:D<=16):xs.length<32768:=by
 have:=(qBl h).1;have:=eU (L:=L) (C:=C) hW hH hD;omega
end
section
variable{w:wQ}
def Cfg(k W H:Nat)(L:Bool)(pal:List Px)(xs:bQ):Prop:=
 ((qI k).1≠3/\pal=[]/\∃rest,xs=sigL++(qV zJ (zO W H (qI k).2 (qI k).1 L)++rest))\/
 ((qI k).1=3/\0<pal.length/\pal.length<=256/\pal.length<=2^(qI k).2/\∃rest,xs=sigL++(qV zJ (zO W H (qI k).2 (qI k).1 L)++(qV vE (xM pal)++rest))/\
  ((zH pal=true/\∃rest',rest=qV zC (xO pal)++rest')\/(zH pal=false/\∃dd rest',dd.length<4294967296/\rest=qV nIDAT dd++rest')))
theorem iI{W H k:Nat}{L:Bool}{pal:List Px}{cl:List Nat}{zs:bQ}{ds:List (bQ)}(hk:k<15)(hok:yG (qI k).2 (qI k).1 pal cl)(hz:0<zs.length)(hzl:zs.length<=2097152)(hds:ds.flatten=zs)(hne:∀d∈ds,d≠[]):
  Cfg k W H L pal (xD (zU W H (qI k).2 (qI k).1 L pal cl++zI ds++[(zY,[])]))/\sC (zU W H (qI k).2 (qI k).1 L pal cl++zI ds++[(zY,[])])/\(xD (zU W H (qI k).2 (qI k).1 L pal cl++zI ds++[(zY,[])])).length<1099511627776/\
   2<=(zU W H (qI k).2 (qI k).1 L pal cl++zI ds++[(zY,[])]).length:=by
 have hpl:pal.length<=9:=by
  by_cases h:(qI k).1=3
  ·exact(hok.pal3 h).2.1
  ·rw[hok.paln h];simp
 have hcll:cl.length<=4:=by
  have:=tV (qI k).1;rcases hok.cll with h|h
  ·rw[h];simp
  ·omega
 have hclL:(zW cl).length=2*cl.length:=by
  unfold zW;clear hok hcll
  induction cl with
  |nil=>rfl
  |cons v r ih=>simp only[List.flatMap_cons,List.length_append,List.length_cons,List.length_nil]at*;omega
 have hal:(xO pal).length=pal.length:=by simp[xO]
 have hsl:=vI pal;have hd1:∀d∈ds,d.length<=zs.length:=by
  intro d hd;rw[<-hds];exact(List.sublist_flatten_of_mem hd).length_le
 have hokC:sC (zU W H (qI k).2 (qI k).1 L pal cl++zI ds++[(zY,[])]):=by
  intro c hc;simp only[zU,zI,List.mem_append,List.mem_cons,List.mem_map,List.not_mem_nil,or_false]at hc;rcases hc with((rfl|hc|hc|hc)|⟨d,hd,rfl⟩)|rfl
  ·exact⟨rfl,by show 13<_;decide⟩
  ·split at hc
   ·simp at hc;subst hc;exact⟨rfl,by dsimp only;omega⟩
   ·simp at hc
  ·split at hc
   ·simp at hc;subst hc;exact⟨rfl,by dsimp only;omega⟩
   ·simp at hc
  ·split at hc
   ·simp at hc;subst hc;exact⟨rfl,by dsimp only;omega⟩
   ·simp at hc
  ·exact⟨rfl,by have:=hd1 d hd;dsimp only;omega⟩
  ·exact⟨rfl,dQ⟩
 have hdat:(chs (zI ds)).length<=13*zs.length:=by
  rw[<-hds];clear hd1 hds hokC
  induction ds with
  |nil=>simp[zI,chs]
  |cons d r ih=>
   have:=ih (fun x hx=>hne x (List.mem_cons_of_mem _ hx));have hd:1<=d.length:=by
    cases d with
    |nil=>exact absurd rfl (hne [] sQ)
    |cons a b=>simp
   have e:zI (d::r)=(nIDAT,d)::zI r:=rfl;rw[e,xN,List.length_append,xE rfl,List.flatten_cons,List.length_append];dsimp only;omega
 refine⟨?_,hokC,?_,?_⟩
 ·have efile:∀r,xD ((zJ,zO W H (qI k).2 (qI k).1 L)::r)=sigL++(qV zJ (zO W H (qI k).2 (qI k).1 L)++chs r):=fun r=>by rw[xD,xN]
  by_cases hC:(qI k).1=3
  ·obtain⟨p1,p2,p3⟩:=hok.pal3 hC
   have hcl0:=hok.cl0 oQ oQ;subst hcl0;obtain⟨d0,dr,rfl⟩:∃d0 dr,ds=d0::dr:=by
    cases ds with
    |nil=>simp at hds;subst hds;simp at hz
    |cons a b=>exact⟨a,b,rfl⟩
   have hd0:=hd1 d0 sQ;refine .inr ⟨hC,p1,oQ,p3,?_⟩;rw[zU,if_pos (show 0<pal.length from p1),if_neg (show¬0<([]:List Nat).length by simp)]
   cases hac:zH pal with
   |true=>
    refine⟨qV zC (xO pal)++chs (zI (d0::dr)++[(zY,[])]),?_,.inl ⟨rfl,_,rfl⟩⟩;rw[if_pos rfl];simp only[List.cons_append,List.nil_append,List.append_nil,List.append_assoc];rw[efile,xN,xN]
   |false=>
    refine⟨chs (zI (d0::dr)++[(zY,[])]),?_,.inr ⟨rfl,d0,chs (zI dr++[(zY,[])]),oQ,?_⟩⟩
    ·rw[if_neg sQ]
     simp only[List.cons_append,List.nil_append,List.append_nil,List.append_assoc];rw[efile,xN]
    ·rw[show zI (d0::dr)++[(zY,[])]=(nIDAT,d0)::(zI dr++[(zY,[])])from rfl,xN]
  ·refine .inl ⟨hC,hok.paln hC,?_⟩
   rw[zU,List.cons_append,List.cons_append,efile];exact⟨_,rfl⟩
 ·rw[xD,List.length_append,zL,zL,List.length_append,List.length_append]
  have h1:(chs (zU W H (qI k).2 (qI k).1 L pal cl)).length<=1000:=by
   rw[zU,xN,zL,zL];simp only[List.length_append];have e0:(qV zJ (zO W H (qI k).2 (qI k).1 L)).length=12+13:=xE rfl;have e1:(chs (if 0<pal.length then [(vE,xM pal)]else [])).length<=12+27:=by
    split
    ·rw[xN,uU,List.append_nil,xE rfl];dsimp only;omega
    ·simp[chs]
   have e2:(chs (if zH pal=true then [(zC,xO pal)]else [])).length<=12+9:=by
    split
    ·rw[xN,uU,List.append_nil,xE rfl];dsimp only;omega
    ·simp[chs]
   have e3:(chs (if 0<cl.length then [(zC,zW cl)]else [])).length<=12+8:=by
    split
    ·rw[xN,uU,List.append_nil,xE rfl];dsimp only;omega
    ·simp[chs]
   omega
  have h2:(chs [(zY,[])]).length=12:=rfl;rw[zP];omega
 ·simp[zU];omega
end
section
variable{w w' w0:wQ}{E:Er}
end
section
variable{w w':wQ}{E:Er}
theorem DecV.mono{A A':Prop}{B B':Int ->Prop}{v:Value}(h:DecV A B v)(hA:A ->A')(hB:∀n,B n ->B' n):DecV A' B' v:=by
 rcases h with⟨a,h⟩|⟨n,b,h⟩
 ·exact .inl ⟨hA a,h⟩
 ·exact .inr ⟨n,hB n b,h⟩
theorem nC{q:pQ}{l c:Nat}{xs:bQ}{code co:Int}{B:Value ->Prop}(hx:Has w q (bv xs))(hl:l=xs.length)(hlb:l<1099511627776)(hT:Tab w)(hE:Errs w E)(hlo:E.n0<=hn w)(hL:LaceAt w E.n0)(hET:ETyp w)(hB:∀e,B e ->ErrK e/\mL e=co)
  (h69:∀w2 rb p,Fr [] w w2 ->RdAt w2 rb p xs ->Tab w2 ->Errs w2 E ->E.n0<=rb ->(3<rb/\rb<hn w2) ->(∀a,p=some a ->3<a.block/\a.block<rb) ->LaceAt w2 E.n0 ->ETyp w2 ->CallT Pg 69 #[.iface 85 (.pointer (some ⟨rb,0,none⟩))] w2 fun v w'=>Fr [rb] w2 w'/\∃e,v= .tuple #[.nilIface,e]/\B e):
  CallT Pg 29 #[.slice q l c,.int .i64 code] w fun v w'=>v= .bool (decide (co=code))/\Fr [] w w':=by
 have h3:3<hn w:=by obtain⟨_,_,h,_⟩:=hT;exact zM h
 have hlow:=hE.low;refine c29n (c35 (A:=False) (B:=fun n=>n=co) hx hl hlb fun w9 rb p F9 hr h1 h2 hp=> ?_);refine CallT.mono (c57 (S:=[rb]) (A:=False) (B:=B) (by simp;omega) fun w2 F2 n2=> ?_) ?_
 ·have FF:=F9.trans F2
  have hE2:=hET.fr0 FF;refine CallT.mono (h69 w2 rb p FF (hr.fr F2 sQ sQ) (hT.fr FF sQ) (hE.fr FF sQ) oQ ⟨oQ,oQ⟩ (fun a ha=>by have:=hp a ha;omega) (hL.fr FF oQ sQ) hE2) ?_;rintro v w3 ⟨f,e,rfl,hb⟩;exact⟨f,hE2.fr f (by simp;omega),.inr ⟨e,rfl,hb,(hB e hb).1⟩⟩
 ·rintro v w3 ⟨f,hV⟩
  refine⟨f,hV.mono id ?_⟩;rintro n ⟨e,hb,rfl⟩;exact(hB e hb).2
end
section
variable{w w':wQ}{E:Er}
end
end Go.Proofs
