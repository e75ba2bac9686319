/- Steps of the proofs: contracts of the functions, for all their arguments that meet what each names -/
import Derived.LaidEql
import Derived.ScopeJumps
import Derived.Stop.Asserts
import Derived.Test.YtklagmhonmbdgaaGreatDoorK1
set_option maxRecDepth 1000000
set_option linter.unusedVariables false
set_option linter.unusedSimpArgs false
set_option maxHeartbeats 4000000
namespace Go.Proofs
open Go Go.V
open Go.IntKind (wrap)
def wp155(x0:Addr)(R:vPq)(w:wQ):Prop:=qO w fun b=>qS b x0 fun f n c=>LdI b (aQq x0 2) .i64 fun a=>LdI b (aQq x0 1) .i64 fun d=>And (0<=d/\d<=(c:Int)) (And (0<=a/\a<=d) (LdI b (aQq x0 1) .i64 fun g=>qB b (aQq x0 2) (iQq g) fun h=>qO h fun e=>LdI e (aQq x0 1) .i64 fun i=>qS e x0 fun o j p=>IfC (i==(j:Int)) (qB e (aQq x0 1) (iQq 0) fun k=>qB k (aQq x0 2) (iQq 0) fun l=>qB l (aQq x0 3) (.bool true) fun m=>R (.slice (qQ f c a.toNat 1) (d.toNat -a.toNat) (c -a.toNat)) m) (R (.slice (qQ f c a.toNat 1) (d.toNat -a.toNat) (c -a.toNat)) e)))
theorem call155{x0:Addr}{R:vPq}{w:wQ}(h:wp155 x0 R w):CallT Pg 155 #[.pointer (some x0)] w R:=cVq [] Tryz.func155 h
def wp160(x0:Addr)(x1:Int)(R:vPq)(w:wQ):Prop:=qO w fun a=>qS a x0 fun d e i=>LdI a (aQq x0 1) .i64 fun b=>And (0<=b/\b<(e:Int)) (qN d fun f=>qB a (qH f b.toNat 1) (.int .u8 x1) fun c=>LdI c (aQq x0 1) .i64 fun g=>qB c (aQq x0 1) (iQq (wIq (g+1))) fun h=>R (.tuple #[]) h)
theorem call160{x0:Addr}{x1:Int}{R:vPq}{w:wQ}(h:wp160 x0 x1 R w):CallT Pg 160 #[.pointer (some x0),.int .u8 x1] w R:=cVq [] Tryz.func160 h
def wp161(x0:Addr)(R:vPq)(w:wQ):Prop:=qO w fun a=>qS a x0 fun d b e=>LdI a (aQq x0 1) .i64 fun c=>R (iQq (wIq ((b:Int) -c)):Value) a
theorem call161{x0:Addr}{R:vPq}{w:wQ}(h:wp161 x0 R w):CallT Pg 161 #[.pointer (some x0)] w R:=cVq [] Tryz.func161 h
def wp163(x0:Addr)(R:vPq)(w:wQ):Prop:=LdB w (aQq x0 3) fun a=>IfC a (qS w x0 fun d b e=>R (iQq (b:Int):Value) w) (LdI w (aQq x0 1) .i64 fun c=>R (iQq c) w)
theorem call163{x0:Addr}{R:vPq}{w:wQ}(h:wp163 x0 R w):CallT Pg 163 #[.pointer (some x0)] w R:=cVq [] Tryz.func163 h
def wp164(x0:Addr)(x1:Int)(x2:Int)(R:vPq)(w:wQ):Prop:=LdI w (aQq x0 1) .i64 fun a=>xH (fun(q:(Unit)) (g:wQ)=>xB (fun(h:(Int×Unit) ->World ->Prop)=>h (a,()) g) (fun b f i=>IfC (decide (b.1<(wIq (a+x2)))) (qO f fun c=>qS c x0 fun j r d=>And (0<=wIq (a+x2)/\wIq (a+x2)<=(d:Int)) (And (0<=b.1/\b.1<=wIq (a+x2)) (qS c x0 fun k s e=>And (0<=b.1/\b.1<=(e:Int)) (And (0<=wIq (a -x1)/\wIq (a -x1)<=b.1) (jQ Pg c #[33,33] 3 (.slice (qQ j d b.1.toNat 1) (((wIq (a+x2)).toNat) -b.1.toNat) (d -b.1.toNat)) (.slice (qQ k e ((wIq (a -x1)).toNat) 1) (b.1.toNat -((wIq (a -x1)).toNat)) (e -((wIq (a -x1)).toNat))) fun l m=>i (wIq (b.1+l),()) m))))) (qB f (aQq x0 1) (iQq b.1) fun n=>R (iQq (wIq (b.1 -a))) n))) (fun o=>IfC (decide (a<x1)) (R (iQq 0) w) (qS w x0 fun t p u=>IfC (decide ((wIq (a+x2))>(p:Int))) (R (iQq 0) w) (o (()) w)))
theorem call164{x0:Addr}{x1:Int}{x2:Int}{R:vPq}{w:wQ}(h:wp164 x0 x1 x2 R w):CallT Pg 164 #[.pointer (some x0),.int .i64 x1,.int .i64 x2] w R:=cVq [(6,[],[0,1,7,8]),(20,[(7,.i .i64)],[0,6,8,9,10])] Tryz.func164 h
def wp166(x0:Addr)(R:vPq)(w:wQ):Prop:=qO w fun a=>LdI a (aQq x0 1) .i64 fun b=>LdI a (aQq x0 2) .i64 fun c=>R (iQq (wIq (b -c))) a
theorem call166{x0:Addr}{R:vPq}{w:wQ}(h:wp166 x0 R w):CallT Pg 166 #[.pointer (some x0)] w R:=cVq [] Tryz.func166 h
def wp167(x0:Addr)(R:vPq)(w:wQ):Prop:=qO w fun b=>qS b x0 fun e c d=>LdI b (aQq x0 1) .i64 fun a=>And (0<=a/\a<=(c:Int)) (R (.slice (qQ e d a.toNat 1) (c -a.toNat) (d -a.toNat)) b)
theorem call167{x0:Addr}{R:vPq}{w:wQ}(h:wp167 x0 R w):CallT Pg 167 #[.pointer (some x0)] w R:=cVq [] Tryz.func167 h
def wp168(x0:Addr)(x1:Int)(R:vPq)(w:wQ):Prop:=LdI w (aQq x0 1) .i64 fun a=>qB w (aQq x0 1) (iQq (wIq (a+x1))) fun b=>R (.tuple #[]) b
theorem call168{x0:Addr}{x1:Int}{R:vPq}{w:wQ}(h:wp168 x0 x1 R w):CallT Pg 168 #[.pointer (some x0),.int .i64 x1] w R:=cVq [] Tryz.func168 h
section
variable{w:wQ}
structure Fl where
 r:Value
 ro:Int
 b:Int
 nb:Int
 hist:Sl
 wr:Int
 rd:Int
 full:Bool
 u0:Int
 u1:Int
 u2:Int
 u3:Int
 step:Value
 ss:Int
 fin:Bool
 err:Value
 toR:Sl
 hl:pQ
 hd:pQ
 cl:Int
 cd:Int
structure FAt (arr:vQ) (F:Fl):Prop where
 size:arr.size=1054
 r:arr[0]? =some (F.r)
 ro:arr[2]? =some (.int .i64 F.ro)
 b:arr[3]? =some (.int .u32 F.b)
 nb:arr[4]? =some (.int .u64 F.nb)
 hist:arr[1037]? =some (.slice F.hist.a F.hist.len F.hist.cap)
 wr:arr[1038]? =some (.int .i64 F.wr)
 rd:arr[1039]? =some (.int .i64 F.rd)
 full:arr[1040]? =some (.bool F.full)
 u0:arr[1041]? =some (.int .u8 F.u0)
 u1:arr[1042]? =some (.int .u8 F.u1)
 u2:arr[1043]? =some (.int .u8 F.u2)
 u3:arr[1044]? =some (.int .u8 F.u3)
 step:arr[1045]? =some (F.step)
 ss:arr[1046]? =some (.int .i64 F.ss)
 fin:arr[1047]? =some (.bool F.fin)
 err:arr[1048]? =some (F.err)
 toR:arr[1049]? =some (.slice F.toR.a F.toR.len F.toR.cap)
 hl:arr[1050]? =some (.pointer F.hl)
 hd:arr[1051]? =some (.pointer F.hd)
 cl:arr[1052]? =some (.int .i64 F.cl)
 cd:arr[1053]? =some (.int .i64 F.cd)
theorem FAt.set_r{arr:vQ}{F:Fl}(h:FAt arr F)(x:Value):FAt (arr.setIfInBounds 0 (x)) {F with r:=x}:=
 ⟨by rw[Array.size_setIfInBounds];exact h.size,by rw[Array.getElem?_setIfInBounds_self_of_lt (by rw[h.size];decide)],nEq dQ h.ro,nEq dQ h.b,nEq dQ h.nb,nEq dQ h.hist,nEq dQ h.wr,nEq dQ h.rd,nEq dQ h.full,nEq dQ h.u0,nEq dQ h.u1,nEq dQ h.u2,nEq dQ h.u3,nEq dQ h.step,nEq dQ h.ss,nEq dQ h.fin,nEq dQ h.err,nEq dQ h.toR,nEq dQ h.hl,nEq dQ h.hd,nEq dQ h.cl,nEq dQ h.cd⟩
theorem FAt.set_ro{arr:vQ}{F:Fl}(h:FAt arr F)(x:Int):FAt (arr.setIfInBounds 2 (.int .i64 x)) {F with ro:=x}:=
 ⟨by rw[Array.size_setIfInBounds];exact h.size,nEq dQ h.r,by rw[Array.getElem?_setIfInBounds_self_of_lt (by rw[h.size];decide)],nEq dQ h.b,nEq dQ h.nb,nEq dQ h.hist,nEq dQ h.wr,nEq dQ h.rd,nEq dQ h.full,nEq dQ h.u0,nEq dQ h.u1,nEq dQ h.u2,nEq dQ h.u3,nEq dQ h.step,nEq dQ h.ss,nEq dQ h.fin,nEq dQ h.err,nEq dQ h.toR,nEq dQ h.hl,nEq dQ h.hd,nEq dQ h.cl,nEq dQ h.cd⟩
theorem FAt.set_b{arr:vQ}{F:Fl}(h:FAt arr F)(x:Int):FAt (arr.setIfInBounds 3 (.int .u32 x)) {F with b:=x}:=
 ⟨by rw[Array.size_setIfInBounds];exact h.size,nEq dQ h.r,nEq dQ h.ro,by rw[Array.getElem?_setIfInBounds_self_of_lt (by rw[h.size];decide)],nEq dQ h.nb,nEq dQ h.hist,nEq dQ h.wr,nEq dQ h.rd,nEq dQ h.full,nEq dQ h.u0,nEq dQ h.u1,nEq dQ h.u2,nEq dQ h.u3,nEq dQ h.step,nEq dQ h.ss,nEq dQ h.fin,nEq dQ h.err,nEq dQ h.toR,nEq dQ h.hl,nEq dQ h.hd,nEq dQ h.cl,nEq dQ h.cd⟩
theorem FAt.set_nb{arr:vQ}{F:Fl}(h:FAt arr F)(x:Int):FAt (arr.setIfInBounds 4 (.int .u64 x)) {F with nb:=x}:=
 ⟨by rw[Array.size_setIfInBounds];exact h.size,nEq dQ h.r,nEq dQ h.ro,nEq dQ h.b,by rw[Array.getElem?_setIfInBounds_self_of_lt (by rw[h.size];decide)],nEq dQ h.hist,nEq dQ h.wr,nEq dQ h.rd,nEq dQ h.full,nEq dQ h.u0,nEq dQ h.u1,nEq dQ h.u2,nEq dQ h.u3,nEq dQ h.step,nEq dQ h.ss,nEq dQ h.fin,nEq dQ h.err,nEq dQ h.toR,nEq dQ h.hl,nEq dQ h.hd,nEq dQ h.cl,nEq dQ h.cd⟩
theorem FAt.set_hist{arr:vQ}{F:Fl}(h:FAt arr F)(x:Sl):FAt (arr.setIfInBounds 1037 (.slice x.a x.len x.cap)) {F with hist:=x}:=
 ⟨by rw[Array.size_setIfInBounds];exact h.size,nEq dQ h.r,nEq dQ h.ro,nEq dQ h.b,nEq dQ h.nb,by rw[Array.getElem?_setIfInBounds_self_of_lt (by rw[h.size];decide)],nEq dQ h.wr,nEq dQ h.rd,nEq dQ h.full,nEq dQ h.u0,nEq dQ h.u1,nEq dQ h.u2,nEq dQ h.u3,nEq dQ h.step,nEq dQ h.ss,nEq dQ h.fin,nEq dQ h.err,nEq dQ h.toR,nEq dQ h.hl,nEq dQ h.hd,nEq dQ h.cl,nEq dQ h.cd⟩
theorem FAt.set_wr{arr:vQ}{F:Fl}(h:FAt arr F)(x:Int):FAt (arr.setIfInBounds 1038 (.int .i64 x)) {F with wr:=x}:=
 ⟨by rw[Array.size_setIfInBounds];exact h.size,nEq dQ h.r,nEq dQ h.ro,nEq dQ h.b,nEq dQ h.nb,nEq dQ h.hist,by rw[Array.getElem?_setIfInBounds_self_of_lt (by rw[h.size];decide)],nEq dQ h.rd,nEq dQ h.full,nEq dQ h.u0,nEq dQ h.u1,nEq dQ h.u2,nEq dQ h.u3,nEq dQ h.step,nEq dQ h.ss,nEq dQ h.fin,nEq dQ h.err,nEq dQ h.toR,nEq dQ h.hl,nEq dQ h.hd,nEq dQ h.cl,nEq dQ h.cd⟩
theorem FAt.set_rd{arr:vQ}{F:Fl}(h:FAt arr F)(x:Int):FAt (arr.setIfInBounds 1039 (.int .i64 x)) {F with rd:=x}:=
 ⟨by rw[Array.size_setIfInBounds];exact h.size,nEq dQ h.r,nEq dQ h.ro,nEq dQ h.b,nEq dQ h.nb,nEq dQ h.hist,nEq dQ h.wr,by rw[Array.getElem?_setIfInBounds_self_of_lt (by rw[h.size];decide)],nEq dQ h.full,nEq dQ h.u0,nEq dQ h.u1,nEq dQ h.u2,nEq dQ h.u3,nEq dQ h.step,nEq dQ h.ss,nEq dQ h.fin,nEq dQ h.err,nEq dQ h.toR,nEq dQ h.hl,nEq dQ h.hd,nEq dQ h.cl,nEq dQ h.cd⟩
theorem FAt.set_full{arr:vQ}{F:Fl}(h:FAt arr F)(x:Bool):FAt (arr.setIfInBounds 1040 (.bool x)) {F with full:=x}:=
 ⟨by rw[Array.size_setIfInBounds];exact h.size,nEq dQ h.r,nEq dQ h.ro,nEq dQ h.b,nEq dQ h.nb,nEq dQ h.hist,nEq dQ h.wr,nEq dQ h.rd,by rw[Array.getElem?_setIfInBounds_self_of_lt (by rw[h.size];decide)],nEq dQ h.u0,nEq dQ h.u1,nEq dQ h.u2,nEq dQ h.u3,nEq dQ h.step,nEq dQ h.ss,nEq dQ h.fin,nEq dQ h.err,nEq dQ h.toR,nEq dQ h.hl,nEq dQ h.hd,nEq dQ h.cl,nEq dQ h.cd⟩
theorem FAt.set_step{arr:vQ}{F:Fl}(h:FAt arr F)(x:Value):FAt (arr.setIfInBounds 1045 (x)) {F with step:=x}:=
 ⟨by rw[Array.size_setIfInBounds];exact h.size,nEq dQ h.r,nEq dQ h.ro,nEq dQ h.b,nEq dQ h.nb,nEq dQ h.hist,nEq dQ h.wr,nEq dQ h.rd,nEq dQ h.full,nEq dQ h.u0,nEq dQ h.u1,nEq dQ h.u2,nEq dQ h.u3,by rw[Array.getElem?_setIfInBounds_self_of_lt (by rw[h.size];decide)],nEq dQ h.ss,nEq dQ h.fin,nEq dQ h.err,nEq dQ h.toR,nEq dQ h.hl,nEq dQ h.hd,nEq dQ h.cl,nEq dQ h.cd⟩
theorem FAt.set_fin{arr:vQ}{F:Fl}(h:FAt arr F)(x:Bool):FAt (arr.setIfInBounds 1047 (.bool x)) {F with fin:=x}:=
 ⟨by rw[Array.size_setIfInBounds];exact h.size,nEq dQ h.r,nEq dQ h.ro,nEq dQ h.b,nEq dQ h.nb,nEq dQ h.hist,nEq dQ h.wr,nEq dQ h.rd,nEq dQ h.full,nEq dQ h.u0,nEq dQ h.u1,nEq dQ h.u2,nEq dQ h.u3,nEq dQ h.step,nEq dQ h.ss,by rw[Array.getElem?_setIfInBounds_self_of_lt (by rw[h.size];decide)],nEq dQ h.err,nEq dQ h.toR,nEq dQ h.hl,nEq dQ h.hd,nEq dQ h.cl,nEq dQ h.cd⟩
theorem FAt.set_err{arr:vQ}{F:Fl}(h:FAt arr F)(x:Value):FAt (arr.setIfInBounds 1048 (x)) {F with err:=x}:=
 ⟨by rw[Array.size_setIfInBounds];exact h.size,nEq dQ h.r,nEq dQ h.ro,nEq dQ h.b,nEq dQ h.nb,nEq dQ h.hist,nEq dQ h.wr,nEq dQ h.rd,nEq dQ h.full,nEq dQ h.u0,nEq dQ h.u1,nEq dQ h.u2,nEq dQ h.u3,nEq dQ h.step,nEq dQ h.ss,nEq dQ h.fin,by rw[Array.getElem?_setIfInBounds_self_of_lt (by rw[h.size];decide)],nEq dQ h.toR,nEq dQ h.hl,nEq dQ h.hd,nEq dQ h.cl,nEq dQ h.cd⟩
theorem FAt.set_toR{arr:vQ}{F:Fl}(h:FAt arr F)(x:Sl):FAt (arr.setIfInBounds 1049 (.slice x.a x.len x.cap)) {F with toR:=x}:=
 ⟨by rw[Array.size_setIfInBounds];exact h.size,nEq dQ h.r,nEq dQ h.ro,nEq dQ h.b,nEq dQ h.nb,nEq dQ h.hist,nEq dQ h.wr,nEq dQ h.rd,nEq dQ h.full,nEq dQ h.u0,nEq dQ h.u1,nEq dQ h.u2,nEq dQ h.u3,nEq dQ h.step,nEq dQ h.ss,nEq dQ h.fin,nEq dQ h.err,by rw[Array.getElem?_setIfInBounds_self_of_lt (by rw[h.size];decide)],nEq dQ h.hl,nEq dQ h.hd,nEq dQ h.cl,nEq dQ h.cd⟩
theorem FAt.set_hl{arr:vQ}{F:Fl}(h:FAt arr F)(x:pQ):FAt (arr.setIfInBounds 1050 (.pointer x)) {F with hl:=x}:=
 ⟨by rw[Array.size_setIfInBounds];exact h.size,nEq dQ h.r,nEq dQ h.ro,nEq dQ h.b,nEq dQ h.nb,nEq dQ h.hist,nEq dQ h.wr,nEq dQ h.rd,nEq dQ h.full,nEq dQ h.u0,nEq dQ h.u1,nEq dQ h.u2,nEq dQ h.u3,nEq dQ h.step,nEq dQ h.ss,nEq dQ h.fin,nEq dQ h.err,nEq dQ h.toR,by rw[Array.getElem?_setIfInBounds_self_of_lt (by rw[h.size];decide)],nEq dQ h.hd,nEq dQ h.cl,nEq dQ h.cd⟩
theorem FAt.set_hd{arr:vQ}{F:Fl}(h:FAt arr F)(x:pQ):FAt (arr.setIfInBounds 1051 (.pointer x)) {F with hd:=x}:=
 ⟨by rw[Array.size_setIfInBounds];exact h.size,nEq dQ h.r,nEq dQ h.ro,nEq dQ h.b,nEq dQ h.nb,nEq dQ h.hist,nEq dQ h.wr,nEq dQ h.rd,nEq dQ h.full,nEq dQ h.u0,nEq dQ h.u1,nEq dQ h.u2,nEq dQ h.u3,nEq dQ h.step,nEq dQ h.ss,nEq dQ h.fin,nEq dQ h.err,nEq dQ h.toR,nEq dQ h.hl,by rw[Array.getElem?_setIfInBounds_self_of_lt (by rw[h.size];decide)],nEq dQ h.cl,nEq dQ h.cd⟩
theorem FAt.set_cl{arr:vQ}{F:Fl}(h:FAt arr F)(x:Int):FAt (arr.setIfInBounds 1052 (.int .i64 x)) {F with cl:=x}:=
 ⟨by rw[Array.size_setIfInBounds];exact h.size,nEq dQ h.r,nEq dQ h.ro,nEq dQ h.b,nEq dQ h.nb,nEq dQ h.hist,nEq dQ h.wr,nEq dQ h.rd,nEq dQ h.full,nEq dQ h.u0,nEq dQ h.u1,nEq dQ h.u2,nEq dQ h.u3,nEq dQ h.step,nEq dQ h.ss,nEq dQ h.fin,nEq dQ h.err,nEq dQ h.toR,nEq dQ h.hl,nEq dQ h.hd,by rw[Array.getElem?_setIfInBounds_self_of_lt (by rw[h.size];decide)],nEq dQ h.cd⟩
theorem FAt.set_cd{arr:vQ}{F:Fl}(h:FAt arr F)(x:Int):FAt (arr.setIfInBounds 1053 (.int .i64 x)) {F with cd:=x}:=
 ⟨by rw[Array.size_setIfInBounds];exact h.size,nEq dQ h.r,nEq dQ h.ro,nEq dQ h.b,nEq dQ h.nb,nEq dQ h.hist,nEq dQ h.wr,nEq dQ h.rd,nEq dQ h.full,nEq dQ h.u0,nEq dQ h.u1,nEq dQ h.u2,nEq dQ h.u3,nEq dQ h.step,nEq dQ h.ss,nEq dQ h.fin,nEq dQ h.err,nEq dQ h.toR,nEq dQ h.hl,nEq dQ h.hd,nEq dQ h.cl,by rw[Array.getElem?_setIfInBounds_self_of_lt (by rw[h.size];decide)]⟩
theorem St_r{w:wQ}{fb:Nat}{arr:vQ}{F:Fl}{x:Value}{K:World ->Prop}(h:hp w fb=Row 281 arr)(hF:FAt arr F)(hK:∀w' arr',hp w' fb=Row 281 arr' ->FAt arr' {F with r:=x} ->Fr [fb] w w' ->hn w'=hn w ->K w'):qB w ⟨fb,0,none⟩ (x) K:=
 qD h (by rw[hF.size];decide) fun w' h' f' n'=>hK w' _ h' (hF.set_r x) f' n'
theorem aT{w:wQ}{fb:Nat}{arr:vQ}{F:Fl}{x:Int}{K:World ->Prop}(h:hp w fb=Row 281 arr)(hF:FAt arr F)(hK:∀w' arr',hp w' fb=Row 281 arr' ->FAt arr' {F with ro:=x} ->Fr [fb] w w' ->hn w'=hn w ->K w'):qB w ⟨fb,2,none⟩ (.int .i64 x) K:=
 qD h (by rw[hF.size];decide) fun w' h' f' n'=>hK w' _ h' (hF.set_ro x) f' n'
theorem cY{w:wQ}{fb:Nat}{arr:vQ}{F:Fl}{x:Int}{K:World ->Prop}(h:hp w fb=Row 281 arr)(hF:FAt arr F)(hK:∀w' arr',hp w' fb=Row 281 arr' ->FAt arr' {F with b:=x} ->Fr [fb] w w' ->hn w'=hn w ->K w'):qB w ⟨fb,3,none⟩ (.int .u32 x) K:=
 qD h (by rw[hF.size];decide) fun w' h' f' n'=>hK w' _ h' (hF.set_b x) f' n'
theorem fC{w:wQ}{fb:Nat}{arr:vQ}{F:Fl}{x:Int}{K:World ->Prop}(h:hp w fb=Row 281 arr)(hF:FAt arr F)(hK:∀w' arr',hp w' fb=Row 281 arr' ->FAt arr' {F with nb:=x} ->Fr [fb] w w' ->hn w'=hn w ->K w'):qB w ⟨fb,4,none⟩ (.int .u64 x) K:=
 qD h (by rw[hF.size];decide) fun w' h' f' n'=>hK w' _ h' (hF.set_nb x) f' n'
theorem cZ{w:wQ}{fb:Nat}{arr:vQ}{F:Fl}{x:Sl}{K:World ->Prop}(h:hp w fb=Row 281 arr)(hF:FAt arr F)(hK:∀w' arr',hp w' fb=Row 281 arr' ->FAt arr' {F with hist:=x} ->Fr [fb] w w' ->hn w'=hn w ->K w'):qB w ⟨fb,1037,none⟩ (.slice x.a x.len x.cap) K:=
 qD h (by rw[hF.size];decide) fun w' h' f' n'=>hK w' _ h' (hF.set_hist x) f' n'
theorem nT{w:wQ}{fb:Nat}{arr:vQ}{F:Fl}{x:Int}{K:World ->Prop}(h:hp w fb=Row 281 arr)(hF:FAt arr F)(hK:∀w' arr',hp w' fb=Row 281 arr' ->FAt arr' {F with wr:=x} ->Fr [fb] w w' ->hn w'=hn w ->K w'):qB w ⟨fb,1038,none⟩ (.int .i64 x) K:=
 qD h (by rw[hF.size];decide) fun w' h' f' n'=>hK w' _ h' (hF.set_wr x) f' n'
theorem qDi{w:wQ}{fb:Nat}{arr:vQ}{F:Fl}{x:Int}{K:World ->Prop}(h:hp w fb=Row 281 arr)(hF:FAt arr F)(hK:∀w' arr',hp w' fb=Row 281 arr' ->FAt arr' {F with rd:=x} ->Fr [fb] w w' ->hn w'=hn w ->K w'):qB w ⟨fb,1039,none⟩ (.int .i64 x) K:=
 qD h (by rw[hF.size];decide) fun w' h' f' n'=>hK w' _ h' (hF.set_rd x) f' n'
theorem qGp{w:wQ}{fb:Nat}{arr:vQ}{F:Fl}{x:Bool}{K:World ->Prop}(h:hp w fb=Row 281 arr)(hF:FAt arr F)(hK:∀w' arr',hp w' fb=Row 281 arr' ->FAt arr' {F with full:=x} ->Fr [fb] w w' ->hn w'=hn w ->K w'):qB w ⟨fb,1040,none⟩ (.bool x) K:=
 qD h (by rw[hF.size];decide) fun w' h' f' n'=>hK w' _ h' (hF.set_full x) f' n'
theorem dC{w:wQ}{fb:Nat}{arr:vQ}{F:Fl}{x:Value}{K:World ->Prop}(h:hp w fb=Row 281 arr)(hF:FAt arr F)(hK:∀w' arr',hp w' fb=Row 281 arr' ->FAt arr' {F with step:=x} ->Fr [fb] w w' ->hn w'=hn w ->K w'):qB w ⟨fb,1045,none⟩ (x) K:=
 qD h (by rw[hF.size];decide) fun w' h' f' n'=>hK w' _ h' (hF.set_step x) f' n'
theorem St_fin{w:wQ}{fb:Nat}{arr:vQ}{F:Fl}{x:Bool}{K:World ->Prop}(h:hp w fb=Row 281 arr)(hF:FAt arr F)(hK:∀w' arr',hp w' fb=Row 281 arr' ->FAt arr' {F with fin:=x} ->Fr [fb] w w' ->hn w'=hn w ->K w'):qB w ⟨fb,1047,none⟩ (.bool x) K:=
 qD h (by rw[hF.size];decide) fun w' h' f' n'=>hK w' _ h' (hF.set_fin x) f' n'
theorem lJ{w:wQ}{fb:Nat}{arr:vQ}{F:Fl}{x:Value}{K:World ->Prop}(h:hp w fb=Row 281 arr)(hF:FAt arr F)(hK:∀w' arr',hp w' fb=Row 281 arr' ->FAt arr' {F with err:=x} ->Fr [fb] w w' ->hn w'=hn w ->K w'):qB w ⟨fb,1048,none⟩ (x) K:=
 qD h (by rw[hF.size];decide) fun w' h' f' n'=>hK w' _ h' (hF.set_err x) f' n'
theorem dS{w:wQ}{fb:Nat}{arr:vQ}{F:Fl}{x:Sl}{K:World ->Prop}(h:hp w fb=Row 281 arr)(hF:FAt arr F)(hK:∀w' arr',hp w' fb=Row 281 arr' ->FAt arr' {F with toR:=x} ->Fr [fb] w w' ->hn w'=hn w ->K w'):qB w ⟨fb,1049,none⟩ (.slice x.a x.len x.cap) K:=
 qD h (by rw[hF.size];decide) fun w' h' f' n'=>hK w' _ h' (hF.set_toR x) f' n'
theorem St_hl{w:wQ}{fb:Nat}{arr:vQ}{F:Fl}{x:pQ}{K:World ->Prop}(h:hp w fb=Row 281 arr)(hF:FAt arr F)(hK:∀w' arr',hp w' fb=Row 281 arr' ->FAt arr' {F with hl:=x} ->Fr [fb] w w' ->hn w'=hn w ->K w'):qB w ⟨fb,1050,none⟩ (.pointer x) K:=
 qD h (by rw[hF.size];decide) fun w' h' f' n'=>hK w' _ h' (hF.set_hl x) f' n'
theorem St_hd{w:wQ}{fb:Nat}{arr:vQ}{F:Fl}{x:pQ}{K:World ->Prop}(h:hp w fb=Row 281 arr)(hF:FAt arr F)(hK:∀w' arr',hp w' fb=Row 281 arr' ->FAt arr' {F with hd:=x} ->Fr [fb] w w' ->hn w'=hn w ->K w'):qB w ⟨fb,1051,none⟩ (.pointer x) K:=
 qD h (by rw[hF.size];decide) fun w' h' f' n'=>hK w' _ h' (hF.set_hd x) f' n'
theorem nR{w:wQ}{fb:Nat}{arr:vQ}{F:Fl}{x:Int}{K:World ->Prop}(h:hp w fb=Row 281 arr)(hF:FAt arr F)(hK:∀w' arr',hp w' fb=Row 281 arr' ->FAt arr' {F with cl:=x} ->Fr [fb] w w' ->hn w'=hn w ->K w'):qB w ⟨fb,1052,none⟩ (.int .i64 x) K:=
 qD h (by rw[hF.size];decide) fun w' h' f' n'=>hK w' _ h' (hF.set_cl x) f' n'
theorem St_cd{w:wQ}{fb:Nat}{arr:vQ}{F:Fl}{x:Int}{K:World ->Prop}(h:hp w fb=Row 281 arr)(hF:FAt arr F)(hK:∀w' arr',hp w' fb=Row 281 arr' ->FAt arr' {F with cd:=x} ->Fr [fb] w w' ->hn w'=hn w ->K w'):qB w ⟨fb,1053,none⟩ (.int .i64 x) K:=
 qD h (by rw[hF.size];decide) fun w' h' f' n'=>hK w' _ h' (hF.set_cd x) f' n'
structure FlAt (w:wQ) (fb hb bb:Nat) (F:Fl) (done:bQ):Prop where
 row:∃arr,hp w fb=Row 281 arr/\FAt arr F
 hist:F.hist=⟨some ⟨hb,0,none⟩,32768,32768⟩
 hrow:∃harr,hp w hb=Row 5 harr/\harr.size=32768/\∀(j:Nat) (v:Value),(bv done)[j]? =some v ->harr[j]? =some v
 wr:F.wr=done.length
 len:done.length<32768
 full:F.full=false
 rr:F.r= .iface 257 (.pointer (some ⟨bb,0,none⟩))
 ord:fb<hb
section
variable{fb hb bb:Nat}{F:Fl}{done:bQ}{w':wQ}
theorem FlAt.fr{S:List Nat}(h:FlAt w fb hb bb F done)(hf:Fr S w w')(h1:fb∉S)(h2:hb∉S):FlAt w' fb hb bb F done:=by
 obtain⟨arr,a1,a2⟩:=h.row;obtain⟨harr,b1,b2⟩:=h.hrow;exact⟨⟨arr,hf.row a1 h1,a2⟩,h.hist,⟨harr,hf.row b1 h2,b2⟩,h.wr,h.len,h.full,h.rr,h.ord⟩
theorem FlAt.upd{F':Fl}{arr':vQ}(h:FlAt w fb hb bb F done)(hf:Fr [fb] w w')(hr:hp w' fb=Row 281 arr')(ha:FAt arr' F')(e1:F'.hist=F.hist)(e2:F'.wr=F.wr)(e3:F'.full=F.full)(e4:F'.r=F.r):FlAt w' fb hb bb F' done:=by
 obtain⟨harr,b1,b2⟩:=h.hrow;have:=h.ord;exact⟨⟨arr',hr,ha⟩,e1.trans h.hist,⟨harr,hf.row1 b1 oQ,b2⟩,e2.trans h.wr,h.len,e3.trans h.full,e4.trans h.rr,h.ord⟩
theorem FlAt.histAt{arr:vQ}(h:FlAt w fb hb bb F done)(a:FAt arr F):arr[1037]? =some (.slice (some ⟨hb,0,none⟩) 32768 32768):=by
 have:=a.hist;rw[h.hist]at this;exact this
theorem FlAt.wrAt{arr:vQ}(h:FlAt w fb hb bb F done)(a:FAt arr F):arr[1038]? =some (.int .i64 done.length):=by
 have:=a.wr;rw[h.wr]at this;exact this
theorem FlAt.fullAt{arr:vQ}(h:FlAt w fb hb bb F done)(a:FAt arr F):arr[1040]? =some (.bool false):=by
 have:=a.full;rw[h.full]at this;exact this
theorem FAt.rdAt{arr:vQ}{rd:Nat}(a:FAt arr F)(hrd:F.rd=rd):arr[1039]? =some (.int .i64 rd):=by
 have:=a.rd;rw[hrd]at this;exact this
theorem FlAt.c161(h:FlAt w fb hb bb F done):CallT Pg 161 #[.pointer (some ⟨fb,0+1037,none⟩)] w fun v w'=>v= .int .i64 (32768 -done.length:Nat)/\Fr [] w w'/\hn w'=hn w:=by
 obtain⟨arr,a1,a2⟩:=h.row;have hl:=h.len;apply call161;unfold wp161 aQq wIq iQq;dsimp only;refine qE fun w1 f1 n1=> ?_;refine qK (f1.row0 a1) (h.histAt a2) (qC (f1.row0 a1) (h.wrAt a2) ⟨?_,f1,n1⟩);rw[qA oQ oQ];refine congrArg (Value.int .i64) ?_;omega
theorem FlAt.c163(h:FlAt w fb hb bb F done):CallT Pg 163 #[.pointer (some ⟨fb,0+1037,none⟩)] w fun v w'=>v= .int .i64 done.length/\w'=w:=by
 obtain⟨arr,a1,a2⟩:=h.row;apply call163;unfold wp163 aQq iQq;dsimp only;refine zB a1 (h.fullAt a2) ?_;exact qM (qC a1 (h.wrAt a2) ⟨rfl,rfl⟩)
theorem FlAt.c166{rd:Nat}(h:FlAt w fb hb bb F done)(hrd:F.rd=rd)(hle:rd<=done.length):CallT Pg 166 #[.pointer (some ⟨fb,0+1037,none⟩)] w fun v w'=>v= .int .i64 (done.length -rd:Nat)/\Fr [] w w'/\hn w'=hn w:=by
 obtain⟨arr,a1,a2⟩:=h.row;have hl:=h.len;apply call166;unfold wp166 aQq wIq iQq;dsimp only;refine qE fun w1 f1 n1=> ?_;refine qC (f1.row0 a1) (h.wrAt a2) (qC (f1.row0 a1) (a2.rdAt hrd) ⟨?_,f1,n1⟩);rw[qA oQ oQ];refine congrArg (Value.int .i64) ?_;omega
theorem FlAt.c160{y:UInt8}(h:FlAt w fb hb bb F done)(hl:done.length+1<32768):CallT Pg 160 #[.pointer (some ⟨fb,0+1037,none⟩),.int .u8 y.toNat] w fun v w'=>v= .tuple #[]/\FlAt w' fb hb bb {F with wr:=(done.length+1:Nat)} (done++[y])/\Fr [fb,hb] w w'/\hn w'=hn w:=by
 obtain⟨arr,a1,a2⟩:=h.row;obtain⟨harr,b1,b2,b3⟩:=h.hrow;have hord:=h.ord;apply call160;unfold wp160 aQq wIq iQq;dsimp only;refine qE fun w1 f1 n1=> ?_;have a1':=f1.row0 a1;have b1':=f1.row0 b1;refine qK a1' (h.histAt a2) (qC a1' (h.wrAt a2) ?_);refine⟨⟨oQ,oQ⟩,?_⟩;rw[PtrC_some,elemAt_one,Int.toNat_natCast,Nat.zero_add];refine qD b1' oQ fun w7 h7 f7 n7=> ?_;have a7:=f7.row1 a1' oQ;refine qC a7 (h.wrAt a2) ?_;rw[show(done.length:Int)+1=((done.length+1:Nat):Int) by omega,qA oQ oQ];refine nT a7 a2 fun w9 arr9 h9 hF9 f9 n9=> ?_;refine⟨rfl,⟨⟨arr9,h9,hF9⟩,h.hist,⟨_,f9.row1 h7 oQ,by simpa using b2,fun j v hj=> ?_⟩,sQ,by simp;omega,h.full,h.rr,hord⟩,?_,oQ⟩
 ·rw[bv_append]at hj
  rw[Array.getElem?_setIfInBounds]
  split
  ·rename_i e
   subst e;rw[List.getElem?_append_right sQ]at hj;simp[u8v]at hj;rw[if_pos oQ,hj]
  ·rename_i e
   have hlt:j<(bv done++bv [y]).length:=(List.getElem?_eq_some_iff.1 hj).1;simp at hlt;rw[List.getElem?_append_left (by simp;omega)]at hj;exact b3 j v hj
 ·exact(f1.mono sQ).trans ((f7.mono sQ).trans (f9.mono sQ))
theorem FlAt.c155{rd:Nat}(h:FlAt w fb hb bb F done)(hrd:F.rd=rd)(hle:rd<=done.length):CallT Pg 155 #[.pointer (some ⟨fb,0+1037,none⟩)] w fun v w'=>v= .slice (qQ (some ⟨hb,0,none⟩) 32768 rd 1) (done.length -rd) (32768 -rd)/\FlAt w' fb hb bb {F with rd:=done.length} done/\Fr [fb] w w'/\hn w'=hn w:=by
 obtain⟨arr,a1,a2⟩:=h.row;have hl:=h.len;apply call155;unfold wp155 aQq iQq;dsimp only;refine qE fun w1 f1 n1=> ?_;have h1:=h.fr f1 sQ sQ;have a1':=f1.row0 a1;refine qK a1' (h.histAt a2) (qC a1' (a2.rdAt hrd) (qC a1' (h.wrAt a2) ?_));refine⟨⟨oQ,oQ⟩,⟨oQ,oQ⟩,qC a1' (h.wrAt a2) ?_⟩;refine qDi a1' a2 fun w8 arr8 h8 hF8 f8 n8=> ?_;have h8':=h1.upd f8 h8 hF8 rfl rfl rfl rfl;refine qE fun w9 f9 n9=> ?_;have h9':=h8'.fr f9 sQ sQ;refine qC (f9.row0 h8) (h8'.wrAt hF8) (qK (f9.row0 h8) (h8'.histAt hF8) ?_);refine qW (fun e=>absurd e oQ) (fun _ =>⟨?_,h9',(f1.mono sQ).trans (f8.trans (f9.mono sQ)),oQ⟩);rw[Int.toNat_natCast,Int.toNat_natCast]
theorem FlAt.c167(h:FlAt w fb hb bb F done):CallT Pg 167 #[.pointer (some ⟨fb,0+1037,none⟩)] w fun v w'=>v= .slice (some ⟨hb,done.length,none⟩) (32768 -done.length) (32768 -done.length)/\Fr [] w w'/\hn w'=hn w:=by
 obtain⟨arr,a1,a2⟩:=h.row;have hl:=h.len;apply call167;unfold wp167 aQq;dsimp only;refine qE fun w1 f1 n1=> ?_;refine qK (f1.row0 a1) (h.histAt a2) (qC (f1.row0 a1) (h.wrAt a2) ?_);refine⟨⟨oQ,oQ⟩,?_,f1,n1⟩;rw[Int.toNat_natCast,slAdd_one _ _ _ _ oQ,Nat.zero_add]
theorem FlAt.c168{xs:bQ}{harr:vQ}(h:FlAt w fb hb bb F done)(hl:done.length+xs.length<32768)(hh:hp w hb=Row 5 harr)(hx:∀(j:Nat) (v:Value),(bv xs)[j]? =some v ->harr[done.length+j]? =some v):
  CallT Pg 168 #[.pointer (some ⟨fb,0+1037,none⟩),.int .i64 xs.length] w fun v w'=>v= .tuple #[]/\FlAt w' fb hb bb {F with wr:=(done.length+xs.length:Nat)} (done++xs)/\Fr [fb] w w'/\hn w'=hn w:=by
 obtain⟨arr,a1,a2⟩:=h.row;obtain⟨harr',b1,b2,b3⟩:=h.hrow;have hord:=h.ord;have e:harr'=harr:=by rw[b1]at hh;simpa [Row]using hh
 subst e;apply call168;unfold wp168 aQq wIq iQq;dsimp only;refine qC a1 (h.wrAt a2) ?_;rw[show(done.length:Int)+(xs.length:Int)=((done.length+xs.length:Nat):Int) by omega,qA oQ oQ];refine nT a1 a2 fun w9 arr9 h9 hF9 f9 n9=> ?_;refine⟨rfl,⟨⟨arr9,h9,hF9⟩,h.hist,⟨_,f9.row1 b1 oQ,b2,fun j v hj=> ?_⟩,sQ,by simp;omega,h.full,h.rr,hord⟩,f9,n9⟩;rw[bv_append]at hj;rcases Nat.lt_or_ge j done.length with hlt|hge
 ·rw[List.getElem?_append_left (by simpa using hlt)]at hj
  exact b3 j v hj
 ·rw[List.getElem?_append_right (by simpa using hge),bv_length]at hj
  have:=hx _ v hj;rw[show done.length+(j -done.length)=j by omega]at this;exact this
end
theorem lM(h:bQ)(d a b:Nat):copyN h d (a+b)=copyN (copyN h d a) d b:=by
 induction a generalizing h with
 |zero=>simp[copyN]
 |succ a ih=>rw[show a+1+b=(a+b)+1 by omega,copyN,ih];rfl
theorem vD(h:bQ)(d n:Nat):(copyN h d n).length=h.length+n:=by
 induction n generalizing h with
 |zero=>rfl
 |succ n ih=>rw[copyN,ih];simp;omega
def Per(h:bQ)(d a:Nat):Prop:=∀q,a<=q ->q+d<h.length ->h[q]? =h[q+d]?
theorem Per.many{h:bQ}{d a:Nat}(hp:Per h d a):∀{t q:Nat},a<=q ->q+d*t<h.length ->h[q]? =h[q+d*t]? :=by
 intro t
 induction t with
 |zero=>intro q _ _;rfl
 |succ t ih=>
  intro q hq hl;rw[Nat.mul_succ]at hl⊢;rw[ih hq oQ,hp (q+d*t) oQ oQ]
  congr 1;omega
theorem aW(h:bQ)(d:Nat):copyN h d 1=h++[h.getD (h.length -d) 0]:=rfl
theorem fH{h:bQ}{d a t:Nat}(hd:1<=d)(hp:Per h d a)(hl:h.length=a+d+d*t):∀k,k<=d+d*t ->copyN h d k=h++(h.drop a).take k
 |0,_ =>by simp[copyN]
 |k+1,hk=>by
  rw[lM,fH hd hp hl k oQ,aW,List.append_assoc]
  congr 1
  have hkl:k<(h.drop a).length:=by simp;omega
  rw[List.take_succ_eq_append_getElem hkl]
  congr 1
  have hlen:(h++(h.drop a).take k).length=h.length+k:=by simp;omega
  rw[hlen,List.getElem_drop];have hak:a+k<h.length:=oQ;have goal:(h++(h.drop a).take k)[h.length+k -d]? =some h[a+k]:=by
   rcases Nat.lt_or_ge k d with hkd|hkd
   ·rw[List.getElem?_append_left oQ]
    have e:h.length+k -d=(a+k)+d*t:=oQ;have:=hp.many (t:=t) (q:=a+k) oQ oQ;rw[e,<-this,List.getElem?_eq_getElem hak]
   ·rw[List.getElem?_append_right oQ,List.getElem?_take,if_pos oQ,List.getElem?_drop]
    have:=hp (a+(k -d)) oQ oQ;rw[show a+(h.length+k -d -h.length)=a+(k -d) by omega,this,show a+(k -d)+d=a+k by omega,List.getElem?_eq_getElem hak]
  simp[List.getD,goal]
theorem Per.copyN{h:bQ}{d a k:Nat}(hd:1<=d)(hp:Per h d a)(ha:a+d<=h.length):Per (Go.Proofs.copyN h d k) d a:=by
 induction k with
 |zero=>exact hp
 |succ k ih=>
  rw[lM,aW];generalize hg:Go.Proofs.copyN h d k=g at*;have hgl:g.length=h.length+k:=by rw[<-hg,vD]
  intro q hq hql;simp at hql;rcases Nat.lt_or_ge (q+d) g.length with h1|h1
  ·rw[List.getElem?_append_left oQ,List.getElem?_append_left h1]
   exact ih q hq h1
  ·have e:q+d=g.length:=oQ
   rw[e,List.getElem?_append_left oQ,List.getElem?_append_right oQ,Nat.sub_self];have:g.length -d=q:=oQ;simp[List.getD,this,List.getElem?_eq_getElem (show q<g.length by omega)]
theorem Per.start(h:bQ)(d:Nat)(hd:d<=h.length):Per h d (h.length -d):=fun q hq hl=>by omega
def Turns(d j n:Nat):Prop:=j=n\/∃t,j=d*t
theorem FlAt.c164{fb hb bb dist n:Nat}{F:Fl}{done:bQ}(h:FlAt w fb hb bb F done)(hd1:1<=dist)(hd:dist<=done.length)(hn1:1<=n)(hl:done.length+n<32768):
  CallT Pg 164 #[.pointer (some ⟨fb,0+1037,none⟩),.int .i64 dist,.int .i64 n] w fun v w'=>v= .int .i64 n/\FlAt w' fb hb bb {F with wr:=(done.length+n:Nat)} (copyN done dist n)/\Fr [fb,hb] w w'/\hn w'=hn w:=by
 obtain⟨arr,a1,a2⟩:=h.row;obtain⟨harr,b1,b2,b3⟩:=h.hrow;have hord:=h.ord;apply call164;unfold wp164 aQq wIq iQq;dsimp only;refine qC a1 (h.wrAt a2) ?_;have e1:wrap .i64 ((done.length:Int)+(n:Int))=((done.length+n:Nat):Int):=by rw[qA oQ oQ];omega
 have e2:wrap .i64 ((done.length:Int) -(dist:Int))=((done.length -dist:Nat):Int):=by rw[qA oQ oQ];omega
 rw[e1,e2];generalize ha:done.length -dist=a at*;refine qJ (fun _ w'=>w'=w) ?_ ?_
 ·rintro⟨⟩ w3 rfl
  refine qP (fun z w'=>Fr [hb] w3 w'/\hn w'=hn w3/\∃j:Nat,z.1=(done.length+j:Nat)/\j<=n/\Turns dist j n/\∃harr,hp w' hb=Row 5 harr/\harr.size=32768/\∀(i:Nat) (v:Value),(bv (copyN done dist j))[i]? =some v ->harr[i]? =some v) (fun z _ =>done.length+n -z.1.toNat)
   ⟨Fr.refl _ _,rfl,0,rfl,oQ,.inr ⟨0,rfl⟩,harr,b1,b2,b3⟩ ?_
  rintro⟨_,⟨⟩⟩ w6 ⟨F6,n6,j,rfl,hjn,hjt,harr6,c1,c2,c3⟩;dsimp only;have a6:=F6.row1 a1 oQ;refine qF (fun hlt=> ?_) (fun hge=> ?_)
  ·obtain⟨t,hjm⟩:∃t,j=dist*t:=by
    rcases hjt with h1|h1
    ·exact absurd h1 oQ
    ·exact h1
   refine qE fun w9 f9 n9=> ?_;have a9:=f9.row0 a6;have c9:=f9.row0 c1;refine qK a9 (h.histAt a2) ?_;refine⟨⟨oQ,oQ⟩,⟨oQ,oQ⟩,qK a9 (h.histAt a2) ?_⟩;refine⟨⟨oQ,oQ⟩,⟨oQ,oQ⟩,?_⟩;rw[Int.toNat_natCast,Int.toNat_natCast,Int.toNat_natCast,slAdd_one _ _ _ _ oQ,slAdd_one _ _ _ _ oQ,Nat.zero_add,Nat.zero_add];have hcl:(copyN done dist j).length=done.length+j:=vD _ _ _;have hsl:((copyN done dist j).drop a).length=dist+j:=by simp[hcl];omega
   have hsrc:Has w9 (some ⟨hb,a,none⟩) (bv ((copyN done dist j).drop a)):=by
    refine⟨rfl,5,harr6,c9,fun i v hi=> ?_⟩;have:=c3 (a+i) v (by simpa [bv,List.map_drop,List.getElem?_drop]using hi);exact this
   refine uG c9 oQ (m:=done.length+j -a) hsrc oQ oQ ?_;intro w17 arr17 h17 s17 j17 f17 n17;generalize hm:min (done.length+j -a) (done.length+n -(done.length+j))=m at*;have e3:wrap .i64 (((done.length+j:Nat):Int)+(m:Int))=((done.length+(j+m):Nat):Int):=by rw[qA oQ oQ];omega
   rw[e3];have hper:Per (copyN done dist j) dist a:=by
    have:=Per.start done dist hd;rw[ha]at this;exact this.copyN hd1 oQ
   have hblk:=fH (k:=m) (t:=t) hd1 hper oQ oQ;rw[<-lM]at hblk;refine⟨⟨F6.trans ((f9.mono sQ).trans f17),oQ,j+m,rfl,oQ,?_,arr17,h17,oQ,fun i v hi=> ?_⟩,oQ⟩
   ·rcases Nat.lt_or_ge (j+m) n with h1|h1
    ·exact .inr ⟨t+(1+t),by rw[Nat.mul_add,Nat.mul_add,Nat.mul_one];omega⟩
    ·exact .inl oQ
   ·rw[hblk,bv_append]at hi
    rw[j17 i]
    split
    ·rename_i hi2
     rw[List.getElem?_append_right (by rw[bv_length];omega),bv_length,hcl]at hi;simp only[bv,List.map_take,List.getElem?_take]at hi;rw[if_pos oQ]at hi;exact hi
    ·rename_i hi2
     rcases Nat.lt_or_ge i (done.length+j)with h1|h1
     ·rw[List.getElem?_append_left (by rw[bv_length];omega)]at hi
      exact c3 i v hi
     ·have:=(List.getElem?_eq_some_iff.1 hi).1
      simp[hcl]at this;omega
  ·have:j=n:=oQ
   subst this;refine nT a6 a2 fun w18 arr18 h18 hF18 f18 n18=>⟨?_,⟨⟨arr18,h18,hF18⟩,h.hist,⟨harr6,f18.row1 c1 oQ,c2,c3⟩,by simp[vD],by rw[vD];omega,h.full,h.rr,hord⟩,(F6.mono sQ).trans (f18.mono sQ),oQ⟩;rw[qA oQ oQ];refine congrArg (Value.int .i64) ?_;omega
 ·intro J hJ
  refine qF (fun hc=>absurd hc oQ) (fun _ =>qK a1 (h.histAt a2) ?_);exact qF (fun hc=>absurd hc oQ) (fun _ =>hJ _ _ rfl)
end
def wp154(x0:Value)(R:vPq)(w:wQ):Prop:=LdV w ⟨0,0,none⟩ fun a=>kX Pg 82 (.tmp 3) (.tmp 4) x0 a w fun b=>IfC b (LdV w ⟨1,0,none⟩ fun c=>R (c:Value) w) (R (x0:Value) w)
theorem call154{x0:Value}{R:vPq}{w:wQ}(h:wp154 x0 R w):CallT Pg 154 #[x0] w R:=cVq [] Tryz.func154 h
section
variable{w:wQ}
def xP(a:Addr):Value:= .iface 310 (.pointer (some a))
structure Er where
 n0:Nat
 ea:Addr
 ua:Addr
 es:ByteArray
 us:ByteArray
def ErrAt(w:wQ)(a:Addr)(s:ByteArray):Prop:=a.spot=none/\∃c T,w.heap[a.block]? =some (.cells c T (0,0))/\c[a.off]? =some (.string s)
structure Errs (w:wQ) (E:Er):Prop where
 eof:∃T,hp w 0=Row T #[xP E.ea]
 une:∃T,hp w 1=Row T #[xP E.ua]
 ne:E.ea≠E.ua
 et:ErrAt w E.ea E.es
 ut:ErrAt w E.ua E.us
 low:8<=E.n0/\E.ea.block<E.n0/\E.ua.block<E.n0
theorem wD{b:Nat}{o:Obj}(h:w.heap[b]? =some o):b<hn w:=(Array.getElem?_eq_some_iff.1 h).1
theorem ErrAt.fr{S:List Nat}{w':wQ}{a:Addr}{s:ByteArray}(h:ErrAt w a s)(hf:Fr S w w')(hS:a.block∉S):ErrAt w' a s:=by
 obtain⟨h0,c,T,h1,h2⟩:=h;exact⟨h0,c,T,by rw[hf.raw _ (wD h1) hS];exact h1,h2⟩
theorem Errs.fr{S:List Nat}{w':wQ}{E:Er}(h:Errs w E)(hf:Fr S w w')(hS:∀x∈S,E.n0<=x):Errs w' E:=by
 have hl:=h.low;have no:∀b,b<E.n0 ->b∉S:=fun b hb hx=>by have:=hS b hx;omega
 obtain⟨T,h1⟩:=h.eof;obtain⟨T',h2⟩:=h.une;exact⟨⟨T,hf.row h1 (no _ oQ)⟩,⟨T',hf.row h2 (no _ oQ)⟩,h.ne,h.et.fr hf (no _ hl.2.1),h.ut.fr hf (no _ hl.2.2),hl⟩
def isIfc(P:Program)(t:TypeId):Bool:=match P.underlying t with|some (.interface _)=>true|_ =>false
def isCmp(P:Program)(t:TypeId):Bool:=match P.info? t with|some i=>i.comparable|none=>false
def isBig(P:Program)(t:TypeId):Bool:=match P.info? t with|some i=>Nat.blt 0 i.size|none=>false
theorem qHm:isIfc Pg 82=true:=by kernel_rfl
theorem qFa:isCmp Pg 310=true:=by kernel_rfl
theorem qEz:isBig Pg 348=true:=by kernel_rfl
theorem u82:∃ms,Pg.underlying 82=some (.interface ms):=by
 have h:=qHm;unfold isIfc at h
 split at h
 ·exact⟨_,by assumption⟩
 ·cases h
theorem u310:Pg.underlying 310=some (.pointer 348):=by kernel_rfl
theorem i310:∃i,Pg.info? 310=some i/\i.comparable=true:=by
 have h:=qFa;unfold isCmp at h
 split at h
 ·exact⟨_,by assumption,h⟩
 ·cases h
theorem i348:∃i,Pg.info? 348=some i/\i.size≠0:=by
 have h:=qEz;unfold isBig at h
 split at h
 ·exact⟨_,by assumption,by simp at h;omega⟩
 ·cases h
theorem mP(a:Addr):(xP a).oneCell'=true:=rfl
theorem kN{x y:Operand}{a:Addr}{K:Bool ->Prop}(h:K true):kX Pg 82 x y (xP a) (xP a) w K:=by
 obtain⟨ms,hi⟩:=u82;obtain⟨i,hinfo,hc⟩:=i310;obtain⟨j,hte,_⟩:=i348;refine⟨true,?_,h⟩;have:=run_equalIn_iface_ptr_same w 9998 a hi u310 hinfo hc hte;simp[eqGuard,xP,Op.equal,Op.maxDepth,this]
theorem lP{x y:Operand}{a b:Addr}{s t:ByteArray}{K:Bool ->Prop}(hne:a≠b)(ha:ErrAt w a s)(hb:ErrAt w b t)(h:K false):kX Pg 82 x y (xP a) (xP b) w K:=by
 obtain⟨ms,hi⟩:=u82;obtain⟨i,hinfo,hc⟩:=i310;obtain⟨j,hte,hsz⟩:=i348;obtain⟨_,ca,ta,h1,_⟩:=ha;obtain⟨_,cb,tb,h2,_⟩:=hb;refine⟨false,?_,h⟩;have:=run_equalIn_iface_ptr_other w 9998 hi u310 hinfo hc hte hsz hne h1 h2;simp[eqGuard,xP,Op.equal,Op.maxDepth,this]
theorem mO{x y:Operand}{a:Addr}{t:TypeId}{v:Value}{K:Bool ->Prop}(ht:t≠310)(h:K false):kX Pg 82 x y (.iface t v) (xP a) w K:=by
 obtain⟨ms,hi⟩:=u82;refine⟨false,?_,h⟩;have:∀d:Nat,(Op.equalIn (d+1) 82 (.iface t v) (.iface 310 (.pointer (some a)))).run Pg w= .ok false w:=fun d=>by simp[Op.equalIn,run_underlying hi,ht]
 simp[eqGuard,xP,Op.equal,Op.maxDepth,this 9999]
def ECl(E:Er)(t:Bool)(v:Value):Prop:=match t with|true=>Refuse 125 v|false=>v=xP E.ea\/v=xP E.ua
theorem ECl.if{E:Er}{t:Bool}{v:Value}(h:ECl E t v):∃T u,v= .iface T u:=by
 cases t with
 |true=>obtain⟨s,rfl,_⟩:=h;exact⟨_,_,rfl⟩
 |false=>rcases h with rfl|rfl<;>exact⟨_,_,rfl⟩
theorem ECl.one{E:Er}{t:Bool}{v:Value}(h:ECl E t v):v.oneCell'=true:=by
 cases t with
 |true=>obtain⟨s,rfl,_⟩:=h;rfl
 |false=>rcases h with rfl|rfl<;>rfl
theorem ECl.nil{E:Er}{t:Bool}{v:Value}(h:ECl E t v){K:Bool ->Prop}(hK:K false):xR v K:=by
 obtain⟨T,u,rfl⟩:=h.if;exact yA hK
theorem ECl.eqEof{E:Er}{t:Bool}{v:Value}(h:ECl E t v)(hE:Errs w E){x y:Operand}{K:Bool ->Prop}(h1:v=xP E.ea ->K true)(h2:v≠xP E.ea ->K false):kX Pg 82 x y v (xP E.ea) w K:=by
 by_cases he:v=xP E.ea
 ·subst he;exact kN (h1 rfl)
 ·cases t with
  |true=>obtain⟨s,rfl,_⟩:=h;exact mO dQ (h2 he)
  |false=>
   rcases h with rfl|rfl
   ·exact absurd rfl he
   ·exact lP (fun e=>hE.ne e.symm) hE.ut hE.et (h2 he)
theorem c154{E:Er}{t:Bool}{v:Value}(h:ECl E t v)(hE:Errs w E):CallT Pg 154 #[v] w fun v' w'=>ECl E t v'/\v'≠xP E.ea/\w'=w:=by
 apply call154;unfold wp154;obtain⟨T,he⟩:=hE.eof;refine qT he rfl (h.eqEof hE (fun hv=>xA ?_) (fun hn=>qM ⟨h,hn,rfl⟩));obtain⟨T',hu⟩:=hE.une;refine qT hu rfl ⟨?_,fun e=>hE.ne (by simpa [xP]using e.symm),rfl⟩;subst hv
 cases t with
 |true=>obtain⟨s,hs⟩:=h;simp[xP]at hs
 |false=>exact .inr rfl
theorem c189_end{rb:Nat}{p:pQ}{E:Er}(hr:RdAt w rb p [])(hE:Errs w E){x1:pQ}{n cap:Nat}:
  CallT Pg 189 #[.pointer (some ⟨rb,0,none⟩),.slice x1 n cap] w fun v w'=>v= .tuple #[.int .i64 (0:Nat),xP E.ea]/\Fr [] w w'/\hn w'=hn w:=by
 obtain⟨l,c,pos,pr,xs,h1,hx,hl,hlc,hb,hpos,hnil⟩:=hr;have hge:l<=pos:=by
  rcases Nat.lt_or_ge pos l with h|h
  ·have:=congrArg List.length hnil
   simp at this;omega
  ·exact h
 apply call189;unfold wp189 aQq wIq iQq;dsimp only;refine qE fun w1 f1 n1=> ?_;have h1':=f1.row0 h1;refine qC h1' rfl (qK h1' rfl (qF (fun _ => ?_) (fun h=>absurd oQ h)));refine qE fun w6 f6 n6=> ?_;obtain⟨T,he⟩:=hE.eof;exact qT (f6.row0 (f1.row0 he)) rfl ⟨rfl,f1.trans f6,oQ⟩
theorem c71_short{rb g o:Nat}{p:pQ}{rs:bQ}{T:TypeId}{arr:vQ}{E:Er}(hr:RdAt w rb p rs)(hE:Errs w E)(hlo:E.n0<=rb/\E.n0<=g)(hg:hp w g=Row T arr){n cap:Nat}(ho:o+n<=arr.size)(hrg:rb≠g)(hpg:∀a,p=some a ->a.block≠g)(hpr:∀a,p=some a ->a.block≠rb)(hnl:rs.length<n)(hnb:n<1099511627776)(hnc:n<=cap):
  CallT Pg 71 #[.iface 85 (.pointer (some ⟨rb,0,none⟩)),.slice (some ⟨g,o,none⟩) n cap] w fun v w'=>∃e,v= .tuple #[.int .i64 rs.length,e]/\ECl E false e/\Fr [rb,g] w w'/\hn w'=hn w/\RdAt w' rb p []/\∃arr',hp w' g=Row T arr'/\Put arr o (bv rs) arr':=by
 apply call71;unfold wp71 iQq;refine CallT.mono (R:=fun v w'=>∃e,v= .tuple #[.int .i64 rs.length,e]/\ECl E false e/\Fr [rb,g] w w'/\hn w'=hn w/\RdAt w' rb p []/\∃arr',hp w' g=Row T arr'/\Put arr o (bv rs) arr') ?_ ?_
 ·apply call91
  unfold wp91 wIq iQq;refine qF (fun h=>absurd h oQ) (fun _ => ?_);refine qJ (fun z w'=>z=((rs.length:Int),xP E.ea,())/\Fr [rb,g] w w'/\hn w'=hn w/\RdAt w' rb p []/\∃arr',hp w' g=Row T arr'/\Put arr o (bv rs) arr') ?_ ?_
  ·rintro z w' ⟨rfl,F,nn,hR,hP⟩
   have hE':=hE.fr F (by simp;omega);refine qF (fun h=>absurd h (by dsimp only;omega)) (fun _ =>qF (fun h=> ?_) (fun h=> ?_))
   ·obtain⟨T0,he⟩:=hE'.eof
    obtain⟨T1,hu⟩:=hE'.une;refine qT he rfl (kN (xA (qT hu rfl ⟨_,rfl,.inr rfl,F,nn,hR,hP⟩)))
   ·exact⟨_,rfl,.inl rfl,F,nn,hR,hP⟩
  ·intro J hJ
   refine qP (fun z w'=>(rs≠[]/\z=((0:Int),.nilIface,())/\w'=w)\/(z=((rs.length:Int),.nilIface,())/\Fr [rb,g] w w'/\hn w'=hn w/\RdAt w' rb p []/\∃arr',hp w' g=Row T arr'/\Put arr o (bv rs) arr')\/
    (z=((rs.length:Int),xP E.ea,())/\Fr [rb,g] w w'/\hn w'=hn w/\RdAt w' rb p []/\∃arr',hp w' g=Row T arr'/\Put arr o (bv rs) arr')) (fun z _ =>(match z.2.1 with| .nilIface=>n+1|_ =>0) -z.1.toNat) ?_ ?_
   ·cases rs with
    |nil=>exact .inr (.inl ⟨rfl,Fr.refl _ _,rfl,hr,arr,hg,⟨rfl,fun j=>by rw[if_neg sQ]⟩⟩)
    |cons=>exact .inl ⟨sQ,rfl,rfl⟩
   ·rintro z w' (⟨hne,rfl,rfl⟩|⟨rfl,F,nn,hR,hP⟩|⟨rfl,F,nn,hR,hP⟩)
    ·have hr1:0<rs.length:=by
      cases rs with
      |nil=>exact absurd rfl hne
      |cons=>simp
     refine qJ (fun z w''=>w''=w') ?_ ?_
     ·rintro⟨⟩ _ rfl
      refine qE fun w1 f1 n1=>⟨⟨oQ,oQ⟩,_,_,rfl,rfl,85,.pointer (some ⟨rb,0,none⟩),189,.pointer (some ⟨rb,0,none⟩),rfl,rfl,?_⟩;show CallT Pg 189 #[.pointer (some ⟨rb,0,none⟩),.slice (qQ (some ⟨g,o,none⟩) cap 0 1) n cap] w1 _;rw[vX];refine CallT.mono (c189 (hr.fr f1 sQ sQ) (f1.row0 hg) ho hrg hpg hpr hne) ?_;rintro _ w2 ⟨rfl,hr2,f2,n2,arr',hg2,hp2⟩;have hmin:min rs.length n=rs.length:=oQ;rw[hmin];rw[List.drop_eq_nil_of_le oQ]at hr2;rw[List.take_of_length_le oQ]at hp2;refine⟨_,_,rfl,.inr (.inl ⟨?_,(f1.mono sQ).trans f2,oQ,hr2,arr',hg2,hp2⟩),?_⟩
      ·rw[qA oQ oQ];simp
      ·rw[qA oQ oQ];simp;omega
     ·intro J' hJ'
      refine qF (fun _ =>qR (xA (hJ' _ _ rfl))) (fun h=>absurd h (by dsimp only;omega))
    ·have hE':=hE.fr F (by simp;omega)
     refine qJ (fun z w''=>w''=w') ?_ ?_
     ·rintro⟨⟩ _ rfl
      refine qE fun w1 f1 n1=>⟨⟨by dsimp only;omega,by dsimp only;omega⟩,_,_,rfl,rfl,85,.pointer (some ⟨rb,0,none⟩),189,.pointer (some ⟨rb,0,none⟩),rfl,rfl,?_⟩;refine CallT.mono (c189_end (hR.fr f1 sQ sQ) (hE'.fr f1 sQ)) ?_;rintro _ w2 ⟨rfl,f2,n2⟩;obtain⟨arr',hg2,hp2⟩:=hP;refine⟨_,_,rfl,.inr (.inr ⟨?_,F.trans ((f1.trans f2).mono sQ),oQ,(hR.fr f1 sQ sQ).fr f2 sQ sQ,arr',f2.row0 (f1.row0 hg2),hp2⟩),?_⟩
      ·dsimp only
       rw[qA oQ oQ];simp
      ·simp[xP];omega
     ·intro J' hJ'
      refine qF (fun _ =>qR (xA (hJ' _ _ rfl))) (fun h=>absurd h (by dsimp only;omega))
    ·refine qJ (fun _ _ =>False) (fun _ _ h=>h.elim) ?_
     intro J' hJ';refine qF (fun _ =>yA (qM ?_)) (fun h=>absurd h (by dsimp only;omega));exact hJ _ _ ⟨rfl,F,nn,hR,hP⟩
 ·rintro _ w' ⟨e,rfl,h⟩
  exact⟨_,_,rfl,e,rfl,h⟩
end
section
variable{w:wQ}
def dM(t:Bool)(s:Nat×Nat×bQ):Prop:=
 (t=false/\s.2.2=[]/\0<s.1)\/(s.1=0/\((t=false/\s.2.2.length<4)\/(t=true/\4<=s.2.2.length/\be4 s.2.2 0≠s.2.1)\/
  (t=false/\4<=s.2.2.length/\be4 s.2.2 0=s.2.1/\s.2.2.length<12)\/(t=true/\12<=s.2.2.length/\be4 s.2.2 0=s.2.1/\(s.2.2.drop 8).take 4≠nIDAT)))
def DW(w:wQ)(db rb kb:Nat)(p:pQ)(d:Dec):Prop:=∃dd crc rs,SameD d dd/\Dst w db rb kb p dd crc rs
theorem DW.fr{S:List Nat}{w':wQ}{db rb kb:Nat}{p:pQ}{d:Dec}(h:DW w db rb kb p d)(hf:Fr S w w')(hS:∀x∈S,db<x):DW w' db rb kb p d:=by
 obtain⟨dd,crc,rs,h1,h2⟩:=h;exact⟨dd,crc,rs,h1,h2.fr hf hS⟩
theorem DW.fr0{w':wQ}{db rb kb:Nat}{p:pQ}{d:Dec}(h:DW w db rb kb p d)(hf:Fr [] w w'):DW w' db rb kb p d:=h.fr hf sQ
theorem DW.of{db rb kb:Nat}{p:pQ}{d dd:Dec}{crc:Nat}{rs:bQ}(h:Dst w db rb kb p dd crc rs)(hs:SameD d dd):DW w db rb kb p d:=⟨dd,crc,rs,hs,h⟩
namespace Dst
variable{db rb kb crc:Nat}{p:pQ}{d:Dec}{rs:bQ}{E:Er}
theorem readShort(h:Dst w db rb kb p d crc rs)(hE:Errs w E)(hlo:E.n0<=rb){n:Nat}(hm:n<=768)(hnl:rs.length<n):
  CallT Pg 71 #[d.rd,.slice (some ⟨db,0+10,none⟩) n 768] w fun v w'=>∃e,v= .tuple #[.int .i64 rs.length,e]/\ECl E false e/\Dst w' db rb kb p {d with tmp:=rs++d.tmp.drop rs.length} crc []/\Fr [rb,db] w w'/\hn w'=hn w:=by
 have hne:=h.ne;have hsz:=d.size;have h1:=h.htmp;have h2:=h.htr
 suffices H:∀u,u= .iface 85 (.pointer (some ⟨rb,0,none⟩)) ->CallT Pg 71 #[u,.slice (some ⟨db,0+10,none⟩) n 768] w fun v w'=>∃e,v= .tuple #[.int .i64 rs.length,e]/\ECl E false e/\Dst w' db rb kb p {d with tmp:=rs++d.tmp.drop rs.length} crc []/\Fr [rb,db] w w'/\hn w'=hn w from H _ h.rd
 rintro _ rfl;refine CallT.mono (c71_short (o:=10) h.at_ hE oQ h.dec oQ oQ (fun a ha=>by have:=hne.2.1 a ha;omega) (fun a ha=>by have:=hne.2.1 a ha;omega) hnl oQ hm) ?_;rintro _ w' ⟨e,rfl,he,hf,hn',hr,arr',hd,hp⟩;have e:=Dec.put hp oQ;subst e;exact⟨_,rfl,he,⟨hd,by simp;omega,h2,h.rd,h.ck,hr,hf.row h.sum (by simp;omega),h.crc32,h.tab.fr hf (by simp;omega),h.ne⟩,hf,hn'⟩
theorem c81_short(h:Dst w db rb kb p d crc rs)(hE:Errs w E)(hlo:E.n0<=rb)(hl:rs.length<4):
  CallT Pg 81 #[.pointer (some ⟨db,0,none⟩)] w fun v w'=>ECl E false v/\Dst w' db rb kb p {d with tmp:=rs++d.tmp.drop rs.length} crc []/\Fr [rb,db] w w'/\hn w'=hn w:=by
 apply call81;unfold wp81 aQq iQq;refine qE fun w1 f1 n1=> ?_;have h:=h.fr0 f1;refine qT h.dec d.at0 ⟨⟨dQ,dQ⟩,?_⟩;refine CallT.mono (h.readShort (hE.fr f1 sQ) hlo (n:=4) dQ hl) ?_;rintro _ w4 ⟨e,rfl,he,h4,f4,n4⟩;exact⟨_,_,rfl,he.nil (xA ⟨he,h4,(f1.mono sQ).trans f4,oQ⟩)⟩
theorem shortR(h:Dst w db rb kb p d crc rs)(hE:Errs w E)(hlo:E.n0<=rb){n:Nat}(hm:n<=768)(hnl:rs.length<n):rO w rb db d.rd n fun v _ =>ECl E false v:=by
 intro w1 f1;refine CallT.mono ((h.fr0 f1).readShort (hE.fr f1 sQ) hlo hm hnl) ?_;rintro _ w4 ⟨e,rfl,he,_,f4,n4⟩;exact⟨_,e,rfl,fun K hK=>he.nil hK,f4,n4,he⟩
theorem c193_bad{k g o n cap:Nat}{t:Bool}{T:TypeId}{arr:vQ}{s:Nat×Nat×bQ}(h:Dst w db rb kb p d crc rs)(hk:d.idat=k)(hk32:k<4294967296)(hF:Flow k crc rs [] s)(hB:dM t s)(hE:Errs w E)(hlo:E.n0<=rb)
  (hg:hp w g=Row T arr)(hdg:db<g)(hn0:0<n)(hnb:n<1099511627776)(hnc:n<=cap):
  CallT Pg 193 #[.pointer (some ⟨db,0,none⟩),.slice (some ⟨g,o,none⟩) n cap] w fun v w'=>∃e,v= .tuple #[.int .i64 (0:Nat),e]/\ECl E t e/\Fr [rb,kb,db] w w'/\hn w'=hn w/\∃d' crc' rs',SameD d d'/\Dst w' db rb kb p d' crc' rs':=by
 have hne:=h.ne;apply call193;unfold wp193 aQq wIq iQq;refine qW (fun e=>absurd e oQ) (fun _ => ?_);refine qP (fun _ w'=>Fr [rb,kb,db] w w'/\hn w'=hn w/\∃d' k' crc' rs',SameD d d'/\Dst w' db rb kb p d' crc' rs'/\d'.idat=(k':Nat)/\k'<4294967296/\Flow k' crc' rs' [] s) (fun _ w'=>left w' rb) ⟨Fr.refl _ _,rfl,d,k,crc,rs,SameD.refl d,h,hk,hk32,hF⟩ ?_;rintro⟨⟩ w2 ⟨F2,n2,d2,k2,crc2,rs2,hsd,D2,hk2,hk232,hF2⟩;have E2:=hE.fr F2 (by simp;omega);refine qC D2.dec (Dec.at9 _) ?_;rw[hk2]
 cases hF2 with
 |next hpos h12 hb4 hnm hF3=>
  refine qW (fun _ => ?_) (fun e=>absurd rfl e);refine CallT.mono (D2.c81 oQ) ?_;rintro _ w7 ⟨hv,D7,f7,n7⟩;rw[if_pos hb4]at hv;subst hv;refine⟨_,rfl,qR (qM ?_)⟩;refine qE fun w10 f10 n10=> ?_;have D10:=D7.fr0 f10;refine qT D10.dec (Dec.at0 _) ⟨⟨dQ,dQ⟩,?_⟩;refine CallT.mono (D10.read (n:=8) dQ dQ (by simp;omega)) ?_;rintro _ w13 ⟨rfl,D13,f13,n13⟩;refine⟨_,_,rfl,qR (qM ⟨⟨dQ,dQ⟩,?_⟩)⟩;refine CallT.mono (D13.be4r (o:=0) rfl dQ dQ) ?_;rintro _ w18 ⟨rfl,f18,n18⟩;have D18:=D13.fr0 f18;refine⟨_,rfl,?_⟩;have ht8:((rs2.drop 4).take 8).length=8:=by simp;omega
  have e4:be4 ((rs2.drop 4).take 8++(rs2.take 4++d2.tmp.drop 4).drop 8) 0=be4 rs2 4:=by
   rw[yH oQ,vP oQ];simp[be4,gb,List.getD,List.getElem?_drop]
  dsimp only;rw[e4];refine qD D18.dec (by show 0+9<_;rw[Dec.size,D18.htmp,D18.htr];decide) fun w20 h20 f20 n20=> ?_;have D20:=D18.upd (d':={d2 with tmp:=(rs2.drop 4).take 8++(rs2.take 4++d2.tmp.drop 4).drop 8,idat:=be4 rs2 4}) f20 (h20.trans (congrArg (Row 119) (Dec.set9 _ _))) rfl rfl D18.htmp D18.htr;have enm:(((rs2.drop 4).take 8++(rs2.take 4++d2.tmp.drop 4).drop 8).drop 4).take 4=nIDAT:=by
   rw[List.drop_append_of_le_length oQ,List.take_append_of_le_length (by simp;omega),<-hnm,List.drop_take,List.take_take,List.drop_drop]
   rfl
  have hnb2:=Dec.has _ D20.dec 4 4;rw[enm]at hnb2;refine⟨⟨dQ,dQ⟩,⟨dQ,dQ⟩,rM hnb2 rfl ?_⟩;rw[show vK ⟨nIDAT.toArray⟩ ⟨#[73,68,65,84]⟩=true from(uH nIDAT nIDAT).trans sQ];refine qM ?_;refine zZ D20.dec ((Dec.at2 _).trans (congrArg some D20.ck)) ?_;refine CallT.mono (c73 D20.sum) ?_;rintro _ w24 ⟨rfl,hk24,f24,n24⟩;have D24:Dst w24 db rb kb p {d2 with tmp:=(rs2.drop 4).take 8++(rs2.take 4++d2.tmp.drop 4).drop 8,idat:=be4 rs2 4} 0 ((rs2.drop 4).drop 8):=
   ⟨f24.row1 D20.dec oQ,D20.htmp,D20.htr,D20.rd,D20.ck,D20.at_.fr f24 (by simp;omega) (fun a ha=>by have:=hne.2.1 a ha;simp;omega),hk24,dQ,D20.tab.fr f24 (by simp;omega),hne⟩
  refine⟨rfl,qE fun w25 f25 n25=> ?_⟩;have D25:=D24.fr0 f25;refine zZ D25.dec ((Dec.at2 _).trans (congrArg some D25.ck)) ⟨⟨dQ,dQ⟩,⟨dQ,dQ⟩,?_⟩;refine CallT.mono (D25.sums (o:=4) (n:=4) rfl dQ) ?_;rintro _ w28 ⟨rfl,D28,f28,n28⟩;have enm':((({d2 with tmp:=(rs2.drop 4).take 8++(rs2.take 4++d2.tmp.drop 4).drop 8,idat:=be4 rs2 4}:Dec).tmp.drop 4).take 4)=nIDAT:=enm;rw[enm',List.drop_drop]at D28;refine⟨_,_,rfl,?_⟩;have hl2:=D2.at_.left_eq;have hl28:=D28.at_.left_eq;refine⟨⟨F2.trans ((f7.mono sQ).trans ((f10.mono sQ).trans ((f13.mono sQ).trans ((f18.mono sQ).trans ((f20.mono sQ).trans ((f24.mono sQ).trans ((f25.mono sQ).trans (f28.mono sQ)))))))),oQ,_,be4 rs2 4,_,_,hsd.trans ⟨_,_,rfl⟩,D28,rfl,iB _ _,hF3⟩,?_⟩;rw[hl2,hl28,List.length_drop];omega
 |done=>
  rcases hB with⟨rfl,hnil,hk0⟩|⟨hk0,hB⟩
  ·
   dsimp only at hnil hk0;subst hnil;refine qW (fun e=>absurd e oQ) (fun _ => ?_);refine qC D2.dec (Dec.at9 _) ?_;rw[hk2,qA (n:=(k2:Int)) oQ oQ];refine qF (fun h=>absurd h oQ) (fun _ => ?_);refine qE fun w32 f32 n32=> ?_;have D32:=D2.fr0 f32;refine qT D32.dec (Dec.at0 _) (qC D32.dec (Dec.at9 _) ?_);rw[hk2,qA (n:=(k2:Int)) oQ oQ,kT,Int.toNat_natCast];refine⟨⟨oQ,oQ⟩,?_⟩;rw[D32.rd];show vG _ _ _ _ _ _ _;refine⟨85,.pointer (some ⟨rb,0,none⟩),189,.pointer (some ⟨rb,0,none⟩),rfl,rfl,?_⟩;show CallT Pg 189 #[.pointer (some ⟨rb,0,none⟩),.slice (some ⟨g,o,none⟩) (min n k2) cap] w32 _;refine CallT.mono (c189_end D32.at_ (E2.fr f32 sQ)) ?_;rintro _ w37 ⟨rfl,f37,n37⟩;have D37:=D32.fr0 f37;refine⟨_,_,rfl,qE fun w40 f40 n40=> ?_⟩;have D40:=D37.fr0 f40;refine zZ D40.dec ((Dec.at2 _).trans (congrArg some D40.ck)) ⟨⟨oQ,oQ⟩,?_⟩;rw[Int.toNat_natCast];have hhas:Has w40 (some ⟨g,o,none⟩) (bv []):=⟨rfl,T,arr,f40.row0 (f37.row0 (f32.row0 (F2.row hg (by simp;omega)))),fun j v hj=>by simp at hj⟩;refine CallT.mono (c74 (l:=0) D40.sum D40.crc32 D40.tab hhas rfl dQ) ?_;rintro _ w43 ⟨rfl,hk43,f43,n43⟩;have D43:Dst w43 db rb kb p d2 (zR crc2 []) []:=
    ⟨f43.row1 D40.dec oQ,D40.htmp,D40.htr,D40.rd,D40.ck,D40.at_.fr f43 (by simp;omega) (fun a ha=>by have:=hne.2.1 a ha;simp;omega),hk43,iF D40.crc32 _,D40.tab.fr f43 (by simp;omega),hne⟩
   refine⟨_,_,rfl,qC D43.dec (Dec.at9 _) ?_⟩;refine qD D43.dec (by show 0+9<_;rw[Dec.size,D43.htmp,D43.htr];decide) fun w47 h47 f47 n47=> ?_;have D47:=D43.upd (d':={d2 with idat:=wrap .u32 (d2.idat -wrap .u32 ((0:Nat):Int))}) f47 (h47.trans (congrArg (Row 119) (Dec.set9 _ _))) rfl rfl D43.htmp D43.htr;refine⟨_,rfl,.inl rfl,?_,oQ,_,_,_,hsd.trans ⟨_,_,rfl⟩,D47⟩;exact F2.trans ((f32.mono sQ).trans ((f37.mono sQ).trans ((f40.mono sQ).trans ((f43.mono sQ).trans (f47.mono sQ)))))
  ·dsimp only at hk0 hB
   subst hk0;refine qW (fun _ => ?_) (fun e=>absurd rfl e);rcases hB with⟨rfl,hs4⟩|⟨rfl,h4,hsum⟩|⟨rfl,h4,hsum,h12⟩|⟨rfl,h12,hsum,hnm⟩
   ·refine CallT.mono (D2.c81_short E2 hlo hs4) ?_
    rintro v w7 ⟨he,D7,f7,n7⟩;exact⟨_,rfl,he.nil (xA ⟨_,rfl,he,F2.trans (f7.mono sQ),oQ,_,_,_,hsd.trans ⟨_,_,rfl⟩,D7⟩)⟩
   ·refine CallT.mono (D2.c81 h4) ?_
    rintro v w7 ⟨hv,D7,f7,n7⟩;rw[if_neg hsum]at hv;have he:ECl E true v:=hv;exact⟨_,rfl,he.nil (xA ⟨_,rfl,he,F2.trans (f7.mono sQ),oQ,_,_,_,hsd.trans ⟨_,_,rfl⟩,D7⟩)⟩
   ·refine CallT.mono (D2.c81 h4) ?_
    rintro v w7 ⟨hv,D7,f7,n7⟩;rw[if_pos hsum]at hv;subst hv;refine⟨_,rfl,qR (qM ?_)⟩;refine qE fun w10 f10 n10=> ?_;have D10:=D7.fr0 f10;refine qT D10.dec (Dec.at0 _) ⟨⟨dQ,dQ⟩,?_⟩;refine CallT.mono (D10.readShort ((E2.fr f7 (by simp;omega)).fr f10 sQ) hlo (n:=8) dQ (by simp;omega)) ?_;rintro _ w13 ⟨e,rfl,he,D13,f13,n13⟩;refine⟨_,_,rfl,he.nil (xA ⟨_,rfl,he,?_,oQ,_,_,_,hsd.trans ⟨_,_,rfl⟩,D13⟩)⟩;exact F2.trans ((f7.mono sQ).trans ((f10.mono sQ).trans (f13.mono sQ)))
   ·refine CallT.mono (D2.c81 oQ) ?_
    rintro v w7 ⟨hv,D7,f7,n7⟩;rw[if_pos hsum]at hv;subst hv;refine⟨_,rfl,qR (qM ?_)⟩;refine qE fun w10 f10 n10=> ?_;have D10:=D7.fr0 f10;refine qT D10.dec (Dec.at0 _) ⟨⟨dQ,dQ⟩,?_⟩;refine CallT.mono (D10.read (n:=8) dQ dQ (by simp;omega)) ?_;rintro _ w13 ⟨rfl,D13,f13,n13⟩;refine⟨_,_,rfl,qR (qM ⟨⟨dQ,dQ⟩,?_⟩)⟩;refine CallT.mono (D13.be4r (o:=0) rfl dQ dQ) ?_;rintro _ w18 ⟨rfl,f18,n18⟩;have D18:=D13.fr0 f18;refine⟨_,rfl,?_⟩;dsimp only;refine qD D18.dec (by show 0+9<_;rw[Dec.size,D18.htmp,D18.htr];decide) fun w20 h20 f20 n20=> ?_;have D20:=D18.upd (d':={d2 with tmp:=(rs2.drop 4).take 8++(rs2.take 4++d2.tmp.drop 4).drop 8,idat:=be4 ((rs2.drop 4).take 8++(rs2.take 4++d2.tmp.drop 4).drop 8) 0}) f20 (h20.trans (congrArg (Row 119) (Dec.set9 _ _))) rfl rfl D18.htmp D18.htr;have ht8:((rs2.drop 4).take 8).length=8:=by simp;omega
    have enm:(((rs2.drop 4).take 8++(rs2.take 4++d2.tmp.drop 4).drop 8).drop 4).take 4=(rs2.drop 8).take 4:=by
     rw[List.drop_append_of_le_length oQ,List.take_append_of_le_length (by simp;omega),List.drop_take,List.take_take,List.drop_drop]
     rfl
    have hnb2:=Dec.has _ D20.dec 4 4;rw[enm]at hnb2;refine⟨⟨dQ,dQ⟩,⟨dQ,dQ⟩,rM hnb2 (by simp;omega) ?_⟩;rw[show vK ⟨((rs2.drop 8).take 4).toArray⟩ ⟨#[73,68,65,84]⟩=false from(uH _ nIDAT).trans (by simpa using hnm)];refine xA ⟨_,rfl,⟨_,rfl,fun _ =>by decide⟩,?_,oQ,_,_,_,hsd.trans ⟨_,_,rfl⟩,D20⟩;exact F2.trans ((f7.mono sQ).trans ((f10.mono sQ).trans ((f13.mono sQ).trans ((f18.mono sQ).trans (f20.mono sQ)))))
end Dst
end
section
variable{w:wQ}
def jM(gb db:Nat)(r e:Int)(err:Value)(lb lr:Int):vQ:= #[.slice (some ⟨gb,0,none⟩) 4096 4096,.iface 110 (.pointer (some ⟨db,0,none⟩)),.int .i64 r,.int .i64 e,err,.int .i64 lb,.int .i64 lr]
theorem c254e{bb gb db:Nat}{r e lb lr:Int}{err:Value}(hB:hp w bb=Row 293 (jM gb db r e err lb lr)):CallT Pg 254 #[.pointer (some ⟨bb,0,none⟩)] w fun v w'=>v=err/\Fr [bb] w w'/\hn w'=hn w:=by
 apply call254;unfold wp254 aQq;dsimp only;refine qT hB rfl (qD hB (by simp[jM]) fun w2 h2 f2 n2=>⟨rfl,f2,n2⟩)
section
variable{bb gb db rb kb:Nat}{p:pQ}{d:Dec}{zs ys:bQ}{s:Nat×Nat×bQ}{E:Er}{t:Bool}
structure SrcX (w:wQ) (bb gb db rb kb:Nat) (p:pQ) (d:Dec) (t:Bool) (s:Nat×Nat×bQ):Prop where
 buf:∃(r:Nat) (lb lr:Int) (arr:vQ),hp w bb=Row 293 (xL gb db r r lb lr)/\hp w gb=Row 5 arr/\arr.size=4096/\r<=4096
 dec:∃(dd:Dec) (k crc:Nat) (rs:bQ),SameD d dd/\Dst w db rb kb p dd crc rs/\dd.idat=(k:Nat)/\k<4294967296/\Flow k crc rs [] s/\dM t s
 ord:db<bb/\bb<gb
theorem SrcX.fr0{w':wQ}(h:SrcX w bb gb db rb kb p d t s)(hf:Fr [] w w'):SrcX w' bb gb db rb kb p d t s:=by
 obtain⟨r,lb,lr,arr,h1,h2,h3⟩:=h.buf;obtain⟨dd,k,crc,rs,e1,e2,e3⟩:=h.dec;exact⟨⟨r,lb,lr,arr,hf.row0 h1,hf.row0 h2,h3⟩,⟨dd,k,crc,rs,e1,e2.fr0 hf,e3⟩,h.ord⟩
theorem SrcX.c252(h:SrcX w bb gb db rb kb p d t s)(hE:Errs w E)(hlo:E.n0<=rb):
  CallT Pg 252 #[.pointer (some ⟨bb,0,none⟩)] w fun v w'=>v= .tuple #[]/\Fr [rb,kb,db,bb,gb] w w'/\hn w'=hn w/\DW w' db rb kb p d/\∃e lb lr,ECl E t e/\hp w' bb=Row 293 (jM gb db 0 0 e lb lr):=by
 obtain⟨r,lb,lr,arr,hB,hG,hsz,hr4⟩:=h.buf;obtain⟨dd,k,crc,rs,hsd,D,hk,hk32,hFl,hBad⟩:=h.dec;have ho:=h.ord;have hne:=D.ne;apply call252;unfold wp252 aQq wIq iQq;dsimp only;refine qJ (fun _ w'=>Fr [bb,gb] w w'/\hn w'=hn w/\hp w' bb=Row 293 (xL gb db 0 0 lb lr)/\∃arr',hp w' gb=Row 5 arr'/\arr'.size=4096) ?_ ?_
 ·rintro⟨⟩ w2 ⟨F2,n2,hB2,arr2,hG2,hs2⟩
  refine qJ (fun _ w'=>Fr [] w2 w'/\hn w'=hn w2) ?_ ?_
  ·rintro⟨⟩ w5 ⟨f5,n5⟩
   refine qP (fun z w'=>z.1=100/\w'=w5) (fun _ _ =>0) ⟨rfl,rfl⟩ ?_;rintro⟨_,⟨⟩⟩ w8 ⟨rfl,rfl⟩;refine qF (fun _ => ?_) (fun h=>absurd dQ h);refine qE fun w11 f11 n11=> ?_;have F11:Fr [bb,gb] w w11:=F2.trans ((f5.trans f11).mono sQ);have hB11:=f11.row0 (f5.row0 hB2);have hG11:=f11.row0 (f5.row0 hG2);have D11:=D.fr F11 (by simp;omega);refine qT hB11 rfl (qK hB11 rfl (qC hB11 rfl ⟨⟨dQ,dQ⟩,?_⟩));show vG _ _ _ _ _ _ _;refine⟨110,.pointer (some ⟨db,0,none⟩),193,.pointer (some ⟨db,0,none⟩),rfl,rfl,?_⟩;show CallT Pg 193 #[.pointer (some ⟨db,0,none⟩),.slice (qQ (some ⟨gb,0,none⟩) 4096 0 1) 4096 4096] w11 _;rw[vX];refine CallT.mono (D11.c193_bad hk hk32 hFl hBad (hE.fr F11 (by simp;omega)) hlo hG11 oQ dQ dQ dQ) ?_;rintro _ w19 ⟨e,rfl,he,F19,n19,dd',crc',rs',hsd',D19⟩;refine⟨_,_,rfl,?_⟩;have hB19:=F19.row hB11 (by simp;omega);refine qJ (fun _ w'=>w'=w19) ?_ ?_
   ·rintro⟨⟩ w23 rfl
    refine qC hB19 rfl ?_;refine qD hB19 (by simp[xL]) fun w26 h26 f26 n26=> ?_;refine he.nil (xA (zK he.one ?_));refine qD h26 (by simp[xL]) fun w28 h28 f28 n28=>⟨rfl,?_,oQ,?_,e,lb,lr,he,?_⟩
    ·exact(F11.mono sQ).trans ((F19.mono sQ).trans ((f26.mono sQ).trans (f28.mono sQ)))
    ·exact DW.of ((D19.fr f26 (by simp;omega)).fr f28 (by simp;omega)) (hsd.trans hsd')
    ·rw[h28]
     have:wrap .i64 0=0:=rfl;simp[xL,jM,this]
   ·intro J hJ
    exact qF (fun h=>absurd h oQ) (fun _ =>hJ _ _ rfl)
  ·intro J hJ
   refine qE fun w32 f32 n32=> ?_;have hB32:=f32.row0 hB2;refine qC hB32 rfl (qK hB32 rfl (qF (fun h=>absurd h dQ) (fun _ =>hJ _ _ ⟨f32,n32⟩)))
 ·intro J hJ
  refine qC hB rfl (qF (fun hr=> ?_) (fun hr=> ?_))
  ·refine qE fun w38 f38 n38=> ?_
   have hB38:=f38.row0 hB;have hG38:=f38.row0 hG;refine qK hB38 rfl (qK hB38 rfl (qC hB38 rfl (qC hB38 rfl ⟨⟨oQ,oQ⟩,⟨oQ,oQ⟩,?_⟩)));rw[Nat.sub_self];refine uG hG38 oQ (xs:=[]) (rE hG38) rfl dQ ?_;intro w48 arr' hG48 hs48 _ f48 n48;refine qE fun w49 f49 n49=> ?_;have hB49:=f49.row0 (f48.row1 hB38 oQ);have hG49:=f49.row0 hG48;refine qC hB49 rfl (qC hB49 rfl ?_);rw[Int.sub_self,show wrap .i64 0=0 from rfl];refine qD hB49 (by simp[xL]) fun w52 h52 f52 n52=> ?_;refine qD h52 (by simp[xL]) fun w53 h53 f53 n53=> ?_;refine hJ _ _ ⟨?_,oQ,by simpa [xL]using h53,arr',f53.row1 (f52.row1 hG49 oQ) oQ,oQ⟩;exact(f38.mono sQ).trans ((f48.mono sQ).trans ((f49.mono sQ).trans ((f52.mono sQ).trans (f53.mono sQ))))
  ·have:r=0:=oQ
   subst this;exact hJ _ _ ⟨Fr.refl _ _,rfl,hB,arr,hG,hsz⟩
theorem SrcX.c250(h:SrcX w bb gb db rb kb p d t s)(hE:Errs w E)(hlo:E.n0<=rb):
  CallT Pg 250 #[.pointer (some ⟨bb,0,none⟩)] w fun v w'=>∃e,v= .tuple #[.int .u8 0,e]/\ECl E t e/\Fr [rb,kb,db,bb,gb] w w'/\hn w'=hn w/\DW w' db rb kb p d:=by
 obtain⟨r,lb,lr,arr,hB,hG,hsz,hr4⟩:=h.buf;have ho:=h.ord;obtain⟨_,_,_,_,_,D0,_⟩:=h.dec;have hne:=D0.ne;apply call250;unfold wp250 aQq wIq iQq;dsimp only;refine qD hB (by simp[xL]) fun w1 h1 f1 n1=> ?_;have S1:SrcX w1 bb gb db rb kb p d t s:=by
  obtain⟨dd,k,crc,rs,e1,e2,e3⟩:=h.dec;exact⟨⟨r,lb,-1,arr,by rw[h1];simp[xL],f1.row1 hG oQ,hsz,hr4⟩,⟨dd,k,crc,rs,e1,e2.fr f1 (by simp;omega),e3⟩,ho⟩
 refine qP (fun _ w'=>Fr [rb,kb,db,bb,gb] w w'/\hn w'=hn w/\((w'=w1)\/DW w' db rb kb p d/\∃e lb lr,ECl E t e/\hp w' bb=Row 293 (jM gb db 0 0 e lb lr))) (fun _ w'=>match atR (hp w' bb) 4 with|some .nilIface=>1|_ =>0) ⟨f1.mono sQ,n1,.inl rfl⟩ ?_;rintro⟨⟩ w3 ⟨F3,n3,rfl|⟨hD,e,lb',lr',he,hB3⟩⟩
 ·refine qE fun w6 f6 n6=> ?_
  have S6:=S1.fr0 f6;obtain⟨r6,lb6,lr6,arr6,hB6,hG6,hsz6,hr46⟩:=S6.buf;refine qC hB6 rfl (qC hB6 rfl (qW (fun _ => ?_) (fun e=>absurd rfl e)));refine qT hB6 rfl (qR (qM ?_));refine CallT.mono (S6.c252 ((hE.fr F3 (by simp;omega)).fr f6 sQ) hlo) ?_;rintro _ w15 ⟨rfl,F15,n15,hD,e,lb',lr',he,hB15⟩;refine⟨rfl,⟨F3.trans ((f6.mono sQ).trans F15),oQ,.inr ⟨hD,e,lb',lr',he,hB15⟩⟩,?_⟩;obtain⟨T,u,rfl⟩:=he.if;have h4:hp w3 bb=Row 293 (xL gb db r r lb (-1)):=by rw[h1];simp[xL]
  rw[hB15,h4];simp[xL,jM]
 ·refine qE fun w6 f6 n6=> ?_
  have hB6:=f6.row0 hB3;refine qC hB6 rfl (qC hB6 rfl (qW (fun _ => ?_) (fun e=>absurd rfl e)));refine qT hB6 rfl (he.nil (xA ?_));refine CallT.mono (c254e hB6) ?_;rintro _ w12 ⟨rfl,f12,n12⟩;exact⟨_,rfl,_,rfl,he,F3.trans ((f6.mono sQ).trans (f12.mono sQ)),oQ,(hD.fr0 f6).fr f12 (by simp;omega)⟩
theorem SrcX.c249{g o n cap:Nat}{T:TypeId}{arr:vQ}(h:SrcX w bb gb db rb kb p d t s)(hE:Errs w E)(hlo:E.n0<=rb)(hg:hp w g=Row T arr)(hdg:db<g)(hn0:0<n)(hnb:n<1099511627776)(hnc:n<=cap):
  CallT Pg 249 #[.pointer (some ⟨bb,0,none⟩),.slice (some ⟨g,o,none⟩) n cap] w fun v w'=>∃e,v= .tuple #[.int .i64 (0:Nat),e]/\ECl E t e/\Fr [rb,kb,db,bb,gb] w w'/\hn w'=hn w/\DW w' db rb kb p d:=by
 have ho:=h.ord;obtain⟨_,_,_,_,_,D0,_⟩:=h.dec;have hne:=D0.ne;apply call249;unfold wp249 aQq wIq iQq;dsimp only;refine qW (fun e=>absurd e oQ) (fun _ => ?_);refine qJ (fun _ _ =>False) (fun _ _ h=>h.elim) ?_;intro J hJ;refine qE fun w29 f29 n29=> ?_;have S29:=h.fr0 f29;have E29:=hE.fr f29 sQ;obtain⟨r,lb,lr,ar,hB29,hG29,hsz,hr4⟩:=S29.buf;obtain⟨dd,k,crc,rs,q1,q2,q3,q4,q5,q6⟩:=S29.dec;refine qC hB29 rfl (qC hB29 rfl (qW (fun _ => ?_) (fun e=>absurd rfl e)));refine qT hB29 rfl (qR (qM (qK hB29 rfl (qF (fun hbig=> ?_) (fun hsm=> ?_)))))
 ·refine qT hB29 rfl (sS (g:=g) (o:=o) ?_)
  refine CallT.mono (q2.c193_bad q3 q4 q5 q6 E29 hlo (f29.row0 hg) hdg hn0 hnb hnc) ?_;rintro _ w42 ⟨e,rfl,he,F42,n42,dd',crc',rs',q1',D42⟩;refine⟨_,_,rfl,zK he.one ?_⟩;have hB42:=F42.row hB29 (by simp;omega);refine qD hB42 (by simp[xL]) fun w45 h45 f45 n45=> ?_;have hB45:hp w45 bb=Row 293 (jM gb db r r e lb lr):=by simpa [xL,jM]using h45
  refine qJ (fun _ w'=>w'=w45) ?_ ?_
  ·rintro⟨⟩ w47 rfl
   refine qF (fun h=>absurd h oQ) (fun _ => ?_);refine CallT.mono (c254e hB45) ?_;rintro _ w54 ⟨rfl,f54,n54⟩;refine⟨_,rfl,_,rfl,he,?_,oQ,DW.of ((D42.fr f45 (by simp;omega)).fr f54 (by simp;omega)) (q1.trans q1')⟩;exact(f29.mono sQ).trans ((F42.mono sQ).trans ((f45.mono sQ).trans (f54.mono sQ)))
  ·intro J' hJ'
   exact qF (fun h=>absurd h oQ) (fun _ =>hJ' _ _ rfl)
 ·refine qD hB29 (by simp[xL]) fun w60 h60 f60 n60=> ?_
  refine qD h60 (by simp[xL]) fun w61 h61 f61 n61=> ?_;refine qE fun w62 f62 n62=> ?_;have hB62:hp w62 bb=Row 293 (xL gb db 0 0 lb lr):=by simpa [xL]using f62.row0 h61
  have hG62:=f62.row0 (f61.row1 (f60.row1 hG29 oQ) oQ);have D62:=(((q2.fr f60 (by simp;omega)).fr f61 (by simp;omega)).fr0 f62);have E62:=(((E29.fr f60 (by simp;omega)).fr f61 (by simp;omega)).fr f62 sQ);refine qT hB62 rfl (qK hB62 rfl ?_);show vG _ _ _ _ _ _ _;refine sS (g:=gb) (o:=0) ?_;refine CallT.mono (D62.c193_bad q3 q4 q5 q6 E62 hlo hG62 oQ dQ dQ dQ) ?_;rintro _ w69 ⟨e,rfl,he,F69,n69,dd',crc',rs',q1',D69⟩;refine⟨_,_,rfl,zK he.one ?_⟩;have hB69:=F69.row hB62 (by simp;omega);refine qD hB69 (by simp[xL]) fun w72 h72 f72 n72=> ?_;have hB72:hp w72 bb=Row 293 (jM gb db 0 0 e lb lr):=by simpa [xL,jM]using h72
  refine qJ (fun _ w'=>w'=w72) ?_ ?_
  ·rintro⟨⟩ w74 rfl
   refine qW (fun _ => ?_) (fun h=>absurd rfl h);refine CallT.mono (c254e hB72) ?_;rintro _ w77 ⟨rfl,f77,n77⟩;refine⟨_,rfl,_,rfl,he,?_,oQ,DW.of ((D69.fr f72 (by simp;omega)).fr f77 (by simp;omega)) (q1.trans q1')⟩;exact(f29.mono sQ).trans ((f60.mono sQ).trans ((f61.mono sQ).trans ((f62.mono sQ).trans ((F69.mono sQ).trans ((f72.mono sQ).trans (f77.mono sQ))))))
  ·intro J' hJ'
   exact qF (fun h=>absurd h oQ) (fun _ =>hJ' _ _ rfl)
def Gives(w:wQ)(bb gb db rb kb:Nat)(p:pQ)(d:Dec)(t:Option Bool)(zs:bQ)(s:Nat×Nat×bQ):Prop:=
 ∃ys,Src w bb gb db rb kb p d ys s/\ys<+:zs/\(ys=zs\/∃b,t=some b/\dM b s)/\(t=some false ->ys≠zs)
def Errd(E:Er)(t:Option Bool)(e:Value):Prop:=∃b,t=some b/\ECl E b e
theorem Errd.nil{t:Option Bool}{v:Value}(h:Errd E t v){K:Bool ->Prop}(hK:K false):xR v K:=by
 obtain⟨b,_,h⟩:=h;exact h.nil hK
theorem Errd.one{t:Option Bool}{v:Value}(h:Errd E t v):v.oneCell'=true:=by
 obtain⟨b,_,h⟩:=h;exact h.one
def Errx(E:Er)(t:Option Bool)(e:Value):Prop:=∃b,t=some b/\ECl E b e/\e≠xP E.ea
theorem Errx.nil{t:Option Bool}{v:Value}(h:Errx E t v){K:Bool ->Prop}(hK:K false):xR v K:=by
 obtain⟨b,_,h,_⟩:=h;exact h.nil hK
theorem Errx.one{t:Option Bool}{v:Value}(h:Errx E t v):v.oneCell'=true:=by
 obtain⟨b,_,h,_⟩:=h;exact h.one
theorem Src.toX{b:Bool}(h:Src w bb gb db rb kb p d [] s)(hb:dM b s):SrcX w bb gb db rb kb p d b s:=by
 obtain⟨B,zs,hy,S⟩:=h;obtain⟨rfl,rfl⟩:=List.append_eq_nil_iff.1 hy.symm;obtain⟨r,lb,lr,arr,h1,h2,h3,h4,h5⟩:=S.buf;obtain⟨dd,k,crc,rs,e1,e2,e3,e4,e5⟩:=S.dec;exact⟨⟨r,lb,lr,arr,by simpa using h1,h2,h3,by simpa using h4⟩,⟨dd,k,crc,rs,e1,e2,e3,e4,e5,hb⟩,S.ord⟩
theorem Gives.fr{S:List Nat}{w':wQ}{t:Option Bool}(h:Gives w bb gb db rb kb p d t zs s)(hf:Fr S w w')(hS:∀x∈S,gb<x):Gives w' bb gb db rb kb p d t zs s:=by
 obtain⟨ys,h1,h2⟩:=h;exact⟨ys,h1.fr hf hS,h2⟩
theorem Src.ords(h:Src w bb gb db rb kb p d ys s):rb<kb/\kb<db/\db<bb/\bb<gb:=by
 obtain⟨B,zs,_,h⟩:=h;obtain⟨_,_,_,_,_,D,_⟩:=h.dec;exact⟨D.ne.2.2.1,D.ne.2.2.2,h.ord⟩
theorem Gives.ords{t:Option Bool}(h:Gives w bb gb db rb kb p d t zs s):rb<kb/\kb<db/\db<bb/\bb<gb:=by
 obtain⟨_,h,_⟩:=h;exact h.ords
theorem Gives.c250{t:Option Bool}{y:UInt8}(h:Gives w bb gb db rb kb p d t (y::zs) s)(hE:Errs w E)(hlo:E.n0<=rb):
  CallT Pg 250 #[.pointer (some ⟨bb,0,none⟩)] w fun v w'=>Fr [rb,kb,db,bb,gb] w w'/\hn w'=hn w/\((v= .tuple #[.int .u8 y.toNat,.nilIface]/\Gives w' bb gb db rb kb p d t zs s)\/(∃e,v= .tuple #[.int .u8 0,e]/\Errd E t e/\DW w' db rb kb p d)):=by
 obtain⟨ys,S,hp,hend,hx⟩:=h
 cases ys with
 |nil=>
  rcases hend with h|⟨b,rfl,hb⟩
  ·cases h
  ·refine CallT.mono ((S.toX hb).c250 hE hlo) ?_
   rintro _ w' ⟨e,rfl,he,F,hn',hD⟩;exact⟨F,hn',.inr ⟨e,rfl,⟨b,rfl,he⟩,hD⟩⟩
 |cons y' ys=>
  obtain⟨rfl,hp2⟩:=List.cons_prefix_cons.1 hp;refine CallT.mono S.c250 ?_;rintro _ w' ⟨rfl,F,hn',S'⟩;exact⟨F,hn',.inl ⟨rfl,ys,S',hp2,hend.imp (fun h=>(List.cons.inj h).2) id,fun e h=>hx e (by rw[h])⟩⟩
theorem Src.c71_bad{b:Bool}{g o n cap:Nat}{T:TypeId}{arr:vQ}(h:Src w bb gb db rb kb p d ys s)(hb:dM b s)(hE:Errs w E)(hlo:E.n0<=rb)(hg:hp w g=Row T arr)(hdg:db<g)(hgb:g≠bb)(hgg:g≠gb)(ho:o+n<=arr.size)(hnb:n<1099511627776)(hnc:n<=cap)(hny:ys.length<n):
  CallT Pg 71 #[.iface 257 (.pointer (some ⟨bb,0,none⟩)),.slice (some ⟨g,o,none⟩) n cap] w fun v w'=>∃(k:Nat) (e:Value),(k=ys.length/\k<n)/\v= .tuple #[.int .i64 k,e]/\ECl E b e/\Fr [rb,kb,db,bb,gb,g] w w'/\hn w'=hn w/\
   (∃arr',hp w' g=Row T arr'/\Put arr o (bv ys) arr')/\DW w' db rb kb p d:=by
 have hord:=h.ords;apply call71;unfold wp71 iQq;refine CallT.mono (R:=fun v w'=>∃(k:Nat) (e:Value),(k=ys.length/\k<n)/\v= .tuple #[.int .i64 k,e]/\ECl E b e/\Fr [rb,kb,db,bb,gb,g] w w'/\hn w'=hn w/\(∃arr',hp w' g=Row T arr'/\Put arr o (bv ys) arr')/\DW w' db rb kb p d) ?_ ?_
 ·apply call91
  unfold wp91 wIq iQq;refine qF (fun h=>absurd h oQ) (fun _ => ?_);refine qJ (fun z w'=>∃e,z=((ys.length:Int),e,())/\ECl E b e/\Fr [rb,kb,db,bb,gb,g] w w'/\hn w'=hn w/\(∃arr',hp w' g=Row T arr'/\Put arr o (bv ys) arr')/\DW w' db rb kb p d) ?_ ?_
  ·rintro z w' ⟨e,rfl,he,F,nn,hP,hD⟩
   have hE':=hE.fr F (by simp;omega);refine qF (fun h=>absurd h (by dsimp only;omega)) (fun _ =>qF (fun h=> ?_) (fun h=> ?_))
   ·obtain⟨T0,h0⟩:=hE'.eof
    obtain⟨T1,hu⟩:=hE'.une;refine qT h0 rfl (he.eqEof hE' (fun hv=>xA ?_) (fun _ =>qM ⟨_,_,⟨rfl,hny⟩,rfl,he,F,nn,hP,hD⟩));refine qT hu rfl ⟨_,_,⟨rfl,hny⟩,rfl,?_,F,nn,hP,hD⟩;subst hv
    cases b with
    |true=>obtain⟨s,hs⟩:=he;simp[xP]at hs
    |false=>exact .inr rfl
   ·exact⟨_,_,⟨rfl,hny⟩,rfl,he,F,nn,hP,hD⟩
  ·intro J hJ
   refine qP (fun z w'=>(∃i:Nat,z=((i:Int),.nilIface,())/\i<=ys.length/\Fr [rb,kb,db,bb,gb,g] w w'/\hn w'=hn w/\(∃arr',hp w' g=Row T arr'/\Put arr o (bv (ys.take i)) arr')/\Src w' bb gb db rb kb p d (ys.drop i) s)\/
    (∃e,z=((ys.length:Int),e,())/\ECl E b e/\Fr [rb,kb,db,bb,gb,g] w w'/\hn w'=hn w/\(∃arr',hp w' g=Row T arr'/\Put arr o (bv ys) arr')/\DW w' db rb kb p d)) (fun z _ =>(match z.2.1 with| .nilIface=>n+1|_ =>0) -z.1.toNat)
    (.inl ⟨0,rfl,oQ,Fr.refl _ _,rfl,⟨arr,hg,Put.nil _ _⟩,h⟩) ?_
   rintro z w' (⟨i,rfl,hi,F,hn',⟨arr1,hg1,hp1⟩,S1⟩|⟨e,rfl,he,F,nn,hP,hD⟩)
   ·have hil:(ys.take i).length=i:=by simp;omega
    have hE':=hE.fr F (by simp;omega);refine qJ (fun _ w''=>w''=w') ?_ ?_
    ·rintro⟨⟩ _ rfl
     refine qE fun w1 f1 n1=>⟨⟨oQ,by dsimp only;omega⟩,_,_,rfl,rfl,257,.pointer (some ⟨bb,0,none⟩),249,.pointer (some ⟨bb,0,none⟩),rfl,rfl,?_⟩;show CallT Pg 249 #[.pointer (some ⟨bb,0,none⟩),.slice (qQ (some ⟨g,o,none⟩) cap (i:Int).toNat 1) (n -(i:Int).toNat) (cap -(i:Int).toNat)] w1 _;rw[Int.toNat_natCast,slAdd_one _ _ _ _ oQ];have hsz1:=hp1.1;rcases Nat.lt_or_ge i ys.length with hlt|hge
     ·refine CallT.mono (Src.c249 (S1.fr f1 sQ) (by intro e;have:=congrArg List.length e;simp at this;omega) (f1.row0 hg1) hdg hgb hgg oQ oQ oQ oQ) ?_
      rintro _ w2 ⟨m,hm0,hmn,hmy,rfl,F2,n2,⟨arr2,hg2,hp2⟩,S2⟩;have hmy':i+m<=ys.length:=by simp at hmy;omega
      have e1:wrap .i64 ((i:Int)+(m:Int))=((i+m:Nat):Int):=by rw[qA oQ oQ];omega
      dsimp only;refine⟨_,_,rfl,?_⟩;rw[e1];refine⟨.inl ⟨i+m,rfl,oQ,F.trans ((f1.mono sQ).trans F2),oQ,⟨arr2,hg2,?_⟩,?_⟩,by show n+1 -((i+m:Nat):Int).toNat<n+1 -(i:Int).toNat;omega⟩
      ·have:ys.take (i+m)=ys.take i++(ys.drop i).take m:=by rw[List.take_add]
       rw[this,bv_append];refine hp1.app ?_;rw[bv_length,hil];exact hp2
      ·rw[List.drop_drop]at S2;exact S2
     ·have hie:i=ys.length:=oQ
      subst hie;rw[List.drop_length]at S1;refine CallT.mono (((S1.fr f1 sQ).toX hb).c249 (hE'.fr f1 sQ) hlo (f1.row0 hg1) hdg oQ oQ oQ) ?_;rintro _ w2 ⟨e,rfl,he,F2,n2,hD⟩;dsimp only;refine⟨_,_,rfl,.inr ⟨e,?_,he,F.trans ((f1.mono sQ).trans (F2.mono sQ)),oQ,⟨arr1,F2.row (f1.row0 hg1) (by simp;omega),by simpa using hp1⟩,hD⟩,?_⟩
      ·rw[qA oQ oQ];simp
      ·obtain⟨T',u,rfl⟩:=he.if
       show 0 -_ <n+1 -ys.length;omega
    ·intro J' hJ'
     refine qF (fun _ =>qR (xA (hJ' _ _ rfl))) (fun h=>absurd h (by dsimp only;omega))
   ·refine qJ (fun _ _ =>False) (fun _ _ h=>h.elim) ?_
    intro J' hJ';refine qF (fun _ =>he.nil (qM ?_)) (fun h=>absurd h (by dsimp only;omega));exact hJ _ _ ⟨e,rfl,he,F,nn,hP,hD⟩
 ·rintro _ w' ⟨k,e,hk,rfl,h⟩
  exact⟨_,_,rfl,k,e,hk,rfl,h⟩
theorem Src.c71o{t:Option Bool}{g o n cap:Nat}{T:TypeId}{arr:vQ}(S:Src w bb gb db rb kb p d ys s)(hpr:ys<+:zs)(hend:ys=zs\/∃b,t=some b/\dM b s)(hx:t=some false ->ys≠zs)(hE:Errs w E)(hlo:E.n0<=rb)(hg:hp w g=Row T arr)(hdg:db<g)(hgb:g≠bb)(hgg:g≠gb)(ho:o+n<=arr.size)(hn0:0<n)(hnb:n<1099511627776)(hnc:n<=cap)(hny:n<=zs.length):
  CallT Pg 71 #[.iface 257 (.pointer (some ⟨bb,0,none⟩)),.slice (some ⟨g,o,none⟩) n cap] w fun v w'=>Fr [rb,kb,db,bb,gb,g] w w'/\hn w'=hn w/\
   ((n<=ys.length/\v= .tuple #[.int .i64 n,.nilIface]/\(∃arr',hp w' g=Row T arr'/\Put arr o (bv (zs.take n)) arr')/\Gives w' bb gb db rb kb p d t (zs.drop n) s)\/
    (ys.length<n/\∃(xs:bQ) (e:Value),xs.length<n/\v= .tuple #[.int .i64 xs.length,e]/\Errd E t e/\DW w' db rb kb p d/\∃arr',hp w' g=Row T arr'/\Put arr o (bv xs) arr')):=by
 rcases Nat.lt_or_ge ys.length n with hlt|hge
 ·rcases hend with rfl|⟨b,rfl,hb⟩
  ·omega
  ·refine CallT.mono (S.c71_bad hb hE hlo hg hdg hgb hgg ho hnb hnc hlt) ?_
   rintro _ w' ⟨_,e,⟨rfl,hk⟩,rfl,he,F,nn,⟨arr',hg',hp'⟩,hD⟩;exact⟨F,nn,.inr ⟨hlt,ys,e,hk,rfl,⟨b,rfl,he⟩,hD,arr',hg',hp'⟩⟩
 ·obtain⟨r,rfl⟩:=hpr
  refine CallT.mono (S.c71 hg hdg hgb hgg ho hn0 hnb hnc hge) ?_;rintro _ w' ⟨rfl,F,nn,⟨arr',hg',hp'⟩,S'⟩;refine⟨F,nn,.inl ⟨hge,rfl,⟨arr',hg',?_⟩,_,S',?_,?_,fun e h=>hx e ?_⟩⟩
  ·rw[List.take_append_of_le_length hge];exact hp'
  ·rw[List.drop_append_of_le_length hge];exact List.prefix_append _ _
  ·refine hend.imp (fun h=> ?_) id
   have:r=[]:=by
    have:=congrArg List.length h;simp at this;exact this
   subst this;simp
  ·rw[List.drop_append_of_le_length hge]at h
   have:=congrArg List.length h;rw[List.length_append]at this;have:r=[]:=List.length_eq_zero_iff.1 oQ;rw[this,List.append_nil]
theorem Gives.c71{t:Option Bool}{g o n cap:Nat}{T:TypeId}{arr:vQ}(h:Gives w bb gb db rb kb p d t zs s)(hE:Errs w E)(hlo:E.n0<=rb)(hg:hp w g=Row T arr)(hdg:db<g)(hgb:g≠bb)(hgg:g≠gb)(ho:o+n<=arr.size)(hn0:0<n)(hnb:n<1099511627776)(hnc:n<=cap)(hny:n<=zs.length):
  CallT Pg 71 #[.iface 257 (.pointer (some ⟨bb,0,none⟩)),.slice (some ⟨g,o,none⟩) n cap] w fun v w'=>Fr [rb,kb,db,bb,gb,g] w w'/\hn w'=hn w/\
   ((v= .tuple #[.int .i64 n,.nilIface]/\(∃arr',hp w' g=Row T arr'/\Put arr o (bv (zs.take n)) arr')/\Gives w' bb gb db rb kb p d t (zs.drop n) s)\/
    (∃(xs:bQ) (e:Value),xs.length<n/\v= .tuple #[.int .i64 xs.length,e]/\Errd E t e/\DW w' db rb kb p d/\∃arr',hp w' g=Row T arr'/\Put arr o (bv xs) arr')):=by
 obtain⟨ys,S,hpr,hend,hx⟩:=h;refine CallT.mono (S.c71o hpr hend hx hE hlo hg hdg hgb hgg ho hn0 hnb hnc hny) ?_;rintro v w' ⟨F,nn,⟨_,h⟩|⟨_,h⟩⟩
 ·exact⟨F,nn,.inl h⟩
 ·exact⟨F,nn,.inr h⟩
end
end
section
variable{w:wQ}
def fF(out:bQ)(i:Nat):Bool:=(gb out (i/8)).testBit (i%8)
def At(out:bQ)(Q:Nat)(seg:List Bool):Prop:=Q+seg.length<=8*out.length/\∀i,i<seg.length ->fF out (Q+i)=seg.getD i false
theorem At.left{out:bQ}{Q:Nat}{a b:List Bool}(h:At out Q (a++b)):At out Q a:=by
 refine⟨by have:=h.1;simp at this;omega,fun i hi=> ?_⟩;rw[h.2 i (by simp;omega)];simp[List.getD,List.getElem?_append_left hi]
theorem At.right{out:bQ}{Q:Nat}{a b:List Bool}(h:At out Q (a++b)):At out (Q+a.length) b:=by
 refine⟨by have:=h.1;simp at this;omega,fun i hi=> ?_⟩;rw[show Q+a.length+i=Q+(a.length+i) by omega,h.2 (a.length+i) (by simp;omega)];simp[List.getD,List.getElem?_append_right]
theorem At.of_pack{out:bQ}{bits:List Bool}(h:rN out bits):At out 0 bits:=by
 refine⟨by rw[h.1];omega,fun i _ => ?_⟩;rw[Nat.zero_add];exact h.2 i
structure Bits (out:bQ) (R Q b nb:Nat):Prop where
 pos:8*R=Q+nb
 le:R<=out.length
 nb24:nb<=32
 bits:∀i,b.testBit i=(decide (i<nb)&&fF out (Q+i))
theorem Bits.lt{out:bQ}{R Q b nb:Nat}(h:Bits out R Q b nb):b<2^nb:=by
 apply Nat.lt_pow_two_of_testBit;intro i hi;rw[h.bits i];simp;omega
theorem Bits.drop{out:bQ}{R Q b nb n:Nat}(h:Bits out R Q b nb)(hn:n<=nb):Bits out R (Q+n) (b/2^n) (nb -n):=by
 refine⟨by have:=h.pos;omega,h.le,by have:=h.nb24;omega,fun i=> ?_⟩;rw[Nat.testBit_div_two_pow,h.bits,show Q+(i+n)=Q+n+i by omega]
 congr 1
 exact decide_eq_decide.2 oQ
theorem Bits.more{out:bQ}{R Q b nb:Nat}(h:Bits out R Q b nb)(hR:R<out.length)(hnb:nb<=24):Bits out (R+1) Q (b|||gb out R*2^nb) (nb+8):=by
 have hp:=h.pos;refine⟨oQ,oQ,oQ,fun i=> ?_⟩;rw[Nat.testBit_or,h.bits,Nat.mul_comm,Nat.testBit_two_pow_mul];rcases Nat.lt_or_ge i nb with h1|h1
 ·have:¬i>=nb:=oQ
  have h2:i<nb+8:=oQ;simp[this,h1,h2]
 ·have h3:¬i<nb:=oQ
  simp only[h3,decide_false,Bool.false_and,Bool.false_or,ge_iff_le,h1,decide_true,Bool.true_and];rcases Nat.lt_or_ge i (nb+8)with h4|h4
  ·simp only[h4,decide_true,Bool.true_and,fF]
   have e1:(Q+i)/8=R:=oQ;have e2:(Q+i)%8=i -nb:=oQ;rw[e1,e2]
  ·have h5:¬i<nb+8:=oQ
   simp only[h5,decide_false,Bool.false_and];exact Nat.testBit_lt_two_pow (Nat.lt_of_lt_of_le (yC out R) (show 256<=2^(i -nb)from Nat.pow_le_pow_right (n:=2) (i:=8) oQ oQ))
theorem Bits.val{out:bQ}{R Q b nb n v:Nat}(h:Bits out R Q b nb)(hn:n<=nb)(hv:v<2^n)(hs:∀i,i<n ->fF out (Q+i)=v.testBit i):b%2^n=v:=by
 apply Nat.eq_of_testBit_eq;intro i;rw[Nat.testBit_mod_two_pow,h.bits];rcases Nat.lt_or_ge i n with h1|h1
 ·have h2:i<nb:=oQ
  simp[h1,h2,hs i h1]
 ·have h2:¬i<n:=oQ
  simp only[h2,decide_false,Bool.false_and];exact(Nat.testBit_lt_two_pow (Nat.lt_of_lt_of_le hv (Nat.pow_le_pow_right oQ h1))).symm
theorem At.bitsL{out:bQ}{Q v n:Nat}(h:At out Q (bitsL v n)):∀i,i<n ->fF out (Q+i)=v.testBit i:=by
 intro i hi;rw[h.2 i (by simp[Go.Proofs.bitsL];exact hi)];simp[Go.Proofs.bitsL,List.getD,hi]
def jB(v n:Nat):Nat:=(List.range n).foldl (fun a i=>2*a+(v/2^i)%2) 0
theorem cN(v n:Nat):jB v (n+1)=2*jB v n+(v/2^n)%2:=by
 unfold jB;rw[List.range_succ,List.foldl_append]
 rfl
theorem uZ(v n:Nat):jB v n<2^n:=by
 induction n with
 |zero=>simp[jB]
 |succ n ih=>rw[cN,Nat.pow_succ];omega
theorem qFt(v:Nat):∀n i,i<n ->(jB v n).testBit i=v.testBit (n -1 -i):=by
 intro n
 induction n with
 |zero=>intro i hi;omega
 |succ n ih=>
  intro i hi;rw[cN]
  cases i with
  |zero=>
   rw[Nat.testBit_zero];have e:(2*jB v n+v/2^n%2)%2=v/2^n%2:=oQ;rw[e,show n+1 -1 -0=n by omega,Nat.testBit_eq_decide_div_mod_eq]
  |succ i=>
   rw[Nat.testBit_succ];have e:(2*jB v n+v/2^n%2)/2=jB v n:=oQ;rw[e,ih i oQ]
   congr 1;omega
theorem At.wordL{out:bQ}{Q v n:Nat}(h:At out Q (wordL v n)):∀i,i<n ->fF out (Q+i)=(jB v n).testBit i:=by
 intro i hi;rw[h.2 i (by simp[Go.Proofs.wordL,rI];exact hi),qFt v n i hi];simp[Go.Proofs.wordL,rI,List.getD,hi]
def fixLen(s:Nat):Nat:=if s<144 then 8 else if s<256 then 9 else if s<280 then 7 else 8
def fixCode(s:Nat):Nat:=if s<144 then 48+s else if s<256 then 256+s else if s<280 then s -256 else s -88
theorem nB(s:Nat):jU s=wordL (fixCode s) (fixLen s):=by
 unfold jU fixCode fixLen
 split
 ·rfl
 ·split
  ·rfl
  ·split<;>rfl
def fixRev(s:Nat):Nat:=jB (fixCode s) (fixLen s)
def vN(j:Nat):Nat:=((List.range 288).find? fun s=>Nat.beq (j%2^fixLen s) (fixRev s)).getD 0
theorem qHh:((List.range 512).all fun j=>(List.range 288).all fun s=>Bool.xor (Nat.beq (vN j) s) (!(Nat.beq (j%2^fixLen s) (fixRev s))))=true:=by kernel_rfl
theorem gY{j s:Nat}(hj:j<512)(hs:s<288):j%2^fixLen s=fixRev s↔vN j=s:=by
 have h:=List.all_eq_true.1 (List.all_eq_true.1 qHh j (List.mem_range.2 hj)) s (List.mem_range.2 hs)
 constructor
 ·intro e
  have:Nat.beq (j%2^fixLen s) (fixRev s)=true:=by rw[e];simp
  rw[this]at h;simp at h;exact h
 ·intro e
  have:Nat.beq (vN j) s=true:=by rw[e];simp
  rw[this]at h;simp at h;exact h
theorem sP(j:Nat):vN j<288:=by
 unfold vN
 cases h:(List.range 288).find? fun s=>Nat.beq (j%2^fixLen s) (fixRev s)with
 |none=>simp
 |some s=>have:=List.mem_of_find?_eq_some h;simpa using this
theorem jG(s:Nat):7<=fixLen s/\fixLen s<=9:=by unfold fixLen;split<;>(try split)<;>(try split)<;>omega
theorem qEr{out:bQ}{R Q b nb s:Nat}(h:Bits out R Q b nb)(hs:s<288)(hA:At out Q (jU s)):
  (fixLen s<=nb ->vN (b%512)=s)/\(nb<fixLen s ->nb<fixLen (vN (b%512))):=by
 rw[nB]at hA;have hw:=hA.wordL;have hl:=jG s;have hb512:b%512<512:=Nat.mod_lt _ dQ
 constructor
 ·intro hle
  refine(gY hb512 hs).1 ?_;have hv:=h.val (n:=fixLen s) hle (uZ _ _) hw;rw[show(512:Nat)=2^fixLen s*2^(9 -fixLen s) by rw[<-Nat.pow_add,show fixLen s+(9 -fixLen s)=9 by omega],Nat.mod_mul_right_mod];exact hv
 ·intro hlt
  rcases Nat.lt_or_ge nb (fixLen (vN (b%512)))with h1|h1
  ·exact h1
  ·exfalso
   have hs':=sP (b%512);have h2:=(gY hb512 hs').2 rfl;generalize hss:vN (b%512)=s' at*;have hl':=jG s';have h3:(fixRev s)%2^fixLen s'=fixRev s':=by
    apply Nat.eq_of_testBit_eq;intro i;rw[Nat.testBit_mod_two_pow];rcases Nat.lt_or_ge i (fixLen s')with hi|hi
    ·have e1:=congrArg (fun x=>x.testBit i) h2
     simp only[Nat.testBit_mod_two_pow,hi,decide_true,Bool.true_and]at e1;have e2:(b%512).testBit i=b.testBit i:=by
      rw[show(512:Nat)=2^9 from rfl,Nat.testBit_mod_two_pow];have:i<9:=oQ;simp[this]
     have hin:i<nb:=oQ;rw[e2,h.bits i]at e1;simp only[hin,decide_true,Bool.true_and]at e1;simp only[hi,decide_true,Bool.true_and];rw[<-e1];exact(hw i oQ).symm
    ·have hni:¬i<fixLen s':=oQ
     simp only[hni,decide_false,Bool.false_and];exact(Nat.testBit_lt_two_pow (Nat.lt_of_lt_of_le (uZ _ _) (Nat.pow_le_pow_right oQ hi))).symm
   have hr:fixRev s<512:=Nat.lt_of_lt_of_le (uZ _ _) (show 2^fixLen s<=2^9 from Nat.pow_le_pow_right oQ hl.2);have e3:=(gY hr hs').1 h3;have e4:=(gY hr hs).1 (Nat.mod_eq_of_lt (uZ _ _));have:s'=s:=by rw[<-e3,e4]
   subst this;omega
end
def wp149(x0:Addr)(R:vPq)(w:wQ):Prop:=LdV w x0 fun h=>vG Pg Gg w h "ReadByte" [] fun i a=>∃d b,And (i= .tuple #[.int .u8 d,b]) (xR b fun j=>IfC (!j) (CallT Pg 154 #[b] a fun k l=>∃e,And (k=e) (R (e:Value) l)) (LdI a (aQq x0 2) .i64 fun m=>qB a (aQq x0 2) (iQq (wIq (m+1))) fun n=>qO n fun c=>LdI c (aQq x0 3) .u32 fun o=>LdI c (aQq x0 4) .u64 fun f=>ShC f (qB c (aQq x0 3) (.int .u32 (bOr .u32 o (xJ .u32 (wrap .u32 d) f))) fun g=>LdI g (aQq x0 4) .u64 fun p=>qB g (aQq x0 4) (.int .u64 (wrap .u64 (p+8))) fun q=>R (.nilIface) q)))
theorem call149{x0:Addr}{R:vPq}{w:wQ}(h:wp149 x0 R w):CallT Pg 149 #[.pointer (some x0)] w R:=cVq [] Tryz.func149 h
def wp159(x0:Addr)(x1:Addr)(R:vPq)(w:wQ):Prop:=LdI w x1 .i64 fun r=>qO w fun f=>LdI f (aQq x0 4) .u64 fun s=>LdI f (aQq x0 3) .u32 fun t=>xB (fun(u:(Int×Int×Int×Unit) ->World ->Prop)=>u (wrap .u64 r,s,t,()) f) (fun g v y=>xB (fun(z:(Int×Int×Unit) ->World ->Prop)=>z (g.2.1,g.2.2.1,()) v) (fun a d A=>IfC (decide (a.1<g.1)) (LdV d x0 fun B=>vG Pg Gg d B "ReadByte" [] fun C h=>∃l i,And (C= .tuple #[.int .u8 l,i]) (xR i fun D=>IfC (!D) (qB h (aQq x0 3) (.int .u32 a.2.1) fun E=>qB E (aQq x0 4) (.int .u64 a.1) fun F=>CallT Pg 154 #[i] F fun G H=>∃m,And (G=m) (R (.tuple #[iQq 0,m]) H)) (LdI h (aQq x0 2) .i64 fun I=>qB h (aQq x0 2) (iQq (wIq (I+1))) fun J=>ShC (zF .u64 a.1 31) (A (wrap .u64 (a.1+8),bOr .u32 a.2.1 (xJ .u32 (wrap .u32 l) (zF .u64 a.1 31)),()) J)))) (And (0<=zF .u32 a.2.1 511/\zF .u32 a.2.1 511<(512:Int)) (LdI d (qH (aQq x1 1) ((zF .u32 a.2.1 511).toNat) 1) .u32 fun c=>xH (fun(b:(Int×Int×Unit)) (j:wQ)=>IfC (decide (b.1<=a.1)) (IfC (b.1==0) (qB j (aQq x0 3) (.int .u32 a.2.1) fun K=>qB K (aQq x0 4) (.int .u64 a.1) fun n=>LdI n (aQq x0 2) .i64 fun L=>qB n (aQq x0 1048) (.iface 296 (iQq L)) fun M=>qO M fun o=>LdV o (aQq x0 1048) fun N=>R (.tuple #[iQq 0,N]) o) (ShC (zF .u64 b.1 31) (qB j (aQq x0 3) (.int .u32 (qY .u32 a.2.1 (zF .u64 b.1 31))) fun O=>qB O (aQq x0 4) (.int .u64 (wrap .u64 (a.1 -b.1))) fun P=>ShC 4 (R (.tuple #[iQq (wIq (qY .u32 b.2.1 4)),.nilIface]) P)))) (y (b.1,a.1,a.2.1,()) j)) (fun p=>IfC (decide ((wrap .u64 (zF .u32 c 15))>(9:Int))) (qO d fun e=>qS e (aQq x1 513) fun Q S Y=>ShC 4 (And (0<=qY .u32 c 4/\qY .u32 c 4<(S:Int)) (qN Q fun T=>qS e (qH T ((qY .u32 c 4).toNat) 1) fun U V Z=>ShC 9 (LdI e (aQq x1 514) .u32 fun k=>And (0<=zF .u32 (qY .u32 a.2.1 9) k/\zF .u32 (qY .u32 a.2.1 9) k<(V:Int)) (qN U fun X=>LdI e (qH X ((zF .u32 (qY .u32 a.2.1 9) k).toNat) 1) .u32 fun q=>p (wrap .u64 (zF .u32 q 15),q,()) e))))) (p (wrap .u64 (zF .u32 c 15),c,()) d))))))
theorem call159{x0:Addr}{x1:Addr}{R:vPq}{w:wQ}(h:wp159 x0 x1 R w):CallT Pg 159 #[.pointer (some x0),.pointer (some x1)] w R:=cVq [(7,[(6,.i .u64),(7,.i .u64),(8,.i .u32)],[0,1]),(11,[(7,.i .u64),(8,.i .u32)],[0,1,6]),(42,[(6,.i .u64),(11,.i .u32)],[0,1,7,8])] Tryz.func159 h
structure Fs (w:wQ) (fb hb bb gb db rb kb:Nat) (p:pQ) (d:Dec) (E:Er) (t:Option Bool) (F:Fl) (done out tail:bQ) (R Q:Nat) (s:Nat×Nat×bQ):Prop where
 fl:FlAt w fb hb bb F done
 src:Gives w bb gb db rb kb p d t (out.drop R++tail) s
 bits:∃b nb:Nat,F.b=b/\F.nb=nb/\Bits out R Q b nb
 ord:gb<fb
 er:Errs w E
 lo:E.n0<=rb
section
variable{fb hb bb gb db rb kb:Nat}{p:pQ}{d:Dec}{F:Fl}{done out tail:bQ}{R Q:Nat}{s:Nat×Nat×bQ}{w w':wQ}{E:Er}{t:Option Bool}
theorem lO{R:Nat}(h:R<out.length):out.drop R=out[R]::out.drop (R+1):=by rw[List.drop_eq_getElem_cons h]
theorem eQ{R:Nat}(h:R<out.length):V.gb out R=(out[R]).toNat:=bH (List.getElem?_eq_getElem h)
theorem cK{K:vPq}(h:CallT Pg 250 #[.pointer (some ⟨bb,0,none⟩)] w K):vG Pg Gg w (.iface 257 (.pointer (some ⟨bb,0,none⟩))) "ReadByte" [] K:=
 ⟨257,.pointer (some ⟨bb,0,none⟩),250,.pointer (some ⟨bb,0,none⟩),rfl,rfl,h⟩
theorem qFx{b c nb:Nat}(hb:b<2^nb)(hnb:nb<=24)(hc:c<256):bOr .u32 (b:Int) (xJ .u32 (wrap .u32 (c:Int)) (nb:Int))=((b|||c*2^nb:Nat):Int):=by
 have h1:2^nb<=2^24:=Nat.pow_le_pow_right oQ hnb;have h2:c*2^nb<=255*2^24:=Nat.mul_le_mul oQ h1;rw[xV oQ oQ,gB oQ oQ,Int.toNat_natCast];have e:(c:Int)*2^nb=((c*2^nb:Nat):Int):=by simp
 rw[e,xV oQ oQ,bS oQ oQ oQ oQ,Int.toNat_natCast,Int.toNat_natCast]
theorem Fs.c149{b nb:Nat}(h:Fs w fb hb bb gb db rb kb p d E t F done out tail R Q s)(hFb:F.b=b)(hFnb:F.nb=nb)(hR:R<out.length)(h24:nb<=24):
  CallT Pg 149 #[.pointer (some ⟨fb,0,none⟩)] w fun v w'=>Fr [rb,kb,db,bb,gb,fb] w w'/\hn w'=hn w/\((v= .nilIface/\∃ro b',Fs w' fb hb bb gb db rb kb p d E t {F with ro:=ro,b:=(b':Nat),nb:=(nb+8:Nat)} done out tail (R+1) Q s)\/
   (Errx E t v/\FlAt w' fb hb bb F done/\DW w' db rb kb p d)):=by
 obtain⟨b0,nb0,e1,e2,hB⟩:=h.bits;obtain rfl:b0=b:=oQ;obtain rfl:nb0=nb:=oQ;have hord:=h.src.ords;have ho2:=h.ord;have ho3:=h.fl.ord;have hlo:=h.lo;obtain⟨arr,a1,a2⟩:=h.fl.row;have hS:=h.src;rw[lO hR,List.cons_append]at hS;apply call149;unfold wp149 aQq wIq iQq;refine qT a1 (a2.r.trans (congrArg some h.fl.rr)) ?_;refine cK (CallT.mono (hS.c250 h.er hlo) ?_);rintro _ w3 ⟨F3,n3,hv⟩;have a3:=F3.row a1 (by simp;omega);have fl3:=h.fl.fr F3 (by simp;omega) (by simp;omega);have E3:=h.er.fr F3 (by simp;omega);rcases hv with⟨rfl,S3⟩|⟨e,rfl,he,hD⟩
 ·refine⟨_,_,rfl,qR (qM (qC a3 a2.ro ?_))⟩
  refine aT a3 a2 fun w11 arr11 h11 hF11 f11 n11=> ?_;have fl11:=fl3.upd f11 h11 hF11 rfl rfl rfl rfl;refine qE fun w12 f12 n12=> ?_;have h12:=f12.row0 h11;have fl12:=fl11.fr f12 sQ sQ;refine qC h12 hF11.b (qC h12 hF11.nb ?_);dsimp only;rw[hFb,hFnb,<-eQ hR,qFx hB.lt h24 (yC _ _)];refine qU oQ ?_;refine cY h12 hF11 fun w15 arr15 h15 hF15 f15 n15=> ?_;have fl15:=fl12.upd f15 h15 hF15 rfl rfl rfl rfl;refine qC h15 hF15.nb ?_;dsimp only;rw[hFnb,show(nb0:Int)+8=((nb0+8:Nat):Int) by omega,zE oQ oQ];refine fC h15 hF15 fun w17 arr17 h17 hF17 f17 n17=> ?_;have fl17:=fl15.upd f17 h17 hF17 rfl rfl rfl rfl;refine⟨?_,oQ,.inl ⟨rfl,wrap .i64 (F.ro+1),b0|||V.gb out R*2^nb0,fl17,?_,⟨_,_,rfl,rfl,hB.more hR h24⟩,h.ord,?_,hlo⟩⟩
  ·exact(F3.mono sQ).trans ((f11.mono sQ).trans ((f12.mono sQ).trans ((f15.mono sQ).trans (f17.mono sQ))))
  ·exact(((S3.fr f11 (by simp;omega)).fr f12 sQ).fr f15 (by simp;omega)).fr f17 (by simp;omega)
  ·exact(((E3.fr f11 (by simp;omega)).fr f12 sQ).fr f15 (by simp;omega)).fr f17 (by simp;omega)
 ·refine⟨_,_,rfl,he.nil (xA ?_)⟩
  obtain⟨b,hb',he⟩:=he;refine CallT.mono (c154 he E3) ?_;rintro v w8 ⟨he',hxe,rfl⟩;exact⟨_,rfl,F3.mono sQ,n3,.inr ⟨⟨b,hb',he',hxe⟩,fl3,hD⟩⟩
end
def HT(w:wQ)(ht:Nat):Prop:=∃arr,hp w ht=Row 273 arr/\arr[0]? =some (.int .i64 7)/\∀j,j<512 ->arr[1+j]? =some (.int .u32 (vN j*16+fixLen (vN j):Nat))
theorem HT.fr{S:List Nat}{w w':wQ}{ht:Nat}(h:HT w ht)(hf:Fr S w w')(hS:ht∉S):HT w' ht:=by
 obtain⟨arr,h1,h2⟩:=h;exact⟨arr,hf.row h1 hS,h2⟩
theorem rP{x n:Nat}(h:x<4294967296)(hn:n<=31):zF .u32 (x:Int) ((2^n -1:Nat):Int)=((x%2^n:Nat):Int):=by
 have:2^n<=2^31:=Nat.pow_le_pow_right oQ hn;have h1:1<=2^n:=Nat.one_le_two_pow;rw[qAj oQ oQ oQ oQ,Int.toNat_natCast,Int.toNat_natCast,Nat.and_two_pow_sub_one_eq_mod]
section
variable{fb hb bb gb db rb kb ht:Nat}{p:pQ}{d:Dec}{F:Fl}{done out tail:bQ}{R Q:Nat}{s:Nat×Nat×bQ}{w w':wQ}{E:Er}{t:Option Bool}
theorem Fs.c159{b nb s0:Nat}(h:Fs w fb hb bb gb db rb kb p d E t F done out tail R Q s)(hFb:F.b=b)(hFnb:F.nb=nb)(hn7:nb<=7)(hT:HT w ht)(hht:ht∉[rb,kb,db,bb,gb,fb])(hs:s0<288)(hA:At out Q (jU s0)):
  CallT Pg 159 #[.pointer (some ⟨fb,0,none⟩),.pointer (some ⟨ht,0,none⟩)] w fun v w'=>Fr [rb,kb,db,bb,gb,fb] w w'/\hn w'=hn w/\((v= .tuple #[.int .i64 s0,.nilIface]/\
   ∃ro b' nb' R',nb'<=7/\Fs w' fb hb bb gb db rb kb p d E t {F with ro:=ro,b:=(b':Nat),nb:=(nb':Nat)} done out tail R' (Q+fixLen s0) s)\/
   (∃e ro b' nb',v= .tuple #[.int .i64 0,e]/\Errx E t e/\FlAt w' fb hb bb {F with ro:=ro,b:=b',nb:=nb'} done/\DW w' db rb kb p d)):=by
 obtain⟨b0,nb0,e1,e2,hB⟩:=h.bits;obtain rfl:b0=b:=oQ;obtain rfl:nb0=nb:=oQ;have hord:=h.src.ords;have ho2:=h.ord;have ho3:=h.fl.ord;have hlo:=h.lo;have hlen:=jG s0;have hAl:=hA.1;rw[nB,wordL_length]at hAl;obtain⟨arr,a1,a2⟩:=h.fl.row;obtain⟨tarr,t1,t2,t3⟩:=hT;apply call159;unfold wp159 aQq wIq iQq;refine qC t1 t2 (qE fun w2 f2 n2=> ?_);have a2':=f2.row0 a1;refine qC a2' a2.nb (qC a2' a2.b ?_);rw[e1,e2];refine qP (fun z w'=>∃n nb b R ro,z=(((n:Nat):Int),((nb:Nat):Int),((b:Nat):Int),())/\Fr [rb,kb,db,bb,gb,fb] w w'/\hn w'=hn w/\FlAt w' fb hb bb {F with ro:=ro} done/\Gives w' bb gb db rb kb p d t (out.drop R++tail) s/\Bits out R Q b nb/\n<=9/\(n=7\/7<=nb)/\(nb<n ->nb<fixLen s0)/\nb<=15/\(nb<=7\/nb<fixLen s0+8)) (fun z _ =>9 -z.1.toNat)
  ⟨7,nb0,b0,R,F.ro,rfl,f2.mono sQ,n2,h.fl.fr f2 sQ sQ,h.src.fr f2 sQ,hB,oQ,.inl rfl,oQ,oQ,.inl hn7⟩ ?_
 rintro z w6 ⟨n,nb,b,R6,ro6,rfl,F6,n6,fl6,S6,B6,hn9,hn7',hlt6,hnb15,hle6⟩;refine qP (fun z w'=>∃nb b R ro,z=(((nb:Nat):Int),((b:Nat):Int),())/\Fr [rb,kb,db,bb,gb,fb] w w'/\hn w'=hn w/\FlAt w' fb hb bb {F with ro:=ro} done/\Gives w' bb gb db rb kb p d t (out.drop R++tail) s/\Bits out R Q b nb/\(n=7\/7<=nb)/\(nb<n ->nb<fixLen s0)/\nb<=16/\(nb<=7\/nb<fixLen s0+8)) (fun z _ =>9 -z.1.toNat)
  ⟨nb,b,R6,ro6,rfl,F6,n6,fl6,S6,B6,hn7',hlt6,oQ,hle6⟩ ?_
 rintro z w10 ⟨nb,b,R1,ro1,rfl,F10,n10,fl10,S10,B10,hn7'',hlt10,hnb16,hle10⟩;dsimp only;obtain⟨ar10,r10,q10⟩:=fl10.row;refine qF (fun hlt=> ?_) (fun hge=> ?_)
 ·have hltl:=hlt10 oQ
  have hR1:R1<out.length:=by have:=B10.pos;omega
  have hS:=S10;rw[lO hR1,List.cons_append]at hS;refine qT r10 (q10.r.trans (congrArg some fl10.rr)) ?_;refine cK (CallT.mono (hS.c250 (h.er.fr F10 (by simp;omega)) hlo) ?_);rintro _ w15 ⟨F15,n15,hv⟩;have r15:=F15.row r10 (by simp;omega);have fl15:=fl10.fr F15 (by simp;omega) (by simp;omega);rcases hv with⟨rfl,S15⟩|⟨e,rfl,he,hD⟩
  rotate_left
  ·refine⟨_,_,rfl,he.nil (xA ?_)⟩
   have E15:=(h.er.fr F10 (by simp;omega)).fr F15 (by simp;omega);obtain⟨b',hb',he⟩:=he;refine cY r15 q10 fun w19 arr19 h19 hF19 f19 n19=> ?_;have fl19:=fl15.upd f19 h19 hF19 rfl rfl rfl rfl;refine fC h19 hF19 fun w20 arr20 h20 hF20 f20 n20=> ?_;have fl20:=fl19.upd f20 h20 hF20 rfl rfl rfl rfl;refine CallT.mono (c154 he ((E15.fr f19 (by simp;omega)).fr f20 (by simp;omega))) ?_;rintro v w22 ⟨he',hxe,rfl⟩;exact⟨_,rfl,F10.trans ((F15.mono sQ).trans ((f19.mono sQ).trans (f20.mono sQ))),oQ,.inr ⟨v,ro1,_,_,rfl,⟨b',hb',he',hxe⟩,fl20,(hD.fr f19 (by simp;omega)).fr f20 (by simp;omega)⟩⟩
  refine⟨_,_,rfl,qR (qM (qC r15 q10.ro ?_))⟩;refine aT r15 q10 fun w25 arr25 h25 hF25 f25 n25=> ?_;have fl25:=fl15.upd f25 h25 hF25 rfl rfl rfl rfl;have e31:zF .u64 (nb:Int) 31=(nb:Int):=by
   rw[dD oQ oQ dQ dQ,Int.toNat_natCast];have:nb&&&(31:Int).toNat=nb%2^5:=Nat.and_two_pow_sub_one_eq_mod nb 5;rw[this,Nat.mod_eq_of_lt oQ]
  rw[e31,<-eQ hR1,qFx B10.lt oQ (yC _ _),show(nb:Int)+8=((nb+8:Nat):Int) by omega,zE oQ oQ];refine qU oQ ⟨⟨nb+8,_,R1+1,_,rfl,F10.trans ((F15.mono sQ).trans (f25.mono sQ)),oQ,fl25,S15.fr f25 (by simp;omega),B10.more hR1 oQ,oQ,oQ,oQ,oQ⟩,oQ⟩
 ·have hbl:=B10.lt
  have hb32:b<4294967296:=Nat.lt_of_lt_of_le hbl (show 2^nb<=2^32 from Nat.pow_le_pow_right oQ oQ);have e511:zF .u32 (b:Int) 511=((b%512:Nat):Int):=rP (n:=9) hb32 dQ;rw[e511];have hm:b%512<512:=Nat.mod_lt _ dQ;obtain⟨k1,k2⟩:=qEr B10 hs hA;have t10:=F10.row t1 hht;refine⟨⟨oQ,oQ⟩,?_⟩;rw[elemAt_one,Int.toNat_natCast];refine qC t10 (t3 _ hm) ?_;generalize hsy:vN (b%512)=sy at*;have hsyl:=jG sy;have hsy288:sy<288:=by rw[<-hsy];exact sP _
  have e15:wrap .u64 (zF .u32 ((sy*16+fixLen sy:Nat):Int) 15)=(fixLen sy:Int):=by
   rw[show(15:Int)=((2^4 -1:Nat):Int)from rfl,rP oQ dQ,zE oQ oQ];omega
  rw[e15];refine qJ (fun z w'=>z=((fixLen sy:Int),((sy*16+fixLen sy:Nat):Int),())/\w'=w10) ?_ ?_
  ·rintro z w28 ⟨rfl,rfl⟩
   dsimp only;refine qF (fun hle=> ?_) (fun hgt=> ?_)
   ·have hfs:fixLen s0<=nb:=by
     rcases Nat.lt_or_ge nb (fixLen s0)with h1|h1
     ·have:=k2 h1;omega
     ·exact h1
    have hsy0:=k1 hfs;subst hsy0;refine qW (fun e=>absurd e oQ) (fun _ => ?_);have e31:zF .u64 (fixLen sy:Int) 31=(fixLen sy:Int):=by
     rw[dD oQ oQ dQ dQ,Int.toNat_natCast];have:fixLen sy&&&(31:Int).toNat=fixLen sy%2^5:=Nat.and_two_pow_sub_one_eq_mod _ 5;rw[this,Nat.mod_eq_of_lt oQ]
    rw[e31,uB oQ oQ oQ,Int.toNat_natCast,Int.toNat_natCast];refine qU oQ ?_;refine cY r10 q10 fun w36 arr36 h36 hF36 f36 n36=> ?_;have fl36:=fl10.upd f36 h36 hF36 rfl rfl rfl rfl;rw[show(nb:Int) -(fixLen sy:Int)=((nb -fixLen sy:Nat):Int) by omega,zE oQ oQ];refine fC h36 hF36 fun w37 arr37 h37 hF37 f37 n37=> ?_;have fl37:=fl36.upd f37 h37 hF37 rfl rfl rfl rfl;refine qU dQ ⟨F10.trans ((f36.mono sQ).trans (f37.mono sQ)),oQ,.inl ⟨?_,ro1,_,_,R1,?_,⟨fl37,(S10.fr f36 (by simp;omega)).fr f37 (by simp;omega),⟨_,_,rfl,rfl,B10.drop hfs⟩,h.ord,((h.er.fr F10 (by simp;omega)).fr f36 (by simp;omega)).fr f37 (by simp;omega),hlo⟩⟩⟩
    ·have e4:qY .u32 ((sy*16+fixLen sy:Nat):Int) 4=(sy:Int):=by
      rw[uB oQ dQ dQ,Int.toNat_natCast];have:(sy*16+fixLen sy)/2^(4:Int).toNat=sy:=by
       show(sy*16+fixLen sy)/16=sy;omega
      rw[this]
     rw[e4,qA oQ oQ]
    ·omega
   ·have hnl:nb<fixLen s0:=by
     rcases Nat.lt_or_ge nb (fixLen s0)with h1|h1
     ·exact h1
     ·have e:=k1 h1
      rw[e]at hgt;omega
    exact⟨⟨fixLen sy,nb,b,R1,ro1,rfl,F10,n10,fl10,S10,B10,oQ,oQ,fun _ =>hnl,oQ,hle10⟩,oQ⟩
  ·intro J hJ
   exact qF (fun hc=>absurd hc oQ) (fun _ =>hJ _ _ ⟨rfl,rfl⟩)
end
def wp156(x0:Addr)(R:vPq)(w:wQ):Prop:=LdB w (aQq x0 1047) fun i=>IfC i (CallT Pg 166 #[.pointer (some (aQq x0 1037))] w fun j a=>∃b,And (j=iQq b) (IfC (decide (b>(0:Int))) (CallT Pg 155 #[.pointer (some (aQq x0 1037))] a fun k l=>∃c d e,And (k= .slice c d e) (qB l (aQq x0 1049) (.slice c d e) fun f=>LdV f ⟨0,0,none⟩ fun g=>yE (Value.oneCell' g) (qB f (aQq x0 1048) g fun m=>qB m (aQq x0 1045) (.func (.func 143) #[] #[]) fun n=>R (.tuple #[]) n))) (LdV a ⟨0,0,none⟩ fun h=>yE (Value.oneCell' h) (qB a (aQq x0 1048) h fun o=>qB o (aQq x0 1045) (.func (.func 143) #[] #[]) fun p=>R (.tuple #[]) p)))) (qB w (aQq x0 1045) (.func (.func 143) #[] #[]) fun q=>R (.tuple #[]) q)
theorem call156{x0:Addr}{R:vPq}{w:wQ}(h:wp156 x0 R w):CallT Pg 156 #[.pointer (some x0)] w R:=cVq [] Tryz.func156 h
def wp157(x0:Addr)(R:vPq)(w:wQ):Prop:=CallT Pg 167 #[.pointer (some (aQq x0 1037))] w fun z b=>∃f g c,And (z= .slice f g c) (xH (fun(h:(Sl×Unit)) (l:wQ)=>LdV l x0 fun A=>CallT Pg 71 #[A,.slice h.1.a h.1.len h.1.cap] l fun B m=>∃d i,And (B= .tuple #[iQq d,i]) (LdI m (aQq x0 2) .i64 fun C=>qB m (aQq x0 2) (iQq (wIq (C+d))) fun n=>LdI n (aQq x0 1052) .i64 fun D=>qB n (aQq x0 1052) (iQq (wIq (D -d))) fun E=>CallT Pg 168 #[.pointer (some (aQq x0 1037)),iQq d] E fun F o=>And (F= .tuple #[]) (xR i fun G=>IfC (!G) (CallT Pg 154 #[i] o fun H I=>∃j,And (H=j) (yE (Value.oneCell' j) (qB I (aQq x0 1048) j fun J=>R (.tuple #[]) J))) (CallT Pg 161 #[.pointer (some (aQq x0 1037))] o fun K e=>∃p,And (K=iQq p) (IfC (p==0) (CallT Pg 155 #[.pointer (some (aQq x0 1037))] e fun L M=>∃q r s,And (L= .slice q r s) (qB M (aQq x0 1049) (.slice q r s) fun N=>qB N (aQq x0 1045) (.func (.func 157) #[] #[]) fun O=>R (.tuple #[]) O)) (LdI e (aQq x0 1052) .i64 fun P=>IfC (decide (P>(0:Int))) (CallT Pg 155 #[.pointer (some (aQq x0 1037))] e fun Q S=>∃t u v,And (Q= .slice t u v) (qB S (aQq x0 1049) (.slice t u v) fun T=>qB T (aQq x0 1045) (.func (.func 157) #[] #[]) fun U=>R (.tuple #[]) U)) (CallT Pg 156 #[.pointer (some x0)] e fun V X=>And (V= .tuple #[]) (R (.tuple #[]) X)))))))) (fun y=>LdI b (aQq x0 1052) .i64 fun Y=>IfC (decide ((g:Int)>Y)) (LdI b (aQq x0 1052) .i64 fun k=>And (0<=k/\k<=(c:Int)) (y ((⟨f,k.toNat,c⟩:Sl),()) b)) (y ((⟨f,g,c⟩:Sl),()) b)))
theorem call157{x0:Addr}{R:vPq}{w:wQ}(h:wp157 x0 R w):CallT Pg 157 #[.pointer (some x0)] w R:=cVq [(2,[(2,.sl)],[0])] Tryz.func157 h
def fN:Value:= .func (.func 143) #[] #[]
def oH(F:Fl)(eof:Value)(hb rd n:Nat):Fl:=if F.fin then(if rd<n then{F with rd:=n,toR:=⟨qQ (some ⟨hb,0,none⟩) 32768 rd 1,n -rd,32768 -rd⟩,err:=eof,step:=fN}else{F with err:=eof,step:=fN})else{F with step:=fN}
section
variable{w w':wQ}{fb hb bb gb db rb kb ht:Nat}{p:pQ}{d:Dec}{F:Fl}{done out tail:bQ}{R Q:Nat}{s:Nat×Nat×bQ}{E:Er}{t:Option Bool}
def dN(w':wQ)(fb hb bb db rb kb:Nat)(p:pQ)(d:Dec)(E:Er)(t:Option Bool)(F:Fl):Prop:=
 ∃F' done',FlAt w' fb hb bb F' done'/\Errx E t F'.err/\F'.rd=F.rd/\F.rd<=done'.length/\F'.toR=F.toR/\DW w' db rb kb p d
theorem FlAt.c156{rd:Nat}(h:FlAt w fb hb bb F done)(hrd:F.rd=rd)(hle:rd<=done.length)(hE:Errs w E)(hfb:E.n0<=fb):
  CallT Pg 156 #[.pointer (some ⟨fb,0,none⟩)] w fun v w'=>v= .tuple #[]/\Fr [fb] w w'/\hn w'=hn w/\
   FlAt w' fb hb bb (oH F (xP E.ea) hb rd done.length) done:=by
 obtain⟨arr,a1,a2⟩:=h.row;have hl:=h.len;unfold oH;apply call156;unfold wp156 aQq iQq;refine zB a1 a2.fin ?_;refine qX (fun hf=> ?_) (fun hf=> ?_)
 ·rw[if_pos hf]
  refine CallT.mono (h.c166 hrd hle) ?_;rintro _ w3 ⟨rfl,f3,n3⟩;have h3:=h.fr f3 sQ sQ;have a3:=f3.row0 a1;have hE3:=hE.fr f3 sQ;refine⟨_,rfl,qF (fun hc=> ?_) (fun hc=> ?_)⟩
  ·rw[if_pos oQ]
   refine CallT.mono (h3.c155 hrd hle) ?_;rintro _ w6 ⟨rfl,h6,f6,n6⟩;obtain⟨ar6,r6,q6⟩:=h6.row;refine⟨_,_,_,rfl,?_⟩;refine dS (x:=⟨qQ (some ⟨hb,0,none⟩) 32768 rd 1,done.length -rd,32768 -rd⟩) r6 q6 fun w10 arr10 h10 hF10 f10 n10=> ?_;have fl10:=h6.upd f10 h10 hF10 rfl rfl rfl rfl;have hE10:=(hE3.fr f6 (by simp;omega)).fr f10 (by simp;omega);obtain⟨T,he⟩:=hE10.eof;refine qT he rfl (zK (mP _) ?_);refine lJ h10 hF10 fun w12 arr12 h12 hF12 f12 n12=> ?_;have fl12:=fl10.upd f12 h12 hF12 rfl rfl rfl rfl;refine dC h12 hF12 fun w13 arr13 h13 hF13 f13 n13=> ?_;have fl13:=fl12.upd f13 h13 hF13 rfl rfl rfl rfl;exact⟨rfl,(f3.mono sQ).trans (f6.trans (f10.trans (f12.trans f13))),oQ,fl13⟩
  ·rw[if_neg oQ]
   obtain⟨T,he⟩:=hE3.eof;refine qT he rfl (zK (mP _) ?_);refine lJ a3 a2 fun w12 arr12 h12 hF12 f12 n12=> ?_;have fl12:=h3.upd f12 h12 hF12 rfl rfl rfl rfl;refine dC h12 hF12 fun w13 arr13 h13 hF13 f13 n13=> ?_;have fl13:=fl12.upd f13 h13 hF13 rfl rfl rfl rfl;exact⟨rfl,(f3.mono sQ).trans (f12.trans f13),oQ,fl13⟩
 ·rw[if_neg (by rw[hf];simp)]
  refine dC a1 a2 fun w13 arr13 h13 hF13 f13 n13=> ?_;exact⟨rfl,f13,n13,h.upd f13 h13 hF13 rfl rfl rfl rfl⟩
theorem FlAt.c157{rd m:Nat}{ys:bQ}(h:FlAt w fb hb bb F done)(hS:Gives w bb gb db rb kb p d t ys s)(hrd:F.rd=rd)(hle:rd<=done.length)(hcl:F.cl=m)(hm0:0<m)(hmy:m<=ys.length)(hl:done.length+m<32768)(hE:Errs w E)(hlo:E.n0<=rb)(hgf:gb<fb):
  CallT Pg 157 #[.pointer (some ⟨fb,0,none⟩)] w fun v w'=>v= .tuple #[]/\Fr [rb,kb,db,bb,gb,fb,hb] w w'/\hn w'=hn w/\((Gives w' bb gb db rb kb p d t (ys.drop m) s/\
   ∃ro,FlAt w' fb hb bb (oH {F with ro:=ro,cl:=0,wr:=(done.length+m:Nat)} (xP E.ea) hb rd (done.length+m)) (done++ys.take m))\/dN w' fb hb bb db rb kb p d E t F):=by
 have hord:=hS.ords;have ho3:=h.ord;apply call157;unfold wp157 aQq wIq iQq;refine CallT.mono h.c167 ?_;rintro _ w2 ⟨rfl,f2,n2⟩;have h2:=h.fr f2 sQ sQ;have S2:=hS.fr f2 sQ;have E2:=hE.fr f2 sQ;obtain⟨arr,a1,a2⟩:=h2.row;obtain⟨harr,b1,b2,b3⟩:=h2.hrow;refine⟨_,_,_,rfl,?_⟩;refine qJ (fun z w'=>z.1=⟨some ⟨hb,done.length,none⟩,m,32768 -done.length⟩/\w'=w2) ?_ ?_
 ·rintro⟨_,⟨⟩⟩ w7 ⟨rfl,rfl⟩
  dsimp only;refine qT a1 (a2.r.trans (congrArg some h2.rr)) ?_;refine CallT.mono (S2.c71 E2 hlo b1 oQ oQ oQ oQ hm0 oQ oQ hmy) ?_;rintro _ w11 ⟨F11,n11,hv⟩;have a11:=F11.row a1 (by simp;omega);have E11:=E2.fr F11 (by simp;omega);have key:∀(xs:bQ) (harr':vQ),hp w11 hb=Row 5 harr' ->Put harr done.length (bv xs) harr' ->FlAt w11 fb hb bb F done:=fun xs harr' b11 p11=>⟨⟨arr,a11,a2⟩,h2.hist,⟨harr',b11,by rw[p11.1];exact b2,fun j v hj=>by
   have hjl:=(List.getElem?_eq_some_iff.1 hj).1;rw[bv_length]at hjl;rw[p11.2 j,if_neg oQ];exact b3 j v hj⟩,h2.wr,h2.len,h2.full,h2.rr,h2.ord⟩
  rcases hv with⟨rfl,⟨harr',b11,p11⟩,S11⟩|⟨xs,e,hxn,rfl,he,hD,harr',b11,p11⟩
  ·have htl:(ys.take m).length=m:=by simp;omega
   have fl11:=key _ _ b11 p11;refine⟨_,_,rfl,qC a11 a2.ro ?_⟩;refine aT a11 a2 fun w15 arr15 h15 hF15 f15 n15=> ?_;have fl15:=fl11.upd f15 h15 hF15 rfl rfl rfl rfl;refine qC h15 hF15.cl ?_;dsimp only;rw[show F.cl -(m:Int)=0 by omega,show wrap .i64 0=0 from rfl];refine nR h15 hF15 fun w17 arr17 h17 hF17 f17 n17=> ?_;have fl17:=fl15.upd f17 h17 hF17 rfl rfl rfl rfl;have b17:=f17.row1 (f15.row1 b11 oQ) oQ;have hc:=fl17.c168 (xs:=ys.take m) (harr:=harr') (by rw[htl];exact hl) b17 (fun j v hj=>p11.at hj);rw[htl]at hc;refine CallT.mono hc ?_;rintro _ w19 ⟨rfl,fl19,f19,n19⟩;refine⟨rfl,qR (qM ?_)⟩;refine CallT.mono fl19.c161 ?_;rintro _ w26 ⟨rfl,f26,n26⟩;have fl26:=fl19.fr f26 sQ sQ;have hdl:(done++ys.take m).length=done.length+m:=by simp;omega
   rw[hdl];refine⟨_,rfl,qW (fun e=>absurd e oQ) (fun _ => ?_)⟩;obtain⟨ar26,r26,q26⟩:=fl26.row;refine qC r26 q26.cl (qF (fun hc=>absurd hc (by show¬((0:Int)>0);decide)) (fun _ => ?_));have E26:=((((E11.fr f15 (by simp;omega)).fr f17 (by simp;omega)).fr f19 (by simp;omega))).fr f26 sQ;refine CallT.mono (fl26.c156 (rd:=rd) hrd oQ E26 oQ) ?_;rintro _ w44 ⟨rfl,f44,n44,fl44⟩;rw[hdl]at fl44;refine⟨rfl,rfl,?_,oQ,.inl ⟨?_,_,fl44⟩⟩
   ·exact(f2.mono sQ).trans ((F11.mono sQ).trans ((f15.mono sQ).trans ((f17.mono sQ).trans ((f19.mono sQ).trans ((f26.mono sQ).trans (f44.mono sQ))))))
   ·exact((((S11.fr f15 (by simp;omega)).fr f17 (by simp;omega)).fr f19 (by simp;omega)).fr f26 sQ).fr f44 (by simp;omega)
  ·have fl11:=key _ _ b11 p11
   refine⟨_,_,rfl,qC a11 a2.ro ?_⟩;refine aT a11 a2 fun w15 arr15 h15 hF15 f15 n15=> ?_;have fl15:=fl11.upd f15 h15 hF15 rfl rfl rfl rfl;refine qC h15 hF15.cl ?_;refine nR h15 hF15 fun w17 arr17 h17 hF17 f17 n17=> ?_;have fl17:=fl15.upd f17 h17 hF17 rfl rfl rfl rfl;have b17:=f17.row1 (f15.row1 b11 oQ) oQ;refine CallT.mono (fl17.c168 (xs:=xs) (harr:=harr') oQ b17 (fun j v hj=>p11.at hj)) ?_;rintro _ w19 ⟨rfl,fl19,f19,n19⟩;refine⟨rfl,he.nil (xA ?_)⟩;have E19:=(((E11.fr f15 (by simp;omega)).fr f17 (by simp;omega)).fr f19 (by simp;omega));obtain⟨b,hb',he⟩:=he;refine CallT.mono (c154 he E19) ?_;rintro v w22 ⟨he',hxe,rfl⟩;refine⟨_,rfl,zK he'.one ?_⟩;obtain⟨ar19,r19,q19⟩:=fl19.row;refine lJ r19 q19 fun w24 arr24 h24 hF24 f24 n24=> ?_;have fl24:=fl19.upd f24 h24 hF24 rfl rfl rfl rfl;refine⟨rfl,?_,oQ,.inr ⟨_,_,fl24,⟨b,hb',he',hxe⟩,rfl,?_,rfl,(((hD.fr f15 (by simp;omega)).fr f17 (by simp;omega)).fr f19 (by simp;omega)).fr f24 (by simp;omega)⟩⟩
   ·exact(f2.mono sQ).trans ((F11.mono sQ).trans ((f15.mono sQ).trans ((f17.mono sQ).trans ((f19.mono sQ).trans (f24.mono sQ)))))
   ·simp;omega
 ·intro J hJ
  refine qC a1 a2.cl ?_;rw[hcl];refine qF (fun _ =>qC a1 a2.cl ?_) (fun hc=>absurd oQ hc);rw[hcl];refine⟨⟨oQ,oQ⟩,hJ _ _ ⟨?_,rfl⟩⟩;rw[Int.toNat_natCast]
end
def wp150(x0:Addr)(R:vPq)(w:wQ):Prop:=qB w (aQq x0 4) (.int .u64 0) fun n=>qB n (aQq x0 3) (.int .u32 0) fun o=>qO o fun g=>LdV g x0 fun p=>And (0<=(4:Int)/\(4:Int)<=(4:Int)) (And (0<=(0:Int)/\(0:Int)<=(4:Int)) (CallT Pg 71 #[p,.slice (some (aQq x0 1041)) 4 4] g fun q h=>∃i b,And (q= .tuple #[iQq i,b]) (LdI h (aQq x0 2) .i64 fun r=>qB h (aQq x0 2) (iQq (wIq (r+i))) fun j=>xR b fun s=>IfC (!s) (CallT Pg 154 #[b] j fun t u=>∃c,And (t=c) (yE (Value.oneCell' c) (qB u (aQq x0 1048) c fun v=>R (.tuple #[]) v))) (qO j fun d=>And (0<=(0:Int)/\(0:Int)<(4:Int)) (LdI d (aQq x0 1041) .u8 fun e=>And (0<=(1:Int)/\(1:Int)<(4:Int)) (LdI d ⟨x0.block,x0.off+1041+1,none⟩ .u8 fun f=>ShC 8 (qO d fun a=>And (0<=(2:Int)/\(2:Int)<(4:Int)) (LdI a ⟨x0.block,x0.off+1041+2,none⟩ .u8 fun y=>And (0<=(3:Int)/\(3:Int)<(4:Int)) (LdI a ⟨x0.block,x0.off+1041+3,none⟩ .u8 fun z=>ShC 8 (IfC ((wrap .u16 (bOr .i64 (wIq y) (xJ .i64 (wIq z) 8))) !=(wrap .u16 (uS .i64 (if IntKind.signed .i64 then -1 else IntKind.max .i64) (bOr .i64 (wIq e) (xJ .i64 (wIq f) 8))))) (LdI a (aQq x0 2) .i64 fun A=>qB a (aQq x0 1048) (.iface 296 (iQq A)) fun B=>R (.tuple #[]) B) (IfC ((bOr .i64 (wIq e) (xJ .i64 (wIq f) 8))==0) (CallT Pg 155 #[.pointer (some (aQq x0 1037))] a fun C D=>∃k l m,And (C= .slice k l m) (qB D (aQq x0 1049) (.slice k l m) fun E=>CallT Pg 156 #[.pointer (some x0)] E fun F G=>And (F= .tuple #[]) (R (.tuple #[]) G))) (qB a (aQq x0 1052) (iQq (bOr .i64 (wIq e) (xJ .i64 (wIq f) 8))) fun H=>CallT Pg 157 #[.pointer (some x0)] H fun I J=>And (I= .tuple #[]) (R (.tuple #[]) J)))))))))))))
theorem call150{x0:Addr}{R:vPq}{w:wQ}(h:wp150 x0 R w):CallT Pg 150 #[.pointer (some x0)] w R:=cVq [] Tryz.func150 h
section
variable{w:wQ}
theorem At.byte{out:bQ}{R x:Nat}(h:At out (8*R) (Go.Proofs.bitsL x 8))(hx:x<256):R<out.length/\V.gb out R=x:=by
 have h1:=h.1;rw[bitsL_length]at h1;refine⟨oQ,?_⟩;apply Nat.eq_of_testBit_eq;intro i;rcases Nat.lt_or_ge i 8 with hi|hi
 ·have:=h.bitsL i hi
  unfold fF at this;rw[show(8*R+i)/8=R by omega,show(8*R+i)%8=i by omega]at this;exact this
 ·have h256:256<=2^i:=Nat.pow_le_pow_right (n:=2) (i:=8) oQ hi
  rw[Nat.testBit_lt_two_pow (Nat.lt_of_lt_of_le (yC out R) h256),Nat.testBit_lt_two_pow (Nat.lt_of_lt_of_le hx h256)]
theorem nX(v:Nat):bitsL v 16=bitsL (v%256) 8++bitsL (v/256) 8:=by
 apply List.ext_getElem?;intro i;simp only[Go.Proofs.bitsL,List.getElem?_map,List.getElem?_append,List.length_map,List.length_range,List.getElem?_range];have e1:(v%256).testBit i=(decide (i<8)&&v.testBit i):=by
  rw[show(256:Nat)=2^8 from rfl,Nat.testBit_mod_two_pow]
 have e2:(v/256).testBit (i -8)=v.testBit (i -8+8):=by
  rw[show(256:Nat)=2^8 from rfl,Nat.testBit_div_two_pow]
 rcases Nat.lt_or_ge i 8 with hi|hi
 ·simp[hi,show i<16 by omega,e1]
 ·have h8:¬i<8:=oQ
  simp only[h8,if_false];rcases Nat.lt_or_ge i 16 with h1|h1
  ·simp[h1,show i -8<8 by omega,e2,show i -8+8=i by omega]
  ·simp[show¬i<16 by omega,show¬i -8<8 by omega]
theorem At.bytes{out:bQ}:∀{dd:bQ} {R:Nat},At out (8*R) (yV dd) ->R+dd.length<=out.length/\(out.drop R).take dd.length=dd
 |[],R,h=>⟨by have:=h.1;simp[yV]at this;simp;omega,sQ⟩
 |x::dd,R,h=>by
  have e:yV (x::dd)=Go.Proofs.bitsL x.toNat 8++yV dd:=rfl;rw[e]at h;obtain⟨h1,h2⟩:=h.left.byte (UInt8.toNat_lt x);have h3:=h.right;rw[bitsL_length,show 8*R+8=8*(R+1) by omega]at h3;obtain⟨h4,h5⟩:=At.bytes h3;refine⟨by simp;omega,?_⟩;rw[lO h1,List.length_cons,List.take_succ_cons,h5]
  congr 1
  apply UInt8.toNat_inj.1;rw[<-h2,eQ h1]
end
theorem FAt.put{arr arr':vQ}{F:Fl}{xs:bQ}(h:FAt arr F)(hp:Put arr 1041 (bv xs) arr')(hl:xs.length<=4):∃u0 u1 u2 u3,FAt arr' {F with u0:=u0,u1:=u1,u2:=u2,u3:=u3}/\(xs.length=4 ->u0=gb xs 0/\u1=gb xs 1/\u2=gb xs 2/\u3=gb xs 3):=by
 have key:∀i (x:Int),i<4 ->arr[1041+i]? =some (.int .u8 x) ->∃u:Int,arr'[1041+i]? =some (.int .u8 u)/\(i<xs.length ->u=gb xs i):=by
  intro i x hi hx;rw[hp.2,bv_length]
  split
  ·rename_i hc
   refine⟨gb xs i,?_,fun _ =>rfl⟩;rw[show 1041+i -1041=i by omega];exact kZ oQ
  ·exact⟨x,hx,fun _ =>by omega⟩
 have oth:∀i,(i<1041\/1045<=i) ->arr'[i]? =arr[i]? :=fun i hi=>by rw[hp.2,bv_length,if_neg oQ]
 obtain⟨a0,k0,e0⟩:=key 0 _ dQ h.u0;obtain⟨a1,k1,e1⟩:=key 1 _ dQ h.u1;obtain⟨a2,k2,e2⟩:=key 2 _ dQ h.u2;obtain⟨a3,k3,e3⟩:=key 3 _ dQ h.u3;refine⟨a0,a1,a2,a3,⟨hp.1.trans h.size,(oth _ dQ).trans h.r,(oth _ dQ).trans h.ro,(oth _ dQ).trans h.b,(oth _ dQ).trans h.nb,(oth _ dQ).trans h.hist,(oth _ dQ).trans h.wr,(oth _ dQ).trans h.rd,(oth _ dQ).trans h.full,k0,k1,k2,k3,(oth _ dQ).trans h.step,(oth _ dQ).trans h.ss,(oth _ dQ).trans h.fin,(oth _ dQ).trans h.err,(oth _ dQ).trans h.toR,(oth _ dQ).trans h.hl,(oth _ dQ).trans h.hd,(oth _ dQ).trans h.cl,(oth _ dQ).trans h.cd⟩,fun h4=>⟨e0 oQ,e1 oQ,e2 oQ,e3 oQ⟩⟩
theorem le16{a b:Nat}(ha:a<256)(hb:b<256):bOr .i64 (wrap .i64 (a:Int)) (xJ .i64 (wrap .i64 (b:Int)) 8)=((a+256*b:Nat):Int):=by
 rw[qA oQ oQ,qA oQ oQ,tI dQ dQ,show(8:Int).toNat=8 from rfl,show(2:Int)^8=256 from rfl,qA oQ oQ,eZ oQ oQ oQ oQ];rw[show((b:Int)*256).toNat=b*256 by omega,Int.toNat_natCast,Nat.or_comm,yX (j:=8) oQ oQ]
 congr 1;omega
theorem qIr{n:Nat}(hn:n<65536):wrap .u16 (uS .i64 (-1) (n:Int))=((65535 -n:Nat):Int):=by
 unfold uS;have e:(BitVec.ofInt 64 (-1)^^^BitVec.ofInt 64 (n:Int)).toNat=18446744073709551615 -n:=by
  rw[jI,show BitVec.ofInt 64 (-1)=BitVec.allOnes 64 from dQ,BitVec.allOnes_xor,BitVec.toNat_not,BitVec.toNat_ofNat];omega
 show wrap .u16 (wrap .i64 ((BitVec.ofInt 64 (-1)^^^BitVec.ofInt 64 (n:Int)).toNat:Int))=_;rw[e];simp only[wrap,IntKind.bits,IntKind.signed];simp
 split<;>omega
section
variable{w:wQ}{fb hb bb gb db rb kb ht:Nat}{p:pQ}{d:Dec}{F:Fl}{done out tail:bQ}{R Q:Nat}{s:Nat×Nat×bQ}{E:Er}{t:Option Bool}
def BEnd(F F':Fl)(eof:Value)(hb n:Nat):Prop:=F'.step=fN/\F'.ss=F.ss/\(F.fin=true ->F'.err=eof/\F'.rd=(n:Nat)/\F'.toR.len=n/\(0<n ->F'.toR.a=some ⟨hb,0,none⟩/\n<=F'.toR.cap))/\(F.fin=false ->F'.err=F.err/\F'.rd=0/\F'.toR.len=0)
theorem bF{F0:Fl}{eof:Value}{n:Nat}(hrd:F.rd=0)(ht:F.toR.len=0)(hn:n<32768)(e1:F.ss=F0.ss)(e2:F.fin=F0.fin)(e3:F.err=F0.err):BEnd F0 (oH F eof hb 0 n) eof hb n:=by
 unfold oH BEnd;rw[<-e1,<-e2,<-e3]
 split
 ·rename_i hf
  split
  ·rename_i hlt
   refine⟨rfl,rfl,fun _ =>⟨rfl,rfl,Nat.sub_zero _,fun _ =>⟨by show qQ (some ⟨hb,0,none⟩) 32768 0 1=some ⟨hb,0,none⟩;exact vX _ _ _,?_⟩⟩,fun h=>by rw[hf]at h;cases h⟩;show n<=32768 -0;omega
  ·rename_i hlt
   have:n=0:=oQ;subst this;exact⟨rfl,rfl,fun _ =>⟨rfl,hrd,ht,fun h=>absurd h oQ⟩,fun h=>by rw[hf]at h;cases h⟩
 ·rename_i hf
  exact⟨rfl,rfl,fun h=>absurd h hf,fun _ =>⟨rfl,hrd,ht⟩⟩
theorem Bits.zero{out:bQ}{R:Nat}(h:R<=out.length):Bits out R (8*R) 0 0:=⟨oQ,h,oQ,fun i=>by simp⟩
theorem finF_b{eof:Value}{hb rd n:Nat}:(oH F eof hb rd n).b=F.b/\(oH F eof hb rd n).nb=F.nb:=by
 unfold oH
 split
 ·split<;>exact⟨rfl,rfl⟩
 ·exact⟨rfl,rfl⟩
theorem Fs.c150{nb:Nat}{dd:bQ}(h:Fs w fb hb bb gb db rb kb p d E t F done out tail R Q s)(hFnb:F.nb=nb)(h7:nb<=7)(hrd:F.rd=0)(htr:F.toR.len=0)(h0:dd=[] ->done=[])(hl:done.length+dd.length<32768)
  (hA:At out Q (bitsL 0 ((8 -Q%8)%8)++bitsL dd.length 16++bitsL (65535 -dd.length) 16++yV dd)):
  CallT Pg 150 #[.pointer (some ⟨fb,0,none⟩)] w fun v w'=>v= .tuple #[]/\Fr [rb,kb,db,bb,gb,fb,hb] w w'/\hn w'=hn w/\((∃F' R',Fs w' fb hb bb gb db rb kb p d E t F' (done++dd) out tail R' (8*R') s/\F'.nb=0/\8*R'=Q+(8 -Q%8)%8+32+8*dd.length/\BEnd F F' (xP E.ea) hb (done++dd).length)\/
   dN w' fb hb bb db rb kb p d E t F):=by
 obtain⟨b0,nb0,e1,e2,hB⟩:=h.bits;obtain rfl:nb0=nb:=oQ;have hord:=h.src.ords;have ho2:=h.ord;have ho3:=h.fl.ord;have hlo:=h.lo;have hpos:=hB.pos;have hA0:=hA;generalize hpad:(8 -Q%8)%8=pad at*;have hR:Q+pad=8*R:=oQ;rw[List.append_assoc,List.append_assoc]at hA;have hA1:=hA.right;rw[bitsL_length,hR,nX dd.length,nX (65535 -dd.length)]at hA1;rw[List.append_assoc,List.append_assoc]at hA1;obtain⟨l0,g0⟩:=hA1.left.byte oQ;have hA2:=hA1.right;rw[bitsL_length,show 8*R+8=8*(R+1) by omega]at hA2;obtain⟨l1,g1⟩:=hA2.left.byte oQ;have hA3:=hA2.right;rw[bitsL_length,show 8*(R+1)+8=8*(R+2) by omega]at hA3;obtain⟨l2,g2⟩:=hA3.left.byte oQ;have hA4:=hA3.right;rw[bitsL_length,show 8*(R+2)+8=8*(R+3) by omega]at hA4;obtain⟨l3,g3⟩:=hA4.left.byte oQ;have hA5:=hA4.right;rw[bitsL_length,show 8*(R+3)+8=8*(R+4) by omega]at hA5;obtain⟨l5,hdd⟩:=hA5.bytes;obtain⟨arr,a1,a2⟩:=h.fl.row;apply call150;unfold wp150 aQq wIq iQq;refine fC a1 a2 fun w1 arr1 h1 hF1 f1 n1=> ?_;have fl1:=h.fl.upd f1 h1 hF1 rfl rfl rfl rfl;refine cY h1 hF1 fun w2 arr2 h2 hF2 f2 n2=> ?_;have fl2:=fl1.upd f2 h2 hF2 rfl rfl rfl rfl;refine qE fun w3 f3 n3=> ?_;have fl3:=fl2.fr f3 sQ sQ;have h3:=f3.row0 h2;have E3:=((h.er.fr f1 (by simp;omega)).fr f2 (by simp;omega)).fr f3 sQ;have S3:=((h.src.fr f1 (by simp;omega)).fr f2 (by simp;omega)).fr f3 sQ;refine qT h3 (hF2.r.trans (congrArg some fl3.rr)) ⟨⟨dQ,dQ⟩,⟨dQ,dQ⟩,?_⟩;have hsz:=hF2.size;refine CallT.mono (S3.c71 (g:=fb) E3 hlo h3 oQ oQ oQ (o:=1041) oQ dQ dQ dQ (by simp;omega)) ?_;rintro _ w6 ⟨F6,n6,hv⟩;have E6:=E3.fr F6 (by simp;omega);have F06:Fr [rb,kb,db,bb,gb,fb,hb] w w6:=(f1.mono sQ).trans ((f2.mono sQ).trans ((f3.mono sQ).trans (F6.mono sQ)));have key:∀(xs:bQ) (arr':vQ),xs.length<=4 ->hp w6 fb=Row 281 arr' ->Put arr2 1041 (bv xs) arr' ->∃u0 u1 u2 u3,FAt arr' {F with nb:=0,b:=0,u0:=u0,u1:=u1,u2:=u2,u3:=u3}/\FlAt w6 fb hb bb {F with nb:=0,b:=0,u0:=u0,u1:=u1,u2:=u2,u3:=u3} done/\(xs.length=4 ->u0=V.gb xs 0/\u1=V.gb xs 1/\u2=V.gb xs 2/\u3=V.gb xs 3):=by
  intro xs arr' hx4 hr hp;obtain⟨u0,u1,u2,u3,hu,hx⟩:=hF2.put hp hx4;obtain⟨harr,b1,b2,b3⟩:=fl3.hrow;exact⟨u0,u1,u2,u3,hu,⟨⟨arr',hr,hu⟩,h.fl.hist,⟨harr,F6.row b1 (by simp;omega),b2,b3⟩,h.fl.wr,h.fl.len,h.fl.full,h.fl.rr,h.fl.ord⟩,hx⟩
 rcases hv with⟨rfl,⟨arr',hr6,hp6⟩,S6⟩|⟨xs,e,hxn,rfl,he,hD,arr',hr6,hp6⟩
 ·have hR4:R+4<=out.length:=oQ
  have etk:(out.drop R++tail).take 4=(out.drop R).take 4:=by rw[List.take_append_of_le_length (by simp;omega)]
  have edr:(out.drop R++tail).drop 4=out.drop (R+4)++tail:=by rw[List.drop_append_of_le_length (by simp;omega),List.drop_drop]
  rw[etk]at hp6;rw[edr]at S6;obtain⟨u0,u1,u2,u3,hu,fl6,hx⟩:=key _ _ (by simp;omega) hr6 hp6;obtain⟨x0,x1,x2,x3⟩:=hx (by simp;omega);have eg:∀i,i<4 ->V.gb ((out.drop R).take 4) i=V.gb out (R+i):=by
   intro i hi;rw[mT hi];simp[V.gb,List.getD,List.getElem?_drop]
  rw[eg 0 dQ,Nat.add_zero,g0]at x0;rw[eg 1 dQ,g1]at x1;rw[eg 2 dQ,g2]at x2;rw[eg 3 dQ,g3]at x3;refine⟨_,_,rfl,qC hr6 hu.ro ?_⟩;refine aT hr6 hu fun w10 arr10 h10 hF10 f10 n10=> ?_;have fl10:=fl6.upd f10 h10 hF10 rfl rfl rfl rfl;refine qR (qM ?_);refine qE fun w16 f16 n16=> ?_;have h16:=f16.row0 h10;refine⟨⟨dQ,dQ⟩,qC h16 hF10.u0 ⟨⟨dQ,dQ⟩,qC h16 hF10.u1 ?_⟩⟩;refine qU dQ (qE fun w19 f19 n19=> ?_);have h19:=f19.row0 h16;refine⟨⟨dQ,dQ⟩,qC h19 hF10.u2 ⟨⟨dQ,dQ⟩,qC h19 hF10.u3 ?_⟩⟩;refine qU dQ ?_;dsimp only;have eA:bOr .i64 (wrap .i64 u0) (xJ .i64 (wrap .i64 u1) 8)=((dd.length:Nat):Int):=by
   rw[x0,x1,le16 oQ oQ];congr 1;omega
  have eB:bOr .i64 (wrap .i64 u2) (xJ .i64 (wrap .i64 u3) 8)=((65535 -dd.length:Nat):Int):=by
   rw[x2,x3,le16 oQ oQ];congr 1;omega
  rw[eA,eB,show(if IntKind.signed .i64=true then(-1:Int)else IntKind.max .i64)= -1 from rfl,qIr oQ,vL oQ oQ];refine xU (fun hc=>absurd rfl hc) (fun _ => ?_);have fl19:=(fl10.fr f16 sQ sQ).fr f19 sQ sQ;have E19:=((E6.fr f10 (by simp;omega)).fr f16 sQ).fr f19 sQ;have S19:=((S6.fr f10 (by simp;omega)).fr f16 sQ).fr f19 sQ;have F19:Fr [rb,kb,db,bb,gb,fb,hb] w w19:=F06.trans ((f10.mono sQ).trans ((f16.mono sQ).trans (f19.mono sQ)));refine qW (fun hz=> ?_) (fun hz=> ?_)
  ·have hdd0:dd=[]:=List.eq_nil_of_length_eq_zero oQ
   have hdone:=h0 hdd0;subst hdd0 hdone;refine CallT.mono (fl19.c155 (rd:=0) hrd sQ) ?_;rintro _ w25 ⟨rfl,fl25,f25,n25⟩;refine⟨_,_,_,rfl,?_⟩;obtain⟨ar25,r25,q25⟩:=fl25.row;refine dS (x:=⟨qQ (some ⟨hb,0,none⟩) 32768 0 1,([]:bQ).length -0,32768 -0⟩) r25 q25 fun w29 arr29 h29 hF29 f29 n29=> ?_;have fl29:=fl25.upd f29 h29 hF29 rfl rfl rfl rfl;have E29:=(E19.fr f25 (by simp;omega)).fr f29 (by simp;omega);refine CallT.mono (fl29.c156 (rd:=0) rfl sQ E29 oQ) ?_;rintro _ w31 ⟨rfl,f31,n31,fl31⟩;refine⟨rfl,rfl,F19.trans ((f25.mono sQ).trans ((f29.mono sQ).trans (f31.mono sQ))),oQ,.inl ⟨_,R+4,⟨fl31,?_,⟨0,0,finF_b.1,finF_b.2,Bits.zero hR4⟩,h.ord,E29.fr f31 (by simp;omega),hlo⟩,finF_b.2,by simp;omega,?_⟩⟩
   ·exact((S19.fr f25 (by simp;omega)).fr f29 (by simp;omega)).fr f31 (by simp;omega)
   ·exact bF rfl rfl sQ rfl rfl rfl
  ·refine nR h19 hF10 fun w32 arr32 h32 hF32 f32 n32=> ?_
   have fl32:=fl19.upd f32 h32 hF32 rfl rfl rfl rfl;have E32:=E19.fr f32 (by simp;omega);have S32:=S19.fr f32 (by simp;omega);refine CallT.mono (fl32.c157 S32 (rd:=0) hrd oQ (m:=dd.length) rfl oQ (by simp;omega) hl E32 hlo ho2) ?_;rintro _ w34 ⟨rfl,F34,n34,hv⟩;refine⟨rfl,rfl,F19.trans ((f32.mono sQ).trans F34),oQ,?_⟩;rcases hv with⟨S34,ro,fl34⟩|⟨F',done',q1,q2,q3,q4,q5,q6⟩
   ·have e3:(out.drop (R+4)++tail).take dd.length=dd:=by rw[List.take_append_of_le_length (by simp;omega),hdd]
    have e4:(out.drop (R+4)++tail).drop dd.length=out.drop (R+4+dd.length)++tail:=by rw[List.drop_append_of_le_length (by simp;omega),List.drop_drop]
    rw[e3]at fl34;rw[e4]at S34;refine .inl ⟨_,R+4+dd.length,⟨fl34,S34,⟨0,0,finF_b.1,finF_b.2,Bits.zero oQ⟩,h.ord,E32.fr F34 (by simp;omega),hlo⟩,finF_b.2,oQ,?_⟩;rw[List.length_append];exact bF hrd htr oQ rfl rfl rfl
   ·exact .inr ⟨F',done',q1,q2,q3,q4,q5,q6⟩
 ·obtain⟨u0,u1,u2,u3,hu,fl6,_⟩:=key _ _ oQ hr6 hp6
  refine⟨_,_,rfl,qC hr6 hu.ro ?_⟩;refine aT hr6 hu fun w10 arr10 h10 hF10 f10 n10=> ?_;have fl10:=fl6.upd f10 h10 hF10 rfl rfl rfl rfl;refine he.nil (xA ?_);obtain⟨b,hb',he⟩:=he;refine CallT.mono (c154 he (E6.fr f10 (by simp;omega))) ?_;rintro v w13 ⟨he',hxe,rfl⟩;refine⟨_,rfl,zK he'.one ?_⟩;refine lJ h10 hF10 fun w15 arr15 h15 hF15 f15 n15=> ?_;have fl15:=fl10.upd f15 h15 hF15 rfl rfl rfl rfl;refine⟨rfl,F06.trans ((f10.mono sQ).trans (f15.mono sQ)),oQ,.inr ⟨_,_,fl15,⟨b,hb',he',hxe⟩,rfl,?_,rfl,(hD.fr f10 (by simp;omega)).fr f15 (by simp;omega)⟩⟩;rw[hrd];omega
end
def wp162(x0:Int)(R:vPq)(w:wQ):Prop:=And (0<=x0/\x0<(ByteArray.size ⟨#[0,128,64,192,32,160,96,224,16,144,80,208,48,176,112,240,8,136,72,200,40,168,104,232,24,152,88,216,56,184,120,248,4,132,68,196,36,164,100,228,20,148,84,212,52,180,116,244,12,140,76,204,44,172,108,236,28,156,92,220,60,188,124,252,2,130,66,194,34,162,98,226,18,146,82,210,50,178,114,242,10,138,74,202,42,170,106,234,26,154,90,218,58,186,122,250,6,134,70,198,38,166,102,230,22,150,86,214,54,182,118,246,14,142,78,206,46,174,110,238,30,158,94,222,62,190,126,254,1,129,65,193,33,161,97,225,17,145,81,209,49,177,113,241,9,137,73,201,41,169,105,233,25,153,89,217,57,185,121,249,5,133,69,197,37,165,101,229,21,149,85,213,53,181,117,245,13,141,77,205,45,173,109,237,29,157,93,221,61,189,125,253,3,131,67,195,35,163,99,227,19,147,83,211,51,179,115,243,11,139,75,203,43,171,107,235,27,155,91,219,59,187,123,251,7,135,71,199,39,167,103,231,23,151,87,215,55,183,119,247,15,143,79,207,47,175,111,239,31,159,95,223,63,191,127,255]⟩:Int)) (R (.int .u8 (sAt ⟨#[0,128,64,192,32,160,96,224,16,144,80,208,48,176,112,240,8,136,72,200,40,168,104,232,24,152,88,216,56,184,120,248,4,132,68,196,36,164,100,228,20,148,84,212,52,180,116,244,12,140,76,204,44,172,108,236,28,156,92,220,60,188,124,252,2,130,66,194,34,162,98,226,18,146,82,210,50,178,114,242,10,138,74,202,42,170,106,234,26,154,90,218,58,186,122,250,6,134,70,198,38,166,102,230,22,150,86,214,54,182,118,246,14,142,78,206,46,174,110,238,30,158,94,222,62,190,126,254,1,129,65,193,33,161,97,225,17,145,81,209,49,177,113,241,9,137,73,201,41,169,105,233,25,153,89,217,57,185,121,249,5,133,69,197,37,165,101,229,21,149,85,213,53,181,117,245,13,141,77,205,45,173,109,237,29,157,93,221,61,189,125,253,3,131,67,195,35,163,99,227,19,147,83,211,51,179,115,243,11,139,75,203,43,171,107,235,27,155,91,219,59,187,123,251,7,135,71,199,39,167,103,231,23,151,87,215,55,183,119,247,15,143,79,207,47,175,111,239,31,159,95,223,63,191,127,255]⟩ x0.toNat)) w)
theorem call162{x0:Int}{R:vPq}{w:wQ}(h:wp162 x0 R w):CallT Pg 162 #[.int .u8 x0] w R:=cVq [] Tryz.func162 h
def wp169(x0:Int)(R:vPq)(w:wQ):Prop:=qO w fun a=>ShC 8 (And (0<=qY .u16 x0 8/\qY .u16 x0 8<(ByteArray.size ⟨#[0,128,64,192,32,160,96,224,16,144,80,208,48,176,112,240,8,136,72,200,40,168,104,232,24,152,88,216,56,184,120,248,4,132,68,196,36,164,100,228,20,148,84,212,52,180,116,244,12,140,76,204,44,172,108,236,28,156,92,220,60,188,124,252,2,130,66,194,34,162,98,226,18,146,82,210,50,178,114,242,10,138,74,202,42,170,106,234,26,154,90,218,58,186,122,250,6,134,70,198,38,166,102,230,22,150,86,214,54,182,118,246,14,142,78,206,46,174,110,238,30,158,94,222,62,190,126,254,1,129,65,193,33,161,97,225,17,145,81,209,49,177,113,241,9,137,73,201,41,169,105,233,25,153,89,217,57,185,121,249,5,133,69,197,37,165,101,229,21,149,85,213,53,181,117,245,13,141,77,205,45,173,109,237,29,157,93,221,61,189,125,253,3,131,67,195,35,163,99,227,19,147,83,211,51,179,115,243,11,139,75,203,43,171,107,235,27,155,91,219,59,187,123,251,7,135,71,199,39,167,103,231,23,151,87,215,55,183,119,247,15,143,79,207,47,175,111,239,31,159,95,223,63,191,127,255]⟩:Int)) (And (0<=zF .u16 x0 255/\zF .u16 x0 255<(ByteArray.size ⟨#[0,128,64,192,32,160,96,224,16,144,80,208,48,176,112,240,8,136,72,200,40,168,104,232,24,152,88,216,56,184,120,248,4,132,68,196,36,164,100,228,20,148,84,212,52,180,116,244,12,140,76,204,44,172,108,236,28,156,92,220,60,188,124,252,2,130,66,194,34,162,98,226,18,146,82,210,50,178,114,242,10,138,74,202,42,170,106,234,26,154,90,218,58,186,122,250,6,134,70,198,38,166,102,230,22,150,86,214,54,182,118,246,14,142,78,206,46,174,110,238,30,158,94,222,62,190,126,254,1,129,65,193,33,161,97,225,17,145,81,209,49,177,113,241,9,137,73,201,41,169,105,233,25,153,89,217,57,185,121,249,5,133,69,197,37,165,101,229,21,149,85,213,53,181,117,245,13,141,77,205,45,173,109,237,29,157,93,221,61,189,125,253,3,131,67,195,35,163,99,227,19,147,83,211,51,179,115,243,11,139,75,203,43,171,107,235,27,155,91,219,59,187,123,251,7,135,71,199,39,167,103,231,23,151,87,215,55,183,119,247,15,143,79,207,47,175,111,239,31,159,95,223,63,191,127,255]⟩:Int)) (ShC 8 (R (.int .u16 (bOr .u16 (wrap .u16 (sAt ⟨#[0,128,64,192,32,160,96,224,16,144,80,208,48,176,112,240,8,136,72,200,40,168,104,232,24,152,88,216,56,184,120,248,4,132,68,196,36,164,100,228,20,148,84,212,52,180,116,244,12,140,76,204,44,172,108,236,28,156,92,220,60,188,124,252,2,130,66,194,34,162,98,226,18,146,82,210,50,178,114,242,10,138,74,202,42,170,106,234,26,154,90,218,58,186,122,250,6,134,70,198,38,166,102,230,22,150,86,214,54,182,118,246,14,142,78,206,46,174,110,238,30,158,94,222,62,190,126,254,1,129,65,193,33,161,97,225,17,145,81,209,49,177,113,241,9,137,73,201,41,169,105,233,25,153,89,217,57,185,121,249,5,133,69,197,37,165,101,229,21,149,85,213,53,181,117,245,13,141,77,205,45,173,109,237,29,157,93,221,61,189,125,253,3,131,67,195,35,163,99,227,19,147,83,211,51,179,115,243,11,139,75,203,43,171,107,235,27,155,91,219,59,187,123,251,7,135,71,199,39,167,103,231,23,151,87,215,55,183,119,247,15,143,79,207,47,175,111,239,31,159,95,223,63,191,127,255]⟩ ((qY .u16 x0 8).toNat))) (xJ .u16 (wrap .u16 (sAt ⟨#[0,128,64,192,32,160,96,224,16,144,80,208,48,176,112,240,8,136,72,200,40,168,104,232,24,152,88,216,56,184,120,248,4,132,68,196,36,164,100,228,20,148,84,212,52,180,116,244,12,140,76,204,44,172,108,236,28,156,92,220,60,188,124,252,2,130,66,194,34,162,98,226,18,146,82,210,50,178,114,242,10,138,74,202,42,170,106,234,26,154,90,218,58,186,122,250,6,134,70,198,38,166,102,230,22,150,86,214,54,182,118,246,14,142,78,206,46,174,110,238,30,158,94,222,62,190,126,254,1,129,65,193,33,161,97,225,17,145,81,209,49,177,113,241,9,137,73,201,41,169,105,233,25,153,89,217,57,185,121,249,5,133,69,197,37,165,101,229,21,149,85,213,53,181,117,245,13,141,77,205,45,173,109,237,29,157,93,221,61,189,125,253,3,131,67,195,35,163,99,227,19,147,83,211,51,179,115,243,11,139,75,203,43,171,107,235,27,155,91,219,59,187,123,251,7,135,71,199,39,167,103,231,23,151,87,215,55,183,119,247,15,143,79,207,47,175,111,239,31,159,95,223,63,191,127,255]⟩ ((zF .u16 x0 255).toNat))) (8:Int))):Value) a))))
theorem call169{x0:Int}{R:vPq}{w:wQ}(h:wp169 x0 R w):CallT Pg 169 #[.int .u16 x0] w R:=cVq [] Tryz.func169 h
section
variable{w:wQ}
def rtab:ByteArray:=⟨#[0,128,64,192,32,160,96,224,16,144,80,208,48,176,112,240,8,136,72,200,40,168,104,232,24,152,88,216,56,184,120,248,4,132,68,196,36,164,100,228,20,148,84,212,52,180,116,244,12,140,76,204,44,172,108,236,28,156,92,220,60,188,124,252,2,130,66,194,34,162,98,226,18,146,82,210,50,178,114,242,10,138,74,202,42,170,106,234,26,154,90,218,58,186,122,250,6,134,70,198,38,166,102,230,22,150,86,214,54,182,118,246,14,142,78,206,46,174,110,238,30,158,94,222,62,190,126,254,1,129,65,193,33,161,97,225,17,145,81,209,49,177,113,241,9,137,73,201,41,169,105,233,25,153,89,217,57,185,121,249,5,133,69,197,37,165,101,229,21,149,85,213,53,181,117,245,13,141,77,205,45,173,109,237,29,157,93,221,61,189,125,253,3,131,67,195,35,163,99,227,19,147,83,211,51,179,115,243,11,139,75,203,43,171,107,235,27,155,91,219,59,187,123,251,7,135,71,199,39,167,103,231,23,151,87,215,55,183,119,247,15,143,79,207,47,175,111,239,31,159,95,223,63,191,127,255]⟩
theorem qFv:((List.range 256).all fun i=>match rtab[i]? with|some b=>Nat.beq b.toNat (jB i 8)|none=>false)=true:=by kernel_rfl
theorem iY{i:Nat}(h:i<256):sAt rtab i=((jB i 8:Nat):Int):=by
 have h1:=List.all_eq_true.1 qFv i (List.mem_range.2 h);unfold sAt
 split at h1
 ·rename_i b hb
  rw[hb];have:=Nat.eq_of_beq_eq_true h1;dsimp only;omega
 ·cases h1
theorem cP:rtab.size=256:=by decide+kernel
theorem c162{x:Nat}(hx:x<256):CallT Pg 162 #[.int .u8 x] w fun v w'=>v= .int .u8 (jB x 8:Nat)/\w'=w:=by
 apply call162;unfold wp162;have e:=iY hx;have e2:=cP;unfold rtab at e e2;rw[e2];refine⟨⟨oQ,oQ⟩,?_,rfl⟩;rw[Int.toNat_natCast,e]
def rev16(x:Nat):Nat:=jB (x/256) 8|||jB (x%256) 8*256
theorem c169{x:Nat}(hx:x<65536):CallT Pg 169 #[.int .u16 x] w fun v w'=>v= .int .u16 (rev16 x:Nat)/\Fr [] w w'/\hn w'=hn w:=by
 apply call169;unfold wp169;refine qE fun w1 f1 n1=>qU dQ ?_;have eh:qY .u16 (x:Int) 8=((x/256:Nat):Int):=by rw[qIh oQ dQ dQ,Int.toNat_natCast];rfl
 have el:zF .u16 (x:Int) 255=((x%256:Nat):Int):=by
  rw[qGr oQ oQ dQ dQ,Int.toNat_natCast];have:x&&&(255:Int).toNat=x%2^8:=Nat.and_two_pow_sub_one_eq_mod x 8;rw[this]
 rw[eh,el];have e0:=iY (i:=x/256) oQ;have e1:=iY (i:=x%256) oQ;have e2:=cP;unfold rtab at e0 e1 e2;rw[e2];refine⟨⟨oQ,oQ⟩,⟨oQ,oQ⟩,qU dQ ⟨?_,f1,n1⟩⟩;rw[Int.toNat_natCast,Int.toNat_natCast,e0,e1];have h1:=uZ (x/256) 8;have h2:=uZ (x%256) 8;rw[vL (n:=((jB (x/256) 8:Nat):Int)) oQ oQ,vL (n:=((jB (x%256) 8:Nat):Int)) oQ oQ,qBm dQ dQ,show(8:Int).toNat=8 from rfl,show(2:Int)^8=256 from rfl,vL oQ oQ,qFi oQ oQ oQ oQ];unfold rev16;rw[show(((jB (x%256) 8:Nat):Int)*256).toNat=jB (x%256) 8*256 by omega,Int.toNat_natCast]
theorem qIg:((List.range 288).all fun s=>Nat.beq (rev16 (fixCode s)/2^(16 -fixLen s)) (fixRev s))=true:=by kernel_rfl
theorem wG{s:Nat}(h:s<288):rev16 (fixCode s)/2^(16 -fixLen s)=fixRev s:=Nat.eq_of_beq_eq_true (List.all_eq_true.1 qIg s (List.mem_range.2 h))
theorem qFs(x:Nat):rev16 x<65536:=by
 unfold rev16;have h1:=uZ (x/256) 8;have h2:=uZ (x%256) 8;exact Nat.or_lt_two_pow (n:=16) oQ oQ
theorem eM{s:Nat}(h:s<288):fixCode s<512:=by unfold fixCode;split<;>(try split)<;>(try split)<;>omega
end
def wp158(x0:Addr)(x1:pQ)(x1l:Nat)(x1c:Nat)(R:vPq)(w:wQ):Prop:=xH (fun(bx:(Unit)) (L:wQ)=>qL L (.cells (zc Pg 307) 307) fun e M=>xB (fun(N:(Int×Int×Int×Unit) ->World ->Prop)=>N (0,(0:Int),(0:Int),()) M) (fun b d i=>IfC (decide (b.2.2.1<(x1l:Int))) (And (0<=b.2.2.1/\b.2.2.1<(x1l:Int)) (qN x1 fun O=>LdI d (qH O b.2.2.1.toNat 1) .i64 fun a=>IfC (a==0) (i (b.1,b.2.1,wIq (b.2.2.1+1),()) d) (IfC (b.1==0) (IfC (decide (a>b.2.1)) (And (0<=a/\a<(16:Int)) (LdI d (qH ⟨e,0,none⟩ a.toNat 1) .i64 fun P=>And (0<=a/\a<(16:Int)) (qB d (qH ⟨e,0,none⟩ a.toNat 1) (iQq (wIq (P+1))) fun Q=>i (a,a,wIq (b.2.2.1+1),()) Q))) (And (0<=a/\a<(16:Int)) (LdI d (qH ⟨e,0,none⟩ a.toNat 1) .i64 fun S=>And (0<=a/\a<(16:Int)) (qB d (qH ⟨e,0,none⟩ a.toNat 1) (iQq (wIq (S+1))) fun T=>i (a,b.2.1,wIq (b.2.2.1+1),()) T)))) (IfC (decide (a<b.1)) (IfC (decide (a>b.2.1)) (And (0<=a/\a<(16:Int)) (LdI d (qH ⟨e,0,none⟩ a.toNat 1) .i64 fun U=>And (0<=a/\a<(16:Int)) (qB d (qH ⟨e,0,none⟩ a.toNat 1) (iQq (wIq (U+1))) fun V=>i (a,a,wIq (b.2.2.1+1),()) V))) (And (0<=a/\a<(16:Int)) (LdI d (qH ⟨e,0,none⟩ a.toNat 1) .i64 fun X=>And (0<=a/\a<(16:Int)) (qB d (qH ⟨e,0,none⟩ a.toNat 1) (iQq (wIq (X+1))) fun Y=>i (a,b.2.1,wIq (b.2.2.1+1),()) Y)))) (IfC (decide (a>b.2.1)) (And (0<=a/\a<(16:Int)) (LdI d (qH ⟨e,0,none⟩ a.toNat 1) .i64 fun Z=>And (0<=a/\a<(16:Int)) (qB d (qH ⟨e,0,none⟩ a.toNat 1) (iQq (wIq (Z+1))) fun aa=>i (b.1,a,wIq (b.2.2.1+1),()) aa))) (And (0<=a/\a<(16:Int)) (LdI d (qH ⟨e,0,none⟩ a.toNat 1) .i64 fun ab=>And (0<=a/\a<(16:Int)) (qB d (qH ⟨e,0,none⟩ a.toNat 1) (iQq (wIq (ab+1))) fun ac=>i (b.1,b.2.1,wIq (b.2.2.1+1),()) ac)))))))) (IfC (b.2.1==0) (R (.bool true) d) (qL d (.cells (zc Pg 307) 307) fun m ad=>xB (fun(ae:(Int×Int×Unit) ->World ->Prop)=>ae (0,b.1,()) ad) (fun g n af=>IfC (decide (g.2.1<=b.2.1)) (ShC 1 (And (0<=g.2.1/\g.2.1<(16:Int)) (qB n (qH ⟨m,0,none⟩ g.2.1.toNat 1) (iQq (xJ .i64 g.1 1)) fun u=>And (0<=g.2.1/\g.2.1<(16:Int)) (LdI u (qH ⟨e,0,none⟩ g.2.1.toNat 1) .i64 fun ag=>af (wIq ((xJ .i64 g.1 1)+ag),wIq (g.2.1+1),()) u)))) (xH (fun(bz:(Unit)) (ah:wQ)=>qB ah x0 (iQq b.1) fun v=>xH (fun(ca:(Unit)) (ai:wQ)=>xB (fun(aj:(Int×Unit) ->World ->Prop)=>aj (0,()) ai) (fun h k s=>IfC (decide (h.1<(x1l:Int))) (And (0<=h.1/\h.1<(x1l:Int)) (qN x1 fun ak=>LdI k (qH ak h.1.toNat 1) .i64 fun c=>IfC (c==0) (s (wIq (h.1+1),()) k) (And (0<=c/\c<(16:Int)) (LdI k (qH ⟨m,0,none⟩ c.toNat 1) .i64 fun al=>And (0<=c/\c<(16:Int)) (LdI k (qH ⟨m,0,none⟩ c.toNat 1) .i64 fun am=>And (0<=c/\c<(16:Int)) (qB k (qH ⟨m,0,none⟩ c.toNat 1) (iQq (wIq (am+1))) fun ao=>ShC 4 (CallT Pg 169 #[.int .u16 (wrap .u16 al)] ao fun ap y=>∃l,And (ap= .int .u16 l) (ShC (wrap .u64 (wIq ((16:Int) -c))) (IfC (decide (c<=(9:Int))) (xB (fun(aq:(Int×Unit) ->World ->Prop)=>aq (qY .i64 (wIq l) (wrap .u64 (wIq ((16:Int) -c))),()) y) (fun o z ar=>IfC (decide (o.1<(512:Int))) (And (0<=o.1/\o.1<(512:Int)) (qB z (qH (aQq x0 1) o.1.toNat 1) (.int .u32 (wrap .u32 (bOr .i64 (xJ .i64 h.1 4) c))) fun au=>ShC (wrap .u64 c) (ar (wIq (o.1+(xJ .i64 (1:Int) (wrap .u64 c))),()) au))) (s (wIq (h.1+1),()) z))) (xH (fun(cb:(Unit)) (q:wQ)=>And (0<=zF .i64 (qY .i64 (wIq l) (wrap .u64 (wIq ((16:Int) -c)))) (511:Int)/\zF .i64 (qY .i64 (wIq l) (wrap .u64 (wIq ((16:Int) -c)))) (511:Int)<(512:Int)) (LdI q (qH (aQq x0 1) ((zF .i64 (qY .i64 (wIq l) (wrap .u64 (wIq ((16:Int) -c)))) (511:Int)).toNat) 1) .u32 fun t=>ShC 4 (qS q (aQq x0 513) fun av aw cc=>And (0<=qY .u32 t 4/\qY .u32 t 4<(aw:Int)) (qN av fun ax=>qS q (qH ax ((qY .u32 t 4).toNat) 1) fun ay A cd=>ShC 9 (xB (fun(az:(Int×Unit) ->World ->Prop)=>az (qY .i64 (qY .i64 (wIq l) (wrap .u64 (wIq ((16:Int) -c)))) (9:Int),()) q) (fun p B ba=>IfC (decide (p.1<(A:Int))) (And (0<=p.1/\p.1<(A:Int)) (qN ay fun bb=>qB B (qH bb p.1.toNat 1) (.int .u32 (wrap .u32 (bOr .i64 (xJ .i64 h.1 4) c))) fun bc=>ShC (wrap .u64 (wIq (c -9))) (ba (wIq (p.1+(xJ .i64 (1:Int) (wrap .u64 (wIq (c -9))))),()) bc))) (s (wIq (h.1+1),()) B))))))) (fun bd=>bd (()) y))))))))))) (R (.bool true) k))) (fun C=>IfC (decide (b.2.1>(9:Int))) (ShC (wrap .u64 ((wrap .u64 b.2.1) -9)) (qB v (aQq x0 514) (.int .u32 (wrap .u32 (wIq ((xJ .i64 (1:Int) (wrap .u64 ((wrap .u64 b.2.1) -9))) -1)))) fun D=>And (0<=(10:Int)/\(10:Int)<(16:Int)) (LdI D ⟨m,0+10,none⟩ .i64 fun f=>ShC 1 (And (0<=wIq ((512:Int) -(qY .i64 f 1))/\wIq ((512:Int) -(qY .i64 f 1))<=wIq ((512:Int) -(qY .i64 f 1))/\wIq ((512:Int) -(qY .i64 f 1))<=281474976710656/\(24:Int)*(wIq ((512:Int) -(qY .i64 f 1)))<=281474976710656) (qL D (.cells (uI Pg 309 ((wIq ((512:Int) -(qY .i64 f 1))).toNat)) 309) fun be bf=>qB bf (aQq x0 513) (.slice (some ⟨be,0,none⟩) ((wIq ((512:Int) -(qY .i64 f 1))).toNat) ((wIq ((512:Int) -(qY .i64 f 1))).toNat)) fun bg=>xB (fun(bh:(Int×Unit) ->World ->Prop)=>bh (wrap .u64 (qY .i64 f 1),()) bg) (fun j E bi=>IfC (decide (j.1<(512:Int))) (CallT Pg 169 #[.int .u16 (wrap .u16 j.1)] E fun bj bk=>∃r,And (bj= .int .u16 r) (ShC 7 (xH (fun(ce:(Unit)) (bl:wQ)=>ShC 4 (And (0<=qY .i64 (wIq r) 7/\qY .i64 (wIq r) 7<(512:Int)) (qB bl (qH (aQq x0 1) ((qY .i64 (wIq r) 7).toNat) 1) (.int .u32 (wrap .u32 (bOr .u64 (xJ .u64 (wrap .u64 (j.1 -(wrap .u64 (qY .i64 f 1)))) (4:Int)) (10:Int)))) fun bm=>qO bm fun F=>qS F (aQq x0 513) fun G H bn=>And (0<=xJ .i64 (1:Int) (wrap .u64 ((wrap .u64 b.2.1) -9))/\xJ .i64 (1:Int) (wrap .u64 ((wrap .u64 b.2.1) -9))<=xJ .i64 (1:Int) (wrap .u64 ((wrap .u64 b.2.1) -9))/\xJ .i64 (1:Int) (wrap .u64 ((wrap .u64 b.2.1) -9))<=281474976710656/\(4:Int)*(xJ .i64 (1:Int) (wrap .u64 ((wrap .u64 b.2.1) -9)))<=281474976710656) (qL F (.cells (uI Pg 22 ((xJ .i64 (1:Int) (wrap .u64 ((wrap .u64 b.2.1) -9))).toNat)) 22) fun bo I=>qS I (aQq x0 513) fun bp bq br=>And ((.slice bp bq br:Value)= .slice G H bn) (And ((.pointer (some x0):Value)= .pointer (some x0)) (And (0<=wrap .u64 (j.1 -(wrap .u64 (qY .i64 f 1)))/\wrap .u64 (j.1 -(wrap .u64 (qY .i64 f 1)))<(H:Int)) (qN G fun bs=>qB I (qH bs ((wrap .u64 (j.1 -(wrap .u64 (qY .i64 f 1)))).toNat) 1) (.slice (some ⟨bo,0,none⟩) ((xJ .i64 (1:Int) (wrap .u64 ((wrap .u64 b.2.1) -9))).toNat) ((xJ .i64 (1:Int) (wrap .u64 ((wrap .u64 b.2.1) -9))).toNat)) fun bt=>bi (wrap .u64 (j.1+1),()) bt))))))) (fun bu=>bu (()) bk)))) (C (()) E))))))) (C (()) v))) (fun J=>ShC (wrap .u64 b.2.1) (IfC (g.1 !=(xJ .i64 (1:Int) (wrap .u64 b.2.1))) (IfC (g.1==1) (IfC (!(b.2.1==1)) (R (.bool false) n) (J (()) n)) (R (.bool false) n)) (J (()) n))))))))) (fun K=>LdI w x0 .i64 fun bv=>IfC (bv !=(0:Int)) (qDj Pg w 273 x0 (zc Pg 273) fun bw=>K (()) bw) (K (()) w))
theorem call158{x0:Addr}{x1:pQ}{x1l:Nat}{x1c:Nat}{R:vPq}{w:wQ}(h:wp158 x0 x1 x1l x1c R w):CallT Pg 158 #[.pointer (some x0),.slice x1 x1l x1c] w R:=cVq [(2,[],[0,1]),(16,[(6,.i .i64),(7,.i .i64),(44,.i .i64)],[0,1,4,5,42,43]),(63,[(10,.i .i64),(12,.i .i64)],[0,1,4,5,6,7,11]),(78,[],[0,1,6,7,10,11]),(88,[],[0,1,10,11]),(103,[(15,.i .u64)],[0,1,4,10,11,13,14]),(118,[],[0,1,10,11,13,14,15,16,17]),(133,[(170,.i .i64)],[0,4,10,11,168,169]),(166,[(23,.i .i64)],[0,4,10,11,19,21,168,169,170]),(185,[],[0,10,11,19,21,22,24,168,169,170]),(200,[(27,.i .i64)],[0,4,10,11,19,21,26,168,169,170]),(224,[(282,.i .i64)],[0,4,10,281]),(250,[(302,.i .i64)],[4,300,301]),(264,[(308,.i .i64)],[4,300,301,302,306,307])] Tryz.func158 h
section
variable{w:wQ}
def entry(j:Nat):Nat:=vN j*16+fixLen (vN j)
def mnF(i:Nat):Nat:=if i=0 then 0 else if i<=256 then 8 else 7
def mxF(i:Nat):Nat:=if i=0 then 0 else if i<=144 then 8 else 9
def cntF(i n:Nat):Nat:=if n=8 then min i 144+(i -280)else if n=9 then min (i -144) 112 else if n=7 then min (i -256) 24 else 0
def ncF(n:Nat):Nat:=if n=8 then 48 else if n=9 then 400 else 0
theorem qHs{i:Nat}(hi:i<288):mnF (i+1)=(if mnF i=0 then fixLen i else if fixLen i<mnF i then fixLen i else mnF i):=by
 unfold mnF fixLen
 repeat' split
 all_goals omega
theorem qHt{i:Nat}(hi:i<288):mxF (i+1)=(if mxF i<fixLen i then fixLen i else mxF i):=by
 unfold mxF fixLen
 repeat' split
 all_goals omega
theorem oB{i:Nat}(hi:i<288)(n:Nat):cntF (i+1) n=if n=fixLen i then cntF i n+1 else cntF i n:=by
 unfold cntF fixLen
 repeat' split
 all_goals omega
theorem qDw{i:Nat}(hi:i<288):fixCode i=ncF (fixLen i)+cntF i (fixLen i):=by
 unfold fixCode ncF cntF fixLen
 repeat' split
 all_goals omega
theorem zc307:zc Pg 307=Array.replicate 16 (.int .i64 0):=by kernel_rfl
theorem zc301:zc Pg 301=Array.replicate 288 (.int .i64 0):=by kernel_rfl
theorem zc273:zc Pg 273=(([Value.int .i64 0]++List.replicate 512 (Value.int .u32 0)++[Value.slice none 0 0,Value.int .u32 0]:List Value)).toArray:=by kernel_rfl
theorem qDv{n:Nat}(hn:n<16):(Array.replicate 16 (Value.int .i64 0))[n]? =some (.int .i64 (cntF 0 n:Nat)):=by
 have:cntF 0 n=0:=by unfold cntF;(repeat' split)<;>omega
 rw[this];simp[hn]
theorem qDt{i n:Nat}(hi:i<288)(hn:n<16):wrap .u32 (bOr .i64 (xJ .i64 (i:Int) 4) (n:Int))=((i*16+n:Nat):Int):=by
 rw[tI dQ dQ,show(4:Int).toNat=4 from rfl,show(2:Int)^4=16 from rfl,qA oQ oQ,eZ oQ oQ oQ oQ];rw[show((i:Int)*16).toNat=i*16 by omega,Int.toNat_natCast,yX (j:=4) oQ oQ,xV oQ oQ]
theorem qCd(i:Nat):fixRev i<2^fixLen i:=uZ _ _
theorem qIe(i:Nat):2^fixLen i=128\/2^fixLen i=256\/2^fixLen i=512:=by
 unfold fixLen
 repeat' split
 ·exact .inr (.inl rfl)
 ·exact .inr (.inr rfl)
 ·exact .inl rfl
 ·exact .inr (.inl rfl)
theorem qFw{a b m r:Nat}(h1:a%m=r)(h2:b%m=r)(h3:a<=b)(h4:b<a+m)(hm:0<m):a=b:=by
 have e1:=Nat.div_add_mod a m;have e2:=Nat.div_add_mod b m;have:a/m=b/m:=by
  have h5:a/m<=b/m:=Nat.div_le_div_right h3;have h6:b/m<=a/m:=by
   rcases Nat.lt_or_ge (a/m) (b/m)with h|h
   ·have:m*(a/m+1)<=m*(b/m):=Nat.mul_le_mul_left _ h
    rw[Nat.mul_add]at this;omega
   ·exact h
  omega
 rw[<-e1,<-e2,this,h1,h2]
theorem c158{ht lb:Nat}{arr larr:vQ}(h:hp w ht=Row 273 arr)(hsz:arr.size=515)(h0:arr[0]? =some (.int .i64 0))(hl:hp w lb=Row 301 larr)(hlv:∀i,i<288 ->larr[i]? =some (.int .i64 (fixLen i:Nat)))(hne:ht≠lb):
  CallT Pg 158 #[.pointer (some ⟨ht,0,none⟩),.slice (some ⟨lb,0,none⟩) 288 288] w fun v w'=>v= .bool true/\HT w' ht/\Fr [ht] w w'/\hn w<=hn w':=by
 have hltl:=zM hl;have hlth:=zM h;apply call158;unfold wp158 aQq wIq iQq;refine qJ (fun _ w'=>w'=w) ?_ ?_
 ·rintro⟨⟩ w rfl
  rw[zc307];refine qG fun w5 h5 f5 n5=> ?_;generalize hr4:hn _ =r4 at*;have hl5:=f5.row0 hl;have h05:=f5.row0 h;refine qP (fun z w'=>∃(i:Nat) (ca:vQ),i<=288/\z=(((mnF i:Nat):Int),((mxF i:Nat):Int),(i:Int),())/\hp w' r4=Row 307 ca/\ca.size=16/\(∀n,n<16 ->ca[n]? =some (.int .i64 (cntF i n:Nat)))/\Fr [r4] w5 w'/\hn w'=hn w5) (fun z _ =>288 -z.2.2.1.toNat)
   ⟨0,_,oQ,rfl,h5,sQ,fun n hn=>qDv hn,Fr.refl _ _,rfl⟩ ?_
  rintro z w7 ⟨i,ca,hi,rfl,h7,hcs,hcv,F7,n7⟩;have hl7:=F7.row1 hl5 oQ;have h07:=F7.row1 h05 oQ;dsimp only;refine qF (fun hlt=> ?_) (fun hge=> ?_)
  ·have hi':i<288:=oQ
   have s1:=qHs hi';have s2:=qHt hi';have s3:=jG i;refine⟨⟨oQ,oQ⟩,?_⟩;rw[PtrC_some,elemAt_one,Int.toNat_natCast,Nat.zero_add];refine qC hl7 (hlv i hi') ?_;have leaf:∀(mn mx:Int),mn=(mnF (i+1):Nat) ->mx=(mxF (i+1):Nat) ->And (0<=((fixLen i:Nat):Int)/\((fixLen i:Nat):Int)<(16:Int)) (LdI w7 (qH ⟨r4,0,none⟩ ((fixLen i:Nat):Int).toNat 1) .i64 fun n12=>And (0<=((fixLen i:Nat):Int)/\((fixLen i:Nat):Int)<(16:Int)) (qB w7 (qH ⟨r4,0,none⟩ ((fixLen i:Nat):Int).toNat 1) (.int .i64 (wrap .i64 (n12+(1:Int)))) fun w13=>
     (∃(i':Nat) (ca:vQ),i'<=288/\(mn,mx,wrap .i64 ((i:Int)+(1:Int)),())=(((mnF i':Nat):Int),((mxF i':Nat):Int),(i':Int),())/\hp w13 r4=Row 307 ca/\ca.size=16/\(∀n,n<16 ->ca[n]? =some (.int .i64 (cntF i' n:Nat)))/\Fr [r4] w5 w13/\hn w13=hn w5)/\288 -(wrap .i64 ((i:Int)+(1:Int))).toNat<288 -((i:Int)).toNat)):=by
    rintro mn mx rfl rfl;refine⟨⟨oQ,oQ⟩,?_⟩;rw[elemAt_one,Int.toNat_natCast,Nat.zero_add];refine qC h7 (hcv _ oQ) ⟨⟨oQ,oQ⟩,?_⟩;refine qD h7 oQ fun w13 h13 f13 n13=> ?_;have e1:wrap .i64 ((i:Int)+1)=((i+1:Nat):Int):=by rw[qA oQ oQ];omega
    rw[e1];refine⟨⟨i+1,_,oQ,rfl,h13,by simpa using hcs,fun n hn=> ?_,F7.trans f13,oQ⟩,oQ⟩;rw[oB hi',Array.getElem?_setIfInBounds];have hc:cntF i n<1000:=by unfold cntF;(repeat' split)<;>omega
    split
    ·rename_i e
     subst e;rw[if_pos rfl,if_pos oQ];rw[qA oQ oQ]
     congr 2
    ·rename_i e
     rw[if_neg (fun e'=>e e'.symm)];exact hcv n hn
   refine qW (fun e=>absurd e oQ) (fun _ => ?_);refine qW (fun e=> ?_) (fun e=> ?_)
   ·refine qF (fun hx=>leaf _ _ ?_ ?_) (fun hx=>leaf _ _ ?_ ?_)
    ·rw[s1,if_pos oQ]
    ·rw[s2,if_pos oQ]
    ·rw[s1,if_pos oQ]
    ·rw[s2,if_neg oQ]
   ·refine qF (fun hy=> ?_) (fun hy=> ?_)
    ·refine qF (fun hx=>leaf _ _ ?_ ?_) (fun hx=>leaf _ _ ?_ ?_)
     ·rw[s1,if_neg oQ,if_pos oQ]
     ·rw[s2,if_pos oQ]
     ·rw[s1,if_neg oQ,if_pos oQ]
     ·rw[s2,if_neg oQ]
    ·refine qF (fun hx=>leaf _ _ ?_ ?_) (fun hx=>leaf _ _ ?_ ?_)
     ·rw[s1,if_neg oQ,if_neg oQ]
     ·rw[s2,if_pos oQ]
     ·rw[s1,if_neg oQ,if_neg oQ]
     ·rw[s2,if_neg oQ]
  ·have:i=288:=oQ
   subst this;rw[show mxF 288=9 from rfl,show mnF 288=7 from rfl];refine qW (fun e=>absurd e dQ) (fun _ => ?_);refine qG fun w25 h25 f25 n25=> ?_;generalize hr24:hn w7=r24 at*;have h25c:=f25.row0 h7;have hl25:=f25.row0 hl7;have h025:=f25.row0 h07;have hr47:=zM h7;refine qP (fun z w'=>∃(i:Nat) (na:vQ),7<=i/\i<=10/\z=(((if i=7 then 0 else if i=8 then 24 else if i=9 then 200 else 512:Nat):Int),(i:Int),())/\hp w' r24=Row 307 na/\na.size=16/\(∀n,7<=n ->n<i ->na[n]? =some (.int .i64 (ncF n:Nat)))/\Fr [r24] w25 w'/\hn w'=hn w25) (fun z _ =>10 -z.2.1.toNat)
    ⟨7,_,oQ,oQ,rfl,h25,sQ,fun n h1 h2=>by omega,Fr.refl _ _,rfl⟩ ?_
   rintro z w27 ⟨i,na,hi7,hi10,rfl,h27,hns,hnv,F27,n27⟩;have h27c:=F27.row1 h25c oQ;have hl27:=F27.row1 hl25 oQ;have h027:=F27.row1 h025 oQ;dsimp only;refine qF (fun hlt=>qU dQ ?_) (fun hge=> ?_)
   ·refine⟨⟨oQ,oQ⟩,?_⟩
    rw[elemAt_one,Int.toNat_natCast,Nat.zero_add];refine qD h27 oQ fun w30 h30 f30 n30=>⟨⟨oQ,oQ⟩,?_⟩;rw[elemAt_one,Nat.zero_add];refine qC (f30.row1 h27c oQ) (hcv i oQ) ?_;have hi3:i=7\/i=8\/i=9:=oQ;refine⟨⟨i+1,_,oQ,oQ,?_,h30,by simpa using hns,fun n h1 h2=> ?_,F27.trans f30,oQ⟩,?_⟩
    ·rcases hi3 with rfl|rfl|rfl<;>rfl
    ·rw[Array.getElem?_setIfInBounds]
     split
     ·rename_i e
      subst e;rw[if_pos oQ];rcases hi3 with rfl|rfl|rfl<;>rfl
     ·rename_i e
      exact hnv n h1 oQ
    ·have:wrap .i64 ((i:Int)+1)=((i+1:Nat):Int):=by rw[qA oQ oQ];omega
     rw[this];omega
   ·have:i=10:=oQ
    subst this;refine qJ (fun _ w'=>w'=w27) ?_ ?_
    ·rintro⟨⟩ w27 rfl
     refine qD h027 oQ fun w35 h35 f35 n35=> ?_;refine qJ (fun _ w'=>w'=w35) ?_ ?_
     ·rintro⟨⟩ w35 rfl
      have h35n:=f35.row1 h27 oQ;have hl35:=f35.row1 hl27 oQ;refine qP (fun z w'=>∃(i:Nat) (na ta:vQ),i<=288/\z=((i:Int),())/\hp w' r24=Row 307 na/\na.size=16/\(∀n,7<=n ->n<10 ->na[n]? =some (.int .i64 (ncF n+cntF i n:Nat)))/\hp w' ht=Row 273 ta/\ta.size=515/\ta[0]? =some (.int .i64 7)/\(∀j,j<512 ->vN j<i ->ta[1+j]? =some (.int .u32 (entry j:Nat)))/\Fr [r24,ht] w35 w'/\hn w'=hn w35) (fun z _ =>288 -z.1.toNat)
       ⟨0,na,_,oQ,rfl,h35n,hns,fun n h1 h2=> ?_,h35,by simpa using hsz,?_,fun j _ hj=>by omega,Fr.refl _ _,rfl⟩ ?_
      ·have:cntF 0 n=0:=by unfold cntF;(repeat' split)<;>omega
       rw[this];exact hnv n h1 h2
      ·rw[Array.getElem?_setIfInBounds_self_of_lt oQ];rfl
      ·rintro z w40 ⟨i,nb,ta,hi,rfl,h40,hbs,hbv,h40t,hts,ht0,htv,F40,n40⟩
       have hl40:=F40.row hl35 (by simp;omega);dsimp only;refine qF (fun hlt=> ?_) (fun hge=> ?_)
       ·have hi':i<288:=oQ
        have s3:=jG i;have hcode:=qDw hi';have hclt:=eM hi';refine⟨⟨oQ,oQ⟩,?_⟩;rw[PtrC_some,elemAt_one,Int.toNat_natCast,Nat.zero_add];refine qC hl40 (hlv i hi') ?_;refine qW (fun e=>absurd e oQ) (fun _ => ?_);refine⟨⟨oQ,oQ⟩,?_⟩;rw[elemAt_one,Int.toNat_natCast,Nat.zero_add];have hv:=hbv (fixLen i) oQ oQ;rw[<-hcode]at hv;refine qC h40 hv ⟨⟨oQ,oQ⟩,qC h40 hv ⟨⟨oQ,oQ⟩,?_⟩⟩;refine qD h40 oQ fun w47 h47 f47 n47=>qU dQ ?_;rw[vL (n:=((fixCode i:Nat):Int)) oQ oQ];refine CallT.mono (c169 oQ) ?_;rintro _ w49 ⟨rfl,f49,n49⟩;refine⟨_,rfl,?_⟩;have er:=qFs (fixCode i);have e16:wrap .u64 (wrap .i64 ((16:Int) -((fixLen i:Nat):Int)))=((16 -fixLen i:Nat):Int):=by
         rw[qA oQ oQ,zE oQ oQ];omega
        have es:qY .i64 (wrap .i64 ((rev16 (fixCode i):Nat):Int)) ((16 -fixLen i:Nat):Int)=((fixRev i:Nat):Int):=by
         rw[qA oQ oQ,qBn oQ oQ oQ,Int.toNat_natCast,Int.toNat_natCast,wG hi']
        rw[e16,es];refine qU oQ (qF (fun _ => ?_) (fun hc=>absurd oQ hc));have hpw:=qIe i;have hrl:=qCd i;have h49n:=f49.row0 h47;have h49t:=f49.row0 (f47.row1 h40t oQ);refine qP (fun z w'=>∃(off:Nat) (tb:vQ),z=((off:Int),())/\off<1024/\off%2^fixLen i=fixRev i/\hp w' ht=Row 273 tb/\tb.size=515/\tb[0]? =some (.int .i64 7)/\(∀j,j<512 ->vN j<i\/(vN j=i/\j<off) ->tb[1+j]? =some (.int .u32 (entry j:Nat)))/\Fr [ht] w49 w'/\hn w'=hn w49) (fun z _ =>1024 -z.1.toNat)
         ⟨fixRev i,ta,rfl,oQ,Nat.mod_eq_of_lt hrl,h49t,hts,ht0,fun j hj hc=> ?_,Fr.refl _ _,rfl⟩ ?_
        ·rcases hc with hc|⟨hc,hlt2⟩
         ·exact htv j hj hc
         ·have:=(gY hj hi').2 hc
          have h2:j%2^fixLen i<=j:=Nat.mod_le _ _;omega
        ·rintro z w52 ⟨off,tb,rfl,ho,hom,h52,hbs2,hb0,hbv2,F52,n52⟩
         dsimp only;refine qF (fun hlt2=> ?_) (fun hge2=> ?_)
         ·refine⟨⟨oQ,oQ⟩,?_⟩
          rw[elemAt_one,Int.toNat_natCast,qDt hi' oQ];refine qD h52 oQ fun w55 h55 f55 n55=> ?_;have e1:wrap .u64 ((fixLen i:Nat):Int)=((fixLen i:Nat):Int):=zE oQ oQ;have e2:xJ .i64 1 ((fixLen i:Nat):Int)=((2^fixLen i:Nat):Int):=by
           have hi3:fixLen i=7\/fixLen i=8\/fixLen i=9:=oQ;rcases hi3 with e|e|e<;>rw[e]<;>rfl
          rw[e1,e2];have e3:wrap .i64 ((off:Int)+((2^fixLen i:Nat):Int))=((off+2^fixLen i:Nat):Int):=by rw[qA oQ oQ];omega
          rw[e3];refine qU oQ ⟨⟨off+2^fixLen i,_,rfl,oQ,by rw[Nat.add_mod_right];exact hom,h55,by simpa using hbs2,?_,fun j hj hc=> ?_,F52.trans f55,oQ⟩,oQ⟩
          ·rw[Array.getElem?_setIfInBounds,if_neg oQ];exact hb0
          ·rw[Array.getElem?_setIfInBounds]
           split
           ·rename_i e
            have ej:j=off:=oQ;subst ej;rw[if_pos oQ];have hs:=(gY (j:=j) oQ hi').1 hom;unfold entry;rw[hs]
           ·rename_i e
            refine hbv2 j hj ?_;rcases hc with hc|⟨hc,hlt3⟩
            ·exact .inl hc
            ·refine .inr ⟨hc,?_⟩
             rcases Nat.lt_or_ge j off with h1|h1
             ·exact h1
             ·exact absurd (qFw hom ((gY hj hi').2 hc) h1 hlt3 oQ) oQ
         ·have e1:wrap .i64 ((i:Int)+1)=((i+1:Nat):Int):=by rw[qA oQ oQ];omega
          rw[e1];refine⟨⟨i+1,_,tb,oQ,rfl,F52.row1 h49n oQ,by simpa using hbs,fun n h1 h2=> ?_,h52,hbs2,hb0,fun j hj hc=>hbv2 j hj ?_,F40.trans ((f47.mono sQ).trans ((f49.mono sQ).trans (F52.mono sQ))),oQ⟩,oQ⟩
          ·rw[oB hi',Array.getElem?_setIfInBounds]
           split
           ·rename_i e
            subst e;rw[if_pos rfl,if_pos oQ,hcode,qA oQ oQ]
            congr 2
           ·rename_i e
            rw[if_neg (fun e'=>e e'.symm)];exact hbv n h1 h2
          ·rcases Nat.lt_or_ge (vN j) i with h1|h1
           ·exact .inl h1
           ·exact .inr ⟨oQ,oQ⟩
       ·have:i=288:=oQ
        subst this;refine⟨rfl,⟨ta,h40t,ht0,fun j hj=>htv j hj (sP j)⟩,?_,oQ⟩;have F1:Fr [ht] w w7:=(f5.mono sQ).trans' F7 (fun x hx hlt=>by simp at hx;omega);have F2:Fr [ht] w w35:=((F1.trans (f25.mono sQ)).trans' F27 (fun x hx hlt=>by simp at hx;omega)).trans f35;exact F2.trans' F40 (fun x hx hlt=>by
         simp at hx;rcases hx with rfl|rfl
         ·omega
         ·simp)
     ·intro J hJ
      exact qF (fun hc=>absurd hc dQ) (fun _ =>hJ _ _ rfl)
    ·intro J hJ
     refine qU dQ (xU (fun hc=>absurd rfl hc) (fun _ =>hJ _ _ rfl))
 ·intro J hJ
  refine qC h h0 (xU (fun hc=>absurd rfl hc) (fun _ =>hJ _ _ rfl))
end
def wp151(R:vPq)(w:wQ):Prop:=qL w (.cells (zc Pg 301) 301) fun a k=>xB (fun(l:(Int×Unit) ->World ->Prop)=>l (0,()) k) (fun b f m=>IfC (decide (b.1<(144:Int))) (And (0<=b.1/\b.1<(288:Int)) (qB f (qH ⟨a,0,none⟩ b.1.toNat 1) (iQq 8) fun n=>m (wIq (b.1+1),()) n)) (xB (fun(o:(Int×Unit) ->World ->Prop)=>o (144,()) f) (fun c g p=>IfC (decide (c.1<(256:Int))) (And (0<=c.1/\c.1<(288:Int)) (qB g (qH ⟨a,0,none⟩ c.1.toNat 1) (iQq 9) fun q=>p (wIq (c.1+1),()) q)) (xB (fun(r:(Int×Unit) ->World ->Prop)=>r (256,()) g) (fun d h s=>IfC (decide (d.1<(280:Int))) (And (0<=d.1/\d.1<(288:Int)) (qB h (qH ⟨a,0,none⟩ d.1.toNat 1) (iQq 7) fun t=>s (wIq (d.1+1),()) t)) (xB (fun(u:(Int×Unit) ->World ->Prop)=>u (280,()) h) (fun e i v=>IfC (decide (e.1<(288:Int))) (And (0<=e.1/\e.1<(288:Int)) (qB i (qH ⟨a,0,none⟩ e.1.toNat 1) (iQq 8) fun y=>v (wIq (e.1+1),()) y)) (qL i (.cells (zc Pg 273) 273) fun j z=>CallT Pg 158 #[.pointer (some ⟨j,0,none⟩),.slice (some ⟨a,0,none⟩) 288 288] z fun A B=>∃C,And (A= .bool C) (R (.pointer (some ⟨j,0,none⟩)) B)))))))))
theorem call151{R:vPq}{w:wQ}(h:wp151 R w):CallT Pg 151 #[] w R:=cVq [(8,[(2,.i .i64)],[0,1]),(23,[(3,.i .i64)],[0,1]),(38,[(4,.i .i64)],[0,1]),(53,[(5,.i .i64)],[0,1])] Tryz.func151 h
section
variable{w:wQ}
def oG(w0:wQ)(r1:Nat)(lo hi:Nat)(z:Int×Unit)(w':wQ):Prop:=∃(i:Nat) (la:vQ),lo<=i/\i<=hi/\z=((i:Int),())/\hp w' r1=Row 301 la/\la.size=288/\(∀j,j<i ->la[j]? =some (.int .i64 (fixLen j:Nat)))/\Fr [r1] w0 w'/\hn w'=hn w0
theorem sO{w0:wQ}{r1 lo hi:Nat}{i:Nat}{la:vQ}{w4:wQ}{x:Int}(hlo:lo<=i)(hlt:i<hi)(hhi:hi<=288)(h:hp w4 r1=Row 301 la)(hs:la.size=288)(hv:∀j,j<i ->la[j]? =some (.int .i64 (fixLen j:Nat)))(F:Fr [r1] w0 w4)(hn':hn w4=hn w0)(hx:x=(fixLen i:Nat)):
  And (0<=(i:Int)/\(i:Int)<(288:Int)) (qB w4 (qH ⟨r1,0,none⟩ (i:Int).toNat 1) (.int .i64 x) fun w7=>oG w0 r1 lo hi (wrap .i64 ((i:Int)+(1:Int)),()) w7/\288 -(wrap .i64 ((i:Int)+(1:Int))).toNat<288 -((i:Int)).toNat):=by
 subst hx;refine⟨⟨oQ,oQ⟩,?_⟩;rw[elemAt_one,Int.toNat_natCast,Nat.zero_add];refine qD h oQ fun w7 h7 f7 n7=> ?_;have e1:wrap .i64 ((i:Int)+1)=((i+1:Nat):Int):=by rw[qA oQ oQ];omega
 rw[e1];refine⟨⟨i+1,_,oQ,oQ,rfl,h7,by simpa using hs,fun j hj=> ?_,F.trans f7,oQ⟩,oQ⟩;rw[Array.getElem?_setIfInBounds]
 split
 ·rename_i e
  subst e;rw[if_pos oQ]
 ·exact hv j oQ
theorem c151:CallT Pg 151 #[] w fun v w'=>∃ht,v= .pointer (some ⟨ht,0,none⟩)/\HT w' ht/\Fr [] w w'/\hn w<=ht/\hn w<=hn w':=by
 apply call151;unfold wp151 wIq iQq;rw[zc301,zc273];refine qG fun w2 h2 f2 n2=> ?_;generalize hr:hn w=r1 at*;refine qP (oG w2 r1 0 144) (fun z _ =>288 -z.1.toNat) ⟨0,_,oQ,oQ,rfl,h2,sQ,fun j hj=>by omega,Fr.refl _ _,rfl⟩ ?_;rintro z w4 ⟨i,la,hi0,hi,rfl,h4,hs,hv,F4,n4⟩;refine qF (fun hlt=>sO hi0 oQ dQ h4 hs hv F4 n4 (by unfold fixLen;rw[if_pos oQ];rfl)) (fun hge=> ?_);obtain rfl:i=144:=oQ;refine qP (oG w2 r1 144 256) (fun z _ =>288 -z.1.toNat) ⟨144,la,oQ,oQ,rfl,h4,hs,hv,F4,n4⟩ ?_;rintro z w9 ⟨i,la,hi0,hi,rfl,h9,hs,hv,F9,n9⟩;refine qF (fun hlt=>sO hi0 oQ dQ h9 hs hv F9 n9 (by unfold fixLen;rw[if_neg oQ,if_pos oQ];rfl)) (fun hge=> ?_);obtain rfl:i=256:=oQ;refine qP (oG w2 r1 256 280) (fun z _ =>288 -z.1.toNat) ⟨256,la,oQ,oQ,rfl,h9,hs,hv,F9,n9⟩ ?_;rintro z w14 ⟨i,la,hi0,hi,rfl,h14,hs,hv,F14,n14⟩;refine qF (fun hlt=>sO hi0 oQ dQ h14 hs hv F14 n14 (by unfold fixLen;rw[if_neg oQ,if_neg oQ,if_pos oQ];rfl)) (fun hge=> ?_);obtain rfl:i=280:=oQ;refine qP (oG w2 r1 280 288) (fun z _ =>288 -z.1.toNat) ⟨280,la,oQ,oQ,rfl,h14,hs,hv,F14,n14⟩ ?_;rintro z w19 ⟨i,la,hi0,hi,rfl,h19,hs,hv,F19,n19⟩;refine qF (fun hlt=>sO hi0 oQ dQ h19 hs hv F19 n19 (by unfold fixLen;rw[if_neg oQ,if_neg oQ,if_neg oQ];rfl)) (fun hge=> ?_);obtain rfl:i=288:=oQ;refine qG fun w24 h24 f24 n24=> ?_;have hlt:=zM h19;refine CallT.mono (c158 h24 sQ sQ (f24.row0 h19) hv oQ) ?_;rintro _ w26 ⟨rfl,hT,F26,n26⟩;refine⟨_,rfl,_,rfl,hT,?_,oQ,oQ⟩;refine(((f2.trans' F19 (fun x hx hlt=>by simp at hx;omega)).trans f24).trans' F26 (fun x hx hlt=>by simp at hx;omega))
end
end Go.Proofs
namespace Go.V
open Go
open Go.IntKind (wrap)
def oK(J:Nat ->World ->Prop)(K:Exit ->Env ->World ->Prop):Exit ->Env ->World ->Prop
 | .goto l,_,w=>J l w
 |ex,e,w=>K ex e w
def iX(c:Code)(l:Nat):Code:=match findLabel c l with|some r=>r|none=> .skip
def oJ(c:Code)(l:Nat):Bool:=match findLabel c l with|some _ =>true|none=>false
def dI:Code ->Code| .scope c=>c|c=>c
def oL(n:Nat):List Nat ->Bool|[]=>true|d::r=>match Nat.blt d n with|true=>false|false=>oL n r
theorem rU{n:Nat}:∀{ds:List Nat},oL n ds=true ->∀s,s<n ->s∉ds
 |[],_,s,_ =>by simp
 |d::r,h,s,hs=>by
  simp only[oL]at h
  split at h
  ·cases h
  ·rename_i hb
   have h1:=rU h s hs;have h2:¬d<n:=fun hlt=>by
    have:Nat.blt d n=true:=by simpa [Nat.blt_eq]using hlt
    rw[this]at hb;cases hb
   intro hm;rcases List.mem_cons.1 hm with rfl|hm
   ·exact h2 hs
   ·exact h1 hm
section
variable{P:Program}{G:Nat ->Bool}
theorem aP{c:Code}{Q:Exit ->Act ->World ->Prop}{a:Act}{w:wQ}(J:Nat ->Act ->World ->Prop)(μ:Nat ->Act ->World ->Nat)
  (first:c.wp P (fun ex a w=>match ex with| .goto l=>J l a w|ex=>Q ex a w) a w)
  (pass:∀l a w,J l a w ->∃rest,findLabel c l=some rest/\rest.wp P (fun ex a' w'=>match ex with| .goto l'=>J l' a' w'/\μ l' a' w'<μ l a w|ex=>Q ex a' w') a w):(Code.scope c).wp P Q a w:=by
 intro b k cs;have key:∀n l a w,μ l a w=n ->J l a w ->∃rest,findLabel c l=some rest/\∃e a' w',Q e a' w'/\Arrives P (lone (b.at a (.code rest:: .inScope c::k)) cs w) b k cs e a' w':=by
  intro n
  induction n using Nat.strongRecOn with
  |_ n ih=>
   intro l a w hn hJ;obtain⟨rest,hf,hp⟩:=pass l a w hJ;obtain⟨e,a₁,w₁,hq,harr⟩:=hp b (.inScope c::k) cs;refine⟨rest,hf,?_⟩
   cases e with
   |normal=>exact⟨.normal,a₁,w₁,hq,Steps.trans harr (.one step_inScope)⟩
   |exit id=>exact⟨.exit id,a₁,w₁,hq,fun k' hk=>harr k' (by simp[exitTo,hk])⟩
   |goto l'=>
    obtain⟨hJ',hlt⟩:=hq;obtain⟨rest',hf',e₂,a₂,w₂,hq₂,harr₂⟩:=ih _ oQ l' a₁ w₁ rfl hJ';have hg:gotoIn l' (.inScope c::k)=some (.code rest':: .inScope c::k):=by simp[gotoIn,hf']
    exact⟨e₂,a₂,w₂,hq₂,.of_steps (harr _ hg) harr₂⟩
   |ret=>exact⟨_,a₁,w₁,hq,harr⟩
   |panic ch=>exact⟨_,a₁,w₁,hq,harr⟩
   |outgrown=>exact⟨_,a₁,w₁,hq,harr⟩
 obtain⟨e,a₁,w₁,hq,harr⟩:=first b (.inScope c::k) cs
 cases e with
 |normal=>exact⟨.normal,a₁,w₁,hq,.head step_scope (Steps.trans harr (.one step_inScope))⟩
 |exit id=>exact⟨.exit id,a₁,w₁,hq,fun k' hk=> .head step_scope (harr k' (by simp[exitTo,hk]))⟩
 |goto l'=>
  obtain⟨rest',hf',e₂,a₂,w₂,hq₂,harr₂⟩:=key _ l' a₁ w₁ rfl hq;have hg:gotoIn l' (.inScope c::k)=some (.code rest':: .inScope c::k):=by simp[gotoIn,hf']
  exact⟨e₂,a₂,w₂,hq₂,.of_steps (.head step_scope (harr _ hg)) harr₂⟩
 |ret=>exact⟨_,a₁,w₁,hq,.of_steps (.one step_scope) harr⟩
 |panic ch=>exact⟨_,a₁,w₁,hq,.of_steps (.one step_scope) harr⟩
 |outgrown=>exact⟨_,a₁,w₁,hq,.of_steps (.one step_scope) harr⟩
theorem kO:∀{c:Code} {l:Nat} {r:Code},findLabel c l=some r ->∀d∈Code.dsts r,d∈Code.dsts c
 | .seq x y,l,r,h=>by
  simp only[findLabel]at h
  split at h
  ·rename_i r' h'
   cases h
   have ih:=kO h';intro d hd;simp only[Code.dsts,List.mem_append]at hd⊢;exact hd.imp (ih d) id
  ·have ih:=kO h
   intro d hd;simp only[Code.dsts,List.mem_append];exact .inr (ih d hd)
 | .label l',l,r,h=>by
  simp only[findLabel]at h
  split at h
  ·cases h;intro d hd;simp[Code.dsts]at hd
  ·cases h
 | .skip,_,_,h| .region ..,_,_,h| .cond ..,_,_,h| .loop ..,_,_,h| .block ..,_,_,h| .exit ..,_,_,h| .goto ..,_,_,h| .ret,_,_,h| .refuse ..,_,_,h| .rangeFunc ..,_,_,h| .scope ..,_,_,h=>by simp[findLabel]at h
theorem dX(hm:P.follows .mixedOrders=true)(hG:jW P G){f:FuncId}{fn:Func}{c:Code}{args:List Value}{w:wQ}{R:Value ->World ->Prop}(hf:P.funcs[f]? =some fn)(hb:fn.body=some (.scope c))
  (hd:okD fn.ntmps (Code.dsts c)=true)(hn:Nat.ble args.length fn.ntmps=true)(hk:oL args.length (Code.dsts c)=true){ann:Nat ->Option (Lv×List Nat)}{annl:Nat ->Nat ->Option (Lv×List Nat)}
  (J:Nat ->World ->Prop)(μ:Nat ->World ->Nat)(start:vc P G ann 0 c (oK J (lZ P fn.results.toList R)) (jX 0 args) w)
  (rounds:∀l w,J l w ->oJ c l=true/\vc P G (annl l) 0 (iX c l) (oK (fun l' w'=>J l' w'/\μ l' w'<μ l w) (lZ P fn.results.toList R)) (jX 0 args) w):CallT P f args.toArray w R:=by
 have hn:=Nat.le_of_ble_eq_true hn;refine calls_of_wp hf hb ?_;have hr:Rep fn.ntmps [] (jX 0 args) {tmps:=args.toArray++Array.replicate (fn.ntmps -args.toArray.size) undef,defers:=[]}:=by
  refine⟨by simp;omega,fun s v hs=> ?_,rfl⟩;obtain⟨_,h2⟩:=kH hs;have hlt:s<args.length:=by simpa using(List.getElem?_eq_some_iff.1 h2).1
  refine⟨oQ,?_⟩;simp only[Array.getD_eq_getD_getElem?];rw[Array.getElem?_append_left (by simpa using hlt)];simp at h2;simp[h2]
 have back:∀{e':Env} {a a':Act},Rep fn.ntmps [] (jX 0 args) a ->Rep fn.ntmps [] e' a' ->Ext (Code.dsts c) a a' ->Rep fn.ntmps [] (jX 0 args) a':=by
  intro e' a a' h1 h2 h3;refine⟨h2.size,fun s v hs=> ?_,h2.defers⟩;obtain⟨_,h4⟩:=kH hs;have hlt:s<args.length:=by simpa using(List.getElem?_eq_some_iff.1 h4).1
  refine⟨(h1.get s v hs).1,?_⟩;rw[h3 s (rU hk s hlt)];exact(h1.get s v hs).2
 refine aP (fun l a w=>Rep fn.ntmps [] (jX 0 args) a/\J l w) (fun l _ w=>μ l w) ?_ ?_
 ·refine wp_mono (gT hm hG c 0 _ _ _ w (sT hd) start hr) ?_
  rintro ex a' w' ⟨e',hr',hx,hk'⟩
  cases ex with
  |goto l=>exact⟨back hr hr' hx,hk'⟩
  |normal=>obtain⟨v,h1,h2⟩:=yJ hr' hk';exact⟨hr'.defers,v,h1,v,rfl,h2⟩
  |ret=>obtain⟨v,h1,h2⟩:=yJ hr' hk';exact⟨hr'.defers,v,h1,v,rfl,h2⟩
  |_ =>exact hk'.elim
 ·rintro l a w1 ⟨hra,hJ⟩
  obtain⟨hl,hv⟩:=rounds l w1 hJ;unfold oJ at hl;unfold iX at hv
  split at hl
  ·rename_i rest hrest
   rw[hrest]at hv;have hds:=kO hrest;refine⟨rest,hrest,wp_mono (gT hm hG rest 0 _ _ _ w1 (fun d h=>sT hd d (hds d h)) hv hra) ?_⟩;rintro ex a' w' ⟨e',hr',hx,hk'⟩
   cases ex with
   |goto l'=>exact⟨⟨back hra hr' (hx.mono hds),hk'.1⟩,hk'.2⟩
   |normal=>obtain⟨v,h1,h2⟩:=yJ hr' hk';exact⟨hr'.defers,v,h1,v,rfl,h2⟩
   |ret=>obtain⟨v,h1,h2⟩:=yJ hr' hk';exact⟨hr'.defers,v,h1,v,rfl,h2⟩
   |_ =>exact hk'.elim
  ·cases hl
end
end Go.V
namespace Go.Proofs
open Go Go.V
open Go.IntKind (wrap)
def qAb(x0:Addr)(J:Nat ->World ->Prop)(R:vPq)(w:wQ):Prop:=LdI w (aQq x0 1046) .i64 fun q=>IfC (q==0) (J 0 w) (IfC (q==1) (J 1 w) (LdP w (aQq x0 1050) fun P=>CallT Pg 159 #[.pointer (some x0),.pointer P] w fun Q c=>∃a h,And (Q= .tuple #[iQq a,h]) (xR h fun S=>IfC (!S) (yE (Value.oneCell' h) (qB c (aQq x0 1048) h fun T=>R (.tuple #[]) T)) (xH (fun(d:(Int×Int×Unit)) (r:wQ)=>xH (fun(U:(Int×Unit)) (i:wQ)=>xH (fun(b:(Int×Unit)) (j:wQ)=>xH (fun(s:(Int×Unit)) (V:wQ)=>CallT Pg 163 #[.pointer (some (aQq x0 1037))] V fun X p=>∃t,And (X=iQq t) (IfC (decide (s.1>t)) (LdI p (aQq x0 2) .i64 fun Y=>qB p (aQq x0 1048) (.iface 296 (iQq Y)) fun Z=>R (.tuple #[]) Z) (qB p (aQq x0 1052) (iQq U.1) fun aa=>qB aa (aQq x0 1053) (iQq s.1) fun ab=>J 1 ab))) (fun u=>IfC (decide (b.1<(4:Int))) (u (wIq (b.1+1),()) j) (IfC (decide (b.1<(30:Int))) (ShC 1 (ShC (qY .u64 (wrap .u64 (wIq (b.1 -2))) (1:Int)) (xB (fun(ac:(Unit) ->World ->Prop)=>ac (()) j) (fun ce f ad=>LdI f (aQq x0 4) .u64 fun ae=>IfC (decide (ae<(qY .u64 (wrap .u64 (wIq (b.1 -2))) (1:Int)))) (CallT Pg 149 #[.pointer (some x0)] f fun af v=>∃k,And (af=k) (xR k fun ag=>IfC (!ag) (yE (Value.oneCell' k) (qB v (aQq x0 1048) k fun ah=>R (.tuple #[]) ah)) (ad (()) v))) (LdI f (aQq x0 3) .u32 fun ai=>ShC (qY .u64 (wrap .u64 (wIq (b.1 -2))) (1:Int)) (LdI f (aQq x0 3) .u32 fun aj=>ShC (qY .u64 (wrap .u64 (wIq (b.1 -2))) (1:Int)) (qB f (aQq x0 3) (.int .u32 (qY .u32 aj (qY .u64 (wrap .u64 (wIq (b.1 -2))) (1:Int)))) fun y=>LdI y (aQq x0 4) .u64 fun ak=>qB y (aQq x0 4) (.int .u64 (wrap .u64 (ak -(qY .u64 (wrap .u64 (wIq (b.1 -2))) (1:Int))))) fun al=>ShC (wrap .u64 ((qY .u64 (wrap .u64 (wIq (b.1 -2))) (1:Int))+1)) (u (wIq ((wIq ((xJ .i64 (1:Int) (wrap .u64 ((qY .u64 (wrap .u64 (wIq (b.1 -2))) (1:Int))+1)))+1))+(bOr .i64 (xJ .i64 (zF .i64 b.1 1) (qY .u64 (wrap .u64 (wIq (b.1 -2))) (1:Int))) (wIq (zF .u32 ai (wrap .u32 ((xJ .u32 (1:Int) (qY .u64 (wrap .u64 (wIq (b.1 -2))) (1:Int))) -1)))))),()) al)))))))) (LdI j (aQq x0 2) .i64 fun am=>qB j (aQq x0 1048) (.iface 296 (iQq am)) fun ao=>R (.tuple #[]) ao)))) (fun z=>LdP i (aQq x0 1051) fun ap=>IfC ap.isNone (xB (fun(aq:(Unit) ->World ->Prop)=>aq (()) i) (fun cf l ar=>LdI l (aQq x0 4) .u64 fun au=>IfC (decide (au<(5:Int))) (CallT Pg 149 #[.pointer (some x0)] l fun av A=>∃m,And (av=m) (xR m fun aw=>IfC (!aw) (yE (Value.oneCell' m) (qB A (aQq x0 1048) m fun ax=>R (.tuple #[]) ax)) (ar (()) A))) (LdI l (aQq x0 3) .u32 fun ay=>ShC 3 (CallT Pg 162 #[.int .u8 (wrap .u8 (xJ .u32 (zF .u32 ay (31:Int)) 3))] l fun az B=>∃C,And (az= .int .u8 C) (LdI B (aQq x0 3) .u32 fun ba=>ShC 5 (qB B (aQq x0 3) (.int .u32 (qY .u32 ba 5)) fun D=>LdI D (aQq x0 4) .u64 fun bb=>qB D (aQq x0 4) (.int .u64 (wrap .u64 (bb -5))) fun bc=>z (wIq C,()) bc)))))) (LdP i (aQq x0 1051) fun bd=>CallT Pg 159 #[.pointer (some x0),.pointer bd] i fun be E=>∃F n,And (be= .tuple #[iQq F,n]) (xR n fun bf=>IfC (!bf) (yE (Value.oneCell' n) (qB E (aQq x0 1048) n fun bg=>R (.tuple #[]) bg)) (z (F,()) E))))) (fun G=>IfC (decide (d.1>(0:Int))) (xB (fun(bh:(Unit) ->World ->Prop)=>bh (()) r) (fun cg g bi=>LdI g (aQq x0 4) .u64 fun bj=>IfC (decide (bj<d.1)) (CallT Pg 149 #[.pointer (some x0)] g fun bk H=>∃o,And (bk=o) (xR o fun bl=>IfC (!bl) (yE (Value.oneCell' o) (qB H (aQq x0 1048) o fun bm=>R (.tuple #[]) bm)) (bi (()) H))) (LdI g (aQq x0 3) .u32 fun bn=>ShC d.1 (LdI g (aQq x0 3) .u32 fun bo=>ShC d.1 (qB g (aQq x0 3) (.int .u32 (qY .u32 bo d.1)) fun I=>LdI I (aQq x0 4) .u64 fun bp=>qB I (aQq x0 4) (.int .u64 (wrap .u64 (bp -d.1))) fun bq=>G (wIq (d.2.1+(wIq (zF .u32 bn (wrap .u32 ((xJ .u32 (1:Int) d.1) -1))))),()) bq))))) (G (d.2.1,()) r))) (fun e=>IfC (decide (a<(256:Int))) (CallT Pg 160 #[.pointer (some (aQq x0 1037)),.int .u8 (wrap .u8 a)] c fun br bs=>And (br= .tuple #[]) (CallT Pg 161 #[.pointer (some (aQq x0 1037))] bs fun bt K=>∃L,And (bt=iQq L) (IfC (L==0) (CallT Pg 155 #[.pointer (some (aQq x0 1037))] K fun bu bv=>∃M N O,And (bu= .slice M N O) (qB bv (aQq x0 1049) (.slice M N O) fun bw=>qB bw (aQq x0 1045) (.func (.func 152) #[] #[]) fun bx=>qB bx (aQq x0 1046) (iQq 0) fun bz=>R (.tuple #[]) bz)) (J 0 K)))) (IfC (a==256) (CallT Pg 156 #[.pointer (some x0)] c fun ca cb=>And (ca= .tuple #[]) (R (.tuple #[]) cb)) (IfC (decide (a<(265:Int))) (e (0,wIq (a -254),()) c) (IfC (decide (a<(269:Int))) (e (1,wIq ((wIq (a*2)) -519),()) c) (IfC (decide (a<(273:Int))) (e (2,wIq ((wIq (a*4)) -1057),()) c) (IfC (decide (a<(277:Int))) (e (3,wIq ((wIq (a*8)) -2149),()) c) (IfC (decide (a<(281:Int))) (e (4,wIq ((wIq (a*16)) -4365),()) c) (IfC (decide (a<(285:Int))) (e (5,wIq ((wIq (a*32)) -8861),()) c) (IfC (decide (a<(286:Int))) (e (0,(258:Int),()) c) (LdI c (aQq x0 2) .i64 fun cc=>qB c (aQq x0 1048) (.iface 296 (iQq cc)) fun cd=>R (.tuple #[]) cd))))))))))))))
theorem eqS152(x0:Addr)(J:Nat ->World ->Prop)(R:vPq)(w:wQ):vc Pg Gg (tR [(30,[(4,.i .u64),(5,.i .i64)],[0]),(101,[(5,.i .i64)],[0]),(107,[],[0,4,5]),(132,[(6,.i .i64)],[0,5]),(138,[],[0,5]),(169,[(6,.i .i64)],[0,5]),(184,[],[0,5,6,7,8]),(226,[(9,.i .i64)],[0]),(235,[(348,.b)],[0])]) 0 (dI (jD Tryz.f152)) (oK J (lZ Pg Tryz.f152.results.toList R)) (jX 0 [.pointer (some x0)]) w=qAb x0 J R w:=by kernel_rfl
def aE(x0:Addr)(J:Nat ->World ->Prop)(R:vPq)(w:wQ):Prop:=LdP w (aQq x0 1050) fun O=>CallT Pg 159 #[.pointer (some x0),.pointer O] w fun P c=>∃a h,And (P= .tuple #[iQq a,h]) (xR h fun Q=>IfC (!Q) (yE (Value.oneCell' h) (qB c (aQq x0 1048) h fun S=>R (.tuple #[]) S)) (xH (fun(d:(Int×Int×Unit)) (q:wQ)=>xH (fun(T:(Int×Unit)) (i:wQ)=>xH (fun(b:(Int×Unit)) (j:wQ)=>xH (fun(r:(Int×Unit)) (U:wQ)=>CallT Pg 163 #[.pointer (some (aQq x0 1037))] U fun V p=>∃s,And (V=iQq s) (IfC (decide (r.1>s)) (LdI p (aQq x0 2) .i64 fun X=>qB p (aQq x0 1048) (.iface 296 (iQq X)) fun Y=>R (.tuple #[]) Y) (qB p (aQq x0 1052) (iQq T.1) fun Z=>qB Z (aQq x0 1053) (iQq r.1) fun aa=>J 1 aa))) (fun t=>IfC (decide (b.1<(4:Int))) (t (wIq (b.1+1),()) j) (IfC (decide (b.1<(30:Int))) (ShC 1 (ShC (qY .u64 (wrap .u64 (wIq (b.1 -2))) (1:Int)) (xB (fun(ab:(Unit) ->World ->Prop)=>ab (()) j) (fun cd f ac=>LdI f (aQq x0 4) .u64 fun ad=>IfC (decide (ad<(qY .u64 (wrap .u64 (wIq (b.1 -2))) (1:Int)))) (CallT Pg 149 #[.pointer (some x0)] f fun ae u=>∃k,And (ae=k) (xR k fun af=>IfC (!af) (yE (Value.oneCell' k) (qB u (aQq x0 1048) k fun ag=>R (.tuple #[]) ag)) (ac (()) u))) (LdI f (aQq x0 3) .u32 fun ah=>ShC (qY .u64 (wrap .u64 (wIq (b.1 -2))) (1:Int)) (LdI f (aQq x0 3) .u32 fun ai=>ShC (qY .u64 (wrap .u64 (wIq (b.1 -2))) (1:Int)) (qB f (aQq x0 3) (.int .u32 (qY .u32 ai (qY .u64 (wrap .u64 (wIq (b.1 -2))) (1:Int)))) fun v=>LdI v (aQq x0 4) .u64 fun aj=>qB v (aQq x0 4) (.int .u64 (wrap .u64 (aj -(qY .u64 (wrap .u64 (wIq (b.1 -2))) (1:Int))))) fun ak=>ShC (wrap .u64 ((qY .u64 (wrap .u64 (wIq (b.1 -2))) (1:Int))+1)) (t (wIq ((wIq ((xJ .i64 (1:Int) (wrap .u64 ((qY .u64 (wrap .u64 (wIq (b.1 -2))) (1:Int))+1)))+1))+(bOr .i64 (xJ .i64 (zF .i64 b.1 1) (qY .u64 (wrap .u64 (wIq (b.1 -2))) (1:Int))) (wIq (zF .u32 ah (wrap .u32 ((xJ .u32 (1:Int) (qY .u64 (wrap .u64 (wIq (b.1 -2))) (1:Int))) -1)))))),()) ak)))))))) (LdI j (aQq x0 2) .i64 fun al=>qB j (aQq x0 1048) (.iface 296 (iQq al)) fun am=>R (.tuple #[]) am)))) (fun y=>LdP i (aQq x0 1051) fun ao=>IfC ao.isNone (xB (fun(ap:(Unit) ->World ->Prop)=>ap (()) i) (fun ce l aq=>LdI l (aQq x0 4) .u64 fun ar=>IfC (decide (ar<(5:Int))) (CallT Pg 149 #[.pointer (some x0)] l fun au z=>∃m,And (au=m) (xR m fun av=>IfC (!av) (yE (Value.oneCell' m) (qB z (aQq x0 1048) m fun aw=>R (.tuple #[]) aw)) (aq (()) z))) (LdI l (aQq x0 3) .u32 fun ax=>ShC 3 (CallT Pg 162 #[.int .u8 (wrap .u8 (xJ .u32 (zF .u32 ax (31:Int)) 3))] l fun ay A=>∃B,And (ay= .int .u8 B) (LdI A (aQq x0 3) .u32 fun az=>ShC 5 (qB A (aQq x0 3) (.int .u32 (qY .u32 az 5)) fun C=>LdI C (aQq x0 4) .u64 fun ba=>qB C (aQq x0 4) (.int .u64 (wrap .u64 (ba -5))) fun bb=>y (wIq B,()) bb)))))) (LdP i (aQq x0 1051) fun bc=>CallT Pg 159 #[.pointer (some x0),.pointer bc] i fun bd D=>∃E n,And (bd= .tuple #[iQq E,n]) (xR n fun be=>IfC (!be) (yE (Value.oneCell' n) (qB D (aQq x0 1048) n fun bf=>R (.tuple #[]) bf)) (y (E,()) D))))) (fun F=>IfC (decide (d.1>(0:Int))) (xB (fun(bg:(Unit) ->World ->Prop)=>bg (()) q) (fun cf g bh=>LdI g (aQq x0 4) .u64 fun bi=>IfC (decide (bi<d.1)) (CallT Pg 149 #[.pointer (some x0)] g fun bj G=>∃o,And (bj=o) (xR o fun bk=>IfC (!bk) (yE (Value.oneCell' o) (qB G (aQq x0 1048) o fun bl=>R (.tuple #[]) bl)) (bh (()) G))) (LdI g (aQq x0 3) .u32 fun bm=>ShC d.1 (LdI g (aQq x0 3) .u32 fun bn=>ShC d.1 (qB g (aQq x0 3) (.int .u32 (qY .u32 bn d.1)) fun H=>LdI H (aQq x0 4) .u64 fun bo=>qB H (aQq x0 4) (.int .u64 (wrap .u64 (bo -d.1))) fun bp=>F (wIq (d.2.1+(wIq (zF .u32 bm (wrap .u32 ((xJ .u32 (1:Int) d.1) -1))))),()) bp))))) (F (d.2.1,()) q))) (fun e=>IfC (decide (a<(256:Int))) (CallT Pg 160 #[.pointer (some (aQq x0 1037)),.int .u8 (wrap .u8 a)] c fun bq br=>And (bq= .tuple #[]) (CallT Pg 161 #[.pointer (some (aQq x0 1037))] br fun bs I=>∃K,And (bs=iQq K) (IfC (K==0) (CallT Pg 155 #[.pointer (some (aQq x0 1037))] I fun bt bu=>∃L M N,And (bt= .slice L M N) (qB bu (aQq x0 1049) (.slice L M N) fun bv=>qB bv (aQq x0 1045) (.func (.func 152) #[] #[]) fun bw=>qB bw (aQq x0 1046) (iQq 0) fun bx=>R (.tuple #[]) bx)) (J 0 I)))) (IfC (a==256) (CallT Pg 156 #[.pointer (some x0)] c fun bz ca=>And (bz= .tuple #[]) (R (.tuple #[]) ca)) (IfC (decide (a<(265:Int))) (e (0,wIq (a -254),()) c) (IfC (decide (a<(269:Int))) (e (1,wIq ((wIq (a*2)) -519),()) c) (IfC (decide (a<(273:Int))) (e (2,wIq ((wIq (a*4)) -1057),()) c) (IfC (decide (a<(277:Int))) (e (3,wIq ((wIq (a*8)) -2149),()) c) (IfC (decide (a<(281:Int))) (e (4,wIq ((wIq (a*16)) -4365),()) c) (IfC (decide (a<(285:Int))) (e (5,wIq ((wIq (a*32)) -8861),()) c) (IfC (decide (a<(286:Int))) (e (0,(258:Int),()) c) (LdI c (aQq x0 2) .i64 fun cb=>qB c (aQq x0 1048) (.iface 296 (iQq cb)) fun cc=>R (.tuple #[]) cc))))))))))))
theorem qEl(x0:Addr)(J:Nat ->World ->Prop)(R:vPq)(w:wQ):vc Pg Gg (tR [(17,[(4,.i .u64),(5,.i .i64)],[0]),(88,[(5,.i .i64)],[0]),(94,[],[0,4,5]),(119,[(6,.i .i64)],[0,5]),(125,[],[0,5]),(156,[(6,.i .i64)],[0,5]),(171,[],[0,5,6,7,8]),(213,[(9,.i .i64)],[0]),(222,[(348,.b)],[0])]) 0 (iX (dI (jD Tryz.f152)) 0) (oK J (lZ Pg Tryz.f152.results.toList R)) (jX 0 [.pointer (some x0)]) w=aE x0 J R w:=by kernel_rfl
def aG(x0:Addr)(J:Nat ->World ->Prop)(R:vPq)(w:wQ):Prop:=qO w fun a=>LdI a (aQq x0 1053) .i64 fun o=>LdI a (aQq x0 1052) .i64 fun p=>CallT Pg 164 #[.pointer (some (aQq x0 1037)),iQq o,iQq p] a fun q e=>∃b,And (q=iQq b) (xH (fun(r:(Int×Unit)) (f:wQ)=>LdI f (aQq x0 1052) .i64 fun s=>qB f (aQq x0 1052) (iQq (wIq (s -r.1))) fun t=>xH (fun(u:(Bool×Unit)) (g:wQ)=>IfC u.1 (CallT Pg 155 #[.pointer (some (aQq x0 1037))] g fun v y=>∃h i j,And (v= .slice h i j) (qB y (aQq x0 1049) (.slice h i j) fun z=>qB z (aQq x0 1045) (.func (.func 152) #[] #[]) fun A=>qB A (aQq x0 1046) (iQq 1) fun B=>R (.tuple #[]) B)) (J 0 g)) (fun k=>CallT Pg 161 #[.pointer (some (aQq x0 1037))] t fun C c=>∃l,And (C=iQq l) (IfC (l==0) (k (true,()) c) (LdI c (aQq x0 1052) .i64 fun D=>k (decide (D>(0:Int)),()) c)))) (fun m=>IfC (b==0) (qO e fun d=>LdI d (aQq x0 1053) .i64 fun E=>LdI d (aQq x0 1052) .i64 fun F=>CallT Pg 165 #[.pointer (some (aQq x0 1037)),iQq E,iQq F] d fun G H=>∃n,And (G=iQq n) (m (n,()) H)) (m (b,()) e)))
theorem qEm(x0:Addr)(J:Nat ->World ->Prop)(R:vPq)(w:wQ):vc Pg Gg (tR [(4,[(9,.i .i64)],[0]),(13,[(348,.b)],[0])]) 0 (iX (dI (jD Tryz.f152)) 1) (oK J (lZ Pg Tryz.f152.results.toList R)) (jX 0 [.pointer (some x0)]) w=aG x0 J R w:=by kernel_rfl
theorem call152{x0:Addr}{R:vPq}{w:wQ}(J:Nat ->World ->Prop)(μ:Nat ->World ->Nat)(hJ:∀l w,J l w ->l=0\/l=1)(h:qAb x0 J R w)(h0:∀w,J 0 w ->aE x0 (fun l' w'=>J l' w'/\μ l' w'<μ 0 w) R w)(h1:∀w,J 1 w ->aG x0 (fun l' w'=>J l' w'/\μ l' w'<μ 1 w) R w):CallT Pg 152 #[.pointer (some x0)] w R:=
 dX follows dU Tryz.func152 (c:=dI (jD Tryz.f152)) (by kernel_rfl) (by kernel_rfl) (by kernel_rfl) (by kernel_rfl) (ann:=tR [(30,[(4,.i .u64),(5,.i .i64)],[0]),(101,[(5,.i .i64)],[0]),(107,[],[0,4,5]),(132,[(6,.i .i64)],[0,5]),(138,[],[0,5]),(169,[(6,.i .i64)],[0,5]),(184,[],[0,5,6,7,8]),(226,[(9,.i .i64)],[0]),(235,[(348,.b)],[0])]) (annl:=fun l=>match l with|0=>tR [(17,[(4,.i .u64),(5,.i .i64)],[0]),(88,[(5,.i .i64)],[0]),(94,[],[0,4,5]),(119,[(6,.i .i64)],[0,5]),(125,[],[0,5]),(156,[(6,.i .i64)],[0,5]),(171,[],[0,5,6,7,8]),(213,[(9,.i .i64)],[0]),(222,[(348,.b)],[0])]|_ =>tR [(4,[(9,.i .i64)],[0]),(13,[(348,.b)],[0])]) J μ ((eqS152 x0 J R w).mpr h) (fun l w hl=>by
  rcases hJ l w hl with rfl|rfl
  ·exact⟨by kernel_rfl,(qEl x0 _ R w).mpr (h0 w hl)⟩
  ·exact⟨by kernel_rfl,(qEm x0 _ R w).mpr (h1 w hl)⟩)
section
variable{w:wQ}{fb hb bb gb db rb kb ht:Nat}{p:pQ}{d:Dec}{F:Fl}{done out tail:bQ}{R Q:Nat}{s:Nat×Nat×bQ}{E:Er}{t:Option Bool}
theorem FlAt.failC{F0 F1:Fl}{v:Value}{w7:wQ}{K:World ->Prop}(h:FlAt w7 fb hb bb F1 done)(he:Errx E t v)(hD:DW w7 db rb kb p d)(hdf:db<fb)(hrd:F1.rd=F0.rd)(htr:F1.toR=F0.toR)(hle:F0.rd<=done.length)
  (hK:∀w9,Fr [fb] w7 w9 ->hn w9=hn w7 ->dN w9 fb hb bb db rb kb p d E t F0 ->K w9):yE (Value.oneCell' v) (qB w7 ⟨fb,0+1048,none⟩ v K):=by
 obtain⟨arr,a1,a2⟩:=h.row;refine zK he.one ?_;refine lJ a1 a2 fun w9 arr9 h9 hF9 f9 n9=> ?_;have fl9:=h.upd f9 h9 hF9 rfl rfl rfl rfl;exact hK _ f9 n9 ⟨_,_,fl9,he,hrd,hle,htr,hD.fr f9 (by simp;omega)⟩
theorem Fs.need{nb n:Nat}{nI:Int}{Rr:World ->Prop}{K:Unit ->World ->Prop}(h:Fs w fb hb bb gb db rb kb p d E t F done out tail R Q s)(hFnb:F.nb=nb)(h7:nb<=7)(hnn:n<=16)(hI:nI=(n:Int))(hQ:Q+n<=8*out.length)(hrd:F.rd<=done.length)
  (hfail:∀w',Fr [rb,kb,db,bb,gb,fb] w w' ->hn w'=hn w ->dN w' fb hb bb db rb kb p d E t F ->Rr w')
  (hok:∀w' ro b' nb' R',Fr [rb,kb,db,bb,gb,fb] w w' ->hn w'=hn w ->Fs w' fb hb bb gb db rb kb p d E t {F with ro:=ro,b:=(b':Nat),nb:=(nb':Nat)} done out tail R' Q s ->n<=nb' ->(nb'<=7\/nb'<n+8) ->K () w'):
  xB (fun J:Unit ->World ->Prop=>J () w) fun z w2 N=>LdI w2 ⟨fb,0+4,none⟩ .u64 fun m=>IfC (decide (m<nI)) (CallT Pg 149 #[.pointer (some ⟨fb,0,none⟩)] w2 fun v w7=>∃v8,v=v8/\xR v8 fun b=>IfC (!b) (yE (Value.oneCell' v8) (qB w7 ⟨fb,0+1048,none⟩ v8 fun w9=>Rr w9)) (N () w7)) (K z w2):=by
 have hord:=h.src.ords;have ho2:=h.ord;have ho3:=h.fl.ord;subst hI;refine qP (fun _ w'=>∃ro b' nb' R',Fr [rb,kb,db,bb,gb,fb] w w'/\hn w'=hn w/\Fs w' fb hb bb gb db rb kb p d E t {F with ro:=ro,b:=(b':Nat),nb:=(nb':Nat)} done out tail R' Q s/\(nb'<=7\/nb'<n+8)) (fun _ w'=>match atR (hp w' fb) 4 with|some (.int _ m)=>24 -m.toNat|_ =>0) ?_ ?_
 ·obtain⟨b,nb0,e1,e2,hB⟩:=h.bits
  obtain rfl:nb0=nb:=oQ;refine⟨F.ro,b,nb0,R,Fr.refl _ _,rfl,?_,.inl h7⟩;have:{F with ro:=F.ro,b:=(b:Int),nb:=(nb0:Int)}=F:=by rw[<-e1,<-e2]
  rw[this];exact h
 ·rintro⟨⟩ w2 ⟨ro,b',nb',R',F2,n2,h2,hle⟩
  obtain⟨arr,a1,a2⟩:=h2.fl.row;refine qC a1 a2.nb ?_;dsimp only;refine qF (fun hlt=> ?_) (fun hge=>hok _ _ _ _ _ F2 n2 h2 oQ hle);obtain⟨b1,nb1,e1,e2,hB⟩:=h2.bits;dsimp only at e1 e2;have hpos:=hB.pos;refine CallT.mono (h2.c149 (b:=b') (nb:=nb') rfl rfl oQ oQ) ?_;rintro v w7 ⟨F7,n7,hv⟩;refine⟨v,rfl,?_⟩;rcases hv with⟨rfl,ro7,b7,h7⟩|⟨he,fl7,hD⟩
  ·refine qR (qM ⟨⟨ro7,b7,nb'+8,R'+1,F2.trans F7,oQ,h7,oQ⟩,?_⟩)
   obtain⟨arr7,r7,q7⟩:=h7.fl.row;rw[a1,r7];simp only[atR_Row,q7.nb,a2.nb];omega
  ·refine he.nil (xA ?_)
   refine fl7.failC (F0:=F) he hD oQ rfl rfl hrd ?_;exact fun w9 f9 n9 hF=>hfail _ (F2.trans (F7.trans (f9.mono sQ))) oQ hF
theorem qBa{s:Nat}(h1:257<=s)(h2:s<265):lenOf s=(s -254,0):=by unfold lenOf;rw[if_neg oQ,if_pos h2]
theorem qBb{s:Nat}(h1:265<=s)(h2:s<269):lenOf s=(2*s -519,1):=by
 have:s=265\/s=266\/s=267\/s=268:=oQ;rcases this with rfl|rfl|rfl|rfl<;>rfl
theorem qBc{s:Nat}(h1:269<=s)(h2:s<273):lenOf s=(4*s -1057,2):=by
 have:s=269\/s=270\/s=271\/s=272:=oQ;rcases this with rfl|rfl|rfl|rfl<;>rfl
theorem qBd{s:Nat}(h1:273<=s)(h2:s<277):lenOf s=(8*s -2149,3):=by
 have:s=273\/s=274\/s=275\/s=276:=oQ;rcases this with rfl|rfl|rfl|rfl<;>rfl
theorem qBe{s:Nat}(h1:277<=s)(h2:s<281):lenOf s=(16*s -4365,4):=by
 have:s=277\/s=278\/s=279\/s=280:=oQ;rcases this with rfl|rfl|rfl|rfl<;>rfl
theorem qBf{s:Nat}(h1:281<=s)(h2:s<285):lenOf s=(32*s -8861,5):=by
 have:s=281\/s=282\/s=283\/s=284:=oQ;rcases this with rfl|rfl|rfl|rfl<;>rfl
theorem qFu:((List.range 32).all fun ds=>Nat.beq (jB (jB ds 5*8) 8) ds)=true:=by kernel_rfl
theorem oZ{ds:Nat}(h:ds<32):jB (jB ds 5*8) 8=ds:=Nat.eq_of_beq_eq_true (List.all_eq_true.1 qFu ds (List.mem_range.2 h))
def wrOf(w:wQ)(fb:Nat):Nat:=match atR (hp w fb) 1038 with|some (.int _ n)=>n.toNat|_ =>0
theorem FlAt.wrOf_eq(h:FlAt w fb hb bb F done):wrOf w fb=done.length:=by
 obtain⟨arr,a1,a2⟩:=h.row;unfold wrOf;rw[a1,atR_Row,h.wrAt a2];exact Int.toNat_natCast _
def Kp(F F1:Fl):Prop:=F1.hl=F.hl/\F1.hd=F.hd/\F1.rd=F.rd/\F1.toR=F.toR/\F1.err=F.err/\F1.fin=F.fin/\F1.ss=F.ss
theorem Kp.refl(F:Fl):Kp F F:=⟨rfl,rfl,rfl,rfl,rfl,rfl,rfl⟩
theorem nY{b k:Nat}(hb:b<4294967296)(hk:k<=31):zF .u32 (b:Int) (wrap .u32 ((xJ .u32 1 (k:Int)) -1))=((b%2^k:Nat):Int):=by
 have h1:2^k<=2^31:=Nat.pow_le_pow_right oQ hk;have h2:1<=2^k:=Nat.one_le_two_pow;have e:xJ .u32 1 (k:Int)=((2^k:Nat):Int):=by
  rw[gB oQ oQ,Int.toNat_natCast,Int.one_mul,xV (Int.le_of_lt (Int.pow_pos dQ)) (by
   have:((2:Int)^k)=((2^k:Nat):Int):=by simp
   rw[this];omega)]
  simp
 rw[e,xV oQ oQ,show((2^k:Nat):Int) -1=((2^k -1:Nat):Int) by omega,rP hb hk]
theorem Fs.b32{b nb:Nat}(h:Fs w fb hb bb gb db rb kb p d E t F done out tail R Q s)(hFb:F.b=b)(hFnb:F.nb=nb):Bits out R Q b nb/\b<4294967296:=by
 obtain⟨b0,nb0,e1,e2,hB⟩:=h.bits;obtain rfl:b0=b:=oQ;obtain rfl:nb0=nb:=oQ;exact⟨hB,Nat.lt_of_lt_of_le hB.lt (show 2^nb0<=2^32 from Nat.pow_le_pow_right oQ hB.nb24)⟩
theorem Fs.use{b nb n:Nat}{F1:Fl}{w':wQ}(h:Fs w fb hb bb gb db rb kb p d E t F done out tail R Q s)(hFb:F.b=b)(hFnb:F.nb=nb)(hn:n<=nb)(hfl:FlAt w' fb hb bb F1 done)(hf:Fr [fb] w w')(e1:F1.b=(b/2^n:Nat))(e2:F1.nb=(nb -n:Nat)):Fs w' fb hb bb gb db rb kb p d E t F1 done out tail R (Q+n) s:=by
 have hord:=h.src.ords;have ho2:=h.ord;have hlo:=h.lo;exact⟨hfl,h.src.fr hf (by simp;omega),⟨_,_,e1,e2,(h.b32 hFb hFnb).1.drop hn⟩,h.ord,h.er.fr hf (by simp;omega),h.lo⟩
theorem Fs.fr{S:List Nat}{w':wQ}(h:Fs w fb hb bb gb db rb kb p d E t F done out tail R Q s)(hf:Fr S w w')(hS:∀x∈S,gb<x/\x≠fb/\x≠hb):Fs w' fb hb bb gb db rb kb p d E t F done out tail R Q s:=by
 have hord:=h.src.ords;have hlo:=h.lo;exact⟨h.fl.fr hf (fun hx=>(hS _ hx).2.1 rfl) (fun hx=>(hS _ hx).2.2 rfl),h.src.fr hf (fun x hx=>(hS x hx).1),h.bits,h.ord,h.er.fr hf (fun x hx=>by have:=(hS x hx).1;omega),h.lo⟩
end
theorem wK{h:bQ}(t:Tok):h.length<=(kV h t).length:=by
 cases t with
 |lit x=>simp[kV]
 |mat s e ds de=>simp only[kV,vD];omega
theorem jV:∀(ts:List Tok) {h:bQ},h.length<=(vF h ts).length
 |[],h=>Nat.le_refl _
 |t::r,h=>Nat.le_trans (wK t) (jV r (h:=kV h t))
theorem gR(s:Nat):(jU s).length=fixLen s:=by rw[nB,wordL_length]
section
variable{w:wQ}{fb hb bb gb db rb kb ht:Nat}{p:pQ}{d:Dec}{F:Fl}{done out tail:bQ}{R Q:Nat}{s:Nat×Nat×bQ}{E:Er}{t:Option Bool}
structure Hs (w0 w:wQ) (fb hb bb gb db rb kb:Nat) (p:pQ) (d:Dec) (E:Er) (t:Option Bool) (F F1:Fl) (done out tail:bQ) (Q:Nat) (s:Nat×Nat×bQ):Prop where
 fs:∃R,Fs w fb hb bb gb db rb kb p d E t F1 done out tail R Q s
 nb:∃b n:Nat,F1.b=b/\F1.nb=n/\n<=7
 kp:Kp F F1
 fr:Fr [rb,kb,db,bb,gb,fb,hb] w0 w
 hn_ :hn w=hn w0
theorem Fs.c152{nb:Nat}{ts:List Tok}(h:Fs w fb hb bb gb db rb kb p d E t F done out tail R Q s)(hFnb:F.nb=nb)(h7:nb<=7)(hss:F.ss=0)(hhl:F.hl=some ⟨ht,0,none⟩)(hhd:F.hd=none)(hT:HT w ht)(hht:ht∉[rb,kb,db,bb,gb,fb,hb])
  (hA:At out Q (ts.flatMap yD++jU 256))(hok:gG done ts)(hl:(vF done ts).length<32768)(hrd:F.rd=0)(htr:F.toR.len=0):
  CallT Pg 152 #[.pointer (some ⟨fb,0,none⟩)] w fun v w'=>v= .tuple #[]/\Fr [rb,kb,db,bb,gb,fb,hb] w w'/\hn w'=hn w/\((∃F' R' nb',Fs w' fb hb bb gb db rb kb p d E t F' (vF done ts) out tail R' (Q+(ts.flatMap yD++jU 256).length) s/\F'.nb=(nb':Nat)/\nb'<=7/\BEnd F F' (xP E.ea) hb (vF done ts).length)\/
   dN w' fb hb bb db rb kb p d E t F):=by
 have hord:=h.src.ords;have ho2:=h.ord;have ho3:=h.fl.ord;have hlo:=h.lo;generalize hfin:vF done ts=fin at*;generalize hQe:Q+(ts.flatMap yD++jU 256).length=Qe at*;refine call152 (fun l w1=>(l=0/\∃ts' done' F1 Q1,Hs w w1 fb hb bb gb db rb kb p d E t F F1 done' out tail Q1 s/\At out Q1 (ts'.flatMap yD++jU 256)/\gG done' ts'/\vF done' ts'=fin/\Q1+(ts'.flatMap yD++jU 256).length=Qe)\/
  (l=1/\∃ts' done' F1 Q1 len dist,Hs w w1 fb hb bb gb db rb kb p d E t F F1 done' out tail Q1 s/\At out Q1 (ts'.flatMap yD++jU 256)/\F1.cl=((len:Nat):Int)/\F1.cd=((dist:Nat):Int)/\1<=len/\1<=dist/\dist<=done'.length/\gG (copyN done' dist len) ts'/\vF (copyN done' dist len) ts'=fin/\Q1+(ts'.flatMap yD++jU 256).length=Qe))
  (fun l w1=>2*(32768 -wrOf w1 fb) -l) (fun l w1 hJ=>hJ.elim (fun h=> .inl h.1) (fun h=> .inr h.1)) ?_ ?_ ?_
 ·
  unfold qAb aQq wIq iQq;obtain⟨arr,a1,a2⟩:=h.fl.row;obtain⟨b0,nb0,e1,e2,hB⟩:=h.bits;refine qC a1 a2.ss (qW (fun _ => ?_) (fun e=>absurd hss e));exact .inl ⟨rfl,ts,done,F,Q,⟨⟨R,h⟩,⟨b0,nb0,e1,e2,oQ⟩,Kp.refl F,Fr.refl _ _,rfl⟩,hA,hok,hfin,hQe⟩
 ·
  rintro w0 (⟨_,ts',done',F1,Q1,H,hA1,hok1,hfin1,hQ1⟩|⟨h,_⟩)
  rotate_left
  ·cases h
  obtain⟨⟨R1,hfs⟩,⟨b1,nb1,hb1,hnb1,hnb17⟩,K1,Fr1,hn1⟩:=H;have hlen1:done'.length<=fin.length:=by rw[<-hfin1];exact jV _
  obtain⟨arr,a1,a2⟩:=hfs.fl.row;have hT1:=hT.fr Fr1 hht;have hrd1:F1.rd=0:=K1.2.2.1.trans hrd;unfold aE aQq wIq iQq;refine zZ a1 (a2.hl.trans (congrArg (fun x=>some (Value.pointer x)) (K1.1.trans hhl))) ?_;have fault:∀{F2:Fl} {w2:wQ} {v:Value} {K:World ->Prop},FlAt w2 fb hb bb F2 done' ->Errx E t v ->DW w2 db rb kb p d ->F2.rd=F.rd ->F2.toR=F.toR ->Fr [rb,kb,db,bb,gb,fb,hb] w w2 ->hn w2=hn w ->
    (∀w9,Fr [rb,kb,db,bb,gb,fb,hb] w w9 ->hn w9=hn w ->dN w9 fb hb bb db rb kb p d E t F ->K w9) ->yE (Value.oneCell' v) (qB w2 ⟨fb,0+1048,none⟩ v K):=
   fun hfl he hD q1 q2 q3 q4 hK=>hfl.failC (F0:=F) he hD oQ q1 q2 (by rw[hrd];omega) fun w9 f9 n9 hF=>hK w9 (q3.trans (f9.mono sQ)) oQ hF
  have sym:∀s0,s0<288 ->At out Q1 (jU s0) ->CallT Pg 159 #[.pointer (some ⟨fb,0,none⟩),.pointer (some ⟨ht,0,none⟩)] w0 fun v w'=>Fr [rb,kb,db,bb,gb,fb] w0 w'/\hn w'=hn w0/\((v= .tuple #[.int .i64 s0,.nilIface]/\
   ∃ro b' nb' R',nb'<=7/\Fs w' fb hb bb gb db rb kb p d E t {F1 with ro:=ro,b:=(b':Nat),nb:=(nb':Nat)} done' out tail R' (Q1+fixLen s0) s)\/
   (∃e ro b' nb',v= .tuple #[.int .i64 0,e]/\Errx E t e/\FlAt w' fb hb bb {F1 with ro:=ro,b:=b',nb:=nb'} done'/\DW w' db rb kb p d)):=
   fun s0 hs0 hA0=>hfs.c159 hb1 hnb1 hnb17 hT1 (fun hx=>hht (by simp at hx⊢;omega)) hs0 hA0
  cases ts' with
  |nil=>
   simp only[List.flatMap_nil,List.nil_append]at hA1 hQ1;rw[gR]at hQ1;refine CallT.mono (sym 256 dQ hA1) ?_;rintro v w4 ⟨F4,n4,⟨rfl,ro4,b4,nb4,R4,hnb4,fs4⟩|⟨e,ro4,b4,nb4,rfl,he,fl4,hD⟩⟩
   rotate_left
   ·exact⟨_,_,rfl,he.nil (xA (fault fl4 he hD K1.2.2.1 K1.2.2.2.1 (Fr1.trans (F4.mono sQ)) oQ fun w9 q1 q2 q3=>⟨rfl,q1,q2,.inr q3⟩))⟩
   refine⟨_,_,rfl,qR (qM ?_)⟩;refine qJ (fun _ _ =>False) (fun _ _ h=>h.elim) fun J hJ=> ?_;refine qF (fun hc=>absurd hc dQ) (fun _ =>qW (fun _ => ?_) (fun hc=>absurd rfl hc));refine CallT.mono (fs4.fl.c156 (rd:=0) hrd1 oQ fs4.er oQ) ?_;rintro _ w100 ⟨rfl,f100,n100,fl100⟩;have hfd:done'=fin:=hfin1;subst hfd;refine⟨rfl,rfl,Fr1.trans ((F4.mono sQ).trans (f100.mono sQ)),oQ,.inl ⟨_,R4,nb4,⟨fl100,fs4.src.fr f100 (by simp;omega),⟨b4,nb4,finF_b.1,finF_b.2,?_⟩,h.ord,fs4.er.fr f100 (by simp;omega),hlo⟩,finF_b.2,hnb4,?_⟩⟩
   ·rw[<-hQ1]
    exact(fs4.b32 rfl rfl).1
   ·exact bF hrd1 (by rw[show({F1 with ro:=ro4,b:=(b4:Nat),nb:=(nb4:Nat)}:Fl).toR=F.toR from K1.2.2.2.1];exact htr) hl K1.2.2.2.2.2.2 K1.2.2.2.2.2.1 K1.2.2.2.2.1
  |cons tk r=>
   rw[List.flatMap_cons,List.append_assoc]at hA1 hQ1;have hAr:=hA1.right;rw[List.length_append,<-Nat.add_assoc]at hQ1
   cases tk with
   |lit x=>
    have hx:=UInt8.toNat_lt x;have htl:(yD (.lit x)).length=fixLen x.toNat:=gR _;rw[htl]at hAr hQ1;refine CallT.mono (sym x.toNat oQ hA1.left) ?_;rintro v w4 ⟨F4,n4,⟨rfl,ro4,b4,nb4,R4,hnb4,fs4⟩|⟨e,ro4,b4,nb4,rfl,he,fl4,hD⟩⟩
    rotate_left
    ·exact⟨_,_,rfl,he.nil (xA (fault fl4 he hD K1.2.2.1 K1.2.2.2.1 (Fr1.trans (F4.mono sQ)) oQ fun w9 q1 q2 q3=>⟨rfl,q1,q2,.inr q3⟩))⟩
    refine⟨_,_,rfl,qR (qM ?_)⟩;refine qJ (fun _ _ =>False) (fun _ _ h=>h.elim) fun J hJ=> ?_;refine qF (fun _ => ?_) (fun hc=>absurd oQ hc);rw[uN oQ oQ];have hfl1:(kV done' (.lit x)).length<=fin.length:=by rw[<-hfin1];exact jV r (h:=kV done' (.lit x))
    have htol:(kV done' (.lit x)).length=done'.length+1:=by simp[kV]
    refine CallT.mono (fs4.fl.c160 (y:=x) oQ) ?_;rintro _ w87 ⟨rfl,fl87,f87,n87⟩;refine⟨rfl,CallT.mono fl87.c161 ?_⟩;rintro _ w89 ⟨rfl,f89,n89⟩;refine⟨_,rfl,qW (fun hc=>absurd hc (by simp;omega)) (fun _ => ?_)⟩;have fl89:=fl87.fr f89 sQ sQ;refine⟨.inl ⟨rfl,r,done'++[x],_,Q1+fixLen x.toNat,⟨⟨R4,fl89,(fs4.src.fr f87 (by simp;omega)).fr f89 sQ,⟨b4,nb4,rfl,rfl,(fs4.b32 rfl rfl).1⟩,h.ord,(fs4.er.fr f87 (by simp;omega)).fr f89 sQ,hlo⟩,⟨b4,nb4,rfl,rfl,hnb4⟩,K1,?_,oQ⟩,hAr,hok1.2,hfin1,hQ1⟩,?_⟩
    ·exact Fr1.trans ((F4.mono sQ).trans ((f87.mono sQ).trans (f89.mono sQ)))
    ·rw[fl89.wrOf_eq,hfs.fl.wrOf_eq]
     simp only[List.length_append,List.length_cons,List.length_nil];omega
   |mat s0 e ds de=>
    obtain⟨g1,g2,g3,g4,g5,g6,g7,g8⟩:=hok1.1;have hls:=tY s0 g1 g2;have hds:=gX ds g4;have hAt:=hA1.left;have htl:(yD (.mat s0 e ds de)).length=fixLen s0+(lenOf s0).2+5+(zD ds).2:=by
     simp only[yD,List.length_append,gR,bitsL_length,wordL_length]
    rw[htl]at hAr hQ1;simp only[yD]at hAt;have hA4:=hAt.right;simp only[List.length_append,gR,bitsL_length,wordL_length]at hA4;have hA3:=hAt.left.right;simp only[List.length_append,gR,bitsL_length]at hA3;have hA2:=hAt.left.left.right;rw[gR]at hA2;have hAs:=hAt.left.left.left;have hAl:=hAr.1;have hlm:1<=(lenOf s0).1:=by
     unfold lenOf
     split
     ·decide
     ·split
      ·show 1<=s0 -254;omega
      ·show 1<=3+_;omega
    have hdm:1<=(zD ds).1:=by
     unfold zD
     split
     ·show 1<=1+ds;omega
     ·show 1<=1+_;omega
    generalize hn_ :(lenOf s0).2=n at*;generalize hk_ :(zD ds).2=k at*;refine CallT.mono (sym s0 oQ hAs) ?_;rintro v w4 ⟨F4,n4,⟨rfl,ro4,b4,nb4,R4,hnb4,fs4⟩|⟨er,ro4,b4,nb4,rfl,he,fl4,hD⟩⟩
    rotate_left
    ·exact⟨_,_,rfl,he.nil (xA (fault fl4 he hD K1.2.2.1 K1.2.2.2.1 (Fr1.trans (F4.mono sQ)) oQ fun w9 q1 q2 q3=>⟨rfl,q1,q2,.inr q3⟩))⟩
    have F04:Fr [rb,kb,db,bb,gb,fb,hb] w w4:=Fr1.trans (F4.mono sQ);refine⟨_,_,rfl,qR (qM ?_)⟩;refine qJ (fun z w'=>z.1=((n:Nat):Int)/\z.2.1=(((lenOf s0).1:Nat):Int)/\w'=w4) ?_ ?_
    ·rintro⟨_,_,⟨⟩⟩ w10 ⟨rfl,rfl,rfl⟩
     dsimp only;refine qJ (fun z w'=>z.1=(((lenOf s0).1+e:Nat):Int)/\∃F2,Hs w w' fb hb bb gb db rb kb p d E t F F2 done' out tail (Q1+fixLen s0+n) s) ?_ ?_
     ·rintro⟨_,⟨⟩⟩ w13 ⟨rfl,F2,⟨⟨R2,fs2⟩,⟨b2,nb2,hb2,hnb2,hnb27⟩,K2,Fr2,hn2⟩⟩
      dsimp only;refine qJ (fun z w'=>z.1=((ds:Nat):Int)/\∃F3,Hs w w' fb hb bb gb db rb kb p d E t F F3 done' out tail (Q1+fixLen s0+n+5) s) ?_ ?_
      ·rintro⟨_,⟨⟩⟩ w16 ⟨rfl,F3,⟨⟨R3,fs3⟩,⟨b3,nb3,hb3,hnb3,hnb37⟩,K3,Fr3,hn3⟩⟩
       dsimp only;refine qJ (fun z w'=>z.1=(((zD ds).1+de:Nat):Int)/\∃F4,Hs w w' fb hb bb gb db rb kb p d E t F F4 done' out tail (Q1+fixLen s0+n+5+k) s) ?_ ?_
       ·rintro⟨_,⟨⟩⟩ w19 ⟨rfl,F5,⟨⟨R5,fs5⟩,⟨b5,nb5,hb5,hnb5,hnb57⟩,K5,Fr5,hn5⟩⟩
        dsimp only;refine CallT.mono fs5.fl.c163 ?_;rintro _ w22 ⟨rfl,rfl⟩;refine⟨_,rfl,qF (fun hc=>absurd hc oQ) (fun _ => ?_)⟩;obtain⟨arr5,r5,q5⟩:=fs5.fl.row;refine nR r5 q5 fun w26 arr26 h26 hF26 f26 n26=> ?_;have fl26:=fs5.fl.upd f26 h26 hF26 rfl rfl rfl rfl;refine St_cd h26 hF26 fun w27 arr27 h27 hF27 f27 n27=> ?_;have fl27:=fl26.upd f27 h27 hF27 rfl rfl rfl rfl;refine⟨.inr ⟨rfl,r,done',_,Q1+fixLen s0+n+5+k,(lenOf s0).1+e,(zD ds).1+de,⟨⟨R5,fl27,(fs5.src.fr f26 (by simp;omega)).fr f27 (by simp;omega),⟨b5,nb5,hb5,hnb5,(fs5.b32 hb5 hnb5).1⟩,h.ord,(fs5.er.fr f26 (by simp;omega)).fr f27 (by simp;omega),hlo⟩,⟨b5,nb5,hb5,hnb5,hnb57⟩,K5,?_,oQ⟩,?_,rfl,rfl,oQ,oQ,g6,hok1.2,hfin1,?_⟩,?_⟩
        ·exact Fr5.trans ((f26.mono sQ).trans (f27.mono sQ))
        ·rw[show Q1+fixLen s0+n+5+k=Q1+(fixLen s0+n+5+k) by omega];exact hAr
        ·omega
        ·rw[fl27.wrOf_eq,hfs.fl.wrOf_eq]
         have:done'.length<32768:=oQ;omega
       ·intro J hJ
        refine qF (fun hc=>hJ _ _ ⟨?_,F3,?_⟩) (fun hc=>qF (fun hc2=> ?_) (fun hc2=>absurd oQ hc2))
        ·have hdd:zD ds=(1+ds,0):=by unfold zD;rw[if_pos oQ]
         rw[hdd]at hk_ ⊢;dsimp only at hk_ ⊢;subst hk_;simp at g5;rw[qA oQ oQ];omega
        ·have hdd:zD ds=(1+ds,0):=by unfold zD;rw[if_pos oQ]
         rw[hdd]at hk_;dsimp only at hk_;subst hk_;exact⟨⟨R3,fs3⟩,⟨b3,nb3,hb3,hnb3,hnb37⟩,K3,Fr3,hn3⟩
        ·have hdd:zD ds=(1+(2+ds%2)*2^(ds/2 -1),ds/2 -1):=by unfold zD;rw[if_neg oQ]
         have hk2:k=ds/2 -1:=by rw[<-hk_,hdd]
         have ek:qY .u64 (wrap .u64 (wrap .i64 (((ds:Nat):Int) -2))) 1=((k:Nat):Int):=by
          rw[qA oQ oQ,zE oQ oQ,dJ oQ dQ dQ];have:(((ds:Nat):Int) -2).toNat/2^(1:Int).toNat=k:=by
           show(((ds:Nat):Int) -2).toNat/2=k;omega
          rw[this]
         rw[ek];refine qU dQ (qU oQ ?_);refine fs3.need (n:=k) hnb3 hnb37 oQ rfl oQ (by rw[K3.2.2.1,hrd];omega) (fun w' q1 q2 q3=>⟨rfl,Fr3.trans (q1.mono sQ),oQ,.inr ?_⟩) ?_
         ·obtain⟨F',done'',p1,p2,p3,p4,p5,p6⟩:=q3
          exact⟨F',done'',p1,p2,p3.trans K3.2.2.1,by rw[<-K3.2.2.1];exact p4,p5.trans K3.2.2.2.1,p6⟩
         ·intro w29 ro29 b29 nb29 R29 F29 n29 fs29 hge29 hle29
          obtain⟨B29,hb32⟩:=fs29.b32 rfl rfl;obtain⟨arr29,r29,q29⟩:=fs29.fl.row;have hval:b29%2^k=de:=B29.val hge29 g5 (by
           rw[show Q1+fixLen s0+n+5=Q1+(fixLen s0+n+5) by omega];exact hA4.bitsL)
          refine qC r29 q29.b (qU oQ (qC r29 q29.b (qU oQ ?_)));dsimp only;rw[uB oQ oQ oQ,Int.toNat_natCast,Int.toNat_natCast];refine cY r29 q29 fun w40 arr40 h40 hF40 f40 n40=> ?_;have fl40:=fs29.fl.upd f40 h40 hF40 rfl rfl rfl rfl;refine qC h40 hF40.nb ?_;dsimp only;rw[show((nb29:Nat):Int) -((k:Nat):Int)=((nb29 -k:Nat):Int) by omega,zE oQ oQ];refine fC h40 hF40 fun w42 arr42 h42 hF42 f42 n42=> ?_;have fl42:=fl40.upd f42 h42 hF42 rfl rfl rfl rfl;rw[show((k:Nat):Int)+1=((k+1:Nat):Int) by omega,zE (n:=((k+1:Nat):Int)) oQ oQ];refine qU oQ (hJ _ _ ⟨?_,_,⟨⟨R29,fs29.use (F1:={F3 with ro:=ro29,b:=(b29/2^k:Nat),nb:=(nb29 -k:Nat)}) rfl rfl hge29 fl42 (f40.trans f42) rfl rfl⟩,⟨_,nb29 -k,rfl,rfl,oQ⟩,K3,?_,oQ⟩⟩)
          ·have hp1:2^(k+1)=2*2^k:=by rw[Nat.pow_succ,Nat.mul_comm]
           have hpk:2^k<=2^13:=Nat.pow_le_pow_right oQ hds.2;have hpk1:1<=2^k:=Nat.one_le_two_pow;have t1:xJ .i64 1 ((k+1:Nat):Int)=((2^(k+1):Nat):Int):=by
            rw[tI oQ oQ,Int.toNat_natCast,Int.one_mul,show(2:Int)^(k+1)=((2^(k+1):Nat):Int) by simp,qA oQ oQ]
           have t2:zF .i64 ((ds:Nat):Int) 1=((ds%2:Nat):Int):=by
            rw[qAi oQ oQ dQ dQ,Int.toNat_natCast];have:ds&&&(1:Int).toNat=ds%2^1:=Nat.and_two_pow_sub_one_eq_mod ds 1;rw[this]
           have hm2:ds%2*2^k<=2^k:=by
            have:ds%2<=1:=oQ
            calc ds%2*2^k<=1*2^k:=Nat.mul_le_mul_right _ this
             _ =2^k:=oQ
           have t3:xJ .i64 ((ds%2:Nat):Int) ((k:Nat):Int)=((ds%2*2^k:Nat):Int):=by
            rw[tI oQ oQ,Int.toNat_natCast,show((ds%2:Nat):Int)*(2:Int)^k=((ds%2*2^k:Nat):Int) by simp,qA oQ oQ]
           rw[t1,t2,t3,nY hb32 oQ,hval,qA (n:=((de:Nat):Int)) oQ oQ,eZ oQ oQ oQ oQ,Int.toNat_natCast,Int.toNat_natCast,yX (j:=k) (Nat.mul_mod_left _ _) g5];rw[qA (n:=((2^(k+1):Nat):Int)+1) oQ oQ,qA oQ oQ,hdd];dsimp only;rw[<-hk2,Nat.add_mul];omega
          ·exact Fr3.trans ((F29.mono sQ).trans ((f40.mono sQ).trans (f42.mono sQ)))
      ·intro J hJ
       obtain⟨arr2,r2,q2⟩:=fs2.fl.row;refine zZ r2 (q2.hd.trans (congrArg (fun x=>some (Value.pointer x)) (K2.2.1.trans hhd))) (xA ?_);refine fs2.need (n:=5) hnb2 hnb27 oQ rfl oQ (by rw[K2.2.2.1,hrd];omega) (fun w' q1 q2 q3=>⟨rfl,Fr2.trans (q1.mono sQ),oQ,.inr ?_⟩) ?_
       ·obtain⟨F',done'',p1,p2,p3,p4,p5,p6⟩:=q3
        exact⟨F',done'',p1,p2,p3.trans K2.2.2.1,by rw[<-K2.2.2.1];exact p4,p5.trans K2.2.2.2.1,p6⟩
       ·intro w47 ro47 b47 nb47 R47 F47 n47 fs47 hge47 hle47
        obtain⟨B47,hb32⟩:=fs47.b32 rfl rfl;obtain⟨arr47,r47,q47⟩:=fs47.fl.row;have hval:b47%2^5=jB ds 5:=B47.val hge47 (uZ _ _) (by
         rw[show Q1+fixLen s0+n=Q1+(fixLen s0+n) by omega];exact hA3.wordL)
        have hr5:=uZ ds 5;refine qC r47 q47.b (qU dQ ?_);dsimp only;have e31:zF .u32 ((b47:Nat):Int) 31=((jB ds 5:Nat):Int):=by
         rw[show(31:Int)=((2^5 -1:Nat):Int)from rfl,rP hb32 dQ,hval]
        rw[e31,gB dQ dQ,show(3:Int).toNat=3 from rfl,show(2:Int)^3=8 from rfl,xV oQ oQ,uN oQ oQ,show((jB ds 5:Nat):Int)*8=((jB ds 5*8:Nat):Int) by omega];refine CallT.mono (c162 oQ) ?_;rintro _ w58 ⟨rfl,rfl⟩;refine⟨_,rfl,qC r47 q47.b (qU dQ ?_)⟩;dsimp only;rw[uB oQ dQ dQ,Int.toNat_natCast,show(5:Int).toNat=5 from rfl];refine cY r47 q47 fun w61 arr61 h61 hF61 f61 n61=> ?_;have fl61:=fs47.fl.upd f61 h61 hF61 rfl rfl rfl rfl;refine qC h61 hF61.nb ?_;dsimp only;rw[show((nb47:Nat):Int) -5=((nb47 -5:Nat):Int) by omega,zE oQ oQ];refine fC h61 hF61 fun w63 arr63 h63 hF63 f63 n63=> ?_;have fl63:=fl61.upd f63 h63 hF63 rfl rfl rfl rfl;refine hJ _ _ ⟨?_,_,⟨⟨R47,fs47.use (n:=5) (F1:={F2 with ro:=ro47,b:=(b47/2^5:Nat),nb:=(nb47 -5:Nat)}) rfl rfl hge47 fl63 (f61.trans f63) rfl rfl⟩,⟨_,nb47 -5,rfl,rfl,oQ⟩,K2,?_,oQ⟩⟩
        ·rw[oZ oQ,qA oQ oQ]
        ·exact Fr2.trans ((F47.mono sQ).trans ((f61.mono sQ).trans (f63.mono sQ)))
     ·intro J hJ
      have Hs4:Hs w w10 fb hb bb gb db rb kb p d E t F {F1 with ro:=ro4,b:=(b4:Nat),nb:=(nb4:Nat)} done' out tail (Q1+fixLen s0) s:=⟨⟨R4,fs4⟩,⟨b4,nb4,rfl,rfl,hnb4⟩,K1,F04,oQ⟩;refine qF (fun hc=> ?_) (fun hc=>hJ _ _ ⟨?_,{F1 with ro:=ro4,b:=(b4:Nat),nb:=(nb4:Nat)},?_⟩)
      ·refine fs4.need (n:=n) rfl hnb4 oQ rfl oQ (by show F1.rd<=_;rw[hrd1];omega) (fun w' q1 q2 q3=>⟨rfl,F04.trans (q1.mono sQ),oQ,.inr ?_⟩) ?_
       ·obtain⟨F',done'',p1,p2,p3,p4,p5,p6⟩:=q3
        exact⟨F',done'',p1,p2,p3.trans K1.2.2.1,by rw[<-K1.2.2.1];exact p4,p5.trans K1.2.2.2.1,p6⟩
       ·intro w72 ro72 b72 nb72 R72 F72 n72 fs72 hge72 hle72
        obtain⟨B72,hb32⟩:=fs72.b32 rfl rfl;obtain⟨arr72,r72,q72⟩:=fs72.fl.row;have hval:b72%2^n=e:=B72.val hge72 g3 hA2.bitsL;refine qC r72 q72.b (qU oQ (qC r72 q72.b (qU oQ ?_)));dsimp only;rw[uB oQ oQ oQ,Int.toNat_natCast,Int.toNat_natCast];refine cY r72 q72 fun w83 arr83 h83 hF83 f83 n83=> ?_;have fl83:=fs72.fl.upd f83 h83 hF83 rfl rfl rfl rfl;refine qC h83 hF83.nb ?_;dsimp only;rw[show((nb72:Nat):Int) -((n:Nat):Int)=((nb72 -n:Nat):Int) by omega,zE oQ oQ];refine fC h83 hF83 fun w85 arr85 h85 hF85 f85 n85=> ?_;have fl85:=fl83.upd f85 h85 hF85 rfl rfl rfl rfl;refine hJ _ _ ⟨?_,_,⟨⟨R72,fs72.use (F1:={F1 with ro:=ro72,b:=(b72/2^n:Nat),nb:=(nb72 -n:Nat)}) rfl rfl hge72 fl85 (f83.trans f85) rfl rfl⟩,⟨_,nb72 -n,rfl,rfl,oQ⟩,K1,?_,oQ⟩⟩
        ·rw[nY hb32 oQ,hval,qA (n:=((e:Nat):Int)) oQ oQ,qA oQ oQ]
         omega
        ·exact F04.trans ((F72.mono sQ).trans ((f83.mono sQ).trans (f85.mono sQ)))
      ·have:n=0:=oQ
       subst this;simp at g3;subst g3
       rfl
      ·have:n=0:=oQ
       subst this;exact Hs4
    ·intro J hJ
     refine qF (fun hc=>absurd hc oQ) (fun _ =>qW (fun hc=>absurd hc oQ) (fun _ => ?_));refine qF (fun hc=>hJ _ _ ⟨?_,?_,rfl⟩) (fun c1=> ?_)
     ·rw[<-hn_,qBa g1 oQ];rfl
     ·rw[qBa g1 oQ,qA oQ oQ];dsimp only;omega
     refine qF (fun hc=>hJ _ _ ⟨?_,?_,rfl⟩) (fun c2=> ?_)
     ·rw[<-hn_,qBb oQ oQ];rfl
     ·rw[qBb oQ oQ,qA (n:=((s0:Nat):Int)*2) oQ oQ,qA oQ oQ];dsimp only;omega
     refine qF (fun hc=>hJ _ _ ⟨?_,?_,rfl⟩) (fun c3=> ?_)
     ·rw[<-hn_,qBc oQ oQ];rfl
     ·rw[qBc oQ oQ,qA (n:=((s0:Nat):Int)*4) oQ oQ,qA oQ oQ];dsimp only;omega
     refine qF (fun hc=>hJ _ _ ⟨?_,?_,rfl⟩) (fun c4=> ?_)
     ·rw[<-hn_,qBd oQ oQ];rfl
     ·rw[qBd oQ oQ,qA (n:=((s0:Nat):Int)*8) oQ oQ,qA oQ oQ];dsimp only;omega
     refine qF (fun hc=>hJ _ _ ⟨?_,?_,rfl⟩) (fun c5=> ?_)
     ·rw[<-hn_,qBe oQ oQ];rfl
     ·rw[qBe oQ oQ,qA (n:=((s0:Nat):Int)*16) oQ oQ,qA oQ oQ];dsimp only;omega
     refine qF (fun hc=>hJ _ _ ⟨?_,?_,rfl⟩) (fun c6=> ?_)
     ·rw[<-hn_,qBf oQ oQ];rfl
     ·rw[qBf oQ oQ,qA (n:=((s0:Nat):Int)*32) oQ oQ,qA oQ oQ];dsimp only;omega
     have h285:s0=285:=oQ;subst h285;exact qF (fun hc=>hJ _ _ ⟨by rw[<-hn_];rfl,rfl,rfl⟩) (fun hc=>absurd dQ hc)
 ·
  rintro w0 (⟨h,_⟩|⟨_,ts',done',F1,Q1,len,dist,H,hA1,hcl,hcd,g1,g2,g3,hok1,hfin1,hQ1⟩)
  ·cases h
  obtain⟨⟨R1,hfs⟩,⟨b1,nb1,hb1,hnb1,hnb17⟩,K1,Fr1,hn1⟩:=H;have hlen1:(copyN done' dist len).length<=fin.length:=by rw[<-hfin1];exact jV _
  rw[vD]at hlen1;unfold aG aQq wIq iQq;refine qE fun w1 f1 n1=> ?_;have fs1:=hfs.fr f1 sQ;obtain⟨arr,a1,a2⟩:=fs1.fl.row;refine qC a1 (a2.cd.trans (by rw[hcd])) (qC a1 (a2.cl.trans (by rw[hcl])) ?_);refine CallT.mono (fs1.fl.c164 g2 g3 g1 oQ) ?_;rintro _ w208 ⟨rfl,fl208,f208,n208⟩;refine⟨_,rfl,qJ (fun z w'=>z.1=((len:Nat):Int)/\w'=w208) ?_ ?_⟩
  ·rintro⟨_,⟨⟩⟩ w211 ⟨rfl,rfl⟩
   dsimp only;obtain⟨arr2,r2,q2⟩:=fl208.row;refine qC r2 q2.cl ?_;dsimp only;rw[hcl,Int.sub_self,show wrap .i64 0=0 from rfl];refine nR r2 q2 fun w214 arr214 h214 hF214 f214 n214=> ?_;have fl214:=fl208.upd f214 h214 hF214 rfl rfl rfl rfl;refine qJ (fun z w'=>z.1=false/\Fr [] w214 w'/\hn w'=hn w214) ?_ ?_
   ·rintro⟨_,⟨⟩⟩ w216 ⟨rfl,f216,n216⟩
    have fl216:=fl214.fr f216 sQ sQ;refine qM ⟨.inl ⟨rfl,ts',copyN done' dist len,_,Q1,⟨⟨R1,fl216,((fs1.src.fr f208 (by simp;omega)).fr f214 (by simp;omega)).fr f216 sQ,⟨b1,nb1,hb1,hnb1,(hfs.b32 hb1 hnb1).1⟩,h.ord,((fs1.er.fr f208 (by simp;omega)).fr f214 (by simp;omega)).fr f216 sQ,hlo⟩,⟨b1,nb1,hb1,hnb1,hnb17⟩,K1,?_,oQ⟩,hA1,hok1,hfin1,hQ1⟩,?_⟩
    ·exact Fr1.trans ((f1.mono sQ).trans ((f208.mono sQ).trans ((f214.mono sQ).trans (f216.mono sQ))))
    ·rw[fl216.wrOf_eq,hfs.fl.wrOf_eq,vD]
     omega
   ·intro J hJ
    refine CallT.mono fl214.c161 ?_;rintro _ w227 ⟨rfl,f227,n227⟩;refine⟨_,rfl,qW (fun hc=>absurd hc (by rw[vD];omega)) (fun _ => ?_)⟩;refine qC (f227.row0 h214) hF214.cl (hJ _ _ ⟨?_,f227,n227⟩)
    rfl
  ·intro J hJ
   exact qW (fun hc=>absurd hc oQ) (fun _ =>hJ _ _ ⟨rfl,rfl⟩)
end
def wp143(x0:Addr)(R:vPq)(w:wQ):Prop:=xB (fun(l:(Unit) ->World ->Prop)=>l (()) w) (fun Q b m=>LdI b (aQq x0 4) .u64 fun n=>IfC (decide (n<(3:Int))) (CallT Pg 149 #[.pointer (some x0)] b fun o p=>∃c,And (o=c) (yE (Value.oneCell' c) (qB p (aQq x0 1048) c fun d=>LdV d (aQq x0 1048) fun q=>xR q fun r=>IfC (!r) (R (.tuple #[]) d) (m (()) d)))) (LdI b (aQq x0 3) .u32 fun s=>qB b (aQq x0 1047) (.bool ((zF .u32 s 1)==1)) fun i=>LdI i (aQq x0 3) .u32 fun t=>ShC 1 (qB i (aQq x0 3) (.int .u32 (qY .u32 t 1)) fun e=>LdI e (aQq x0 3) .u32 fun f=>LdI e (aQq x0 3) .u32 fun u=>ShC 2 (qB e (aQq x0 3) (.int .u32 (qY .u32 u 2)) fun j=>LdI j (aQq x0 4) .u64 fun v=>qB j (aQq x0 4) (.int .u64 (wrap .u64 (v -3))) fun a=>IfC ((zF .u32 f 3)==0) (CallT Pg 150 #[.pointer (some x0)] a fun y z=>And (y= .tuple #[]) (R (.tuple #[]) z)) (IfC ((zF .u32 f 3)==1) (CallT Pg 151 #[] a fun A B=>∃k,And (A= .pointer k) (qB B (aQq x0 1050) (.pointer k) fun C=>qB C (aQq x0 1051) (.pointer none) fun D=>CallT Pg 152 #[.pointer (some x0)] D fun E F=>And (E= .tuple #[]) (R (.tuple #[]) F))) (IfC ((zF .u32 f 3)==2) (CallT Pg 153 #[.pointer (some x0)] a fun G H=>∃g,And (G=g) (yE (Value.oneCell' g) (qB H (aQq x0 1048) g fun h=>LdV h (aQq x0 1048) fun I=>xR I fun J=>IfC (!J) (R (.tuple #[]) h) (qB h (aQq x0 1050) (.pointer (some (aQq x0 5))) fun K=>qB K (aQq x0 1051) (.pointer (some (aQq x0 520))) fun L=>CallT Pg 152 #[.pointer (some x0)] L fun M N=>And (M= .tuple #[]) (R (.tuple #[]) N))))) (LdI a (aQq x0 2) .i64 fun O=>qB a (aQq x0 1048) (.iface 296 (iQq O)) fun P=>R (.tuple #[]) P)))))))
theorem call143{x0:Addr}{R:vPq}{w:wQ}(h:wp143 x0 R w):CallT Pg 143 #[.pointer (some x0)] w R:=cVq [(2,[],[0])] Tryz.func143 h
theorem mR{P:Nat ->Prop}(h:∃n,P n):∃n,P n/\∀m,P m ->n<=m:=by
 obtain⟨n,hn⟩:=h
 induction n using Nat.strongRecOn with
 |_ n ih=>
  by_cases hx:∃m,m<n/\P m
  ·obtain⟨m,hm,hp⟩:=hx
   exact ih m hm hp
  ·exact⟨n,hn,fun m hm=>Nat.le_of_not_lt fun hlt=>hx ⟨m,hlt,hm⟩⟩
open Classical in
noncomputable def iO(P:Nat ->Prop):Nat:=if h:∃n,P n then Classical.choose (mR h)else 0
theorem fL{P:Nat ->Prop}(h:∃n,P n):P (iO P)/\∀m,P m ->iO P<=m:=by
 unfold iO;rw[dif_pos h];exact Classical.choose_spec (mR h)
theorem pN{T:Type}{start:(T ->World ->Prop) ->Prop}{round:T ->World ->(T ->World ->Prop) ->Prop}(I:Nat ->T ->World ->Prop)(h1:∀K:T ->World ->Prop,(∀n z w,I n z w ->K z w) ->start K)
  (h2:∀n z w,I n z w ->∀K:T ->World ->Prop,(∀n' z' w',n'<n ->I n' z' w' ->K z' w') ->round z w K):xB start round:=by
 refine⟨fun z w=>∃n,I n z w,fun z w=>iO fun n=>I n z w,h1 _ fun n z w h=>⟨n,h⟩,fun z w hJ=> ?_⟩;obtain⟨hI,_⟩:=fL hJ;refine h2 _ z w hI _ fun n' z' w' hlt hI'=>⟨⟨n',hI'⟩,?_⟩;exact Nat.lt_of_le_of_lt ((fL (P:=fun n=>I n z' w') ⟨n',hI'⟩).2 n' hI') hlt
section
variable{w:wQ}{fb hb bb gb db rb kb ht:Nat}{p:pQ}{d:Dec}{F:Fl}{done out tail:bQ}{R Q:Nat}{s:Nat×Nat×bQ}{E:Er}{t:Option Bool}
theorem qGo{arr:vQ}{x:Value}{K:World ->Prop}(h:hp w fb=Row 281 arr)(hF:FAt arr F)(hx:x=F.err)(hK:∀w',hp w' fb=Row 281 arr ->Fr [fb] w w' ->hn w'=hn w ->K w'):qB w ⟨fb,1048,none⟩ x K:=by
 subst hx;refine qD h (by rw[hF.size];decide) fun w' h' f' n'=>hK w' ?_ f' n';rw[h']
 congr 1
 apply Array.ext_getElem?;intro j;rw[Array.getElem?_setIfInBounds]
 split
 ·rename_i e
  subst e;rw[if_pos (by rw[hF.size];decide),hF.err]
 ·rfl
structure Idle (F:Fl):Prop where
 nb:∃b n:Nat,F.b=b/\F.nb=n/\n<=7
 ss:F.ss=0
 rd:F.rd=0
 toR:F.toR.len=0
 err:F.err= .nilIface
theorem Fs.c143{blk:Blk}(h:Fs w fb hb bb gb db rb kb p d E t F done out tail R Q s)(hI:Idle F)(hA:At out Q (yT Q blk))(hok:qAn done blk)(hl:(uT done blk).length<32768)(hne:∀la,blk= .stored la [] ->done=[]):
  CallT Pg 143 #[.pointer (some ⟨fb,0,none⟩)] w fun v w'=>v= .tuple #[]/\Fr [rb,kb,db,bb,gb,fb,hb] w w'/\hn w<=hn w'/\((∃F' R' nb',Fs w' fb hb bb gb db rb kb p d E t F' (uT done blk) out tail R' (Q+(yT Q blk).length) s/\F'.nb=(nb':Nat)/\nb'<=7/\BEnd {F with fin:=blk.last} F' (xP E.ea) hb (uT done blk).length)\/
   dN w' fb hb bb db rb kb p d E t F):=by
 have hord:=h.src.ords;have ho2:=h.ord;have ho3:=h.fl.ord;have hlo:=h.lo;have hltb:hb<hn w:=by
  obtain⟨harr,b1,_⟩:=h.fl.hrow;exact zM b1
 obtain⟨b0,nb0,e1,e2,hnb7⟩:=hI.nb;obtain⟨typ,rest,hbits,htyp⟩:∃(typ:Nat) (rest:List Bool),yT Q blk=([blk.last]++bitsL typ 2)++rest/\((typ=0/\∃dd,blk= .stored blk.last dd/\rest=bitsL 0 ((8 -(Q+3)%8)%8)++bitsL dd.length 16++bitsL (65535 -dd.length) 16++yV dd)\/(typ=1/\∃ts,blk= .fixed blk.last ts/\rest=ts.flatMap yD++jU 256)):=by
  cases blk with
  |stored l dd=>exact⟨0,_,by simp only[yT,List.append_assoc];rfl,.inl ⟨rfl,dd,rfl,rfl⟩⟩
  |fixed l ts=>exact⟨1,_,by simp only[yT,List.append_assoc];rfl,.inr ⟨rfl,ts,rfl,rfl⟩⟩
 have hty:typ<2:=by rcases htyp with⟨h,_⟩|⟨h,_⟩<;>omega
 have hA0:=hA;rw[hbits]at hA;have hAh:=hA.left;have hAr:=hA.right;have h3l:([blk.last]++bitsL typ 2).length=3:=by simp
 rw[h3l]at hAr;have hv3:∀i,i<3 ->fF out (Q+i)=(blk.last.toNat+2*typ).testBit i:=by
  intro i hi;rw[hAh.2 i oQ];have h2:typ=0\/typ=1:=oQ;have h3:i=0\/i=1\/i=2:=oQ;generalize blk.last=la;rcases h2 with rfl|rfl<;>rcases h3 with rfl|rfl|rfl<;>cases la<;>decide
 have hAl:=hAh.1;rw[h3l]at hAl;apply call143;unfold wp143 aQq iQq;refine qP (fun _ w'=>∃ro b' nb' R',Fr [rb,kb,db,bb,gb,fb] w w'/\hn w'=hn w/\Fs w' fb hb bb gb db rb kb p d E t {F with ro:=ro,b:=(b':Nat),nb:=(nb':Nat)} done out tail R' Q s/\(nb'<=7\/nb'<11)) (fun _ w'=>match atR (hp w' fb) 4 with|some (.int _ m)=>24 -m.toNat|_ =>0) ?_ ?_
 ·refine⟨F.ro,b0,nb0,R,Fr.refl _ _,rfl,?_,.inl hnb7⟩
  have:{F with ro:=F.ro,b:=(b0:Int),nb:=(nb0:Int)}=F:=by rw[<-e1,<-e2]
  rw[this];exact h
 ·rintro⟨⟩ w2 ⟨ro,b',nb',R',F2,n2,h2,hle⟩
  obtain⟨arr,a1,a2⟩:=h2.fl.row;refine qC a1 a2.nb ?_;dsimp only;refine qF (fun hlt=> ?_) (fun hge=> ?_)
  ·obtain⟨b1,nb1,k1,k2,hB⟩:=h2.bits
   dsimp only at k1 k2;have hpos:=hB.pos;refine CallT.mono (h2.c149 (b:=b') (nb:=nb') rfl rfl oQ oQ) ?_;rintro v w7 ⟨F7,n7,hv⟩;refine⟨v,rfl,?_⟩;rcases hv with⟨rfl,ro7,b7,h7⟩|⟨he,fl7,hD⟩
   ·obtain⟨arr7,r7,q7⟩:=h7.fl.row
    refine zK rfl (qGo r7 q7 hI.err.symm fun w9 h9 f9 n9=> ?_);refine qT h9 (q7.err.trans (congrArg some hI.err)) (qR (qM ⟨⟨ro7,b7,nb'+8,R'+1,F2.trans (F7.trans (f9.mono sQ)),oQ,⟨⟨⟨arr7,h9,q7⟩,h7.fl.hist,?_,h7.fl.wr,h7.fl.len,h7.fl.full,h7.fl.rr,ho3⟩,h7.src.fr f9 (by simp;omega),h7.bits,ho2,h7.er.fr f9 (by simp;omega),hlo⟩,oQ⟩,?_⟩))
    ·obtain⟨harr,b1,b2⟩:=h7.fl.hrow
     exact⟨harr,f9.row1 b1 oQ,b2⟩
    ·rw[a1,h9]
     simp only[atR_Row,q7.nb,a2.nb];omega
   ·obtain⟨arr7,r7,q7⟩:=fl7.row
    refine zK he.one (lJ r7 q7 fun w9 arr9 h9 hF9 f9 n9=> ?_);have fl9:=fl7.upd f9 h9 hF9 rfl rfl rfl rfl;refine qT h9 hF9.err (he.nil (xA ⟨rfl,?_,oQ,.inr ⟨_,_,fl9,he,rfl,by rw[hI.rd];omega,rfl,hD.fr f9 (by simp;omega)⟩⟩));exact(F2.mono sQ).trans ((F7.mono sQ).trans (f9.mono sQ))
  ·obtain⟨B2,hb32⟩:=h2.b32 rfl rfl
   have hnb3:3<=nb':=oQ;have hval:b'%2^3=blk.last.toNat+2*typ:=B2.val hnb3 (by cases blk.last<;>simp<;>omega) hv3;have hlast:blk.last.toNat<=1:=by cases blk.last<;>decide
   refine qC a1 a2.b ?_;dsimp only;have eL:(zF .u32 ((b':Nat):Int) 1==(1:Int))=blk.last:=by
    rw[show(1:Int)=((2^1 -1:Nat):Int)from rfl,rP hb32 dQ];have:b'%2^1=blk.last.toNat:=oQ;rw[this]
    cases blk.last<;>rfl
   rw[eL];refine St_fin a1 a2 fun w13 arr13 h13 hF13 f13 n13=> ?_;have fl13:=h2.fl.upd f13 h13 hF13 rfl rfl rfl rfl;refine qC h13 hF13.b (qU dQ ?_);dsimp only;rw[uB oQ dQ dQ,Int.toNat_natCast,show(1:Int).toNat=1 from rfl];refine cY h13 hF13 fun w15 arr15 h15 hF15 f15 n15=> ?_;have fl15:=fl13.upd f15 h15 hF15 rfl rfl rfl rfl;refine qC h15 hF15.b (qC h15 hF15.b (qU dQ ?_));dsimp only;rw[uB oQ dQ dQ,Int.toNat_natCast,show(2:Int).toNat=2 from rfl,Nat.div_div_eq_div_mul,show 2^1*2^2=2^3 from rfl];refine cY h15 hF15 fun w18 arr18 h18 hF18 f18 n18=> ?_;have fl18:=fl15.upd f18 h18 hF18 rfl rfl rfl rfl;refine qC h18 hF18.nb ?_;dsimp only;rw[show((nb':Nat):Int) -3=((nb' -3:Nat):Int) by omega,zE oQ oQ];refine fC h18 hF18 fun w20 arr20 h20 hF20 f20 n20=> ?_;have fl20:=fl18.upd f20 h20 hF20 rfl rfl rfl rfl;have f220:Fr [fb] w2 w20:=f13.trans (f15.trans (f18.trans f20));have fs20:=h2.use (n:=3) (F1:={F with ro:=ro,b:=(b'/2^3:Nat),nb:=(nb' -3:Nat),fin:=blk.last}) rfl rfl hnb3 fl20 f220 rfl rfl;have hnb20:nb' -3<=7:=oQ;have F20:Fr [rb,kb,db,bb,gb,fb,hb] w w20:=(F2.mono sQ).trans (f220.mono sQ);have eT:zF .u32 ((b'/2^1:Nat):Int) 3=((typ:Nat):Int):=by
    rw[show(3:Int)=((2^2 -1:Nat):Int)from rfl,rP oQ dQ];have:b'/2^1%2^2=typ:=oQ;rw[this]
   rw[eT];have hQ3:Q+(yT Q blk).length=Q+3+rest.length:=by rw[hbits,List.length_append,h3l];omega
   rcases htyp with⟨rfl,dd,hblk,hrest⟩|⟨rfl,ts,hblk,hrest⟩
   ·refine qW (fun _ => ?_) (fun hc=>absurd rfl hc)
    have hbo:uT done blk=done++dd:=by rw[hblk];rfl
    rw[hrest]at hAr;refine CallT.mono (fs20.c150 (nb:=nb' -3) rfl hnb20 hI.rd hI.toR (fun hd=>hne blk.last (by rw[hblk,hd];rfl)) (by rw[hbo]at hl;simpa using hl) hAr) ?_;rintro _ w22 ⟨rfl,F22,n22,hv⟩;refine⟨rfl,rfl,F20.trans F22,oQ,?_⟩;rcases hv with⟨F',R'',fs',hn0,h8,hbe⟩|hF
    ·refine .inl ⟨F',R'',0,?_,hn0,oQ,?_⟩
     ·have:Q+(yT Q blk).length=8*R'':=by
       rw[hQ3,hrest,h8];simp only[List.length_append,bitsL_length,byteBits_length];omega
      rw[this,hbo];exact fs'
     ·rw[hbo];exact hbe
    ·obtain⟨F',done'',p1,p2,p3,p4,p5,p6⟩:=hF
     exact .inr ⟨F',done'',p1,p2,p3,p4,p5,p6⟩
   ·refine qW (fun hc=>absurd hc dQ) (fun _ =>qW (fun _ => ?_) (fun hc=>absurd rfl hc))
    have hbo:uT done blk=vF done ts:=by rw[hblk];rfl
    have hok':gG done ts:=by rw[hblk]at hok;exact hok
    rw[hrest]at hAr;refine CallT.mono c151 ?_;rintro _ w24 ⟨ht,rfl,hT24,F24,hht,n24⟩;refine⟨_,rfl,?_⟩;have fl24:=fs20.fl.fr F24 sQ sQ;obtain⟨arr24,r24,q24⟩:=fl24.row;refine St_hl (x:=some ⟨ht,0,none⟩) r24 q24 fun w26 arr26 h26 hF26 f26 n26=> ?_;have fl26:=fl24.upd f26 h26 hF26 rfl rfl rfl rfl;refine St_hd (x:=none) h26 hF26 fun w27 arr27 h27 hF27 f27 n27=> ?_;have fl27:=fl26.upd f27 h27 hF27 rfl rfl rfl rfl;have hT27:=(hT24.fr f26 (by simp;omega)).fr f27 (by simp;omega);have F2027:Fr [fb] w20 w27:=(F24.mono sQ).trans (f26.trans f27);have fs27:Fs w27 fb hb bb gb db rb kb p d E t {F with ro:=ro,b:=(b'/2^3:Nat),nb:=(nb' -3:Nat),fin:=blk.last,hl:=some ⟨ht,0,none⟩,hd:=none} done out tail R' (Q+3) s:=
     ⟨fl27,fs20.src.fr F2027 (by simp;omega),fs20.bits,ho2,fs20.er.fr F2027 (by simp;omega),hlo⟩
    refine CallT.mono (fs27.c152 (nb:=nb' -3) rfl hnb20 hI.ss rfl rfl hT27 (by simp;omega) hAr hok' (by rw[hbo]at hl;exact hl) hI.rd hI.toR) ?_;rintro _ w29 ⟨rfl,F29,n29,hv⟩;refine⟨rfl,rfl,F20.trans ((F2027.mono sQ).trans F29),oQ,?_⟩;rcases hv with⟨F',R'',nb'',fs',hn0,h8,hbe⟩|hF
    ·refine .inl ⟨F',R'',nb'',?_,hn0,h8,?_⟩
     ·rw[hQ3,hrest,hbo];exact fs'
     ·rw[hbo];exact hbe
    ·obtain⟨F',done'',p1,p2,p3,p4,p5,p6⟩:=hF
     exact .inr ⟨F',done'',p1,p2,p3,p4,p5,p6⟩
end
def wp258(x0:Addr)(x1:pQ)(x1l:Nat)(x1c:Nat)(R:vPq)(w:wQ):Prop:=xB (fun(n:(Unit) ->World ->Prop)=>n (()) w) (fun I a d=>qS a (aQq x0 1049) fun J o K=>IfC (decide ((o:Int)>(0:Int))) (qS a (aQq x0 1049) fun p q r=>jQ Pg a #[33,33] 3 (.slice x1 x1l x1c) (.slice p q r) fun b f=>qS f (aQq x0 1049) fun s g h=>And (0<=b/\b<=(g:Int)) (qB f (aQq x0 1049) (.slice (qQ s h b.toNat 1) (g -b.toNat) (h -b.toNat)) fun e=>qS e (aQq x0 1049) fun L t M=>IfC ((t:Int)==0) (qO e fun i=>LdV i (aQq x0 1048) fun u=>R (.tuple #[iQq b,u]) i) (R (.tuple #[iQq b,.nilIface]) e))) (LdV a (aQq x0 1048) fun v=>xR v fun y=>IfC (!y) (qO a fun j=>LdV j (aQq x0 1048) fun z=>R (.tuple #[iQq 0,z]) j) (LdV a (aQq x0 1045) fun A=>nF Pg Gg a A [.pointer (some x0)] fun B c=>And (B= .tuple #[]) (LdV c (aQq x0 1048) fun C=>xR C fun D=>IfC (!D) (qS c (aQq x0 1049) fun N E O=>IfC ((E:Int)==0) (CallT Pg 155 #[.pointer (some (aQq x0 1037))] c fun F G=>∃k l m,And (F= .slice k l m) (qB G (aQq x0 1049) (.slice k l m) fun H=>d (()) H)) (d (()) c)) (d (()) c)))))
theorem call258{x0:Addr}{x1:pQ}{x1l:Nat}{x1c:Nat}{R:vPq}{w:wQ}(h:wp258 x0 x1 x1l x1c R w):CallT Pg 258 #[.pointer (some x0),.slice x1 x1l x1c] w R:=cVq [(3,[],[0,1])] Tryz.func258 h
section
variable{w:wQ}{fb hb bb gb db rb kb ht:Nat}{p:pQ}{d:Dec}{F:Fl}{done out tail fin:bQ}{R Q:Nat}{s:Nat×Nat×bQ}{E:Er}{t:Option Bool}
def IsE(e:Value):Prop:=(∃T u,e= .iface T u)/\e.oneCell'=true
theorem IsE.nil{e:Value}(h:IsE e){K:Bool ->Prop}(hK:K false):xR e K:=by
 obtain⟨⟨T,u,rfl⟩,_⟩:=h;exact yA hK
theorem Errx.isE{e:Value}(h:Errx E t e):IsE e:=by
 obtain⟨b,_,he,_⟩:=h;exact⟨he.if,he.one⟩
theorem jR(a:Addr):IsE (xP a):=⟨⟨_,_,rfl⟩,rfl⟩
structure FlA (w:wQ) (fb hb bb gb db rb kb:Nat) (p:pQ) (d:Dec) (E:Er) (t:Option Bool) (F:Fl) (done out tail fin:bQ) (R Q:Nat) (s:Nat×Nat×bQ) (bl:List Blk):Prop where
 fs:Fs w fb hb bb gb db rb kb p d E t F done out tail R Q s
 idle:Idle F
 step:F.step=fN
 at_ :At out Q (xS Q bl)
 ok:rQ done bl
 out_ :vY done bl=fin
 ne:∀la,Blk.stored la []∈bl ->fin=[]
 last:∃bi b,bl=bi++[b]/\b.last=true/\∀x∈bi,x.last=false
 len:fin.length<32768
 fit:8*out.length<Q+(xS Q bl).length+8
structure FlB (w:wQ) (fb hb:Nat) (rest:bQ) (e:Value):Prop where
 row:∃arr F,hp w fb=Row 281 arr/\FAt arr F/\F.err=e/\F.toR.len=rest.length/\(rest≠[] ->∃o harr,F.toR.a=some ⟨hb,o,none⟩/\rest.length<=F.toR.cap/\hp w hb=Row 5 harr/\∀(j:Nat) (v:Value),(bv rest)[j]? =some v ->harr[o+j]? =some v)
 ord:fb<hb
 len:rest.length<32768
theorem FlB.fr{S:List Nat}{w':wQ}{rest:bQ}{e:Value}(h:FlB w fb hb rest e)(hf:Fr S w w')(h1:fb∉S)(h2:hb∉S):FlB w' fb hb rest e:=by
 obtain⟨arr,F,a1,a2,a3,a4,a5⟩:=h.row;refine⟨⟨arr,F,hf.row a1 h1,a2,a3,a4,fun hr=> ?_⟩,h.ord,h.len⟩;obtain⟨o,harr,b1,b2,b3,b4⟩:=a5 hr;exact⟨o,harr,b1,b2,hf.row b3 h2,b4⟩
def FEnd(w:wQ)(bb gb db rb kb:Nat)(p:pQ)(d:Dec)(E:Er)(t:Option Bool)(tail fin:bQ)(s:Nat×Nat×bQ)(rest:bQ)(e:Value):Prop:=
 (rest=fin/\e=xP E.ea/\Gives w bb gb db rb kb p d t tail s)\/(Errx E t e/\DW w db rb kb p d)
def nP(rest:bQ)(e:Value)(n:Nat)(v:Value):Prop:=v= .tuple #[.int .i64 (min rest.length n:Nat),if rest.length<=n then e else .nilIface]
theorem FlAt.toB{arr:vQ}{e:Value}{rd:Nat}{sl:Sl}(h:FlAt w fb hb bb F done)(hr:hp w fb=Row 281 arr)(hF:FAt arr F)(he:F.err=e)(h1:F.toR.len=done.length)(h2:done≠[] ->F.toR.a=some ⟨hb,0,none⟩/\done.length<=F.toR.cap):FlB w fb hb done e:=by
 obtain⟨harr,b1,b2,b3⟩:=h.hrow;refine⟨⟨arr,F,hr,hF,he,h1,fun hne=> ?_⟩,h.ord,h.len⟩;obtain⟨c1,c2⟩:=h2 hne;exact⟨0,harr,c1,c2,b1,fun j v hj=>by rw[Nat.zero_add];exact b3 j v hj⟩
theorem mK:∀{bl:List Blk} {h:bQ},h.length<=(vY h bl).length
 |[],h=>Nat.le_refl _
 | .stored l dd::r,h=>by
  have:=mK (bl:=r) (h:=h++dd);simp only[List.length_append]at this;show h.length<=(vY (h++dd) r).length;omega
 | .fixed l ts::r,h=>by
  have:=mK (bl:=r) (h:=vF h ts);have h2:=jV ts (h:=h);show h.length<=(vY (vF h ts) r).length;omega
theorem c258{Mid:World ->bQ ->Value ->Prop}{g o n cap:Nat}{T:TypeId}{arr:vQ}{bl:List Blk}
  (h:(FlA w fb hb bb gb db rb kb p d E t F done out tail fin R Q s bl/\(∀w1 rest e,Fr [rb,kb,db,bb,gb,fb,hb] w w1 ->hn w<=hn w1 ->FEnd w1 bb gb db rb kb p d E t tail fin s rest e ->Mid w1 rest e)/\g∉[rb,kb,db,bb,gb,fb,hb])\/(∃rest e,FlB w fb hb rest e/\IsE e/\Mid w rest e))
  (hg:hp w g=Row T arr)(hgf:g≠fb)(hgh:g≠hb)(ho:o+n<=arr.size)(hnb:n<1099511627776)(hnc:n<=cap):
  CallT Pg 258 #[.pointer (some ⟨fb,0,none⟩),.slice (some ⟨g,o,none⟩) n cap] w fun v w'=>∃w1 rest e,Mid w1 rest e/\IsE e/\hp w1 g=Row T arr/\Fr [fb,g] w1 w'/\hn w'=hn w1/\nP rest e n v/\FlB w' fb hb (rest.drop n) e/\∃arr',hp w' g=Row T arr'/\Put arr o (bv (rest.take n)) arr':=by
 apply call258;unfold wp258 aQq iQq;refine pN (fun m _ w2=>(∃F done R Q bl,m=bl.length+1/\FlA w2 fb hb bb gb db rb kb p d E t F done out tail fin R Q s bl/\Fr [rb,kb,db,bb,gb,fb,hb] w w2/\hn w<=hn w2/\hp w2 g=Row T arr/\(∀w1 rest e,Fr [rb,kb,db,bb,gb,fb,hb] w w1 ->hn w<=hn w1 ->FEnd w1 bb gb db rb kb p d E t tail fin s rest e ->Mid w1 rest e)/\g∉[rb,kb,db,bb,gb,fb,hb])\/
  (m=0/\∃rest e,FlB w2 fb hb rest e/\IsE e/\Mid w2 rest e/\hp w2 g=Row T arr)) ?_ ?_
 ·intro K hK
  rcases h with⟨h,h1,h2⟩|⟨rest,e,h1,h2,h3⟩
  ·exact hK _ _ _ (.inl ⟨_,_,_,_,_,rfl,h,Fr.refl _ _,Nat.le_refl _,hg,h1,h2⟩)
  ·exact hK _ _ _ (.inr ⟨rfl,rest,e,h1,h2,h3,hg⟩)
 ·rintro m ⟨⟩ w2 (⟨F,done,R,Q,bl,rfl,hA,F2,n2,hg2,hMid,hgS⟩|⟨rfl,rest,e,hB,he,hM,hg2⟩) K hK
  ·
   have hfs:=hA.fs;have hI:=hA.idle;have hord:=hfs.src.ords;have ho2:=hfs.ord;have ho3:=hfs.fl.ord;have hlo:=hfs.lo;obtain⟨arrf,a1,a2⟩:=hfs.fl.row;refine qK a1 a2.toR ?_;rw[hI.toR];refine qF (fun hc=>absurd hc dQ) (fun _ => ?_);refine qT a1 (a2.err.trans (congrArg some hI.err)) (qR (qM ?_));refine qT a1 (a2.step.trans (congrArg some hA.step)) ?_;obtain⟨blk,r,rfl⟩:∃blk r,bl=blk::r:=by
    obtain⟨bi,b,rfl,_⟩:=hA.last
    cases bi with
    |nil=>exact⟨b,[],rfl⟩
    |cons x y=>exact⟨x,y++[b],rfl⟩
   have hat:=hA.at_;simp only[xS]at hat;have hfit:=hA.fit;simp only[xS,List.length_append]at hfit;have hout:vY (uT done blk) r=fin:=hA.out_;have hle:(uT done blk).length<=fin.length:=by rw[<-hout];exact mK
   have hlen:=hA.len;have hdl:done.length<=fin.length:=by rw[<-hA.out_];exact mK
   show CallT Pg 143 #[.pointer (some ⟨fb,0,none⟩)] w2 _;refine CallT.mono (hfs.c143 hI hat.left hA.ok.1 oQ (fun la hb=>by
    have:=hA.ne la (by rw[hb];simp);rw[this]at hdl;exact List.eq_nil_of_length_eq_zero (by simpa using hdl))) ?_
   rintro _ w28 ⟨rfl,F28,n28,hv⟩;refine⟨rfl,?_⟩;have Fw:Fr [rb,kb,db,bb,gb,fb,hb] w w28:=F2.trans F28;have hg28:=F28.row hg2 hgS;rcases hv with⟨F',R',nb',fs',hnb',h7',hbe⟩|⟨F',done',q1,q2,q3,q4,q5,q6⟩
   ·obtain⟨ar',r',q'⟩:=fs'.fl.row
    obtain⟨be1,be2,be3,be4⟩:=hbe;obtain⟨bi,b,hbl,hbl2,hbl3⟩:=hA.last
    cases hlast:blk.last with
    |false=>
     obtain⟨c1,c2,c3⟩:=be4 hlast;refine qT r' (q'.err.trans (congrArg some (c1.trans hI.err))) (qR (qM (hK _ _ _ ?_ (.inl ⟨F',uT done blk,R',Q+(yT Q blk).length,r,rfl,⟨fs',⟨?_,be2.trans hI.ss,c2,c3,c1.trans hI.err⟩,be1,hat.right,hA.ok.2,hout,fun la hm=>hA.ne la (List.mem_cons_of_mem _ hm),?_,hlen,oQ⟩,Fw,oQ,hg28,hMid,hgS⟩))))
     ·simp
     ·obtain⟨b',n',k1,k2,_⟩:=fs'.bits
      exact⟨b',nb',k1,hnb',h7'⟩
     ·cases bi with
      |nil=>
       simp at hbl;obtain⟨rfl,rfl⟩:=hbl;rw[hlast]at hbl2;cases hbl2
      |cons x y=>
       simp at hbl;obtain⟨rfl,rfl⟩:=hbl;exact⟨y,b,rfl,hbl2,fun z hz=>hbl3 z (List.mem_cons_of_mem _ hz)⟩
    |true=>
     obtain⟨c1,c2,c3,c4⟩:=be3 hlast;have hr:r=[]:=by
      cases bi with
      |nil=>simp at hbl;exact hbl.2
      |cons x y=>
       simp at hbl;have:=hbl3 x sQ;rw[<-hbl.1,hlast]at this;cases this
     subst hr;have hfin:uT done blk=fin:=hout;simp only[xS,List.length_nil,Nat.add_zero]at hfit;have hR':R'=out.length:=by
      obtain⟨b',n',k1,k2,k3⟩:=fs'.bits;have:=k3.pos;have:=k3.le;omega
     have hsrc:=fs'.src;rw[hR',List.drop_length,List.nil_append]at hsrc;rw[hfin]at c2 c3 c4;have fl':=fs'.fl;rw[hfin]at fl';refine qT r' (q'.err.trans (congrArg some c1)) ((jR _).nil (xA (qK r' q'.toR ?_)));rw[c3];refine qW (fun hz=> ?_) (fun hz=>hK _ _ _ (Nat.succ_pos _) (.inr ⟨rfl,fin,_,fl'.toB (rd:=0) (sl:=⟨none,0,0⟩) r' q' c1 c3 (fun _ =>c4 oQ),jR _,hMid _ _ _ Fw oQ (.inl ⟨rfl,rfl,hsrc⟩),hg28⟩));have hf0:fin=[]:=List.eq_nil_of_length_eq_zero oQ;refine CallT.mono (fl'.c155 (rd:=fin.length) c2 (Nat.le_refl _)) ?_;rintro _ w35 ⟨rfl,fl35,f35,n35⟩;refine⟨_,_,_,rfl,?_⟩;obtain⟨ar35,r35,q35⟩:=fl35.row;refine dS (x:=⟨qQ (some ⟨hb,0,none⟩) 32768 fin.length 1,fin.length -fin.length,32768 -fin.length⟩) r35 q35 fun w39 arr39 h39 hF39 f39 n39=> ?_;have fl39:=fl35.upd f39 h39 hF39 rfl rfl rfl rfl;have F39:Fr [fb] w28 w39:=f35.trans f39;refine hK _ _ _ (Nat.succ_pos _) (.inr ⟨rfl,fin,_,fl39.toB (rd:=0) (sl:=⟨none,0,0⟩) h39 hF39 c1 (by show fin.length -fin.length=_;rw[hf0];rfl) (fun hc=>absurd hf0 hc),jR _,hMid _ _ _ (Fw.trans (F39.mono sQ)) oQ (.inl ⟨rfl,rfl,hsrc.fr F39 (by simp;omega)⟩),F39.row1 hg28 hgf⟩)
   ·obtain⟨ar',r',q'⟩:=q1.row
    refine qT r' q'.err (q2.nil (xA (qK r' q'.toR ?_)));rw[q5,hI.toR];refine qW (fun _ => ?_) (fun hz=>absurd rfl hz);refine CallT.mono (q1.c155 (rd:=0) (q3.trans hI.rd) oQ) ?_;rintro _ w35 ⟨rfl,fl35,f35,n35⟩;refine⟨_,_,_,rfl,?_⟩;obtain⟨ar35,r35,q35⟩:=fl35.row;refine dS (x:=⟨qQ (some ⟨hb,0,none⟩) 32768 0 1,done'.length -0,32768 -0⟩) r35 q35 fun w39 arr39 h39 hF39 f39 n39=> ?_;have fl39:=fl35.upd f39 h39 hF39 rfl rfl rfl rfl;have F39:Fr [fb] w28 w39:=f35.trans f39;have hl':=q1.len;refine hK _ _ _ (Nat.succ_pos _) (.inr ⟨rfl,done',F'.err,fl39.toB (rd:=0) (sl:=⟨none,0,0⟩) h39 hF39 rfl (by show done'.length -0=_;omega) (fun _ =>⟨by show qQ (some ⟨hb,0,none⟩) 32768 0 1=some ⟨hb,0,none⟩;exact vX _ _ _,by show done'.length<=32768 -0;omega⟩),q2.isE,hMid _ _ _ (Fw.trans (F39.mono sQ)) oQ (.inr ⟨q2,q6.fr F39 (by simp;omega)⟩),F39.row1 hg28 hgf⟩)
  ·
   obtain⟨ar,Fl2,r,q,hee,hlen,hrest⟩:=hB.row;have hord:=hB.ord;refine qK r q.toR ?_;rw[hlen];refine qF (fun hc=> ?_) (fun hc=> ?_)
   ·have hne:rest≠[]:=fun h0=>by rw[h0]at hc;simp at hc
    obtain⟨o2,harr,b1,b2,b3,b4⟩:=hrest hne;refine qK r q.toR ?_;rw[hlen,b1];have hrl:rest.length<4611686018427387904:=by have:=hB.len;omega
    refine uG hg2 ho (q:=some ⟨hb,o2,none⟩) (xs:=rest) ⟨rfl,5,harr,b3,b4⟩ rfl hrl ?_;intro w12 arr12 hg12 hs12 hj12 f12 n12;have r12:=f12.row1 r (fun e=>hgf e.symm);refine qK r12 q.toR ?_;rw[hlen,b1];refine⟨⟨oQ,oQ⟩,?_⟩;rw[Int.toNat_natCast];refine dS (x:=⟨qQ (some ⟨hb,o2,none⟩) Fl2.toR.cap (min rest.length n) 1,rest.length -min rest.length n,Fl2.toR.cap -min rest.length n⟩) r12 q fun w16 arr16 h16 hF16 f16 n16=> ?_;have hput:Put arr o (bv (rest.take n)) arr12:=by
     refine⟨hs12,fun j=> ?_⟩;rw[hj12 j];have e2:(bv (rest.take n)).length=min rest.length n:=by simp[Nat.min_comm]
     rw[e2]
     split
     ·rename_i hj
      simp only[bv,List.map_take,List.getElem?_take];rw[if_pos oQ]
     ·rfl
    have hB16:FlB w16 fb hb (rest.drop n) e:=by
     refine⟨⟨arr16,_,h16,hF16,hee,by show rest.length -min rest.length n=_;simp;omega,fun hr=> ?_⟩,hord,by have:=hB.len;simp;omega⟩;have hnl:n<rest.length:=by
      rcases Nat.lt_or_ge n rest.length with h1|h1
      ·exact h1
      ·exact absurd (List.drop_eq_nil_of_le h1) hr
     refine⟨o2+n,harr,?_,?_,f16.row1 (f12.row1 b3 (fun e=>hgh e.symm)) (by show hb≠fb;omega),fun j v hj=> ?_⟩
     ·show qQ (some ⟨hb,o2,none⟩) Fl2.toR.cap (min rest.length n) 1=_
      rw[Nat.min_eq_right oQ,slAdd_one _ _ _ _ oQ]
     ·show _ <=Fl2.toR.cap -min rest.length n
      rw[Nat.min_eq_right oQ,List.length_drop];omega
     ·have:=b4 (n+j) v (by simpa [bv,List.map_drop,List.getElem?_drop]using hj)
      rw[show o2+n+j=o2+(n+j) by omega];exact this
    have post:∀v,nP rest e n v ->∀w',Fr [] w16 w' ->hn w'=hn w16 ->∃w1 rest e,Mid w1 rest e/\IsE e/\hp w1 g=Row T arr/\Fr [fb,g] w1 w'/\hn w'=hn w1/\nP rest e n v/\FlB w' fb hb (rest.drop n) e/\∃arr',hp w' g=Row T arr'/\Put arr o (bv (rest.take n)) arr':=
     fun v hv w' f' n'=>⟨w2,rest,e,hM,he,hg2,(f12.mono sQ).trans ((f16.mono sQ).trans (f'.mono sQ)),oQ,hv,hB16.fr f' sQ sQ,arr12,f'.row0 (f16.row1 hg12 hgf),hput⟩
    refine qK h16 hF16.toR (qW (fun hz=> ?_) (fun hz=>post _ ?_ _ (Fr.refl _ _) rfl))
    ·refine qE fun w20 f20 n20=>qT (f20.row0 h16) hF16.err (post _ ?_ _ f20 n20)
     have hz':rest.length -min rest.length n=0:=by
      have:((rest.length -min rest.length n:Nat):Int)=0:=hz;omega
     show _ =_;rw[if_pos oQ];show Value.tuple #[_,Fl2.err]=_;rw[hee]
    ·have hz':¬rest.length -min rest.length n=0:=by
      intro h0;apply hz;show((rest.length -min rest.length n:Nat):Int)=0;omega
     show _ =_;rw[if_neg oQ]
   ·have hr0:rest=[]:=List.eq_nil_of_length_eq_zero oQ
    subst hr0;refine qT r (q.err.trans (congrArg some hee)) (he.nil (xA ?_));refine qE fun w24 f24 n24=>qT (f24.row0 r) (q.err.trans (congrArg some hee)) ?_;refine⟨w2,[],e,hM,he,hg2,f24.mono sQ,n24,?_,by simpa using hB.fr f24 sQ sQ,arr,f24.row0 hg2,by simpa using Put.nil _ _⟩;show _ =_;rw[if_pos sQ];simp
end
def wp141(x0:Int)(x1:pQ)(x1l:Nat)(x1c:Nat)(R:vPq)(w:wQ):Prop:=ShC 16 (xB (fun(o:(Sl×Int×Int×Unit) ->World ->Prop)=>o ((⟨x1,x1l,x1c⟩:Sl),zF .u32 x0 65535,qY .u32 x0 16,()) w) (fun c i p=>IfC (decide ((c.1.len:Int)>(0:Int))) (xH (fun(e:(Sl×Sl×Unit)) (q:wQ)=>xB (fun(r:(Sl×Int×Int×Unit) ->World ->Prop)=>r ((⟨e.1.a,e.1.len,e.1.cap⟩:Sl),c.2.1,c.2.2.1,()) q) (fun b f s=>IfC (decide ((b.1.len:Int)>=(4:Int))) (And (0<=(0:Int)/\(0:Int)<(b.1.len:Int)) (qN b.1.a fun t=>LdI f t .u8 fun g=>And (0<=(1:Int)/\(1:Int)<(b.1.len:Int)) (qN b.1.a fun u=>LdI f (aQq u 1) .u8 fun h=>And (0<=(2:Int)/\(2:Int)<(b.1.len:Int)) (qN b.1.a fun v=>LdI f (aQq v 2) .u8 fun j=>And (0<=(3:Int)/\(3:Int)<(b.1.len:Int)) (qN b.1.a fun y=>LdI f (aQq y 3) .u8 fun l=>And (0<=(4:Int)/\(4:Int)<=(b.1.len:Int)) (s ((⟨qQ b.1.a b.1.cap 4 1,b.1.len -4,b.1.cap -4⟩:Sl),wrap .u32 ((wrap .u32 ((wrap .u32 ((wrap .u32 (b.2.1+(wrap .u32 g)))+(wrap .u32 h)))+(wrap .u32 j)))+(wrap .u32 l)),wrap .u32 ((wrap .u32 ((wrap .u32 ((wrap .u32 (b.2.2.1+(wrap .u32 (b.2.1+(wrap .u32 g)))))+(wrap .u32 ((wrap .u32 (b.2.1+(wrap .u32 g)))+(wrap .u32 h)))))+(wrap .u32 ((wrap .u32 ((wrap .u32 (b.2.1+(wrap .u32 g)))+(wrap .u32 h)))+(wrap .u32 j)))))+(wrap .u32 ((wrap .u32 ((wrap .u32 ((wrap .u32 (b.2.1+(wrap .u32 g)))+(wrap .u32 h)))+(wrap .u32 j)))+(wrap .u32 l)))),()) f)))))) (xB (fun(z:(Int×Int×Int×Unit) ->World ->Prop)=>z (b.2.1,b.2.2.1,(0:Int),()) f) (fun d k A=>IfC (decide (d.2.2.1<(b.1.len:Int))) (And (0<=d.2.2.1/\d.2.2.1<(b.1.len:Int)) (qN b.1.a fun B=>LdI k (qH B d.2.2.1.toNat 1) .u8 fun m=>A (wrap .u32 (d.1+(wrap .u32 m)),wrap .u32 (d.2.1+(wrap .u32 (d.1+(wrap .u32 m)))),wIq (d.2.2.1+1),()) k)) (zQ 65521 (zQ 65521 (p ((⟨e.2.1.a,e.2.1.len,e.2.1.cap⟩:Sl),Int.tmod d.1 (65521:Int),Int.tmod d.2.1 (65521:Int),()) k))))))) (fun n=>IfC (decide ((c.1.len:Int)>(5552:Int))) (qO i fun C=>And (0<=(5552:Int)/\(5552:Int)<=(c.1.cap:Int)) (And (0<=(5552:Int)/\(5552:Int)<=(c.1.len:Int)) (n ((⟨c.1.a,5552,c.1.cap⟩:Sl),(⟨qQ c.1.a c.1.cap 5552 1,c.1.len -5552,c.1.cap -5552⟩:Sl),()) C))) (n ((⟨c.1.a,c.1.len,c.1.cap⟩:Sl),(⟨none,0,0⟩:Sl),()) i))) (ShC 16 (R (.int .u32 (bOr .u32 (xJ .u32 c.2.2.1 16) c.2.1)) i))))
theorem call141{x0:Int}{x1:pQ}{x1l:Nat}{x1c:Nat}{R:vPq}{w:wQ}(h:wp141 x0 x1 x1l x1c R w):CallT Pg 141 #[.int .u32 x0,.slice x1 x1l x1c] w R:=cVq [(6,[(1,.sl),(5,.i .u32),(6,.i .u32)],[4]),(16,[(1,.sl),(7,.sl)],[5,6]),(24,[(1,.sl),(5,.i .u32),(6,.i .u32)],[4,7]),(53,[(5,.i .u32),(6,.i .u32),(67,.i .i64)],[1,4,7,65,66])] Tryz.func141 h
def wp264(x0:Addr)(x1:pQ)(x1l:Nat)(x1c:Nat)(R:vPq)(w:wQ):Prop:=LdI w x0 .u32 fun b=>CallT Pg 141 #[.int .u32 b,.slice x1 x1l x1c] w fun c d=>∃a,And (c= .int .u32 a) (qB d x0 (.int .u32 a) fun e=>R (.tuple #[iQq (x1l:Int),.nilIface]:Value) e)
theorem call264{x0:Addr}{x1:pQ}{x1l:Nat}{x1c:Nat}{R:vPq}{w:wQ}(h:wp264 x0 x1 x1l x1c R w):CallT Pg 264 #[.pointer (some x0),.slice x1 x1l x1c] w R:=cVq [] Tryz.func264 h
def wp263(x0:Addr)(R:vPq)(w:wQ):Prop:=LdI w x0 .u32 fun a=>R (.int .u32 a) w
theorem call263{x0:Addr}{R:vPq}{w:wQ}(h:wp263 x0 R w):CallT Pg 263 #[.pointer (some x0)] w R:=cVq [] Tryz.func263 h
def wp137(R:vPq)(w:wQ):Prop:=qL w (.cells (zc Pg 268) 268) fun a b=>CallT Pg 145 #[.pointer (some ⟨a,0,none⟩)] b fun c d=>And (c= .tuple #[]) (R (.iface 287 (.pointer (some ⟨a,0,none⟩))) d)
theorem call137{R:vPq}{w:wQ}(h:wp137 R w):CallT Pg 137 #[] w R:=cVq [] Tryz.func137 h
def wp145(x0:Addr)(R:vPq)(w:wQ):Prop:=qB w x0 (.int .u32 1) fun a=>R (.tuple #[]) a
theorem call145{x0:Addr}{R:vPq}{w:wQ}(h:wp145 x0 R w):CallT Pg 145 #[.pointer (some x0)] w R:=cVq [] Tryz.func145 h
def wp132(x1:pQ)(x1l:Nat)(x1c:Nat)(R:vPq)(w:wQ):Prop:=qL w (.cells #[] 260) fun h b=>And (0<=(1:Int)/\(1:Int)<(x1l:Int)) (qN x1 fun c=>LdI b (aQq c 1) .u8 fun i=>qO b fun a=>And (0<=(1:Int)/\(1:Int)<(x1l:Int)) (qN x1 fun d=>LdI a (aQq d 1) .u8 fun e=>And (0<=(0:Int)/\(0:Int)<(x1l:Int)) (qN x1 fun f=>LdI a f .u8 fun g=>ShC 8 (R (.int .u16 (bOr .u16 (wrap .u16 e) (xJ .u16 (wrap .u16 g) 8))) a))))
theorem call132{x1:pQ}{x1l:Nat}{x1c:Nat}{R:vPq}{w:wQ}(h:wp132 x1 x1l x1c R w):CallT Pg 132 #[.agg #[],.slice x1 x1l x1c] w R:=cVq [] Tryz.func132 h
def wp133(x1:pQ)(x1l:Nat)(x1c:Nat)(R:vPq)(w:wQ):Prop:=qL w (.cells #[] 260) fun l b=>And (0<=(3:Int)/\(3:Int)<(x1l:Int)) (qN x1 fun c=>LdI b (aQq c 3) .u8 fun m=>qO b fun a=>And (0<=(3:Int)/\(3:Int)<(x1l:Int)) (qN x1 fun d=>LdI a (aQq d 3) .u8 fun e=>And (0<=(2:Int)/\(2:Int)<(x1l:Int)) (qN x1 fun f=>LdI a (aQq f 2) .u8 fun g=>ShC 8 (And (0<=(1:Int)/\(1:Int)<(x1l:Int)) (qN x1 fun h=>LdI a (aQq h 1) .u8 fun i=>ShC 16 (And (0<=(0:Int)/\(0:Int)<(x1l:Int)) (qN x1 fun j=>LdI a j .u8 fun k=>ShC 24 (R (.int .u32 (bOr .u32 (bOr .u32 (bOr .u32 (wrap .u32 e) (xJ .u32 (wrap .u32 g) 8)) (xJ .u32 (wrap .u32 i) 16)) (xJ .u32 (wrap .u32 k) 24))) a))))))))
theorem call133{x1:pQ}{x1l:Nat}{x1c:Nat}{R:vPq}{w:wQ}(h:wp133 x1 x1l x1c R w):CallT Pg 133 #[.agg #[],.slice x1 x1l x1c] w R:=cVq [] Tryz.func133 h
section
variable{w:wQ}
def aR(s:Nat×Nat)(xs:bQ):Nat×Nat:=xs.foldl (fun s v=>(s.1+v.toNat,s.2+(s.1+v.toNat))) s
theorem aR_app(s:Nat×Nat)(xs ys:bQ):aR s (xs++ys)=aR (aR s xs) ys:=by simp[aR]
theorem aR_one(s:Nat×Nat)(v:UInt8):aR s [v]=(s.1+v.toNat,s.2+(s.1+v.toNat)):=rfl
theorem aR_mod(xs:bQ):∀s:Nat×Nat,yB (s.1%65521,s.2%65521) xs=((aR s xs).1%65521,(aR s xs).2%65521):=by
 induction xs with
 |nil=>intro s;rfl
 |cons v r ih=>
  intro s;have:=ih (s.1+v.toNat,s.2+(s.1+v.toNat));show yB _ r=((aR (s.1+v.toNat,s.2+(s.1+v.toNat)) r).1%65521,_);show yB _ r=(_,(aR (s.1+v.toNat,s.2+(s.1+v.toNat)) r).2%65521);rw[<-this]
  congr 1
  show((s.1%65521+v.toNat)%65521,(s.2%65521+(s.1%65521+v.toNat)%65521)%65521)=((s.1+v.toNat)%65521,(s.2+(s.1+v.toNat))%65521)
  congr 1<;>omega
theorem aR_le(xs:bQ):∀s:Nat×Nat,(aR s xs).1<=s.1+255*xs.length/\(aR s xs).2<=s.2+xs.length*(s.1+255*xs.length):=by
 induction xs with
 |nil=>intro s;simp[aR]
 |cons v r ih=>
  intro s;have hv:=UInt8.toNat_lt v;obtain⟨h1,h2⟩:=ih (s.1+v.toNat,s.2+(s.1+v.toNat));show(aR (s.1+v.toNat,s.2+(s.1+v.toNat)) r).1<=_ /\(aR (s.1+v.toNat,s.2+(s.1+v.toNat)) r).2<=_;dsimp only at h1 h2;rw[List.length_cons];have e:s.1+v.toNat+255*r.length<=s.1+255*(r.length+1):=oQ;have h3:r.length*(s.1+v.toNat+255*r.length)<=r.length*(s.1+255*(r.length+1)):=Nat.mul_le_mul_left _ e;refine⟨oQ,?_⟩;rw[Nat.add_mul r.length 1,Nat.one_mul];omega
theorem aR_lt{s:Nat×Nat}{xs:bQ}(h1:s.1<65521)(h2:s.2<65521)(hl:xs.length<=1000):(aR s xs).1<4294967296/\(aR s xs).2<4294967296:=by
 obtain⟨a,b⟩:=aR_le xs s;have h3:xs.length*(s.1+255*xs.length)<=1000*(s.1+255*xs.length):=Nat.mul_le_mul_right _ hl;omega
theorem qCv{xs:bQ}{i:Nat}(h:i<xs.length):xs.take (i+1)=xs.take i++[xs[i]]:=by rw[List.take_succ_eq_append_getElem h]
theorem gb_at{xs:bQ}{i:Nat}(h:i<xs.length):gb xs i=(xs[i]).toNat:=bH (List.getElem?_eq_getElem h)
theorem mI{s:Nat×Nat}{xs:bQ}{i:Nat}(h:i<xs.length):aR s (xs.take (i+1))=((aR s (xs.take i)).1+gb xs i,(aR s (xs.take i)).2+((aR s (xs.take i)).1+gb xs i)):=by
 rw[qCv h,aR_app,aR_one,gb_at h]
theorem qAg{a b:Nat}(ha:a<65521)(hb:b<65521):bOr .u32 (xJ .u32 ((b:Nat):Int) 16) ((a:Nat):Int)=((b*65536+a:Nat):Int):=by
 rw[gB dQ dQ,show(16:Int).toNat=16 from rfl,show(2:Int)^16=65536 from rfl,xV oQ oQ,sE oQ oQ oQ oQ oQ];omega
theorem wadd{x y z:Nat}(h:z=x+y)(hz:z<4294967296):wrap .u32 ((x:Int)+(y:Int))=(z:Int):=by rw[xV oQ oQ];omega
theorem pJ{x y z:Nat}(h:z=x+y)(hz:z<4294967296):wrap .u32 ((x:Int)+wrap .u32 (y:Int))=(z:Int):=by rw[xV (n:=(y:Int)) oQ oQ,wadd h hz]
theorem c141{p:pQ}{l c:Nat}{xs:bQ}{a b:Nat}(hx:Has w p (bv xs))(hl:l=xs.length)(hlc:l<=c)(ha:a<65521)(hb:b<65521)(h5:l<=1000):
  CallT Pg 141 #[.int .u32 ((b*65536+a:Nat):Int),.slice p l c] w fun v w'=>v= .int .u32 (((yB (a,b) xs).2*65536+(yB (a,b) xs).1:Nat):Int)/\w'=w:=by
 subst hl;apply call141;unfold wp141 aQq wIq;have hmod:=aR_mod xs (a,b);rw[show a%65521=a by omega,show b%65521=b by omega]at hmod;have hlt':∀i,(aR (a,b) (xs.take i)).1<4294967296/\(aR (a,b) (xs.take i)).2<4294967296:=fun i=>aR_lt ha hb (by simp;omega);have hfl:=sL (xs:=xs) (s:=(a,b)) ha hb;have ea:zF .u32 ((b*65536+a:Nat):Int) 65535=((a:Nat):Int):=by
  rw[show(65535:Int)=((2^16 -1:Nat):Int)from rfl,rP oQ dQ]
  congr 1;omega
 have eb:qY .u32 ((b*65536+a:Nat):Int) 16=((b:Nat):Int):=by
  rw[uB oQ dQ dQ,Int.toNat_natCast]
  congr 1
  show(b*65536+a)/65536=b;omega
 refine qU dQ ?_;rw[ea,eb];refine qP (fun z w'=>w'=w/\((z=(⟨p,xs.length,c⟩,((a:Nat):Int),((b:Nat):Int),()))\/(z.1.len=0/\z.2.1=(((yB (a,b) xs).1:Nat):Int)/\z.2.2.1=(((yB (a,b) xs).2:Nat):Int)))) (fun z _ =>z.1.len) ⟨rfl,.inl rfl⟩ ?_;rintro z w ⟨rfl,rfl|⟨hz1,hz2,hz3⟩⟩
 ·dsimp only
  refine qF (fun hpos=> ?_) (fun h0=> ?_)
  ·refine qJ (fun z w'=>z=(⟨p,xs.length,c⟩,⟨none,0,0⟩,())/\w'=w) ?_ ?_
   ·rintro z w ⟨rfl,rfl⟩
    dsimp only;refine qP (fun z w'=>w'=w/\∃(i:Nat),i<=xs.length/\Has w z.1.a (bv (xs.drop i))/\z.1.len=xs.length -i/\z.1.len<=z.1.cap/\z.2.1=(((aR (a,b) (xs.take i)).1:Nat):Int)/\z.2.2.1=(((aR (a,b) (xs.take i)).2:Nat):Int)) (fun z _ =>z.1.len) ⟨rfl,0,oQ,hx,rfl,hlc,rfl,rfl⟩ ?_;rintro⟨⟨q,ql,qc⟩,s1,s2,⟨⟩⟩ w ⟨rfl,i,hi,hq,hql,hqc,hs1,hs2⟩;dsimp only at hq hql hqc hs1 hs2⊢;subst hs1 hs2 hql;refine qF (fun h4=> ?_) (fun h4=> ?_)
    ·have b0:=hlt' i;have b1:=hlt' (i+1);have b2:=hlt' (i+1+1);have b3:=hlt' (i+1+1+1);have b4:=hlt' (i+1+1+1+1)
     have t1:=mI (s:=(a,b)) (xs:=xs) (i:=i) oQ;have t2:=mI (s:=(a,b)) (xs:=xs) (i:=i+1) oQ;have t3:=mI (s:=(a,b)) (xs:=xs) (i:=i+1+1) oQ;have t4:=mI (s:=(a,b)) (xs:=xs) (i:=i+1+1+1) oQ;have g0:=yC xs i;have g1:=yC xs (i+1);have g2:=yC xs (i+1+1);have g3:=yC xs (i+1+1+1);have hgd:∀j,i+j<xs.length ->(bv (xs.drop i))[j]? =some (.int .u8 (gb xs (i+j))):=by
      intro j hj;rw[kZ (by simp;omega)];simp[gb,List.getD,List.getElem?_drop]
     obtain⟨qb,qo,rfl,q0⟩:=hq.some (hgd 0 oQ);have qv:∀j,i+j<xs.length ->∀(k:Nat),k=qo+j ->∀K:Int ->Prop,K (gb xs (i+j)) ->LdI w ⟨qb,k,none⟩ .u8 K:=by
      intro j hj k hk K hK;subst hk;obtain⟨_,_,hh,h2⟩:=hq.some (hgd j hj);simp only[Option.some.injEq,Addr.mk.injEq,and_true]at hh;obtain⟨rfl,rfl⟩:=hh;rw[yZ,h2,RdI_some];exact hK
     have t1a:=congrArg Prod.fst t1;have t1b:=congrArg Prod.snd t1;have t2a:=congrArg Prod.fst t2;have t2b:=congrArg Prod.snd t2;have t3a:=congrArg Prod.fst t3;have t3b:=congrArg Prod.snd t3;have t4a:=congrArg Prod.fst t4;have t4b:=congrArg Prod.snd t4;dsimp only at t1a t1b t2a t2b t3a t3b t4a t4b;rw[<-t1a]at t1b;rw[<-t2a]at t2b;rw[<-t3a]at t3b;rw[<-t4a]at t4b;refine⟨⟨dQ,oQ⟩,?_⟩;rw[PtrC_some];refine qv 0 oQ _ rfl _ ⟨⟨dQ,oQ⟩,?_⟩;rw[PtrC_some];refine qv 1 oQ _ rfl _ ⟨⟨dQ,oQ⟩,?_⟩;rw[PtrC_some];refine qv 2 oQ _ rfl _ ⟨⟨dQ,oQ⟩,?_⟩;rw[PtrC_some];refine qv 3 oQ _ rfl _ ⟨⟨dQ,oQ⟩,?_⟩;have e1:=pJ t1a b1.1;have e2:=pJ t2a b2.1;have e3:=pJ t3a b3.1;have e4:=pJ t4a b4.1;have f1:=wadd t1b b1.2;have f2:=wadd t2b b2.2;have f3:=wadd t3b b3.2;have f4:=wadd t4b b4.2;rw[show i+3=i+1+1+1 from rfl,show i+2=i+1+1 from rfl,Nat.add_zero,e1,e2,e3,e4,f1,f2,f3,f4];refine⟨⟨rfl,i+1+1+1+1,oQ,?_,oQ,oQ,rfl,rfl⟩,oQ⟩;have:=Has.adv (n:=4) hq (cap:=qc) (by simp;omega) (by simp;omega);rw[List.drop_drop]at this;exact this
    ·refine qP (fun z w'=>w'=w/\∃(k:Nat),i+k<=xs.length/\z=((((aR (a,b) (xs.take (i+k))).1:Nat):Int),(((aR (a,b) (xs.take (i+k))).2:Nat):Int),((k:Nat):Int),())) (fun z _ =>xs.length -z.2.2.1.toNat) ⟨rfl,0,oQ,rfl⟩ ?_
     rintro z w ⟨rfl,k,hk,rfl⟩;dsimp only;refine qF (fun hlt=> ?_) (fun hge=> ?_)
     ·have t1:=mI (s:=(a,b)) (xs:=xs) (i:=i+k) oQ
      have b1:=hlt' (i+k+1);have t1a:=congrArg Prod.fst t1;have t1b:=congrArg Prod.snd t1;dsimp only at t1a t1b;rw[<-t1a]at t1b;have e1:=pJ t1a b1.1;have f1:=wadd t1b b1.2;refine IdxI hq oQ oQ (n:=(gb xs (i+k):Nat)) ?_ ?_
      ·rw[Int.toNat_natCast,kZ (by simp;omega)]
       simp[gb,List.getD,List.getElem?_drop]
      ·rw[e1,f1]
       have e:wrap .i64 ((k:Int)+1)=((k+1:Nat):Int):=by rw[qA oQ oQ];omega
       rw[e];exact⟨⟨rfl,k+1,oQ,rfl⟩,oQ⟩
     ·have hik:i+k=xs.length:=oQ
      rw[hik,List.take_length];refine xK dQ (xK dQ ⟨⟨rfl,.inr ⟨rfl,?_,?_⟩⟩,oQ⟩)
      ·rw[hmod]
       exact zG _ 65521
      ·rw[hmod]
       exact zG _ 65521
   ·intro J hJ
    exact qF (fun hc=>absurd hc oQ) (fun _ =>hJ _ _ ⟨rfl,rfl⟩)
  ·have hx0:xs=[]:=List.eq_nil_of_length_eq_zero oQ
   subst hx0;refine qU dQ ⟨?_,rfl⟩;have:=qAg ha hb;exact congrArg (Value.int .u32) this
 ·refine qF (fun hc=>absurd hc oQ) (fun _ =>qU dQ ⟨?_,rfl⟩)
  rw[hz2,hz3];exact congrArg (Value.int .u32) (qAg hfl.1 hfl.2)
def AdAt(w:wQ)(ab:Nat)(xs:bQ):Prop:=hp w ab=Row 268 #[.int .u32 (adlerL xs:Nat)]
theorem AdAt.fr{S:List Nat}{w':wQ}{ab:Nat}{xs:bQ}(h:AdAt w ab xs)(hf:Fr S w w')(hS:ab∉S):AdAt w' ab xs:=hf.row h hS
theorem pP(s:Nat×Nat)(xs ys:bQ):yB s (xs++ys)=yB (yB s xs) ys:=by simp[yB]
theorem c264{ab:Nat}{p:pQ}{l c:Nat}{xs ys:bQ}(h:AdAt w ab xs)(hx:Has w p (bv ys))(hl:l=ys.length)(hlc:l<=c)(h5:l<=1000):
  CallT Pg 264 #[.pointer (some ⟨ab,0,none⟩),.slice p l c] w fun v w'=>v= .tuple #[.int .i64 l,.nilIface]/\AdAt w' ab (xs++ys)/\Fr [ab] w w'/\hn w'=hn w:=by
 have hlt:=sL (xs:=xs) (s:=(1,0)) dQ dQ;apply call264;unfold wp264 iQq;refine qC h rfl ?_;refine CallT.mono (c141 (a:=(yB (1,0) xs).1) (b:=(yB (1,0) xs).2) hx hl hlc hlt.1 hlt.2 h5) ?_;rintro _ w3 ⟨rfl,rfl⟩;refine⟨_,rfl,qD h sQ fun w5 h5 f5 n5=>⟨rfl,?_,f5,n5⟩⟩;unfold AdAt adlerL;rw[h5,pP];simp
theorem c263{ab:Nat}{xs:bQ}(h:AdAt w ab xs):CallT Pg 263 #[.pointer (some ⟨ab,0,none⟩)] w fun v w'=>v= .int .u32 (adlerL xs:Nat)/\w'=w:=by
 apply call263;unfold wp263;exact qC h rfl ⟨rfl,rfl⟩
theorem zc268:zc Pg 268= #[.int .u32 0]:=by kernel_rfl
theorem c137:CallT Pg 137 #[] w fun v w'=>v= .iface 287 (.pointer (some ⟨hn w,0,none⟩))/\AdAt w' (hn w) []/\Fr [] w w'/\hn w'=hn w+1:=by
 apply call137;unfold wp137;rw[zc268];refine qG fun w2 h2 f2 n2=> ?_;refine CallT.mono (R:=fun v w'=>v= .tuple #[]/\AdAt w' (hn w) []/\Fr [hn w] w2 w'/\hn w'=hn w2) ?_ ?_
 ·apply call145
  unfold wp145;exact qD h2 sQ fun w1 h1 f1 n1=>⟨rfl,by unfold AdAt;rw[h1];rfl,f1,n1⟩
 ·rintro _ w4 ⟨rfl,h4,f4,n4⟩
  exact⟨rfl,rfl,h4,f2.trans' f4 (fun x hx hlt=>by simp at hx;omega),oQ⟩
theorem c132{b o l c:Nat}{xs:bQ}(hx:Has w (some ⟨b,o,none⟩) (bv xs))(hl:2<=xs.length)(hl':2<=l):CallT Pg 132 #[.agg #[],.slice (some ⟨b,o,none⟩) l c] w fun v w'=>v= .int .u16 (gb xs 0*256+gb xs 1:Nat)/\Fr [] w w'/\hn w<=hn w':=by
 apply call132;unfold wp132 aQq;refine qG fun w2 h2 f2 n2=> ?_;obtain⟨_,T,arr,h,hj⟩:=hx.fr0 f2;have hv:∀j,j<2 ->arr[o+j]? =some (.int .u8 (gb xs j)):=fun j hj4=>hj j _ (kZ oQ);refine⟨⟨oQ,oQ⟩,qC h (hv 1 oQ) ?_⟩;refine qE fun w5 f5 n5=> ?_;have h:=f5.row0 h;refine⟨⟨oQ,oQ⟩,qC h (hv 1 oQ) ⟨⟨oQ,oQ⟩,qC h (hv 0 oQ) ?_⟩⟩;refine qU dQ ⟨?_,f2.trans f5,oQ⟩;have ha:=yC xs 0;have hb:=yC xs 1;refine congrArg (Value.int .u16) ?_;rw[vL (n:=(gb xs 1:Nat)) oQ oQ,vL (n:=(gb xs 0:Nat)) oQ oQ,qBm dQ dQ,show(8:Int).toNat=8 from rfl,show(2:Int)^8=256 from rfl,vL oQ oQ,qFi oQ oQ oQ oQ];rw[show(((gb xs 0:Nat):Int)*256).toNat=gb xs 0*256 by omega,Int.toNat_natCast,Nat.or_comm,yX (j:=8) oQ oQ]
theorem c133{b o l c:Nat}{xs:bQ}(hx:Has w (some ⟨b,o,none⟩) (bv xs))(hl:4<=xs.length)(hl':4<=l):CallT Pg 133 #[.agg #[],.slice (some ⟨b,o,none⟩) l c] w fun v w'=>v= .int .u32 (be4 xs 0)/\Fr [] w w'/\hn w<=hn w':=by
 apply call133;unfold wp133 aQq;refine qG fun w2 h2 f2 n2=> ?_;obtain⟨_,T,arr,h,hj⟩:=hx.fr0 f2;have hv:∀j,j<4 ->arr[o+j]? =some (.int .u8 (gb xs j)):=fun j hj4=>hj j _ (kZ oQ);refine⟨⟨oQ,oQ⟩,qC h (hv 3 oQ) ?_⟩;refine qE fun w1 f1 n1=> ?_;have h:=f1.row0 h;refine⟨⟨oQ,oQ⟩,qC h (hv 3 oQ) ⟨⟨oQ,oQ⟩,qC h (hv 2 oQ) ?_⟩⟩;refine qU dQ ⟨⟨oQ,oQ⟩,qC h (hv 1 oQ) ?_⟩;refine qU dQ ⟨⟨oQ,oQ⟩,qC h (hv 0 oQ) ?_⟩;refine qU dQ ⟨?_,f2.trans f1,oQ⟩;have ha:=yC xs 0;have hb:=yC xs 1;have hc:=yC xs 2;have hd:=yC xs 3;simp only[be4,Nat.zero_add];generalize gb xs 0=a,gb xs 1=b,gb xs 2=c,gb xs 3=d at*;have oc:∀{a b:Int},0<=a ->a<4294967296 ->0<=b ->b<4294967296 ->bOr .u32 a b=bOr .u32 b a:=fun ha ha' hb hb'=>by rw[bS ha ha' hb hb',bS hb hb' ha ha',Nat.or_comm]
 simp (disch:=omega) only[xV,gB,Int.reduceToNat,Int.reducePow];rw[oc (a:=(d:Int)) oQ oQ oQ oQ,iS (a:=(c:Int)*256) (b:=(d:Int)) oQ oQ oQ oQ oQ,oc (b:=(b:Int)*65536) oQ oQ oQ oQ,sE (a:=(b:Int)*65536) oQ oQ oQ oQ oQ,oc (b:=(a:Int)*16777216) oQ oQ oQ oQ,bR (a:=(a:Int)*16777216) oQ oQ oQ oQ oQ];refine congrArg (Value.int .u32) ?_;omega
end
def wp131(x0:Value)(R:vPq)(w:wQ):Prop:=CallT Pg 140 #[x0,iQq 4096] w fun b c=>∃a,And (b= .pointer a) (R (.pointer a) c)
theorem call131{x0:Value}{R:vPq}{w:wQ}(h:wp131 x0 R w):CallT Pg 131 #[x0] w R:=cVq [] Tryz.func131 h
def wp140(x0:Value)(x1:Int)(R:vPq)(w:wQ):Prop:=TA Pg w x0 109 257 true fun d e=>∃a,And (d= .pointer a) (IfC e (qN a fun f=>qS w f fun r g s=>IfC (decide ((g:Int)>=x1)) (R (.pointer a) w) (qL w (.cells (zc Pg 293) 293) fun b h=>And (0<=vJ x1 (16:Int)/\vJ x1 (16:Int)<=vJ x1 (16:Int)/\vJ x1 (16:Int)<=281474976710656/\(1:Int)*(vJ x1 (16:Int))<=281474976710656) (qL h (.cells (uI Pg 5 ((vJ x1 (16:Int)).toNat)) 5) fun i j=>CallT Pg 147 #[.pointer (some ⟨b,0,none⟩),.slice (some ⟨i,0,none⟩) ((vJ x1 (16:Int)).toNat) ((vJ x1 (16:Int)).toNat),x0] j fun k l=>And (k= .tuple #[]) (R (.pointer (some ⟨b,0,none⟩)) l)))) (qL w (.cells (zc Pg 293) 293) fun c m=>And (0<=vJ x1 (16:Int)/\vJ x1 (16:Int)<=vJ x1 (16:Int)/\vJ x1 (16:Int)<=281474976710656/\(1:Int)*(vJ x1 (16:Int))<=281474976710656) (qL m (.cells (uI Pg 5 ((vJ x1 (16:Int)).toNat)) 5) fun n o=>CallT Pg 147 #[.pointer (some ⟨c,0,none⟩),.slice (some ⟨n,0,none⟩) ((vJ x1 (16:Int)).toNat) ((vJ x1 (16:Int)).toNat),x0] o fun p q=>And (p= .tuple #[]) (R (.pointer (some ⟨c,0,none⟩)) q))))
theorem call140{x0:Value}{x1:Int}{R:vPq}{w:wQ}(h:wp140 x0 x1 R w):CallT Pg 140 #[x0,.int .i64 x1] w R:=cVq [] Tryz.func140 h
def wp147(x0:Addr)(x1:pQ)(x1l:Nat)(x1c:Nat)(x2:Value)(R:vPq)(w:wQ):Prop:=yE (Value.oneCell' x2) (qB w x0 (.slice x1 x1l x1c) fun a=>yE (Value.oneCell' x2) (qB a (aQq x0 1) x2 fun b=>qB b (aQq x0 2) (iQq 0) fun c=>qB c (aQq x0 3) (iQq 0) fun d=>qB d (aQq x0 4) .nilIface fun e=>qB e (aQq x0 5) (iQq (-1:Int)) fun f=>qB f (aQq x0 6) (iQq (-1:Int)) fun g=>R (.tuple #[]) g))
theorem call147{x0:Addr}{x1:pQ}{x1l:Nat}{x1c:Nat}{x2:Value}{R:vPq}{w:wQ}(h:wp147 x0 x1 x1l x1c x2 R w):CallT Pg 147 #[.pointer (some x0),.slice x1 x1l x1c,x2] w R:=cVq [] Tryz.func147 h
def wp136(x0:Value)(R:vPq)(w:wQ):Prop:=qL w (.cells (zc Pg 281) 281) fun a b=>CallT Pg 142 #[.pointer (some ⟨a,0,none⟩),x0] b fun c d=>And (c= .tuple #[]) (qL d (.cells (zc Pg 283) 283) fun e f=>qB f ⟨a,0+1035,none⟩ (.pointer (some ⟨e,0,none⟩)) fun g=>qL g (.cells (zc Pg 284) 284) fun h i=>qB i ⟨a,0+1036,none⟩ (.pointer (some ⟨h,0,none⟩)) fun j=>qB j ⟨a,0+1045,none⟩ (.func (.func 143) #[] #[]) fun k=>CallT Pg 144 #[.pointer (some ⟨a,0+1037,none⟩),iQq 32768,.slice none 0 0] k fun l m=>And (l= .tuple #[]) (R (.iface 285 (.pointer (some ⟨a,0,none⟩))) m))
theorem call136{x0:Value}{R:vPq}{w:wQ}(h:wp136 x0 R w):CallT Pg 136 #[x0] w R:=cVq [] Tryz.func136 h
def wp142(x0:Addr)(x1:Value)(R:vPq)(w:wQ):Prop:=TAI Pg w x1 109 246 fun e f=>∃a,And (e=a) (IfC f (qB w (aQq x0 1) (.pointer none) fun g=>yE (Value.oneCell' a) (qB g x0 a fun h=>R (.tuple #[]) h)) (LdP w (aQq x0 1) fun i=>IfC (!i.isNone) (LdP w (aQq x0 1) fun j=>CallT Pg 148 #[.pointer j,x1] w fun k b=>And (k= .tuple #[]) (LdP b (aQq x0 1) fun l=>qB b x0 (.iface 257 (.pointer l)) fun m=>R (.tuple #[]) m)) (CallT Pg 131 #[x1] w fun n o=>∃c,And (n= .pointer c) (qB o (aQq x0 1) (.pointer c) fun d=>LdP d (aQq x0 1) fun p=>qB d x0 (.iface 257 (.pointer p)) fun q=>R (.tuple #[]) q))))
theorem call142{x0:Addr}{x1:Value}{R:vPq}{w:wQ}(h:wp142 x0 x1 R w):CallT Pg 142 #[.pointer (some x0),x1] w R:=cVq [] Tryz.func142 h
def wp144(x0:Addr)(x1:Int)(x2:pQ)(x2l:Nat)(x2c:Nat)(R:vPq)(w:wQ):Prop:=qS w x0 fun m n o=>qB w x0 (.slice m n o) fun p=>qB p (aQq x0 1) (iQq 0) fun q=>qB q (aQq x0 2) (iQq 0) fun r=>qB r (aQq x0 3) (.bool false) fun e=>xH (fun(N:(Unit)) (g:wQ)=>qS g x0 fun s O h=>And (0<=x1/\x1<=(h:Int)) (qB g x0 (.slice s x1.toNat h) fun d=>xH (fun(f:(Sl×Unit)) (i:wQ)=>qS i x0 fun t u v=>jQ Pg i #[33,33] 3 (.slice t u v) (.slice f.1.a f.1.len f.1.cap) fun y z=>qB z (aQq x0 1) (iQq y) fun A=>qO A fun b=>LdI b (aQq x0 1) .i64 fun B=>qS b x0 fun P C Q=>IfC (B==(C:Int)) (qB b (aQq x0 1) (iQq 0) fun D=>qB D (aQq x0 3) (.bool true) fun j=>LdI j (aQq x0 1) .i64 fun E=>qB j (aQq x0 2) (iQq E) fun F=>R (.tuple #[]) F) (LdI b (aQq x0 1) .i64 fun G=>qB b (aQq x0 2) (iQq G) fun H=>R (.tuple #[]) H)) (fun k=>qS d x0 fun S I T=>IfC (decide ((x2l:Int)>(I:Int))) (qS d x0 fun U c V=>And (0<=wIq ((x2l:Int) -(c:Int))/\wIq ((x2l:Int) -(c:Int))<=(x2l:Int)) (k ((⟨qQ x2 x2c ((wIq ((x2l:Int) -(c:Int))).toNat) 1,x2l -((wIq ((x2l:Int) -(c:Int))).toNat),x2c -((wIq ((x2l:Int) -(c:Int))).toNat)⟩:Sl),()) d)) (k ((⟨x2,x2l,x2c⟩:Sl),()) d)))) (fun l=>qS e x0 fun X Y J=>IfC (decide ((J:Int)<x1)) (And (0<=x1/\x1<=x1/\x1<=281474976710656/\(1:Int)*x1<=281474976710656) (qL e (.cells (uI Pg 5 x1.toNat) 5) fun K L=>qB L x0 (.slice (some ⟨K,0,none⟩) x1.toNat x1.toNat) fun M=>l (()) M)) (l (()) e))
theorem call144{x0:Addr}{x1:Int}{x2:pQ}{x2l:Nat}{x2c:Nat}{R:vPq}{w:wQ}(h:wp144 x0 x1 x2 x2l x2c R w):CallT Pg 144 #[.pointer (some x0),.int .i64 x1,.slice x2 x2l x2c] w R:=cVq [(2,[],[0,1,2]),(10,[(2,.sl)],[0])] Tryz.func144 h
section
variable{w:wQ}
theorem bB{x y:Operand}{a:Addr}{K:Bool ->Prop}(h:K true):aL Pg 82 x y (xP a) (xP a) w K:=by
 obtain⟨ms,hi⟩:=u82;obtain⟨i,hinfo,hc⟩:=i310;obtain⟨j,hte,_⟩:=i348;refine⟨true,?_,h⟩;have:=run_equalIn_iface_ptr_same w 9998 a hi u310 hinfo hc hte;simp[eqGuard,xP,Op.equal,Op.maxDepth,this]
theorem qHe{x y:Operand}{a:Addr}{K:Bool ->Prop}(h:K false):aL Pg 82 x y .nilIface (xP a) w K:=by
 obtain⟨ms,hi⟩:=u82;refine⟨false,?_,h⟩;have:∀d:Nat,(Op.equalIn (d+1) 82 .nilIface (.iface 310 (.pointer (some a)))).run Pg w= .ok false w:=fun d=>by simp[Op.equalIn,run_underlying hi]
 simp[eqGuard,xP,Op.equal,Op.maxDepth,this 9999]
theorem qCc{x y:Operand}{a b:Addr}{s t:ByteArray}{K:Bool ->Prop}(hne:a≠b)(ha:ErrAt w a s)(hb:ErrAt w b t)(h:K false):aL Pg 82 x y (xP a) (xP b) w K:=by
 obtain⟨ms,hi⟩:=u82;obtain⟨i,hinfo,hc⟩:=i310;obtain⟨j,hte,hsz⟩:=i348;obtain⟨_,ca,ta,h1,_⟩:=ha;obtain⟨_,cb,tb,h2,_⟩:=hb;refine⟨false,?_,h⟩;have:=run_equalIn_iface_ptr_other w 9998 hi u310 hinfo hc hte hsz hne h1 h2;simp[eqGuard,xP,Op.equal,Op.maxDepth,this]
theorem qEk{x y:Operand}{a:Addr}{t:TypeId}{v:Value}{K:Bool ->Prop}(ht:t≠310)(h:K false):aL Pg 82 x y (.iface t v) (xP a) w K:=by
 obtain⟨ms,hi⟩:=u82;refine⟨false,?_,h⟩;have:∀d:Nat,(Op.equalIn (d+1) 82 (.iface t v) (.iface 310 (.pointer (some a)))).run Pg w= .ok false w:=fun d=>by simp[Op.equalIn,run_underlying hi,ht]
 simp[eqGuard,xP,Op.equal,Op.maxDepth,this 9999]
theorem Errx.neEof{E:Er}{t:Option Bool}{v:Value}(h:Errx E t v)(hE:Errs w E){x y:Operand}{K:Bool ->Prop}(hK:K false):aL Pg 82 x y v (xP E.ea) w K:=by
 obtain⟨b,_,h,hne⟩:=h
 cases b with
 |true=>obtain⟨s,rfl,_⟩:=h;exact qEk dQ hK
 |false=>
  rcases h with rfl|rfl
  ·exact absurd rfl hne
  ·exact qCc (fun e=>hE.ne e.symm) hE.ut hE.et hK
theorem zc293:zc Pg 293= #[.slice none 0 0,.nilIface,.int .i64 0,.int .i64 0,.nilIface,.int .i64 0,.int .i64 0]:=by kernel_rfl
theorem zc251:zc Pg 251= #[.nilIface,.nilIface,.nilIface,.nilIface,.int .u8 0,.int .u8 0,.int .u8 0,.int .u8 0]:=by kernel_rfl
theorem c5one:Pg.cellsOf 5=1:=by kernel_rfl
theorem z5one:zc Pg 5= #[.int .u8 0]:=by kernel_rfl
theorem rK(n:Nat):uI Pg 5 n=Array.replicate n (.int .u8 0):=aI c5one z5one n
theorem ta257(v:Value)(K:Value ->Bool ->Prop):TA Pg w (.iface 110 v) 109 257 true K=K (.pointer none) false:=by kernel_rfl
theorem c131{db:Nat}:CallT Pg 131 #[.iface 110 (.pointer (some ⟨db,0,none⟩))] w fun v w'=>v= .pointer (some ⟨hn w,0,none⟩)/\Fr [] w w'/\hn w'=hn w+2/\hp w' (hn w)=Row 293 (xL (hn w+1) db 0 0 (-1) (-1))/\∃arr,hp w' (hn w+1)=Row 5 arr/\arr.size=4096:=by
 apply call131;unfold wp131 iQq;refine CallT.mono (R:=fun v w'=>v= .pointer (some ⟨hn w,0,none⟩)/\Fr [] w w'/\hn w'=hn w+2/\hp w' (hn w)=Row 293 (xL (hn w+1) db 0 0 (-1) (-1))/\∃arr,hp w' (hn w+1)=Row 5 arr/\arr.size=4096) ?_ ?_
 ·apply call140
  unfold wp140;rw[ta257];refine⟨none,rfl,qM ?_⟩;rw[zc293];refine qG fun w15 h15 f15 n15=> ?_;refine⟨dQ,?_⟩;rw[rK];refine qG fun w17 h17 f17 n17=> ?_;have h15':=f17.row0 h15;rw[n15]at h17⊢;refine CallT.mono (R:=fun v w'=>v= .tuple #[]/\Fr [hn w] w17 w'/\hn w'=hn w17/\hp w' (hn w)=Row 293 (xL (hn w+1) db 0 0 (-1) (-1))) ?_ ?_
  ·apply call147
   unfold wp147 aQq iQq;refine zK rfl ?_;refine qD h15' sQ fun w1 h1 f1 n1=>zK rfl ?_;refine qD h1 sQ fun w2 h2 f2 n2=> ?_;refine qD h2 sQ fun w3 h3 f3 n3=> ?_;refine qD h3 sQ fun w4 h4 f4 n4=> ?_;refine qD h4 sQ fun w5 h5 f5 n5=> ?_;refine qD h5 sQ fun w6 h6 f6 n6=> ?_;refine qD h6 sQ fun w7 h7 f7 n7=>⟨rfl,?_,oQ,?_⟩
   ·exact f1.trans (f2.trans (f3.trans (f4.trans (f5.trans (f6.trans f7)))))
   ·rw[h7]
    rfl
  ·rintro _ w19 ⟨rfl,f19,n19,h19⟩
   refine⟨rfl,rfl,(f15.trans f17).trans' f19 (fun x hx hlt=>by simp at hx;omega),oQ,h19,_,f19.row1 h17 oQ,by simp;rfl⟩
 ·rintro _ w' ⟨rfl,h⟩
  exact⟨_,rfl,rfl,h⟩
def SrcD(w:wQ)(db rb kb:Nat)(p:pQ)(d:Dec)(ys:bQ)(s:Nat×Nat×bQ):Prop:=
 ∃dd k crc rs,SameD d dd/\Dst w db rb kb p dd crc rs/\dd.idat=(k:Nat)/\k<4294967296/\Flow k crc rs ys s/\fB s
def GivesD(w:wQ)(db rb kb:Nat)(p:pQ)(d:Dec)(t:Option Bool)(zs:bQ)(s:Nat×Nat×bQ)(ys:bQ):Prop:=
 SrcD w db rb kb p d ys s/\ys<+:zs/\(ys=zs\/∃b,t=some b/\dM b s)/\(t=some false ->ys≠zs)
theorem GivesD.toB{db rb kb bb gb:Nat}{p:pQ}{d:Dec}{t:Option Bool}{zs:bQ}{s:Nat×Nat×bQ}{w':wQ}{arr:vQ}{ys:bQ}(h:GivesD w db rb kb p d t zs s ys)(hf:Fr [] w w')(h1:hp w' bb=Row 293 (xL gb db 0 0 (-1) (-1)))(h2:hp w' gb=Row 5 arr)(h3:arr.size=4096)(hdb:db<bb)(hbg:bb<gb):Src w' bb gb db rb kb p d ys s:=by
 obtain⟨⟨dd,k,crc,rs,e1,e2,e3,e4,e5,e6⟩,h5,h6⟩:=h;exact⟨[],ys,rfl,⟨⟨0,-1,-1,arr,by simpa using h1,h2,h3,sQ,sQ⟩,⟨dd,k,crc,rs,e1,e2.fr0 hf,e3,e4,e5⟩,⟨hdb,hbg⟩,e6⟩⟩
theorem FAt.set_oth{arr:vQ}{F:Fl}(h:FAt arr F){i:Nat}(hi:i=1\/(5<=i/\i<1037))(x:Value):FAt (arr.setIfInBounds i x) F:=
 ⟨by rw[Array.size_setIfInBounds];exact h.size,nEq oQ h.r,nEq oQ h.ro,nEq oQ h.b,nEq oQ h.nb,nEq oQ h.hist,nEq oQ h.wr,nEq oQ h.rd,nEq oQ h.full,nEq oQ h.u0,nEq oQ h.u1,nEq oQ h.u2,nEq oQ h.u3,nEq oQ h.step,nEq oQ h.ss,nEq oQ h.fin,nEq oQ h.err,nEq oQ h.toR,nEq oQ h.hl,nEq oQ h.hd,nEq oQ h.cl,nEq oQ h.cd⟩
def Fl0:Fl:={r:= .nilIface,ro:=0,b:=0,nb:=0,hist:=⟨none,0,0⟩,wr:=0,rd:=0,full:=false,u0:=0,u1:=0,u2:=0,u3:=0,step:= .nilFunc,ss:=0,fin:=false,err:= .nilIface,toR:=⟨none,0,0⟩,hl:=none,hd:=none,cl:=0,cd:=0}
theorem fat0:FAt (zc Pg 281) Fl0:=⟨by kernel_rfl,by kernel_rfl,by kernel_rfl,by kernel_rfl,by kernel_rfl,by kernel_rfl,by kernel_rfl,by kernel_rfl,by kernel_rfl,by kernel_rfl,by kernel_rfl,by kernel_rfl,by kernel_rfl,by kernel_rfl,by kernel_rfl,by kernel_rfl,by kernel_rfl,by kernel_rfl,by kernel_rfl,by kernel_rfl,by kernel_rfl,by kernel_rfl⟩
theorem qIk(b:Nat):(Instr.typeAssert (.iface 257 (.pointer (some ⟨b,0,none⟩))) 109 246 true).run Pg w= .ok (.tuple #[.iface 257 (.pointer (some ⟨b,0,none⟩)),.bool true]) w:=by kernel_rfl
theorem qIj(b:Nat):(Instr.typeAssert (.iface 110 (.pointer (some ⟨b,0,none⟩))) 109 246 true).run Pg w= .ok (.tuple #[.nilIface,.bool false]) w:=
 run_typeAssert_lacksB Tryz.underlying246 (by kernel_rfl) (by kernel_rfl) _ _ _
theorem c136{bb:Nat}:CallT Pg 136 #[.iface 257 (.pointer (some ⟨bb,0,none⟩))] w fun v w'=>∃hb F,v= .iface 285 (.pointer (some ⟨hn w,0,none⟩))/\Fr [] w w'/\hn w<hb/\hb<hn w'/\FlAt w' (hn w) hb bb F []/\Idle F/\F.step=fN/\F.b=0/\F.nb=0:=by
 apply call136;unfold wp136 iQq;refine qG fun w2 h2 f2 n2=> ?_;generalize hfb:hn w=fb at*;refine CallT.mono (R:=fun v w'=>v= .tuple #[]/\Fr [fb] w2 w'/\hn w'=hn w2/\∃arr,hp w' fb=Row 281 arr/\FAt arr {Fl0 with r:= .iface 257 (.pointer (some ⟨bb,0,none⟩))}) ?_ ?_
 ·apply call142
  unfold wp142 aQq;refine⟨_,_,qIk bb,_,rfl,xA ?_⟩;refine qD h2 (by rw[fat0.size];show 0+1<1054;decide) fun w4 h4 f4 n4=>zK rfl ?_;have hF4:=fat0.set_oth (i:=1) (.inl rfl) (.pointer none);refine St_r h4 hF4 fun w5 arr5 h5 hF5 f5 n5=>⟨rfl,f4.trans f5,oQ,arr5,h5,hF5⟩
 ·rintro _ w4 ⟨rfl,F4,n4,arr4,h4,hF4⟩
  refine⟨rfl,qG fun w6 h6 f6 n6=> ?_⟩;have h46:=f6.row0 h4;refine qD h46 (by rw[hF4.size];decide) fun w7 h7 f7 n7=> ?_;have hF7:=hF4.set_oth (i:=0+1035) (.inr dQ) (.pointer (some ⟨hn w4,0,none⟩));refine qG fun w9 h9 f9 n9=> ?_;have h79:=f9.row0 h7;refine qD h79 (by rw[hF7.size];decide) fun w10 h10 f10 n10=> ?_;have hF10:=hF7.set_oth (i:=0+1036) (.inr dQ) (.pointer (some ⟨hn w7,0,none⟩));refine dC h10 hF10 fun w11 arr11 h11 hF11 f11 n11=> ?_;have F11:Fr [fb] w w11:=(f2.mono sQ).trans (F4.trans ((f6.mono sQ).trans (f7.trans ((f9.mono sQ).trans (f10.trans f11)))));refine CallT.mono (R:=fun v w'=>v= .tuple #[]/\Fr [fb] w11 w'/\hn w'=hn w11+1/\(∃arr,hp w' fb=Row 281 arr/\FAt arr {Fl0 with r:= .iface 257 (.pointer (some ⟨bb,0,none⟩)),step:=fN,hist:=⟨some ⟨hn w11,0,none⟩,32768,32768⟩})/\∃harr,hp w' (hn w11)=Row 5 harr/\harr.size=32768) ?_ ?_
  ·apply call144
   unfold wp144 aQq wIq iQq;refine qK h11 hF11.hist ?_;refine cZ (x:=⟨none,0,0⟩) h11 hF11 fun w4 arr4 h4 hF4 f4 n4=> ?_;refine nT h4 hF4 fun w5 arr5 h5 hF5 f5 n5=> ?_;refine qDi h5 hF5 fun w6 arr6 h6 hF6 f6 n6=> ?_;refine qGp h6 hF6 fun w7 arr7 h7 hF7 f7 n7=> ?_;have F7:Fr [fb] w11 w7:=f4.trans (f5.trans (f6.trans f7));have e7:hn w7=hn w11:=oQ;refine qJ (fun _ w9=>Fr [fb] w11 w9/\hn w9=hn w11+1/\(∃arr,hp w9 fb=Row 281 arr/\FAt arr {Fl0 with r:= .iface 257 (.pointer (some ⟨bb,0,none⟩)),step:=fN,hist:=⟨some ⟨hn w11,0,none⟩,32768,32768⟩})/\∃harr,hp w9 (hn w11)=Row 5 harr/\harr.size=32768) ?_ ?_
   ·rintro⟨⟩ w9 ⟨F9,n9,⟨arr9,h9,hF9⟩,harr,hh9,hs9⟩
    have hlt:=zM h11;refine qK h9 hF9.hist ⟨⟨dQ,by show(32768:Int)<=((32768:Nat):Int);decide⟩,?_⟩;refine cZ (x:=⟨some ⟨hn w11,0,none⟩,32768,32768⟩) h9 hF9 fun w14 arr14 h14 hF14 f14 n14=> ?_;have hh14:=f14.row1 hh9 (by show hn w11≠fb;omega);refine qJ (fun z w'=>z.1=⟨none,0,0⟩/\w'=w14) ?_ ?_
    ·rintro⟨_,⟨⟩⟩ w16 ⟨rfl,rfl⟩
     refine qK h14 hF14.hist ?_;refine uG hh14 (by rw[hs9];show 0+32768<=32768;decide) (q:=none) (xs:=[]) (by simp[Has]) rfl dQ ?_;intro w22 arr22 h22 s22 _ f22 n22;have hr22:=f22.row1 h14 (by show fb≠hn w11;omega);refine nT (x:=0) hr22 hF14 fun w23 arr23 h23 hF23 f23 n23=> ?_;refine qE fun w24 f24 n24=> ?_;have h24:=f24.row0 h23;refine qC h24 hF23.wr (qK h24 hF23.hist ?_);refine qW (fun hc=>absurd hc (by show¬((0:Int)=((32768:Nat):Int));decide)) (fun _ =>qC h24 hF23.wr ?_);refine qDi h24 hF23 fun w34 arr34 h34 hF34 f34 n34=>⟨rfl,?_,oQ,⟨arr34,h34,hF34⟩,arr22,?_,oQ⟩
     ·exact((F9.trans f14).trans' f22 (fun x hx hlt=>by simp at hx;omega)).trans (f23.trans ((f24.mono sQ).trans f34))
     ·exact f34.row1 (f24.row0 (f23.row1 h22 (by show hn w11≠fb;omega))) (by show hn w11≠fb;omega)
    ·intro J hJ
     refine qK h14 hF14.hist (qF (fun hc=>absurd hc (by show¬(((0:Nat):Int)>((32768:Nat):Int));decide)) (fun _ =>hJ _ _ ⟨rfl,rfl⟩))
   ·intro J hJ
    refine qK h7 hF7.hist (qF (fun _ =>⟨dQ,?_⟩) (fun hc=>absurd (show((0:Nat):Int)<32768 by decide) hc));rw[rK];refine qG fun w45 h45 f45 n45=> ?_;rw[e7]at h45⊢;refine cZ (x:=⟨some ⟨hn w11,0,none⟩,32768,32768⟩) (f45.row0 h7) hF7 fun w46 arr46 h46 hF46 f46 n46=> ?_;have hlt:=zM h11;exact hJ _ _ ⟨F7.trans ((f45.mono sQ).trans f46),oQ,⟨arr46,h46,hF46⟩,_,f46.row1 h45 (by show hn w11≠fb;omega),sQ⟩
  ·rintro _ w13 ⟨rfl,F13,n13,⟨arr13,h13,hF13⟩,harr,hh,hs⟩
   refine⟨rfl,hn w11,_,rfl,?_,oQ,oQ,⟨⟨arr13,h13,hF13⟩,rfl,⟨harr,hh,hs,fun j v hj=>by simp at hj⟩,rfl,dQ,rfl,rfl,oQ⟩,⟨⟨0,0,rfl,rfl,oQ⟩,rfl,rfl,rfl,rfl⟩,rfl,rfl,rfl⟩;exact(Fr.refl [] w).trans' (F11.trans F13) (fun x hx hlt=>by simp at hx;omega)
end
def wp248(x0:Addr)(x1:pQ)(x1l:Nat)(x1c:Nat)(R:vPq)(w:wQ):Prop:=LdV w (aQq x0 3) fun u=>xR u fun v=>IfC (!v) (qO w fun h=>LdV h (aQq x0 3) fun y=>R (.tuple #[iQq 0,y]) h) (LdV w (aQq x0 1) fun z=>vG Pg Gg w z "Read" [.slice x1 x1l x1c] fun A B=>∃a e,And (A= .tuple #[iQq a,e]) (yE (Value.oneCell' e) (qB B (aQq x0 3) e fun C=>qO C fun f=>LdV f (aQq x0 2) fun i=>And (0<=a/\a<=(x1c:Int)) (And (0<=(0:Int)/\(0:Int)<=a) (VNil Pg f i fun ae=>vG Pg Gg f i "Write" [.slice (qQ x1 x1c 0 1) (a.toNat -0) (x1c -0)] fun D E=>∃F G,And (D= .tuple #[iQq F,G]) (qO E fun c=>LdV c (aQq x0 3) fun H=>LdV c ⟨0,0,none⟩ fun I=>aL Pg 82 (.tmp 44) (.tmp 45) H I c fun J=>IfC (!J) (qO c fun j=>LdV j (aQq x0 3) fun K=>R (.tuple #[iQq a,K]) j) (qO c fun k=>LdV k x0 fun L=>And (0<=(4:Int)/\(4:Int)<=(4:Int)) (And (0<=(0:Int)/\(0:Int)<=(4:Int)) (CallT Pg 71 #[L,.slice (some (aQq x0 4)) 4 4] k fun M b=>∃N d,And (M= .tuple #[iQq N,d]) (xR d fun O=>IfC (!O) (LdV b ⟨0,0,none⟩ fun P=>kX Pg 82 (.tmp 66) (.tmp 67) d P b fun Q=>IfC Q (LdV b ⟨1,0,none⟩ fun l=>yE (Value.oneCell' l) (qB b (aQq x0 3) l fun S=>qO S fun m=>LdV m (aQq x0 3) fun T=>R (.tuple #[iQq a,T]) m)) (yE (Value.oneCell' d) (qB b (aQq x0 3) d fun U=>qO U fun n=>LdV n (aQq x0 3) fun V=>R (.tuple #[iQq a,V]) n))) (qO b fun X=>And (0<=(4:Int)/\(4:Int)<=(4:Int)) (CallT Pg 133 #[.agg #[],.slice (some (aQq x0 4)) 4 4] X fun Y o=>∃p,And (Y= .int .u32 p) (LdV o (aQq x0 2) fun Z=>vG Pg Gg o Z "Sum32" [] fun aa g=>∃q,And (aa= .int .u32 q) (IfC (p !=q) (LdV g ⟨11,0,none⟩ fun r=>yE (Value.oneCell' r) (qB g (aQq x0 3) r fun ab=>qO ab fun s=>LdV s (aQq x0 3) fun ac=>R (.tuple #[iQq a,ac]) s)) (qO g fun t=>LdV t ⟨0,0,none⟩ fun ad=>R (.tuple #[iQq a,ad]) t)))))))))))))))
theorem call248{x0:Addr}{x1:pQ}{x1l:Nat}{x1c:Nat}{R:vPq}{w:wQ}(h:wp248 x0 x1 x1l x1c R w):CallT Pg 248 #[.pointer (some x0),.slice x1 x1l x1c] w R:=cVq [] Tryz.func248 h
structure ZP where
 zb:Nat
 bb:Nat
 gb:Nat
 fb:Nat
 hb:Nat
 ab:Nat
 db:Nat
 rb:Nat
 kb:Nat
 p:pQ
 d:Dec
 E:Er
 t:Option Bool
 fin:bQ
 s:Nat×Nat×bQ
namespace ZP
variable(z:ZP)
def Gv(w:wQ)(zs:bQ):Prop:=Gives w z.bb z.gb z.db z.rb z.kb z.p z.d z.t zs z.s
def Dw(w:wQ):Prop:=DW w z.db z.rb z.kb z.p z.d
def arr(err:Value)(us:bQ):vQ:=(.iface 257 (.pointer (some ⟨z.bb,0,none⟩)):: .iface 285 (.pointer (some ⟨z.fb,0,none⟩)):: .iface 287 (.pointer (some ⟨z.ab,0,none⟩))::err::bv us).toArray
def S(g:Nat):List Nat:=[z.rb,z.kb,z.db,z.zb,z.bb,z.gb,z.fb,z.hb,z.ab,g]
structure Base (w:wQ) (err:Value):Prop where
 row:∃us:bQ,us.length=4/\hp w z.zb=Row 251 (z.arr err us)
 ord:z.rb<z.kb/\z.kb<z.db/\z.db<z.zb/\z.zb<z.bb/\z.bb<z.gb/\z.gb<z.fb/\z.fb<z.hb/\z.hb<z.ab
 er:Errs w z.E
 lo:z.E.n0<=z.rb
 len:z.fin.length<32768
def End(w:wQ)(pre:bQ)(e:Value):Prop:=(pre=z.fin/\e=xP z.E.ea/\z.Gv w [])\/(Errx z.E z.t e/\z.Dw w)
def Mid(w:wQ)(pre rest:bQ)(e:Value):Prop:=(pre++rest=z.fin/\e=xP z.E.ea/\z.Gv w (xI (adlerL z.fin)))\/(Errx z.E z.t e/\z.Dw w)
def Fresh(w:wQ):Prop:=∃F out R Q bl,FlA w z.fb z.hb z.bb z.gb z.db z.rb z.kb z.p z.d z.E z.t F [] out (xI (adlerL z.fin)) z.fin R Q z.s bl
def FC(w:wQ):Prop:=∃rest e,FlB w z.fb z.hb rest e/\(e=xP z.E.ea\/Errx z.E z.t e)
def ZS(w:wQ)(pre:bQ):Prop:=∃err,z.Base w err/\((err= .nilIface/\AdAt w z.ab pre/\((pre=[]/\z.Fresh w)\/∃rest e,FlB w z.fb z.hb rest e/\IsE e/\z.Mid w pre rest e))\/(IsE err/\z.End w pre err/\z.FC w))
end ZP
theorem IsE.one{e:Value}(h:IsE e):e.oneCell'=true:=h.2
section
variable{w w':wQ}{z:ZP}
theorem ZP.arr_size(err:Value)(us:bQ):(z.arr err us).size=4+us.length:=by simp[ZP.arr];omega
theorem ZP.arr_set(err v:Value)(us:bQ):(z.arr err us).setIfInBounds (0+3) v=z.arr v us:=by simp[ZP.arr]
theorem ZP.arr_put{err:Value}{us xs:bQ}{arr':vQ}(h:Put (z.arr err us) 4 (bv xs) arr')(hl:xs.length<=us.length):arr'=z.arr err (xs++us.drop xs.length):=by
 obtain⟨hs,hj⟩:=h;apply Array.ext_getElem?;intro j;rw[hj j,bv_length];rcases Nat.lt_or_ge j 4 with h4|h4
 ·rw[if_neg oQ]
  obtain rfl|rfl|rfl|rfl:=(by omega:j=0\/j=1\/j=2\/j=3)<;>rfl
 ·obtain⟨k,rfl⟩:∃k,j=k+4:=⟨j -4,oQ⟩
  simp only[ZP.arr,List.getElem?_toArray,List.getElem?_cons_succ,Nat.add_sub_cancel,bv_append]
  split
  ·rw[List.getElem?_append_left (by rw[bv_length];omega)]
  ·rw[List.getElem?_append_right (by rw[bv_length];omega),bv_length]
   have:bv (us.drop xs.length)=(bv us).drop xs.length:=by simp[bv,List.map_drop]
   rw[this,List.getElem?_drop]
   congr 1;omega
theorem ZP.arr_has{err:Value}{us:bQ}(h:hp w z.zb=Row 251 (z.arr err us)):Has w (some ⟨z.zb,4,none⟩) (bv us):=by
 refine⟨rfl,251,_,h,fun j v hj=> ?_⟩;show(z.arr err us)[4+j]? =_;rw[Nat.add_comm]
 simpa [ZP.arr]using hj
theorem Gives.dws{bb gb db rb kb:Nat}{p:pQ}{d:Dec}{t:Option Bool}{zs:bQ}{s:Nat×Nat×bQ}(h:Gives w bb gb db rb kb p d t zs s):DW w db rb kb p d:=by
 obtain⟨ys,⟨B,zs',_,S⟩,_⟩:=h;obtain⟨dd,k,crc,rs,e1,e2,_⟩:=S.dec;exact⟨dd,crc,rs,e1,e2⟩
theorem Dst.put{db rb kb crc:Nat}{p:pQ}{d:Dec}{rs xs:bQ}{fb:Nat}{T:TypeId}{arr arr':vQ}(h:Dst w db rb kb p d crc rs)(hf:Fr [fb,db] w w')(hfb:db<fb)(h1:hp w db=Row T arr)(h2:hp w' db=Row T arr')(hp:Put arr 10 (bv xs) arr')(hl:xs.length<=768):∃tmp,Dst w' db rb kb p {d with tmp:=tmp} crc rs:=by
 have hne:=h.ne;have e:=h.dec;rw[h1]at e;simp only[Row,Option.some.injEq,Obj.cells.injEq,and_true]at e;obtain⟨rfl,rfl⟩:=e;have ht:=h.htmp;have e:=Dec.put hp oQ;subst e;exact⟨_,h2,by simp;omega,h.htr,h.rd,h.ck,h.at_.fr hf (by simp;omega) (fun a ha=>by have:=hne.2.1 a ha;simp;omega),hf.row h.sum (by simp;omega),h.crc32,h.tab.fr hf (by simp;omega),h.ne⟩
theorem Gives.put{bb gb db rb kb:Nat}{p:pQ}{d:Dec}{t:Option Bool}{zs xs:bQ}{s:Nat×Nat×bQ}{fb:Nat}{T:TypeId}{arr arr':vQ}(h:Gives w bb gb db rb kb p d t zs s)(hf:Fr [fb,db] w w')(hfb:gb<fb)(h1:hp w db=Row T arr)(h2:hp w' db=Row T arr')(hp:Put arr 10 (bv xs) arr')(hl:xs.length<=768):Gives w' bb gb db rb kb p d t zs s:=by
 obtain⟨ys,⟨B,zs',hy,S⟩,h3⟩:=h;obtain⟨r,lb,lr,ar,hB,hG,hsz⟩:=S.buf;obtain⟨dd,k,crc,rs,e1,e2,e3,e4,e5⟩:=S.dec;have ho:=S.ord;obtain⟨tmp,e2'⟩:=e2.put hf oQ h1 h2 hp hl;exact⟨ys,⟨B,zs',hy,⟨⟨r,lb,lr,ar,hf.row hB (by simp;omega),hf.row hG (by simp;omega),hsz⟩,⟨_,k,crc,rs,e1.trans ⟨tmp,dd.idat,rfl⟩,e2',e3,e4,e5⟩,ho,S.end_⟩⟩,h3⟩
theorem DW.put{db rb kb:Nat}{p:pQ}{d:Dec}{xs:bQ}{fb:Nat}{T:TypeId}{arr arr':vQ}(h:DW w db rb kb p d)(hf:Fr [fb,db] w w')(hfb:db<fb)(h1:hp w db=Row T arr)(h2:hp w' db=Row T arr')(hp:Put arr 10 (bv xs) arr')(hl:xs.length<=768):DW w' db rb kb p d:=by
 obtain⟨dd,crc,rs,e1,e2⟩:=h;obtain⟨tmp,e2'⟩:=e2.put hf hfb h1 h2 hp hl;exact⟨_,crc,rs,e1.trans ⟨tmp,dd.idat,rfl⟩,e2'⟩
theorem ZP.End.fr{S:List Nat}{pre:bQ}{e:Value}(h:z.End w pre e)(hf:Fr S w w')(hS:∀x∈S,z.gb<x)(ho:z.db<z.gb):z.End w' pre e:=by
 rcases h with⟨h1,h2,h3⟩|⟨h1,h2⟩
 ·exact .inl ⟨h1,h2,h3.fr hf hS⟩
 ·exact .inr ⟨h1,h2.fr hf (fun x hx=>by have:=hS x hx;omega)⟩
theorem ZP.Mid.fr{S:List Nat}{pre rest:bQ}{e:Value}(h:z.Mid w pre rest e)(hf:Fr S w w')(hS:∀x∈S,z.gb<x)(ho:z.db<z.gb):z.Mid w' pre rest e:=by
 rcases h with⟨h1,h2,h3⟩|⟨h1,h2⟩
 ·exact .inl ⟨h1,h2,h3.fr hf hS⟩
 ·exact .inr ⟨h1,h2.fr hf (fun x hx=>by have:=hS x hx;omega)⟩
theorem qCg{n cap:Nat}{q:pQ}{fb:Nat}{K:vPq}(h:CallT Pg 258 #[.pointer (some ⟨fb,0,none⟩),.slice q n cap] w K):vG Pg Gg w (.iface 285 (.pointer (some ⟨fb,0,none⟩))) "Read" [.slice q n cap] K:=
 ⟨285,.pointer (some ⟨fb,0,none⟩),258,.pointer (some ⟨fb,0,none⟩),rfl,rfl,h⟩
theorem qCi{n cap:Nat}{q:pQ}{ab:Nat}{K:vPq}(h:CallT Pg 264 #[.pointer (some ⟨ab,0,none⟩),.slice q n cap] w K):vG Pg Gg w (.iface 287 (.pointer (some ⟨ab,0,none⟩))) "Write" [.slice q n cap] K:=
 ⟨287,.pointer (some ⟨ab,0,none⟩),264,.pointer (some ⟨ab,0,none⟩),rfl,rfl,h⟩
theorem qCh{ab:Nat}{K:vPq}(h:CallT Pg 263 #[.pointer (some ⟨ab,0,none⟩)] w K):vG Pg Gg w (.iface 287 (.pointer (some ⟨ab,0,none⟩))) "Sum32" [] K:=
 ⟨287,.pointer (some ⟨ab,0,none⟩),263,.pointer (some ⟨ab,0,none⟩),rfl,rfl,h⟩
theorem ZP.c248{g o n cap:Nat}{T:TypeId}{arr:vQ}{pre:bQ}(h:z.ZS w pre)(hg:hp w g=Row T arr)(hgs:g∉[z.rb,z.kb,z.zb,z.bb,z.gb,z.fb,z.hb,z.ab])(hgd:z.gb<g\/(g=z.db/\pre≠[]/\o=10/\n<=768))(ho:o+n<=arr.size)(hn1:n<=1000)(hnc:n<=cap):
  CallT Pg 248 #[.pointer (some ⟨z.zb,0,none⟩),.slice (some ⟨g,o,none⟩) n cap] w fun v w'=>Fr (z.S g) w w'/\hn w<=hn w'/\∃xs ev,xs.length<=n/\v= .tuple #[.int .i64 xs.length,ev]/\z.ZS w' (pre++xs)/\(g≠z.db ->∃arr',hp w' g=Row T arr'/\Put arr o (bv xs) arr')/\
   ((ev= .nilIface/\xs.length=n)\/(IsE ev/\z.End w' (pre++xs) ev)):=by
 obtain⟨err,hB,hcase⟩:=h;obtain⟨us,hus,hz⟩:=hB.row;have hord:=hB.ord;have hlo:=hB.lo;simp only[List.mem_cons,List.not_mem_nil,or_false,not_or]at hgs;have hgdb:z.gb<g\/g=z.db:=hgd.imp id (fun h=>h.1);have hSu:∀S':List Nat,(∀x∈S',x∈z.S g) ->∀{a b:wQ},Fr S' a b ->Fr (z.S g) a b:=fun S' h _ _ f=>f.mono h;apply call248;unfold wp248 aQq iQq;rcases hcase with⟨rfl,hAd,hst⟩|⟨hIs,hEnd,hFC⟩
 ·refine qT hz rfl (qR (qM (qT hz rfl (qCg ?_))))
  have core:CallT Pg 258 #[.pointer (some ⟨z.fb,0,none⟩),.slice (some ⟨g,o,none⟩) n cap] w fun v w'=>∃w1 rest e,(Fr [z.rb,z.kb,z.db,z.bb,z.gb,z.fb,z.hb] w w1/\hn w<=hn w1/\z.Mid w1 pre rest e)/\IsE e/\hp w1 g=Row T arr/\Fr [z.fb,g] w1 w'/\hn w'=hn w1/\nP rest e n v/\FlB w' z.fb z.hb (rest.drop n) e/\∃arr',hp w' g=Row T arr'/\Put arr o (bv (rest.take n)) arr':=by
   rcases hst with⟨rfl,F,out,R,Q,bl,hA⟩|⟨rest,e,hFB,hIs,hM⟩
   ·refine c258 (Mid:=fun w1 rest e=>Fr [z.rb,z.kb,z.db,z.bb,z.gb,z.fb,z.hb] w w1/\hn w<=hn w1/\z.Mid w1 [] rest e) (.inl ⟨hA,fun w1 rest e f nn hE=>⟨f,nn,?_⟩,?_⟩) hg oQ oQ ho oQ hnc
    ·rcases hE with⟨rfl,rfl,hG⟩|⟨hx,hD⟩
     ·exact .inl ⟨rfl,rfl,hG⟩
     ·exact .inr ⟨hx,hD⟩
    ·simp only[List.mem_cons,List.not_mem_nil,or_false,not_or]
     rcases hgd with h|⟨_,h,_⟩
     ·omega
     ·exact absurd rfl h
   ·exact c258 (F:=Fl0) (done:=[]) (out:=[]) (tail:=[]) (fin:=[]) (R:=0) (Q:=0) (s:=z.s) (bl:=[]) (db:=z.db) (rb:=z.rb) (kb:=z.kb) (bb:=z.bb) (gb:=z.gb) (p:=z.p) (d:=z.d) (E:=z.E) (t:=z.t) (Mid:=fun w1 rest e=>Fr [z.rb,z.kb,z.db,z.bb,z.gb,z.fb,z.hb] w w1/\hn w<=hn w1/\z.Mid w1 pre rest e) (.inr ⟨rest,e,hFB,hIs,Fr.refl _ _,Nat.le_refl _,hM⟩) hg oQ oQ ho oQ hnc
  refine CallT.mono core ?_;rintro v w7 ⟨w1,rest,e,⟨F1,n1,hM1⟩,hIs,hg1,f7,n7,hv,hFB7,arr7,hg7,hp7⟩;have hM7:z.Mid w7 pre rest e:=by
   rcases hgd with hlt|⟨rfl,_,rfl,h768⟩
   ·exact hM1.fr f7 (by simp;omega) oQ
   ·have hl:(rest.take n).length<=768:=by simp;omega
    rcases hM1 with⟨h1,h2,h3⟩|⟨h1,h2⟩
    ·exact .inl ⟨h1,h2,h3.put f7 oQ hg1 hg7 hp7 hl⟩
    ·exact .inr ⟨h1,h2.put f7 oQ hg1 hg7 hp7 hl⟩
  have F7:Fr (z.S g) w w7:=(F1.mono (by simp[ZP.S])).trans (f7.mono (by simp[ZP.S]));have hz7:hp w7 z.zb=Row 251 (z.arr .nilIface us):=f7.row (F1.row hz (by simp;omega)) (by simp;omega);have hAd7:AdAt w7 z.ab pre:=(hAd.fr F1 (by simp;omega)).fr f7 (by simp;omega);have E7:=(hB.er.fr F1 (by simp;omega)).fr f7 (by simp;omega);have hxl:(rest.take n).length=min rest.length n:=by simp[Nat.min_comm]
  unfold nP at hv;subst hv;refine⟨_,_,rfl,zK (by split;exact hIs.one;rfl) ?_⟩;generalize hev:(if rest.length<=n then e else Value.nilIface)=ev at*;refine qD hz7 (by rw[ZP.arr_size];show 0+3<_;omega) fun w10 h10 f10 n10=> ?_;rw[ZP.arr_set]at h10;refine qE fun w11 f11 n11=> ?_;have h11:=f11.row0 h10;have hAd11:=(hAd7.fr f10 (by simp;omega)).fr f11 sQ;have hg11:=f11.row0 (f10.row1 hg7 (by show g≠z.zb;omega));refine qT h11 rfl ⟨⟨oQ,oQ⟩,⟨oQ,oQ⟩,?_⟩;rw[Int.toNat_natCast];show vG _ _ _ _ _ _ _;refine qCi ?_;rw[vX,Nat.sub_zero,Nat.sub_zero];have hhas:Has w11 (some ⟨g,o,none⟩) (bv (rest.take n)):=⟨rfl,T,arr7,hg11,fun j v hj=>hp7.at hj⟩;refine CallT.mono (c264 hAd11 hhas hxl.symm oQ oQ) ?_;rintro _ w15 ⟨rfl,hAd15,f15,n15⟩;have F715:Fr [z.zb,z.ab] w7 w15:=(f10.mono sQ).trans ((f11.mono sQ).trans (f15.mono sQ));refine⟨_,_,rfl,?_⟩;refine qE fun w18 f18 n18=> ?_;have h18:hp w18 z.zb=Row 251 (z.arr ev us):=f18.row0 (f15.row1 h11 (by show z.zb≠z.ab;omega));have F718:Fr [z.zb,z.ab] w7 w18:=F715.trans (f18.mono sQ);have F18:Fr (z.S g) w w18:=F7.trans (F718.mono (by simp[ZP.S]));have E18:=E7.fr F718 (by simp;omega);obtain⟨T0,heof⟩:=E18.eof;have hB18:z.Base w18 ev:=⟨⟨us,hus,h18⟩,hord,E18,hlo,hB.len⟩;have hFB18:=hFB7.fr F718 (by simp;omega) (by simp;omega);have hAd18:=hAd15.fr f18 sQ;have hg18:hp w18 g=Row T arr7:=F718.row hg7 (by simp;omega);have hGo:∀zs,z.Gv w7 zs ->z.Gv w18 zs:=by
   intro zs hz7;obtain⟨ys,⟨B,zs',hy,S⟩,h3⟩:=hz7;obtain⟨r,lb,lr,ar,hB,hG,hsz⟩:=S.buf;obtain⟨dd,k,crc,rs,e1,e2,e3,e4,e5⟩:=S.dec;exact⟨ys,⟨B,zs',hy,⟨⟨r,lb,lr,ar,F718.row hB (by simp;omega),F718.row hG (by simp;omega),hsz⟩,⟨dd,k,crc,rs,e1,e2.fr F718 (by simp;omega),e3,e4,e5⟩,S.ord,S.end_⟩⟩,h3⟩
  have hDo:z.Dw w7 ->z.Dw w18:=fun h=>h.fr F718 (by simp;omega);rcases Nat.lt_or_ge n rest.length with hlt|hge
  ·
   rw[if_neg oQ]at hev;subst hev;refine qT h18 rfl (qT (n:=xP z.E.ea) heof rfl (qHe (xA ?_)));refine qE fun w22 f22 n22=>qT (f22.row0 h18) rfl ?_;refine⟨F18.trans (f22.mono sQ),oQ,rest.take n,(.nilIface),oQ,by rw[hxl];rfl,?_,fun _ =>⟨arr7,f22.row0 hg18,hp7⟩,.inl ⟨rfl,oQ⟩⟩;refine⟨_,⟨⟨us,hus,f22.row0 h18⟩,hord,E18.fr f22 sQ,hlo,hB.len⟩,.inl ⟨rfl,hAd18.fr f22 sQ,.inr ⟨rest.drop n,e,hFB18.fr f22 sQ sQ,hIs,?_⟩⟩⟩;rcases hM7 with⟨h1,h2,h3⟩|⟨h1,h2⟩
   ·exact .inl ⟨by rw[List.append_assoc,List.take_append_drop];exact h1,h2,(hGo _ h3).fr f22 sQ⟩
   ·exact .inr ⟨h1,(hDo h2).fr0 f22⟩
  ·
   rw[if_pos oQ]at hev;subst hev;have htk:rest.take n=rest:=List.take_of_length_le hge;rw[htk]at hAd18 hp7 hxl;rcases hM7 with⟨h1,h2,h3⟩|⟨h1,h2⟩
   rotate_left
   ·refine qT h18 rfl (qT (n:=xP z.E.ea) heof rfl (h1.neEof E18 (xA ?_)))
    refine qE fun w22 f22 n22=>qT (f22.row0 h18) rfl ?_;have hEnd:z.End w22 (pre++rest) e:= .inr ⟨h1,(hDo h2).fr0 f22⟩;exact⟨F18.trans (f22.mono sQ),oQ,rest,e,oQ,by rw[<-hxl];rfl,⟨e,⟨⟨us,hus,f22.row0 h18⟩,hord,E18.fr f22 sQ,hlo,hB.len⟩,.inr ⟨hIs,hEnd,⟨_,_,hFB18.fr f22 sQ sQ,.inr h1⟩⟩⟩,fun _ =>⟨arr7,f22.row0 hg18,hp7⟩,.inr ⟨hIs,hEnd⟩⟩
   ·subst h2
    refine qT h18 rfl (qT (n:=xP z.E.ea) heof rfl (bB (qM ?_)));refine qE fun w24 f24 n24=> ?_;have h24:=f24.row0 h18;have E24:=E18.fr f24 sQ;refine qT h24 rfl ⟨⟨dQ,dQ⟩,⟨dQ,dQ⟩,?_⟩;have hG24:z.Gv w24 (xI (adlerL z.fin)):=(hGo _ h3).fr f24 sQ;have F24:Fr (z.S g) w w24:=F18.trans (f24.mono sQ);have hG24':Gives w24 z.bb z.gb z.db z.rb z.kb z.p z.d z.t (xI (adlerL z.fin)) z.s:=hG24;refine CallT.mono (hG24'.c71 (g:=z.zb) (o:=4) E24 hlo h24 oQ oQ oQ (by rw[ZP.arr_size];omega) dQ dQ dQ (by rw[qZ];decide)) ?_;rintro _ w27 ⟨F27,n27,hv⟩;have F2427:Fr (z.S g) w w27:=F24.trans (F27.mono (by simp[ZP.S]));have E27:=E24.fr F27 (by simp;omega);have hAd27:=(hAd18.fr f24 sQ).fr F27 (by simp;omega);have hg27:g≠z.db ->hp w27 g=Row T arr7:=fun hne=>F27.row (f24.row0 hg18) (by simp;omega);have alen:=aU z.fin;rcases hv with⟨rfl,⟨arr',hz27,hp27⟩,hG27⟩|⟨xs,e',hxn,rfl,he',hD27,arr',hz27,hp27⟩
    ·rw[List.take_of_length_le (by rw[qZ];decide)]at hp27
     have e4:=ZP.arr_put hp27 (by rw[qZ];omega);subst e4;rw[List.drop_eq_nil_of_le (by rw[qZ];omega),List.append_nil]at hz27;rw[List.drop_eq_nil_of_le (by rw[qZ];decide)]at hG27;refine⟨_,_,rfl,qR (qM ?_)⟩;refine qE fun w40 f40 n40=>⟨⟨dQ,dQ⟩,?_⟩;have h40:=f40.row0 hz27;refine CallT.mono (c133 (ZP.arr_has h40) (by rw[qZ];decide) dQ) ?_;rintro _ w42 ⟨rfl,f42,n42⟩;have h42:=f42.row0 h40;refine⟨_,rfl,qT h42 rfl (qCh ?_)⟩;have hAd42:=(hAd27.fr f40 sQ).fr f42 sQ;refine CallT.mono (c263 hAd42) ?_;rintro _ w46 ⟨rfl,rfl⟩;refine⟨_,rfl,?_⟩;rw[h1,vA alen];refine xU (fun hc=>absurd rfl hc) (fun _ => ?_);refine qE fun w52 f52 n52=> ?_;have F52:Fr [] w27 w52:=f40.trans (f42.trans f52);have E52:=E27.fr F52 sQ;obtain⟨T1,heof52⟩:=E52.eof;refine qT (n:=xP z.E.ea) heof52 rfl ?_;have hEnd:z.End w52 (pre++rest) (xP z.E.ea):= .inl ⟨h1,rfl,hG27.fr F52 sQ⟩;exact⟨F2427.trans (F52.mono sQ),oQ,rest,xP z.E.ea,oQ,by rw[<-hxl],⟨_,⟨⟨_,qZ _,F52.row0 hz27⟩,hord,E52,hlo,hB.len⟩,.inr ⟨jR _,hEnd,⟨_,_,((hFB18.fr f24 sQ sQ).fr F27 (by simp;omega) (by simp;omega)).fr F52 sQ sQ,.inl rfl⟩⟩⟩,fun hne=>⟨arr7,F52.row0 (hg27 hne),hp7⟩,.inr ⟨jR _,hEnd⟩⟩
    ·refine⟨_,_,rfl,he'.nil (xA ?_)⟩
     obtain⟨T1,heof27⟩:=E27.eof;obtain⟨T2,hune27⟩:=E27.une;have e4:=ZP.arr_put hp27 oQ;subst e4;obtain⟨b,hb',hec⟩:=he';have fin:∀(e2:Value) (w34:wQ),Errx z.E z.t e2 ->hp w34 z.zb=Row 251 (z.arr e2 (xs++us.drop xs.length)) ->Fr [z.zb] w27 w34 ->hn w34=hn w27 ->qO w34 fun w35=>LdV w35 ⟨z.zb,0+3,none⟩ fun v36=>(Fr (z.S g) w w35/\hn w<=hn w35/\∃xs ev,xs.length<=n/\(Value.tuple #[.int .i64 ((min rest.length n:Nat):Int),v36])= .tuple #[.int .i64 (xs.length:Nat),ev]/\z.ZS w35 (pre++xs)/\(g≠z.db ->∃arr',hp w35 g=Row T arr'/\Put arr o (bv xs) arr')/\((ev= .nilIface/\xs.length=n)\/(IsE ev/\z.End w35 (pre++xs) ev))):=by
      intro e2 w34 hx2 hz34 f34 n34;refine qE fun w35 f35 n35=>qT (f35.row0 hz34) rfl ?_;have F35:Fr [z.zb] w27 w35:=f34.trans (f35.mono sQ);have hEnd:z.End w35 (pre++rest) e2:= .inr ⟨hx2,hD27.fr F35 (by simp;omega)⟩;refine⟨F2427.trans (F35.mono (by simp[ZP.S])),oQ,rest,e2,oQ,by rw[<-hxl];rfl,⟨e2,⟨⟨_,by simp;omega,f35.row0 hz34⟩,hord,E27.fr F35 (by simp;omega),hlo,hB.len⟩,.inr ⟨hx2.isE,hEnd,⟨_,_,((hFB18.fr f24 sQ sQ).fr F27 (by simp;omega) (by simp;omega)).fr F35 (by simp;omega) (by simp;omega),.inl rfl⟩⟩⟩,fun hne=>⟨arr7,F35.row1 (hg27 hne) oQ,hp7⟩,.inr ⟨hx2.isE,hEnd⟩⟩
     refine qT (n:=xP z.E.ea) heof27 rfl (hec.eqEof E27 (fun hv=>xA ?_) (fun hv=>qM ?_))
     ·refine qT (n:=xP z.E.ua) hune27 rfl (zK (mP _) ?_)
      refine qD hz27 (by rw[ZP.arr_size];show 0+3<_;omega) fun w34 h34 f34 n34=> ?_;rw[ZP.arr_set]at h34;refine fin _ w34 ⟨b,hb',?_,fun e=>E27.ne (by simpa [xP]using e.symm)⟩ h34 f34 n34;subst hv
      cases b with
      |true=>obtain⟨s,hs⟩:=hec;simp[xP]at hs
      |false=>exact .inr rfl
     ·refine zK hec.one ?_
      refine qD hz27 (by rw[ZP.arr_size];show 0+3<_;omega) fun w37 h37 f37 n37=> ?_;rw[ZP.arr_set]at h37;exact fin _ w37 ⟨b,hb',hec,hv⟩ h37 f37 n37
 ·refine qT hz rfl (hIs.nil (xA ?_))
  refine qE fun w3 f3 n3=>qT (f3.row0 hz) rfl ?_;have hEnd3:=hEnd.fr f3 sQ oQ;have hB3:z.Base w3 err:=⟨⟨us,hus,f3.row0 hz⟩,hord,hB.er.fr f3 sQ,hlo,hB.len⟩;refine⟨f3.mono sQ,oQ,[],err,sQ,rfl,⟨err,hB3,.inr ⟨hIs,by simpa using hEnd3,(let⟨a,b,c,d⟩:=hFC;⟨a,b,c.fr f3 sQ sQ,d⟩)⟩⟩,fun _ =>⟨arr,f3.row0 hg,Put.nil _ _⟩,.inr ⟨hIs,by simpa using hEnd3⟩⟩
end
end Go.Proofs
