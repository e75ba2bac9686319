/- Steps of the proofs: contracts of the functions, for all their arguments that meet what each names -/
import Derived.Orders
import Derived.Tactics
import Derived.Laws.Sem
import Derived.Laws.World
import Derived.Laws.Cells
import Derived.Laws.Entries
import Derived.Control
import Derived.KernelRfl
import Derived.Test.YtklagmhonmbdgaaGreatDoorProg
import Derived.Laws.OwnMore
import Derived.Laws.Concat
import Derived.Laws.BytesArg
import Derived.Laws.IdiomStrings
set_option maxRecDepth 1000000
set_option linter.unusedVariables false
set_option linter.unusedSimpArgs false
set_option maxHeartbeats 4000000
abbrev bQ := List UInt8
abbrev pQ := Option Go.Addr
abbrev vQ := Array Go.Value
abbrev wQ := Go.World
theorem oQ {p : Prop} (h : p := by omega) : p := h
theorem dQ {p : Prop} (h : p := by decide) : p := h
theorem sQ {p : Prop} (h : p := by simp) : p := h
theorem nQ {a b : Nat} {p : Prop} (h : a ≠ b := by decide) : a = b → p := fun e => absurd e h
theorem gQ {K : Go.IntKind} {x y : Int} (h : x = y) : some (Go.Value.int K x) = some (Go.Value.int K y) := congrArg some (congrArg (Go.Value.int K) h)
namespace Go.V
open Go
open Go.IntKind (wrap)
def writes:Op ->Bool
 | .move _ | .assign _ | .pick .. | .load .. | .nilCheck _ | .binOp .. | .unOp .. | .makeInterface .. | .makeFunc .. | .slice .. | .fieldAddr .. | .field .. | .indexAddr .. | .index ..
 | .extract .. | .typeAssert .. | .build .. | .convert .. =>false
 | .call c=>match c.callee with| .builtin .len| .builtin .cap| .builtin .min| .builtin .max=>false|_ =>true
 |_ =>true
section
variable{wr:Op ->Bool}{P:Program}{ops:Array Oper}{Q:Exit ->Act ->World ->Prop}
def yP(wr:Op ->Bool)(P:Program)(ops:Array Oper)(Q:Exit ->Act ->World ->Prop)(K:Act ->World ->Prop):List Nat ->Act ->World ->Prop
 |[],a,w=>K a w
 |i::r,a,w=>
  match ops[i]? with
  |none=>yP wr P ops Q K r a w
  |some o=>
   if Region.wanted o (yielded ops a.tmps)then
    if wr o.op then o.wp P a w (yP wr P ops Q K r) Q
    else∃v,(execOp a.eval o).run P w= .ok (.value v) w/\yP wr P ops Q K r (a.put o.dst v) w
   else yP wr P ops Q K r (a.put o.dst undef) w
theorem hU{K:Act ->World ->Prop}(hK:∀a w,K a w ->Q .normal a w):∀(l:List Nat) (a:Act) (w:wQ),yP wr P ops Q K l a w ->wpOps P ops Q l a w:=by
 intro l
 induction l with
 |nil=>intro a w h;exact hK _ _ h
 |cons i r ih=>
  intro a w h;simp only[yP]at h;simp only[wpOps]
  cases ho:ops[i]? with
  |none=>simp only[ho]at h⊢;exact ih _ _ h
  |some o=>
   simp only[ho]at h⊢
   split
   ·rename_i hw
    simp only[hw,if_true]at h;refine .inl ?_
    split at h
    ·exact Oper.wp_mono (fun a w=>ih a w) h
    ·obtain⟨v,hr,hn⟩:=h
     simp only[Oper.wp,hr,Oper.upon_value];exact ih _ _ hn
   ·rename_i hw
    simp only[hw]at h;exact ih _ _ h
def uR(o:Oper):List Nat:=(o.after.toList.filter (Region.binds .any)).map (·.on)
def qAh:List Oper ->List (List Nat) ->List (List Nat)
 |[],t=>t
 |o::r,t=>qAh r (t++[((uR o).flatMap fun p=>p::t.getD p []).eraseDups])
def aM(ops:Array Oper):List (List Nat):=qAh ops.toList []
def iU(wr:Op ->Bool)(o:Oper):Bool:= !wr o.op
def iR(wr:Op ->Bool)(ops:Array Oper):Bool:=
 let t:=aM ops
 (List.range ops.size).all fun j=>
  match ops[j]? with
  |none=>false
  |some oj=>
   (uR oj).all (·<j)&&(match oj.op with| .select .. =>false|_ =>true)&&
   (List.range j).all fun k=>(t.getD j []).contains k||(match ops[k]? with|none=>false|some ok=>iU wr oj&&iU wr ok&&ok.apart ops oj)
theorem tS{x y:Oper}{a:Act}{v u:Value}(h:x.apart ops y=true):(a.put x.dst v).put y.dst u=(a.put y.dst u).put x.dst v:=
 Act.put_comm a v u (Oper.apart_spec h).2.1
theorem front{K:Act ->World ->Prop}{j:Nat}{oj:Oper}(hj:ops[j]? =some oj)(hrj:wr oj.op=false)(hsj:∀cs b,oj.op≠ .select cs b)(r:List Nat):
  ∀(l:List Nat) (a:Act) (w:wQ),(∀k∈l,∃ok,ops[k]? =some ok/\wr ok.op=false/\(∀cs b,ok.op≠ .select cs b)/\ok.apart ops oj=true) ->
   yP wr P ops Q K (l++j::r) a w ->yP wr P ops Q K (j::(l++r)) a w:=by
 intro l
 induction l with
 |nil=>intro a w _ h;exact h
 |cons k l ih=>
  intro a w hl h;obtain⟨ok,hk,hrk,hsk,hap⟩:=hl k sQ;have ih':=fun a w h=>ih a w (fun k' hk'=>hl k' (by simp[hk'])) h;obtain⟨h1,h2,h3⟩:=Oper.apart_spec hap;simp only[List.cons_append,yP,hk,hrk,Bool.false_eq_true,if_false]at h;simp only[List.cons_append,yP,hj,hk,hrj,hrk,Bool.false_eq_true,if_false];have key:∀u,yP wr P ops Q K (l++j::r) (a.put ok.dst u) w ->
    (if Region.wanted oj (yielded ops a.tmps)=true then∃v,(execOp a.eval oj).run P w= .ok (.value v) w/\yP wr P ops Q K (l++r) ((a.put oj.dst v).put ok.dst u) w
     else yP wr P ops Q K (l++r) ((a.put oj.dst undef).put ok.dst u) w):=by
   intro u hu;have:=ih' _ _ hu;simp only[yP,hj,hrj,Bool.false_eq_true,if_false]at this;rw[wanted_put oj a ok.dst u h1,execOp_put (ops:=ops) oj hsj a ok.dst u h1]at this
   split
   ·rename_i hw
    simp only[hw,if_true]at this;obtain⟨v,hv,hn⟩:=this;refine⟨v,hv,?_⟩;rw[<-tS hap];exact hn
   ·rename_i hw
    simp only[hw]at this;rw[<-tS hap];exact this
  have back:∀v,Region.wanted ok (yielded ops (a.put oj.dst v).tmps)=Region.wanted ok (yielded ops a.tmps):=fun v=>wanted_put ok a oj.dst v h3;have backr:∀v,execOp (a.put oj.dst v).eval ok=execOp a.eval ok:=fun v=>execOp_put (ops:=ops) ok hsk a oj.dst v h3
  split at h
  ·rename_i hwk
   obtain⟨u,hu,hn⟩:=h;have:=key u hn
   split
   ·rename_i hwj
    simp only[hwj,if_true]at this;obtain⟨v,hv,hn⟩:=this;exact⟨v,hv,by rw[back,backr];simp only[hwk,if_true];exact⟨u,hu,hn⟩⟩
   ·rename_i hwj
    simp only[hwj]at this;rw[back,backr];simp only[hwk,if_true];exact⟨u,hu,this⟩
  ·rename_i hwk
   have:=key undef h
   split
   ·rename_i hwj
    simp only[hwj,if_true]at this;obtain⟨v,hv,hn⟩:=this;exact⟨v,hv,by rw[back];simp only[hwk];exact hn⟩
   ·rename_i hwj
    simp only[hwj]at this;rw[back];simp only[hwk];exact this
structure Inv (ops:Array Oper) (listed:Array Bool):Prop where
 size:listed.size=ops.size
 closed:∀j oj,ops[j]? =some oj ->listed.getD j false=true ->∀p∈uR oj,listed.getD p false=true
theorem iA{S:Nat ->Prop}(hS:∀j oj,ops[j]? =some oj ->S j ->∀p∈uR oj,S p):
  ∀(l:List Oper) (t:List (List Nat)),(∀i o,l[i]? =some o ->ops[t.length+i]? =some o) ->
   (∀j oj,ops[j]? =some oj ->(∀p∈uR oj,S p) ->∀k∈t.getD j [],S k) ->
   ∀j oj,ops[j]? =some oj ->(∀p∈uR oj,S p) ->∀k∈(qAh l t).getD j [],S k:=by
 intro l
 induction l with
 |nil=>intro t _ h;exact h
 |cons o l ih=>
  intro t hl ht;simp only[qAh];refine ih _ (fun i o' hi=> ?_) ?_
  ·have:=hl (i+1) o' (by simpa using hi)
   simpa [Nat.add_assoc,Nat.add_comm 1 i]using this
  ·intro j oj hj hw k hk
   have h0:=hl 0 o sQ;rcases Nat.lt_trichotomy j t.length with hlt|heq|hgt
   ·have:(t++[((uR o).flatMap fun p=>p::t.getD p []).eraseDups]).getD j []=t.getD j []:=by
     simp[List.getD_eq_getElem?_getD,List.getElem?_append_left hlt]
    rw[this]at hk;exact ht j oj hj hw k hk
   ·subst heq
    have hoo:oj=o:=Option.some.inj (hj.symm.trans (by simpa using h0));subst hoo;have:(t++[((uR oj).flatMap fun p=>p::t.getD p []).eraseDups]).getD t.length []=((uR oj).flatMap fun p=>p::t.getD p []).eraseDups:=by
     simp[List.getD_eq_getElem?_getD]
    rw[this]at hk;have hk:=List.mem_flatMap.1 (List.mem_eraseDups.1 hk);obtain⟨p,hp,hkp⟩:=hk;have hSp:=hw p hp;rcases List.mem_cons.1 hkp with rfl|hkp
    ·exact hSp
    ·cases hop:ops[p]? with
     |none=>
      exfalso
      have hge:ops.size<=p:=by simpa using hop
      have htl:t.length<=ops.size:=by
       have:=(Array.getElem?_eq_some_iff.1 (by simpa using h0:ops[t.length]? =some oj)).1;omega
      have:t.getD p []=[]:=by
       simp[List.getD_eq_getElem?_getD,List.getElem?_eq_none (show t.length<=p by omega)]
      rw[this]at hkp
      cases hkp
     |some op=>exact ht p op hop (hS p op hop hSp) k hkp
   ·have:(t++[((uR o).flatMap fun p=>p::t.getD p []).eraseDups]).getD j []=[]:=by
     rw[List.getD_eq_getElem?_getD,List.getElem?_eq_none (by simp;omega)];rfl
    rw[this]at hk
    cases hk
theorem fD{S:Nat ->Prop}(hS:∀j oj,ops[j]? =some oj ->S j ->∀p∈uR oj,S p){j:Nat}{oj:Oper}(hj:ops[j]? =some oj)(hw:∀p∈uR oj,S p):
  ∀k∈(aM ops).getD j [],S k:=
 iA hS ops.toList [] (fun i o h=>by simpa using h) (fun j _ _ _ k hk=>by simp at hk) j oj hj hw
def left(ops:Array Oper)(listed:Array Bool):List Nat:=(List.range ops.size).filter fun i=> !listed.getD i false
theorem vW{listed:Array Bool}{i:Nat}(h:i∈Region.ready .any ops listed):
  i<ops.size/\listed.getD i true=false/\∃o,ops[i]? =some o/\∀p∈uR o,listed.getD p false=true:=by
 simp only[Region.ready,List.mem_filter,List.mem_range,Bool.and_eq_true,Bool.not_eq_true']at h;obtain⟨hi,hu,hr⟩:=h;refine⟨hi,hu,?_⟩;have ho:ops[i]? =some ops[i]:=Array.getElem?_eq_getElem hi;refine⟨ops[i],ho,fun p hp=> ?_⟩;simp only[ho,Option.map_some,Option.getD_some,Array.all_eq_true']at hr;simp only[uR,List.mem_map,List.mem_filter]at hp;obtain⟨e,⟨he,hb⟩,rfl⟩:=hp;have:=hr e (by simpa using he)
 simpa [hb]using this
theorem oW{listed:Array Bool}{i:Nat}{o:Oper}(hi:i<ops.size)(hu:listed.getD i true=false)(ho:ops[i]? =some o)(hw:∀p∈uR o,listed.getD p false=true):
  i∈Region.ready .any ops listed:=by
 simp only[Region.ready,List.mem_filter,List.mem_range,Bool.and_eq_true,Bool.not_eq_true'];refine⟨hi,hu,?_⟩;simp only[ho,Option.map_some,Option.getD_some,Array.all_eq_true'];intro e he
 cases hb:Region.binds .any e with
 |false=>rfl
 |true=>
  have:=hw e.on (List.mem_map.2 ⟨e,List.mem_filter.2 ⟨by simpa using he,hb⟩,rfl⟩)
  simpa using this
theorem mU{listed:Array Bool}{i:Nat}(hi:i<listed.size):listed.getD i true=listed.getD i false:=by simp[hi]
theorem bK{listed:Array Bool}{j:Nat}(hs:listed.size=ops.size)(hj:j<ops.size)(hu:listed.getD j false=false):
  ∃l r,left ops listed=l++j::r/\left ops (listed.setIfInBounds j true)=l++r/\(∀k∈l,k<j/\listed.getD k false=false):=by
 have hr:List.range ops.size=List.range j++j::(List.range' (j+1) (ops.size -(j+1))):=by
  rw[List.range_eq_range',List.range_eq_range'];have h1:ops.size=j+(1+(ops.size -(j+1))):=oQ
  conv=>lhs;rw[h1]
  rw[<-List.range'_append_1,show 0+j=j by omega,<-List.range'_append_1];simp
 have hset:∀k,k≠j ->(listed.setIfInBounds j true).getD k false=listed.getD k false:=by
  intro k hk;simp only[Array.getD_eq_getD_getElem?,Array.getElem?_setIfInBounds_ne (Ne.symm hk)]
 have hsj:(listed.setIfInBounds j true).getD j false=true:=by
  have:j<listed.size:=oQ;simp[this]
 refine⟨(List.range j).filter (fun i=> !listed.getD i false),(List.range' (j+1) (ops.size -(j+1))).filter (fun i=> !listed.getD i false),?_,?_,?_⟩
 ·rw[left,hr,List.filter_append,List.filter_cons]
  rw[hu];simp
 ·rw[left,hr,List.filter_append,List.filter_cons]
  rw[hsj];simp only[Bool.not_true,Bool.false_eq_true,if_false]
  congr 1
  ·refine List.filter_congr fun k hk=> ?_
   rw[hset k (by have:=List.mem_range.1 hk;omega)]
  ·refine List.filter_congr fun k hk=> ?_
   rw[hset k (by have:=List.mem_range'.1 hk;omega)]
 ·intro k hk
  have:=List.mem_filter.1 hk;exact⟨List.mem_range.1 this.1,by simpa using this.2⟩
theorem lV(h:iR wr ops=true){j:Nat}{oj:Oper}(hj:ops[j]? =some oj):
  (∀p∈uR oj,p<j)/\(∀cs b,oj.op≠ .select cs b)/\
  ∀k,k<j ->k∈(aM ops).getD j []\/∃ok,ops[k]? =some ok/\wr oj.op=false/\wr ok.op=false/\ok.apart ops oj=true:=by
 have hlt:=(Array.getElem?_eq_some_iff.1 hj).1;have h':=List.all_eq_true.1 h j (List.mem_range.2 hlt);simp only[hj,Bool.and_eq_true,List.all_eq_true,decide_eq_true_eq,Bool.or_eq_true]at h';obtain⟨⟨h1,h2⟩,h3⟩:=h';refine⟨h1,fun cs b e=>by simp[e]at h2,fun k hk=> ?_⟩;rcases h3 k (List.mem_range.2 hk)with h4|h4
 ·exact .inl (by simpa using h4)
 ·right
  cases hok:ops[k]? with
  |none=>simp[hok]at h4
  |some ok=>
   simp only[hok,Bool.and_eq_true,iU,Bool.not_eq_true']at h4;exact⟨ok,rfl,h4.1.1,h4.1.2,h4.2⟩
theorem dA{K:Act ->World ->Prop}(hK:∀a w,K a w ->Q .normal a w)(hd:iR wr ops=true):
  ∀(fuel:Nat) (listed:Array Bool) (a:Act) (w:wQ),Inv ops listed ->(left ops listed).length=fuel ->yP wr P ops Q K (left ops listed) a w ->wpAny P .any ops Q fuel listed a w:=by
 intro fuel
 induction fuel with
 |zero=>
  intro listed a w inv hf h;have hn:left ops listed=[]:=List.length_eq_zero_iff.1 hf;rw[hn]at h;refine⟨?_,hK _ _ h⟩;refine List.eq_nil_iff_forall_not_mem.2 fun i hi=> ?_;obtain⟨hlt,hu,_⟩:=vW hi;rw[mU (by rw[inv.size];exact hlt)]at hu;have:i∈left ops listed:=List.mem_filter.2 ⟨List.mem_range.2 hlt,by simp[hu]⟩;rw[hn]at this
  cases this
 |succ fuel ih=>
  intro listed a w inv hf h
  constructor
  ·intro hr
   exfalso
   cases hl:left ops listed with
   |nil=>rw[hl]at hf;simp at hf
   |cons j r=>
    have hj:j∈left ops listed:=by rw[hl];simp
    have hj':=List.mem_filter.1 hj;have hlt:=List.mem_range.1 hj'.1;have hu:listed.getD j false=false:=by simpa using hj'.2
    have ho:ops[j]? =some ops[j]:=Array.getElem?_eq_getElem hlt;have hw:∀p∈uR ops[j],listed.getD p false=true:=by
     intro p hp;have hpj:=(lV hd ho).1 p hp
     cases hpl:listed.getD p false with
     |true=>rfl
     |false=>
      exfalso
      obtain⟨l,r',e1,_,hl'⟩:=bK inv.size hlt hu;have hpm:p∈left ops listed:=List.mem_filter.2 ⟨List.mem_range.2 oQ,by simp[hpl]⟩;rw[hl]at e1
      cases l with
      |nil=>
       have hpm2:p∈j::r:=by rw[<-hl];exact hpm
       have hsorted:(left ops listed).Pairwise (·<·):=List.Pairwise.filter _ List.pairwise_lt_range;rw[hl]at hsorted;rcases List.mem_cons.1 hpm2 with rfl|hpr
       ·omega
       ·have:=(List.pairwise_cons.1 hsorted).1 p hpr
        omega
      |cons x l=>
       simp only[List.cons_append,List.cons.injEq]at e1;have:=hl' x sQ;omega
    have:=oW hlt (by rw[mU (by rw[inv.size];exact hlt)];exact hu) ho hw;rw[hr]at this
    cases this
  ·intro j hj
   obtain⟨hlt,hu,oj,hoj,hw⟩:=vW hj;rw[mU (by rw[inv.size];exact hlt)]at hu;obtain⟨l,r,e1,e2,hl⟩:=bK inv.size hlt hu;obtain⟨_,hsj,hpair⟩:=lV hd hoj;have hfront:yP wr P ops Q K (j::(l++r)) a w:=by
    rw[e1]at h
    cases l with
    |nil=>exact h
    |cons x l'=>
     have hall:∀k∈x::l',∃ok,ops[k]? =some ok/\wr oj.op=false/\wr ok.op=false/\ok.apart ops oj=true:=by
      intro k hk;obtain⟨hkj,hkl⟩:=hl k hk;rcases hpair k hkj with hanc|h4
      ·exfalso
       have:=fD (ops:=ops) (S:=fun p=>listed.getD p false=true) (fun i oi hi hs=>inv.closed i oi hi hs) hoj hw k hanc;rw[hkl]at this
       cases this
      ·exact h4
     obtain⟨_,_,hrj,_,_⟩:=hall x sQ;refine front hoj hrj hsj r (x::l') a w (fun k hk=> ?_) h;obtain⟨ok,h1,_,h3,h4⟩:=hall k hk;exact⟨ok,h1,h3,(lV hd h1).2.1,h4⟩
   have inv':Inv ops (listed.setIfInBounds j true):=by
    refine⟨by simp[inv.size],fun i oi hi hli p hp=> ?_⟩;have hset:∀k,listed.getD k false=true ->(listed.setIfInBounds j true).getD k false=true:=by
     intro k hk
     by_cases hkj:k=j
     ·subst hkj;have:k<listed.size:=by rw[inv.size];exact hlt
      simp[this]
     ·simp only[Array.getD_eq_getD_getElem?,Array.getElem?_setIfInBounds_ne (Ne.symm hkj)]at hk⊢;exact hk
    by_cases hij:i=j
    ·subst hij
     have:oi=oj:=Option.some.inj (hi.symm.trans hoj);subst this;exact hset p (hw p hp)
    ·have hli':listed.getD i false=true:=by
      simp only[Array.getD_eq_getD_getElem?,Array.getElem?_setIfInBounds_ne (Ne.symm hij)]at hli⊢;exact hli
     exact hset p (inv.closed i oi hi hli' p hp)
   have hlen:(left ops (listed.setIfInBounds j true)).length=fuel:=by
    rw[e2];rw[e1]at hf;simp at hf⊢;omega
   have hnext:∀a w,yP wr P ops Q K (l++r) a w ->wpAny P .any ops Q fuel (listed.setIfInBounds j true) a w:=by
    intro a w h;exact ih _ _ _ inv' hlen (by rw[e2];exact h)
   simp only[wpOp,hoj];simp only[yP,hoj]at hfront
   split
   ·rename_i hwant
    simp only[hwant,if_true]at hfront;refine .inl ?_
    split at hfront
    ·exact Oper.wp_mono hnext hfront
    ·obtain⟨v,hr,hn⟩:=hfront
     simp only[Oper.wp,hr,Oper.upon_value];exact hnext _ _ hn
   ·rename_i hwant
    simp only[hwant]at hfront;exact hnext _ _ hfront
theorem oN:left ops (Array.replicate ops.size false)=List.range ops.size:=by
 unfold left;refine List.filter_eq_self.2 fun i hi=> ?_;have:=List.mem_range.1 hi;simp[this]
theorem qIp{id:Nat}{a:Act}{w:wQ}{K:Act ->World ->Prop}(hm:P.follows .mixedOrders=true)(hd:iR wr ops=true)(hK:∀a w,K a w ->Q .normal a w)
  (h:yP wr P ops Q K (List.range ops.size) a {w with drawn:=w.drawn+1}):(Code.region id ops true).wp P Q a w:=by
 refine wp_region_any hm (dA hK hd _ _ _ _ ⟨sQ,fun j oj _ h=> ?_⟩ (by rw[oN];simp) (by rw[oN];exact h))
 exfalso
 by_cases hj:j<ops.size
 ·simp[hj]at h
 ·simp[hj]at h
theorem qGg{id:Nat}{a:Act}{w:wQ}{K:Act ->World ->Prop}(hK:∀a w,K a w ->Q .normal a w)
  (h:yP wr P ops Q K (List.range ops.size) a w):(Code.region id ops false).wp P Q a w:=
 wp_region (hU hK _ _ _ h)
end
structure Sl where
 a:pQ
 len:Nat
 cap:Nat
inductive Kd where
 |i (k:IntKind)
 |b
 |s
 |sl
 |p
 |v
@[reducible] def Kd.T:Kd ->Type
 | .i _ =>Int
 | .b=>Bool
 | .s=>ByteArray
 | .sl=>Sl
 | .p=>pQ
 | .v=>Value
def Kd.val:(k:Kd) ->k.T ->Value
 | .i k,x=> .int k x
 | .b,x=> .bool x
 | .s,x=> .string x
 | .sl,x=> .slice x.a x.len x.cap
 | .p,x=> .pointer x
 | .v,x=>x
def Kd.un:(k:Kd) ->Value ->(k.T ->Prop) ->Prop
 | .i k,.int k' x,K=>match decide (k=k')with|true=>K x|false=>False
 | .b,.bool x,K=>K x
 | .s,.string x,K=>K x
 | .sl,.slice x y z,K=>K ⟨x,y,z⟩
 | .p,.pointer x,K=>K x
 | .v,x,K=>K x
 |_,_,_ =>False
theorem qIo{k:Kd}{v:Value}{K:k.T ->Prop}(h:k.un v K):∃x,v=k.val x/\K x:=by
 cases k<;>cases v<;>simp only[Kd.un]at h<;>first
  |exact h.elim
  |exact⟨_,rfl,h⟩
  |(rename_i k k' n
    split at h
    ·rename_i e;have e:=of_decide_eq_true e;subst e;exact⟨_,rfl,h⟩
    ·exact h.elim)
def exK:(k:Kd) ->(Value ->Prop) ->Prop
 | .i k,K=>∃n:Int,K (.int k n)
 | .b,K=>∃b:Bool,K (.bool b)
 | .s,K=>∃s:ByteArray,K (.string s)
 | .sl,K=>∃a:pQ,∃l c:Nat,K (.slice a l c)
 | .p,K=>∃p:pQ,K (.pointer p)
 | .v,K=>∃v:Value,K v
def exKs:List Kd ->(List Value ->Prop) ->Prop
 |[],K=>K []
 |k::ks,K=>exK k fun v=>exKs ks fun vs=>K (v::vs)
theorem qEo{k:Kd}{K:Value ->Prop}(h:exK k K):∃v,K v:=by
 cases k<;>simp only[exK]at h
 all_goals first
  |(obtain⟨_,h⟩:=h;exact⟨_,h⟩)
  |(obtain⟨_,_,_,h⟩:=h;exact⟨_,h⟩)
theorem cE:∀{ks:List Kd} {K:List Value ->Prop},exKs ks K ->∃vs,K vs
 |[],_,h=>⟨_,h⟩
 |_ ::_,_,h=>let⟨_,h1⟩:=qEo h;let⟨_,h2⟩:=cE h1;⟨_,h2⟩
def kdOf:Value ->Kd
 | .int k _ => .i k
 | .bool _ => .b
 | .string _ => .s
 | .slice .. => .sl
 | .pointer _ => .p
 |_ => .v
def qN:pQ ->(Addr ->Prop) ->Prop
 |some a,K=>K a
 |none,_ =>False
def IfC:Bool ->Prop ->Prop ->Prop
 |true,X,_ =>X
 |false,_,Y=>Y
def zQ(b:Int)(X:Prop):Prop:=if b=0 then False else X
def ShC(b:Int)(X:Prop):Prop:=if b<0 then False else X
def yE:Bool ->Prop ->Prop
 |true,X=>X
 |false,_ =>False
def xH{T:Type}(J:T ->World ->Prop)(B:(T ->World ->Prop) ->Prop):Prop:=B J
theorem uP{q:pQ}{K:Addr ->Prop}(h:qN q K):∃a,q=some a/\K a:=by cases q with|none=>exact h.elim|some a=>exact⟨a,rfl,h⟩
section types
variable(P:Program)
def gM(t:TypeId):Option (List Kd):=
 match P.info? t with
 |some i=>match i.zero with
  |some z=>match Nat.beq z.cells.size i.size with|true=>some (z.cells.toList.map kdOf)|false=>none
  |none=>none
 |none=>none
def zc(t:TypeId):vQ:=match P.info? t with|some i=>(match i.zero with|some z=>z.cells|none=> #[])|none=> #[]
def zv(t:TypeId):Option Value:=match P.info? t with|some i=>i.zero|none=>none
def fW(t:TypeId):Option Bool:=
 match P.underlying t with
 |some (.struct _)|some (.array _ _)=>some true
 |some _ =>some false
 |none=>none
def exTy(t:TypeId)(K:Value ->Prop):Prop:=
 match P.underlying t with
 |some (.int k)=>∃n:Int,K (.int k n)
 |some .bool=>∃b:Bool,K (.bool b)
 |some .string=>∃s:ByteArray,K (.string s)
 |some (.slice _)=>∃a:pQ,∃l c:Nat,K (.slice a l c)
 |some (.pointer _)=>∃p:pQ,K (.pointer p)
 |some (.struct _)|some (.array _ _)=>
  match Nat.ble (P.cellsOf t) 16 with
  |true=>match gM P t with|some ks=>exKs ks fun vs=>K (.agg vs.toArray)|none=>False
  |false=>∃cs:vQ,K (.agg cs)
 |some _ =>∃v:Value,K v
 |none=>False
def qEp:List TypeId ->(List Value ->Prop) ->Prop
 |[],K=>K []
 |t::ts,K=>exTy P t fun v=>qEp ts fun vs=>K (v::vs)
def TyR(t:TypeId)(v:Value)(K:Value ->Prop):Prop:=
 match P.underlying t with
 |some (.tuple ts)=>qEp P ts.toList fun vs=>v= .tuple vs.toArray/\K (.tuple vs.toArray)
 |some _ =>exTy P t fun x=>v=x/\K x
 |none=>False
end types
theorem sN{P:Program}{t:TypeId}{K:Value ->Prop}(h:exTy P t K):∃v,K v:=by
 unfold exTy at h
 split at h
 any_goals first
  |exact h.elim
  |(obtain⟨_,h⟩:=h;exact⟨_,h⟩)
  |(obtain⟨_,_,_,h⟩:=h;exact⟨_,h⟩)
 all_goals
  split at h
  ·split at h
   ·obtain⟨_,h⟩:=cE h;exact⟨_,h⟩
   ·exact h.elim
  ·obtain⟨_,h⟩:=h;exact⟨_,h⟩
theorem bC{P:Program}:∀{ts:List TypeId} {K:List Value ->Prop},qEp P ts K ->∃vs,K vs
 |[],_,h=>⟨_,h⟩
 |_ ::_,_,h=>let⟨_,h1⟩:=sN h;let⟨_,h2⟩:=bC h1;⟨_,h2⟩
theorem dT{P:Program}{t:TypeId}{v:Value}{K:Value ->Prop}(h:TyR P t v K):K v:=by
 unfold TyR at h
 split at h
 ·obtain⟨vs,h1,h2⟩:=bC h;rw[h1];exact h2
 ·obtain⟨x,h1,h2⟩:=sN h;rw[h1];exact h2
 ·exact h.elim
abbrev Env:=List (Nat×Value)
def Env.get:Env ->Nat ->Option Value
 |[],_ =>none
 |(s,v)::r,t=>match Nat.beq s t with|true=>some v|false=>Env.get r t
def Env.put(e:Env):Option Tmp ->Value ->Env
 |some d,v=>(d,v)::e
 |none,_ =>e
structure Rep (n:Nat) (dfs:List Deferred) (e:Env) (a:Act):Prop where
 size:a.tmps.size=n
 get:∀s v,e.get s=some v ->s<n/\a.tmps.getD s undef=v
 defers:a.defers=dfs
theorem Rep.put{n:Nat}{dfs:List Deferred}{e:Env}{a:Act}(h:Rep n dfs e a){d:Option Tmp}(hd:∀x,d=some x ->x<n)(v:Value):Rep n dfs (e.put d v) (a.put d v):=by
 cases d with
 |none=>exact h
 |some d=>
  have hd:=hd d rfl;refine⟨by simp[Act.put,h.size],fun s u hs=> ?_,h.defers⟩;simp only[Env.put,Env.get]at hs
  split at hs
  ·rename_i e
   have e:=Nat.eq_of_beq_eq_true e;subst e;simp only[Option.some.injEq]at hs;subst hs;refine⟨hd,?_⟩;have:d<a.tmps.size:=by rw[h.size];exact hd
   simp[Act.put,this]
  ·rename_i e
   obtain⟨h1,h2⟩:=h.get s u hs;refine⟨h1,?_⟩;have hne:d≠s:=fun e'=>by subst e';simp[Nat.beq_refl]at e
   simp only[Act.put];rw[<-h2];simp only[Array.getD_eq_getD_getElem?,Array.getElem?_setIfInBounds_ne hne]
def ev(e:Env):Operand ->Option Value
 | .tmp t=>e.get t
 | .const v=>some v
 | .global g=>some (.pointer (some ⟨g,0,none⟩))
 | .func f=>some (.func (.func f) #[] #[])
def wv(e:Env)(x:Operand)(K:Value ->Prop):Prop:=match ev e x with|some v=>K v|none=>False
def wvs(e:Env):List Operand ->(List Value ->Prop) ->Prop
 |[],K=>K []
 |x::xs,K=>wv e x fun v=>wvs e xs fun vs=>K (v::vs)
def wvo(e:Env):Option Operand ->(Option Value ->Prop) ->Prop
 |none,K=>K none
 |some x,K=>wv e x fun v=>K (some v)
def wvp(e:Env):List (Nat×Operand) ->(List (Nat×Value) ->Prop) ->Prop
 |[],K=>K []
 |(i,x)::xs,K=>wv e x fun v=>wvp e xs fun vs=>K ((i,v)::vs)
section
variable{n:Nat}{dfs:List Deferred}{e:Env}{a:Act}
theorem qHf(h:Rep n dfs e a){x:Operand}{v:Value}(hv:ev e x=some v):a.eval x=v:=by
 cases x with
 |tmp t=>exact(h.get t v hv).2
 |_ =>simpa [ev,Act.eval]using hv
theorem xF(h:Rep n dfs e a){x:Operand}{K:Value ->Prop}(hk:wv e x K):K (a.eval x):=by
 unfold wv at hk
 split at hk
 ·rename_i v hv;rw[qHf h hv];exact hk
 ·exact hk.elim
theorem lG(h:Rep n dfs e a):∀{xs:List Operand} {K:List Value ->Prop},wvs e xs K ->K (xs.map a.eval)
 |[],_,hk=>hk
 |x::xs,K,hk=>lG h (xs:=xs) (K:=fun vs=>K (a.eval x::vs)) (xF (K:=fun v=>wvs e xs fun vs=>K (v::vs)) h hk)
theorem lE(h:Rep n dfs e a){x:Option Operand}{K:Option Value ->Prop}(hk:wvo e x K):K (x.map a.eval):=by
 cases x with
 |none=>exact hk
 |some x=>exact xF h hk
theorem lF(h:Rep n dfs e a):∀{xs:List (Nat×Operand)} {K:List (Nat×Value) ->Prop},wvp e xs K ->K (xs.map fun(i,x)=>(i,a.eval x))
 |[],_,hk=>hk
 |(i,x)::xs,K,hk=>lF h (xs:=xs) (K:=fun vs=>K ((i,a.eval x)::vs)) (xF (K:=fun v=>wvp e xs fun vs=>K ((i,v)::vs)) h hk)
end
section pure
variable(P:Program)(w:wQ)
def rA(a:Addr):Kd ->(Value ->Prop) ->Prop
 | .i k,K=>∃n:Int,w.cell? a=some (.int k n)/\K (.int k n)
 | .b,K=>∃b:Bool,w.cell? a=some (.bool b)/\K (.bool b)
 | .s,K=>∃s:ByteArray,w.cell? a=some (.string s)/\K (.string s)
 | .sl,K=>∃p:pQ,∃l c:Nat,w.cell? a=some (.slice p l c)/\K (.slice p l c)
 | .p,K=>∃p:pQ,w.cell? a=some (.pointer p)/\K (.pointer p)
 | .v,K=>∃v:Value,w.cell? a=some v/\K v
def iP(a:Addr):Nat ->List Kd ->(List Value ->Prop) ->Prop
 |_,[],K=>K []
 |i,k::ks,K=>rA w (a.add i) k fun v=>iP a (i+1) ks fun vs=>K (v::vs)
def LoadA(a:Addr)(n:Nat)(K:vQ ->Prop):Prop:=∃cs:vQ,(cs.size=n/\∀i,i<n ->w.cell? (a.add i)=some (cs.getD i undef))/\K cs
def pG(t:TypeId)(p:Value)(K:Value ->Prop):Prop:=
 match p with
 | .pointer q=>qN q fun a=>
  match P.underlying t with
  |some (.int k)=>rA w a (.i k) K
  |some .bool=>rA w a .b K
  |some .string=>rA w a .s K
  |some (.slice _)=>rA w a .sl K
  |some (.pointer _)=>rA w a .p K
  |some (.struct _)|some (.array _ _)=>
   match Nat.ble (P.cellsOf t) 16 with
   |true=>match gM P t with|some ks=>iP w a 0 ks fun vs=>K (.agg vs.toArray)|none=>False
   |false=>LoadA w a (P.cellsOf t) fun cs=>K (.agg cs)
  |some _ =>rA w a .v K
  |none=>False
 |_ =>False
def vNil(v:Value)(K:Value ->Prop):Prop:=
 match v with
 | .pointer q=>qN q fun a=>K (.pointer (some a))
 | .iface t x=>K (.iface t x)
 | .func (.func f) a b=>K (.func (.func f) a b)
 | .func (.method m) first cap=>∃t x,first[0]? =some (.iface t x)/\(nilAhead (P.types.size+Made.depth) t x m).run P w= .ok (some false) w/\K (.func (.method m) first cap)
 |_ =>False
def zF(k:IntKind)(a b:Int):Int:=k.wrap (BitVec.ofInt k.bits a&&&BitVec.ofInt k.bits b).toNat
def bOr(k:IntKind)(a b:Int):Int:=k.wrap (BitVec.ofInt k.bits a|||BitVec.ofInt k.bits b).toNat
def uS(k:IntKind)(a b:Int):Int:=k.wrap (BitVec.ofInt k.bits a^^^BitVec.ofInt k.bits b).toNat
def qAk(k:IntKind)(a b:Int):Int:=k.wrap (BitVec.ofInt k.bits a&&& ~~~BitVec.ofInt k.bits b).toNat
def xJ(k:IntKind)(a b:Int):Int:=k.wrap (a*2^(min b.toNat k.bits))
def qY(k:IntKind)(a b:Int):Int:=a.fdiv (2^(min b.toNat k.bits))
def vInt(op:BinOp)(k:IntKind)(a:Int)(k':IntKind)(b:Int)(K:Value ->Prop):Prop:=
 match op with
 | .shl=>ShC b (K (.int k (xJ k a b)))
 | .shr=>ShC b (K (.int k (qY k a b)))
 |op=>
  match decide (k=k')with
  |false=>False
  |true=>
   match op with
   | .add=>K (.int k (k.wrap (a+b)))
   | .sub=>K (.int k (k.wrap (a -b)))
   | .mul=>K (.int k (k.wrap (a*b)))
   | .quo=>zQ b (K (.int k (k.wrap (a.tdiv b))))
   | .rem=>zQ b (K (.int k (a.tmod b)))
   | .and=>K (.int k (zF k a b))
   | .or=>K (.int k (bOr k a b))
   | .xor=>K (.int k (uS k a b))
   | .andNot=>K (.int k (qAk k a b))
   | .eql=>K (.bool (a==b))
   | .neq=>K (.bool (a !=b))
   | .lss=>K (.bool (decide (a<b)))
   | .leq=>K (.bool (decide (a<=b)))
   | .gtr=>K (.bool (decide (a>b)))
   | .geq=>K (.bool (decide (a>=b)))
   |_ =>False
def vEqI(t:TypeId)(x y:Operand)(va vb:Value)(K:Bool ->Prop):Prop:=
 ∃b:Bool,(do eqGuard .eql t x y va vb;Op.equal t va vb:Sem Bool).run P w= .ok b w/\K b
def xR(va:Value)(K:Bool ->Prop):Prop:=
 match va with
 | .nilIface=>K true
 | .iface _ _ =>K false
 |_ =>False
def vK(a b:ByteArray):Bool:=a.toList==b.toList
def iN:Operand ->Bool
 | .const .nilIface=>true
 |_ =>false
def vBin(op:BinOp)(t:TypeId)(x y:Operand)(va vb:Value)(K:Value ->Prop):Prop:=
 match P.underlying t with
 |some (.int _)=>match va,vb with| .int k a,.int k' b=>vInt op k a k' b K|_,_ =>False
 |some .bool=>match va,vb with
  | .bool a,.bool b=>match op with| .eql=>K (.bool (a==b))| .neq=>K (.bool (!(a==b)))|_ =>False
  |_,_ =>False
 |some .string=>match va,vb with
  | .string a,.string b=>match op with
   | .eql=>K (.bool (vK a b))
   | .neq=>K (.bool (!(vK a b)))
   | .add=>a.size+b.size<=9223372036854775807/\K (.string (a++b))
   |_ =>False
  |_,_ =>False
 |some (.interface _)=>
  match iN y with
  |true=>match op with
   | .eql=>xR va fun r=>K (.bool r)
   | .neq=>xR va fun r=>K (.bool (!r))
   |_ =>False
  |false=>match op with
   | .eql=>vEqI P w t x y va vb fun r=>K (.bool r)
   | .neq=>∃b:Bool,(do eqGuard .neq t x y va vb;Op.equal t va vb:Sem Bool).run P w= .ok b w/\K (.bool (!b))
   |_ =>False
 |some (.struct _)=>match op with
   | .eql=>vEqI P w t x y va vb fun r=>K (.bool r)
   | .neq=>∃b:Bool,(do eqGuard .neq t x y va vb;Op.equal t va vb:Sem Bool).run P w= .ok b w/\K (.bool (!b))
   |_ =>False
 |some (.pointer _)=>match va,vb with
  | .pointer p,.pointer none=>match op with| .eql=>K (.bool p.isNone)| .neq=>K (.bool (!p.isNone))|_ =>False
  |_,_ =>False
 |some (.slice _)=>match va,vb with
  | .slice p _ _,.slice none _ _ =>match op with| .eql=>K (.bool p.isNone)| .neq=>K (.bool (!p.isNone))|_ =>False
  |_,_ =>False
 |_ =>False
def vUn(op:UnOp)(x:Value)(K:Value ->Prop):Prop:=
 match op,x with
 | .not,.bool b=>K (.bool (!b))
 | .neg,.int k n=>K (.int k (k.wrap (0 -n)))
 | .xor,.int k n=>K (.int k (uS k (if k.signed then -1 else k.max) n))
 |_,_ =>False
def qBo(s d:TypeId)(x:Value)(K:Value ->Prop):Prop:=
 match P.underlying s,P.underlying d with
 |some (.int _),some (.int k)=>match x with| .int _ n=>K (.int k (k.wrap n))|_ =>False
 |some .string,some .string=>match x with| .string b=>K (.string b)|_ =>False
 |some (.slice el),some .string=>
  match P.underlying el with
  |some (.int .u8)=>match x with
   | .slice p l c=>∃b:ByteArray,(Conv.bytesToString (.slice p l c)).run P w= .ok (.string b) w/\K (.string b)
   |_ =>False
  |_ =>False
 |_,_ =>False
def qQ(p:pQ)(cap l sz:Nat):pQ:=if cap=l then p else p.map (·.add (l*sz))
def vSl3(sz:Nat)(p:pQ)(len cap:Nat)(lo hi:Option Value)(K:Value ->Prop):Prop:=
 match lo,hi with
 |none,none=>K (.slice p len cap)
 |none,some (.int _ h)=>(0<=h/\h<=(cap:Int))/\K (.slice p h.toNat cap)
 |some (.int _ l),none=>(0<=l/\l<=(len:Int))/\K (.slice (qQ p cap l.toNat sz) (len -l.toNat) (cap -l.toNat))
 |some (.int _ l),some (.int _ h)=>(0<=h/\h<=(cap:Int))/\(0<=l/\l<=h)/\K (.slice (qQ p cap l.toNat sz) (h.toNat -l.toNat) (cap -l.toNat))
 |_,_ =>False
def wR(t:TypeId)(x:Value)(lo hi:Option Value)(K:Value ->Prop):Prop:=
 match P.underlying t with
 |some (.array n el)=>match P.info? el with
  |some ie=>match x with| .pointer q=>qN q fun a=>vSl3 ie.size (some a) n n lo hi K|_ =>False
  |none=>False
 |some (.slice el)=>match P.info? el with
  |some ie=>match x with| .slice p len cap=>vSl3 ie.size p len cap lo hi K|_ =>False
  |none=>False
 |some .string=>match x with
  | .string s=>match lo,hi with
   |none,some (.int _ h)=>(0<=h/\h<=(s.size:Int))/\K (.string (s.extract 0 h.toNat))
   |some (.int _ l),none=>(0<=l/\l<=(s.size:Int))/\K (.string (s.extract l.toNat s.size))
   |some (.int _ l),some (.int _ h)=>(0<=h/\h<=(s.size:Int))/\(0<=l/\l<=h)/\K (.string (s.extract l.toNat h.toNat))
   |_,_ =>False
  |_ =>False
 |_ =>False
def nG(t:TypeId)(x lo hi mx:Value)(K:Value ->Prop):Prop:=
 match P.underlying t with
 |some (.slice el)=>match P.info? el with
  |some ie=>match x,lo,hi,mx with
   | .slice p _ cap,.int _ l,.int _ h,.int _ m=>(0<=m/\m<=(cap:Int))/\(0<=h/\h<=m)/\(0<=l/\l<=h)/\K (.slice (qQ p m.toNat l.toNat ie.size) (h.toNat -l.toNat) (m.toNat -l.toNat))
   |_,_,_,_ =>False
  |none=>False
 |_ =>False
def mE(s:TypeId)(x:Value)(f:Nat)(K:Value ->Prop):Prop:=
 match x with
 | .pointer q=>qN q fun a=>
  match P.underlying s with
  |some (.struct fs)=>match fs[f]? with
   |some fd=>match P.info? fd.type with
    |some i=>match Nat.beq i.size 0 with|true=>False|false=>K (.pointer (some (a.add fd.offset)))
    |none=>False
   |none=>False
  |_ =>False
 |_ =>False
def part? (t:TypeId)(cs:vQ)(off:Nat):Option Value:=
 match fW P t with
 |some true=>match P.info? t with|some i=>some (.agg (cs.extract off (off+i.size)))|none=>none
 |some false=>cs[off]?
 |none=>none
def wN(t:TypeId)(x:Value)(f:Nat)(K:Value ->Prop):Prop:=
 match x with
 | .agg cs=>match P.underlying t with
  |some (.struct fs)=>match fs[f]? with
   |some fd=>match part? P fd.type cs fd.offset with|some v=>K v|none=>False
   |none=>False
  |_ =>False
 |_ =>False
def qH(a:Addr)(i:Nat):Nat ->Addr
 |1=>a.add i
 |s=>a.add (i*s)
def mF(t:TypeId)(x i:Value)(K:Value ->Prop):Prop:=
 match i with
 | .int _ i=>
  match P.underlying t with
  |some (.array n el)=>match x with
   | .pointer q=>qN q fun a=>(0<=i/\i<(n:Int))/\match P.info? el with|some ie=>K (.pointer (some (qH a i.toNat ie.size)))|none=>False
   |_ =>False
  |some (.slice el)=>match x with
   | .slice p len _ =>(0<=i/\i<(len:Int))/\qN p fun a=>match P.info? el with|some ie=>K (.pointer (some (qH a i.toNat ie.size)))|none=>False
   |_ =>False
  |_ =>False
 |_ =>False
def sAt(s:ByteArray)(i:Nat):Int:=match s[i]? with|some b=>(b.toNat:Int)|none=>0
def wO(t:TypeId)(x i:Value)(K:Value ->Prop):Prop:=
 match i with
 | .int _ i=>
  match P.underlying t with
  |some .string=>match x with| .string s=>(0<=i/\i<(s.size:Int))/\K (.int .u8 (sAt s i.toNat))|_ =>False
  |some (.array n el)=>match x with
   | .agg cs=>(0<=i/\i<(n:Int))/\match fW P el with
    |some false=>∃v,cs[i.toNat*P.cellsOf el]? =some v/\exTy P el fun u=>v=u/\K u
    |_ =>False
   |_ =>False
  |_ =>False
 |_ =>False
def vTA(x:Value)(xt at_ :TypeId)(ok:Bool)(K:Value ->Bool ->Prop):Prop:=
 match P.underlying at_ with
 |some (.interface _)=>
  match ok with
  |true=>∃(u:Value) (b:Bool),(Instr.typeAssert x xt at_ true).run P w= .ok (.tuple #[u,.bool b]) w/\K u b
  |false=>∃u:Value,(Instr.typeAssert x xt at_ false).run P w= .ok u w/\K u true
 |some _ =>
  match x with
  | .iface t v=>match Nat.beq t at_ with
   |true=>K v true
   |false=>match ok with|true=>(match zv P at_ with|some z=>K z false|none=>False)|false=>False
  | .nilIface=>match ok with|true=>(match zv P at_ with|some z=>K z false|none=>False)|false=>False
  |_ =>False
 |none=>False
def jS:List Field ->Option (List (Nat×Nat))
 |[]=>some []
 |f::fs=>match P.info? f.type with
  |some i=>match jS fs with|some r=>some ((f.offset,i.size)::r)|none=>none
  |none=>none
def uJ(t:TypeId)(ps:List (Nat×Value)):Option (vQ):=
 match zv P t with
 |some z=>match P.underlying t with
  |some (.struct fs)=>match jS P fs.toList with
   |some pl=>Instr.fill (pl.toArray[·]?) z.cells ps
   |none=>none
  |some (.array _ el)=>match P.info? el with|some ie=>Instr.fill (fun i=>some (i*ie.size,ie.size)) z.cells ps|none=>none
  |_ =>none
 |none=>none
def qHu(t:TypeId)(i:Nat):Option Bool:=
 match P.underlying t with
 |some (.struct fs)=>match fs[i]? with|some f=>fW P f.type|none=>none
 |some (.array _ el)=>fW P el
 |_ =>none
def kE(t:TypeId):List (Nat×Value) ->(List (Nat×Value) ->Prop) ->Prop
 |[],K=>K []
 |(i,v)::r,K=>match qHu P t i with
  |some false=>yE v.oneCell' (kE t r fun l=>K ((i,.agg #[v])::l))
  |some true=>kE t r fun l=>K ((i,v)::l)
  |none=>False
def pX(t:TypeId)(ps:List (Nat×Value)):vQ:=match uJ P t ps with|some cs=>cs|none=> #[]
def vLen(t:TypeId)(x:Value)(K:Value ->Prop):Prop:=
 match P.underlying t with
 |some .string=>match x with| .string s=>K (.int .i64 s.size)|_ =>False
 |some (.array n _)=>K (.int .i64 n)
 |some (.pointer arr)=>match P.underlying arr with|some (.array n _)=>K (.int .i64 n)|_ =>False
 |some (.slice _)=>match x with| .slice _ n _ =>K (.int .i64 n)|_ =>False
 |_ =>False
def vCap(t:TypeId)(x:Value)(K:Value ->Prop):Prop:=
 match P.underlying t with
 |some (.slice _)=>match x with| .slice _ _ n=>K (.int .i64 n)|_ =>False
 |_ =>False
def yU(x y:Int):Int:=if y<x then y else x
def vJ(x y:Int):Int:=if x<y then y else x
def sF(e:Env)(op:Op)(K:Value ->Prop):Prop:=
 match op with
 | .move x| .assign x=>wv e x K
 | .pick c x y=>wv e c fun c=>match c with| .bool true=>wv e x K| .bool false=>wv e y K|_ =>False
 | .load t x=>wv e x fun p=>pG P w t p K
 | .nilCheck x=>wv e x fun v=>vNil P w v K
 | .binOp op t x y _ =>wv e x fun a=>wv e y fun b=>vBin P w op t x y a b K
 | .unOp op _ x=>wv e x fun a=>vUn op a K
 | .convert s d x=>wv e x fun a=>qBo P w s d a K
 | .makeInterface t x=>wv e x fun a=>match P.underlying t with|some (.interface _)=>False|some _ =>K (.iface t a)|none=>False
 | .makeFunc fn first cap=>wvs e first.toList fun f=>wvs e cap.toList fun c=>K (.func fn f.toArray c.toArray)
 | .slice t x lo hi none=>wv e x fun a=>wvo e lo fun l=>wvo e hi fun h=>wR P t a l h K
 | .slice t x (some lo) (some hi) (some mx)=>wv e x fun a=>wv e lo fun l=>wv e hi fun h=>wv e mx fun m=>nG P t a l h m K
 | .fieldAddr s x f=>wv e x fun a=>mE P s a f K
 | .field t x f=>wv e x fun a=>wN P t a f K
 | .indexAddr t x i=>wv e x fun a=>wv e i fun i=>mF P t a i K
 | .index t x i=>wv e x fun a=>wv e i fun i=>wO P t a i K
 | .extract x i=>wv e x fun a=>match a with| .tuple vs=>(match vs[i]? with|some v=>K v|none=>False)|_ =>False
 | .typeAssert x xt at_ ok=>wv e x fun a=>vTA P w a xt at_ ok fun u b=>exTy P at_ fun u'=>u=u'/\match ok with|true=>K (.tuple #[u',.bool b])|false=>K u'
 | .build t parts=>wvp e parts.toList fun ps=>kE P t ps fun ps=>match uJ P t ps with|some cs=>K (.agg cs)|none=>False
 | .call c=>match c.callee with
  | .builtin .len=>wvs e c.args.toList fun xs=>match xs,c.argTypes[0]? with|[x],some t=>vLen P t x K|_,_ =>False
  | .builtin .cap=>wvs e c.args.toList fun xs=>match xs,c.argTypes[0]? with|[x],some t=>vCap P t x K|_,_ =>False
  | .builtin .min=>wvs e c.args.toList fun xs=>match xs with|[.int k x,.int _ y]=>K (.int k (yU x y))|_ =>False
  | .builtin .max=>wvs e c.args.toList fun xs=>match xs with|[.int k x,.int _ y]=>K (.int k (vJ x y))|_ =>False
  |_ =>False
 |_ =>False
end pure
section
variable{P:Program}{w:wQ}
theorem rZ{t:TypeId}{i:TypeInfo}(h:P.info? t=some i):(typeInfo t).run P w= .ok i w:=by simp[typeInfo,h]
theorem xQ{t:TypeId}{d:TypeDesc}(h:P.underlying t=some d):(underlying t).run P w= .ok d w:=by simp[underlying,h]
theorem yM{t:TypeId}{i:TypeInfo}(h:P.info? t=some i):(sizeOf t).run P w= .ok i.size w:=by simp[sizeOf,rZ h]
theorem sV{t:TypeId}{b:Bool}(h:fW P t=some b):(isAgg t).run P w= .ok b w:=by
 unfold fW at h;unfold isAgg
 cases hu:P.underlying t with
 |none=>simp[hu]at h
 |some d=>cases d<;>simp[hu]at h<;>subst h<;>simp[xQ hu]
theorem rF{t:TypeId}{d:TypeDesc}(h:P.underlying t=some d):∃i,P.info? t=some i:=by
 unfold Program.underlying at h
 cases hi:P.info? t with
 |none=>simp[hi]at h
 |some i=>exact⟨i,rfl⟩
theorem dP{a:Addr}{k:Kd}{K:Value ->Prop}(h:rA w a k K):∃v,w.cell? a=some v/\K v:=by
 cases k<;>simp only[rA]at h
 all_goals first
  |(obtain⟨_,h1,h2⟩:=h;exact⟨_,h1,h2⟩)
  |(obtain⟨_,_,_,h1,h2⟩:=h;exact⟨_,h1,h2⟩)
theorem fM{a:Addr}:∀{ks:List Kd} {i:Nat} {K:List Value ->Prop},iP w a i ks K ->
  ∃vs:List Value,vs.length=ks.length/\(∀j v,vs[j]? =some v ->w.cell? (a.add (i+j))=some v)/\K vs
 |[],_,_,h=>⟨[],rfl,fun j v hv=>by simp at hv,h⟩
 |k::ks,i,K,h=>by
  obtain⟨v,hv,h⟩:=dP h;obtain⟨vs,h1,h2,h3⟩:=fM h;refine⟨v::vs,by simp[h1],fun j u hj=> ?_,h3⟩
  cases j with
  |zero=>simp at hj;subst hj;exact hv
  |succ j=>have:=h2 j u (by simpa using hj);rwa [show i+(j+1)=i+1+j by omega]
theorem fO{a:Addr}{vs:List Value}{n:Nat}(hn:vs.length=n)(h:∀j v,vs[j]? =some v ->w.cell? (a.add j)=some v):(loadCells a n).run P w= .ok vs.toArray w:=by
 subst hn;exact run_loadCells_list w a vs h
theorem aC{t:TypeId}{p:Value}{K:Value ->Prop}(h:pG P w t p K):∃v,(Instr.loadAt t p).run P w= .ok v w/\K v:=by
 unfold pG at h
 cases p with
 |pointer q=>
  replace h:=uP h;obtain⟨a,rfl,h⟩:=h
  simp only[Instr.loadAt,Instr.sureAddr,Sem.run_bind,Sem.run_pure,Result.andThen_ok]
  cases hu:P.underlying t with
  |none=>simp only[hu]at h
  |some d=>
   obtain⟨i,hi⟩:=rF hu;have one:∀{k:Kd},fW P t=some false ->rA w a k K ->∃v,(loadVar t a).run P w= .ok v w/\K v:=by
    intro k hb hl;obtain⟨v,hv,hk⟩:=dP hl;exact⟨v,by simp[loadVar,sV hb,hv],hk⟩
   have many:fW P t=some true ->(match Nat.ble (P.cellsOf t) 16 with
     |true=>match gM P t with|some ks=>iP w a 0 ks fun vs=>K (.agg vs.toArray)|none=>False
     |false=>LoadA w a (P.cellsOf t) fun cs=>K (.agg cs)) ->∃v,(loadVar t a).run P w= .ok v w/\K v:=by
    intro hb hl
    split at hl
    ·cases hk:gM P t with
     |none=>simp only[hk]at hl
     |some ks=>
      simp only[hk]at hl;obtain⟨vs,h1,h2,h3⟩:=fM hl;have hsz:ks.length=i.size:=by
       unfold gM at hk;simp only[hi]at hk
       cases hz:i.zero with
       |none=>simp[hz]at hk
       |some z=>
        simp only[hz]at hk
        split at hk
        ·rename_i hb;have:=Nat.eq_of_beq_eq_true hb;simp at hk;subst hk;simp[this]
        ·cases hk
      exact⟨_,by simp[loadVar,sV hb,yM hi,fO (P:=P) (by rw[h1,hsz]) (fun j v hv=>by simpa using h2 j v hv)],h3⟩
    ·obtain⟨cs,⟨h1,h2⟩,h3⟩:=hl
     refine⟨_,?_,h3⟩;have hs:cs.toList.length=i.size:=by simpa [Program.cellsOf,hi]using h1
     have:=fO (P:=P) (w:=w) (a:=a) hs (fun j v hv=>by
      have hj:j<cs.size:=by simpa using(List.getElem?_eq_some_iff.1 hv).1
      rw[h2 j oQ];simp at hv;simp[hv])
     simp[loadVar,sV hb,yM hi,this]
   cases d<;>simp only[hu]at h<;>first
    |exact one (by simp[fW,hu]) h
    |exact many (by simp[fW,hu]) h
 |_ =>exact h.elim
theorem qCz{o:Oper}{ρ:Operand ->Value}{x:Operand}{K:Value ->Prop}(ho:o.op= .nilCheck x)(h:vNil P w (ρ x) K):∃v,(execOp ρ o).run P w= .ok (.value v) w/\K v:=by
 obtain⟨dst,op,type,pos,after,guard⟩:=o;simp only at ho;subst ho;simp only[execOp];generalize ρ x=v at h
 cases v with
 |pointer q=>replace h:=uP h;obtain⟨a,rfl,h⟩:=h;exact⟨_,rfl,h⟩
 |iface t x=>exact⟨_,rfl,h⟩
 |func fn first cap=>
  cases fn with
  |func f=>exact⟨_,rfl,h⟩
  |method m=>
   obtain⟨t,x,h1,h2,h3⟩:=h;refine⟨_,?_,h3⟩;simp only[h1,Sem.run_bind,run_program,Result.andThen_ok,h2]
   rfl
  |_ =>exact h.elim
 |_ =>exact h.elim
theorem cU{op:BinOp}{k k':IntKind}{a b:Int}{t:TypeId}{K:Value ->Prop}(h:vInt op k a k' b K):∃v,(∀w,(binOp op t (.int k a) (.int k' b)).run P w= .ok v w)/\K v:=by
 unfold vInt at h
 cases op
 case shl=>
  simp only[ShC]at h
  split at h
  ·exact h.elim
  ·rename_i hb;exact⟨_,fun w=>by simp[binOp,Op.shift,hb,xJ],h⟩
 case shr=>
  simp only[ShC]at h
  split at h
  ·exact h.elim
  ·rename_i hb;exact⟨_,fun w=>by simp[binOp,Op.shift,hb,qY],h⟩
 case quo=>
  simp only at h
  split at h
  ·exact h.elim
  rename_i e
  have e:=of_decide_eq_true e;subst e;simp only[zQ]at h
  split at h
  ·exact h.elim
  ·rename_i hb;exact⟨_,fun w=>by simp[binOp,Op.intDiv,hb],h⟩
 case rem=>
  simp only at h
  split at h
  ·exact h.elim
  rename_i e
  have e:=of_decide_eq_true e;subst e;simp only[zQ]at h
  split at h
  ·exact h.elim
  ·rename_i hb;exact⟨_,fun w=>by simp[binOp,Op.intDiv,hb],h⟩
 all_goals
  simp only at h
  split at h
  ·exact h.elim
  rename_i e
  have e:=of_decide_eq_true e;subst e
 all_goals first
  |exact h.elim
  |(refine⟨_,fun w=> ?_,h⟩
    first
     |(simp[binOp,Op.intArith];done)
     |(simp[binOp,Op.intBits,zF];done)
     |(simp[binOp,Op.intBits,bOr];done)
     |(simp[binOp,Op.intBits,uS];done)
     |(simp[binOp,Op.intBits,qAk];done)
     |(simp[binOp,Op.intCmp];done))
theorem pI{op:UnOp}{x:Value}{K:Value ->Prop}(h:vUn op x K):∃v,(∀w,(Op.unary op x).run P w= .ok v w)/\K v:=by
 unfold vUn at h
 split at h
 ·exact⟨_,fun w=>by simp[Op.unary],h⟩
 ·exact⟨_,fun w=>by simp[Op.unary,Op.intArith],h⟩
 ·exact⟨_,fun w=>by simp[Op.unary,Op.intBits,uS],h⟩
 ·exact h.elim
theorem wM{s d:TypeId}{x:Value}{K:Value ->Prop}(h:qBo P w s d x K):∃v,(convert s d x).run P w= .ok v w/\K v:=by
 unfold qBo at h
 split at h
 ·rename_i k1 k hs hd
  cases x with
  |int k0 n=>exact⟨_,by simp[convert,xQ hs,xQ hd,Conv.intToInt],h⟩
  |_ =>exact h.elim
 ·rename_i hs hd
  cases x with
  |string b=>exact⟨_,by simp[convert,xQ hs,xQ hd],h⟩
  |_ =>exact h.elim
 ·rename_i el hs hd
  split at h
  ·rename_i he
   cases x with
   |slice p l c=>
    obtain⟨b,h1,h2⟩:=h;exact⟨_,by simp[convert,xQ hs,xQ hd,xQ he,h1],h2⟩
   |_ =>exact h.elim
  ·exact h.elim
 ·exact h.elim
theorem uY{k:IntKind}{i:Int}{y:Nat}{c:BoundsCode}(h:0<=i/\i<=(y:Int)):(Instr.sliceBound (.int k i) y c).run P w= .ok i.toNat w:=by
 simp[Instr.sliceBound,asIntOf,h]
theorem fR{b:Bool}{sz:Nat}{p:pQ}{len cap:Nat}{lo hi:Option Value}{K:Value ->Prop}(h:vSl3 sz p len cap lo hi K):
  ∃l h' m,(∀w,(Instr.sliceBounds b len cap lo hi none).run P w= .ok (l,h',m) w)/\(m=cap)/\K (.slice (if m=l then p else p.map (·.add (l*sz))) (h' -l) (m -l)):=by
 have zero:∀(p:pQ) (c:Nat),(if c=0 then p else p.map (·.add (0*sz)))=p:=by
  intro p c
  split
  ·rfl
  ·cases p<;>simp[Addr.add]
 unfold vSl3 at h
 split at h
 ·exact⟨0,len,cap,fun w=>by simp[Instr.sliceBounds],rfl,by rw[zero];simpa using h⟩
 ·obtain⟨h1,h2⟩:=h
  rename_i k hh
  exact⟨0,hh.toNat,cap,fun w=>by simp[Instr.sliceBounds,uY h1],rfl,by rw[zero];simpa using h2⟩
 ·obtain⟨h1,h2⟩:=h
  rename_i k l
  exact⟨l.toNat,len,cap,fun w=>by simp[Instr.sliceBounds,uY h1],rfl,by simpa [qQ]using h2⟩
 ·obtain⟨h1,h2,h3⟩:=h
  rename_i k l k' hh
  have h2':0<=l/\l<=(hh.toNat:Int):=⟨h2.1,oQ⟩;exact⟨l.toNat,hh.toNat,cap,fun w=>by simp[Instr.sliceBounds,uY h1,uY h2'],rfl,by simpa [qQ]using h3⟩
 ·exact h.elim
theorem iZ{a:Addr}{m l sz:Nat}:(if m=l then some a else(some a).map (·.add (l*sz)))=some (if m=l then a else a.add (l*sz)):=by split<;>rfl
theorem rR{t:TypeId}{i:TypeInfo}(h:P.info? t=some i):P.cellsOf t=i.size:=by simp[Program.cellsOf,h]
theorem fS{t:TypeId}{x:Value}{lo hi:Option Value}{K:Value ->Prop}(h:wR P t x lo hi K):∃v,(∀w,(Instr.sliceAt t x lo hi none).run P w= .ok v w)/\K v:=by
 unfold wR at h
 split at h
 ·rename_i n el hu
  split at h
  ·rename_i i hi
   cases x with
   |pointer q=>
    replace h:=uP h;obtain⟨a,rfl,h⟩:=h
    obtain⟨l,h',m,h1,rfl,h2⟩:=fR (P:=P) (b:=false) h;rw[iZ]at h2;exact⟨_,fun w=>by simp[Instr.sliceAt,xQ hu,Instr.sureAddr,h1,yM hi],h2⟩
   |_ =>exact h.elim
  ·exact h.elim
 ·rename_i el hu
  split at h
  ·rename_i i hi
   cases x with
   |slice p len cap=>
    obtain⟨l,h',m,h1,rfl,h2⟩:=fR (P:=P) (b:=true) h;exact⟨_,fun w=>by simp[Instr.sliceAt,Instr.slice,xQ hu,h1,yM hi],h2⟩
   |_ =>exact h.elim
  ·exact h.elim
 ·rename_i hu
  cases x with
  |string s=>
   simp only at h
   split at h
   ·obtain⟨h1,h2⟩:=h
    exact⟨_,fun w=>by simp[Instr.sliceAt,Instr.slice,xQ hu,Instr.sliceBounds,uY h1],h2⟩
   ·obtain⟨h1,h2⟩:=h
    exact⟨_,fun w=>by simp[Instr.sliceAt,Instr.slice,xQ hu,Instr.sliceBounds,uY h1],h2⟩
   ·obtain⟨h1,h2,h3⟩:=h
    rename_i k l k' hh
    have h2':0<=l/\l<=(hh.toNat:Int):=⟨h2.1,oQ⟩;exact⟨_,fun w=>by simp[Instr.sliceAt,Instr.slice,xQ hu,Instr.sliceBounds,uY h1,uY h2'],h3⟩
   ·exact h.elim
  |_ =>exact h.elim
 ·exact h.elim
theorem lC{t:TypeId}{x lo hi mx:Value}{K:Value ->Prop}(h:nG P t x lo hi mx K):∃v,(∀w,(Instr.sliceAt t x (some lo) (some hi) (some mx)).run P w= .ok v w)/\K v:=by
 unfold nG at h
 split at h
 ·rename_i el hu
  split at h
  ·rename_i i hi
   split at h
   ·rename_i p len cap kl l kh hh km m
    obtain⟨h1,h2,h3,h4⟩:=h;have h2':0<=hh/\hh<=(m.toNat:Int):=⟨h2.1,oQ⟩;have h3':0<=l/\l<=(hh.toNat:Int):=⟨h3.1,oQ⟩;refine⟨_,fun w=> ?_,h4⟩;simp[Instr.sliceAt,Instr.slice,xQ hu,Instr.sliceBounds,uY h1,uY h2',uY h3',yM hi,qQ]
   ·exact h.elim
  ·exact h.elim
 ·exact h.elim
theorem tM{s:TypeId}{x:Value}{f:Nat}{K:Value ->Prop}(h:mE P s x f K):∃v,(∀w,(Instr.fieldAt s x f).run P w= .ok v w)/\K v:=by
 unfold mE at h
 cases x with
 |pointer q=>
  replace h:=uP h;obtain⟨a,rfl,h⟩:=h
  split at h
  ·rename_i fs hu
   split at h
   ·rename_i fd hf
    split at h
    ·rename_i i hi
     split at h
     ·exact h.elim
     ·rename_i hz
      have hz:i.size≠0:=fun e=>by rw[e]at hz;simp at hz
      exact⟨_,fun w=>by simp[Instr.fieldAt,xQ hu,hf,Instr.sureAddr,fieldPlace,yM hi,hz],h⟩
    ·exact h.elim
   ·exact h.elim
  ·exact h.elim
 |_ =>exact h.elim
theorem part?_spec{t:TypeId}{cs:vQ}{off:Nat}{v:Value}(h:part? P t cs off=some v):(part t cs off).run P w= .ok v w:=by
 unfold part? at h
 split at h
 ·rename_i hb
  split at h
  ·rename_i i hi
   simp at h;subst h;simp[part,sV hb,yM hi]
  ·cases h
 ·rename_i hb
  simp[part,sV hb,h]
 ·cases h
theorem fP{t:TypeId}{x:Value}{f:Nat}{K:Value ->Prop}(h:wN P t x f K):∃v,(∀w,(Instr.field t x f).run P w= .ok v w)/\K v:=by
 unfold wN at h
 cases x with
 |agg cs=>
  simp only at h
  split at h
  ·rename_i fs hu
   split at h
   ·rename_i fd hf
    split at h
    ·rename_i v hv
     exact⟨v,fun w=>by simp[Instr.field,xQ hu,hf,asAgg,part?_spec hv],h⟩
    ·exact h.elim
   ·exact h.elim
  ·exact h.elim
 |_ =>exact h.elim
theorem cD(a:Addr)(i s:Nat):qH a i s=a.add (i*s):=by
 unfold qH;split
 ·simp
 ·rfl
theorem tN{t:TypeId}{x i:Value}{K:Value ->Prop}(h:mF P t x i K):∃v,(∀w,(Instr.indexAt t x i).run P w= .ok v w)/\K v:=by
 unfold mF at h
 cases i with
 |int k i=>
  simp only at h
  split at h
  ·rename_i n el hu
   cases x with
   |pointer q=>
    replace h:=uP h;obtain⟨a,rfl,hb,h⟩:=h
    split at h
    ·rename_i ie hi
     rw[cD]at h;exact⟨_,fun w=>by simp[Instr.indexAt,asIntOf,xQ hu,Instr.sureAddr,hb,yM hi],h⟩
    ·exact h.elim
   |_ =>exact h.elim
  ·rename_i el hu
   cases x with
   |slice p len cap=>
    obtain⟨hb,h⟩:=h
    replace h:=uP h;obtain⟨a,rfl,h⟩:=h
    split at h
    ·rename_i ie hi
     rw[cD]at h;exact⟨_,fun w=>by simp[Instr.indexAt,asIntOf,xQ hu,hb,yM hi],h⟩
    ·exact h.elim
   |_ =>exact h.elim
  ·exact h.elim
 |_ =>exact h.elim
theorem fQ{t:TypeId}{x i:Value}{K:Value ->Prop}(h:wO P t x i K):∃v,(∀w,(Instr.index t x i).run P w= .ok v w)/\K v:=by
 unfold wO at h
 cases i with
 |int k i=>
  simp only at h
  split at h
  ·rename_i hu
   cases x with
   |string s=>
    obtain⟨hb,h⟩:=h;have hlt:i.toNat<s.size:=oQ;refine⟨_,fun w=> ?_,h⟩;simp[Instr.index,asIntOf,xQ hu,hb.1,sAt,hlt]
   |_ =>exact h.elim
  ·rename_i n el hu
   cases x with
   |agg cs=>
    obtain⟨hb,h⟩:=h
    split at h
    ·rename_i hagg
     obtain⟨v,hv,h⟩:=h;obtain⟨u,rfl,h⟩:=sN h;have:∃ie,P.info? el=some ie:=by
      unfold fW at hagg
      cases hue:P.underlying el with
      |none=>simp[hue]at hagg
      |some d=>exact rF hue
     obtain⟨ie,hie⟩:=this;rw[rR hie]at hv;exact⟨_,fun w=>by simp[Instr.index,asIntOf,xQ hu,hb,yM hie,part,sV hagg,hv],h⟩
    ·exact h.elim
   |_ =>exact h.elim
  ·exact h.elim
 |_ =>exact h.elim
theorem wA{t:TypeId}{z:Value}(h:zv P t=some z):(zeroValue t).run P w= .ok z w:=by
 unfold zv at h
 split at h
 ·rename_i i hi;simp[zeroValue,rZ hi,h]
 ·cases h
theorem qGf{x:Value}{xt at_ :TypeId}{ok:Bool}{K:Value ->Bool ->Prop}(h:vTA P w x xt at_ ok K):
  ∃u b,(Instr.typeAssert x xt at_ ok).run P w= .ok (if ok then .tuple #[u,.bool b]else u) w/\K u b:=by
 unfold vTA at h
 split at h
 ·split at h
  ·obtain⟨u,b,h1,h2⟩:=h;exact⟨u,b,by simpa using h1,h2⟩
  ·obtain⟨u,h1,h2⟩:=h;exact⟨u,true,by simpa using h1,h2⟩
 ·rename_i d hd hu
  cases x with
  |iface t v=>
   simp only at h
   split at h
   ·rename_i e
    have e:=Nat.eq_of_beq_eq_true e;subst e;refine⟨v,true,?_,h⟩
    cases d<;>first
     |exact absurd rfl (hd _)
     |(cases ok<;>simp[Instr.typeAssert,xQ hu])
   ·rename_i e
    have e:t≠at_ :=fun e'=>by subst e';simp at e
    split at h
    ·split at h
     ·rename_i z hz
      refine⟨z,false,?_,h⟩
      cases d<;>first
       |exact absurd rfl (hd _)
       |simp[Instr.typeAssert,xQ hu,e,wA hz]
     ·exact h.elim
    ·exact h.elim
  |nilIface=>
   simp only at h
   split at h
   ·split at h
    ·rename_i z hz
     refine⟨z,false,?_,h⟩
     cases d<;>first
      |exact absurd rfl (hd _)
      |simp[Instr.typeAssert,xQ hu,wA hz]
    ·exact h.elim
   ·exact h.elim
  |_ =>exact h.elim
 ·exact h.elim
theorem oV:∀{fs:List Field} {pl:List (Nat×Nat)},jS P fs=some pl ->(fs.mapM fun f=>(do pure (f.offset,<-sizeOf f.type):Sem (Nat×Nat))).run P w= .ok pl w
 |[],pl,h=>by simp[jS]at h;subst h;simp
 |f::fs,pl,h=>by
  simp only[jS]at h
  split at h
  ·rename_i i hi
   split at h
   ·rename_i r hr
    simp at h;subst h;simp only[List.mapM_cons,Sem.run_bind,yM hi,Result.andThen_ok,Sem.run_pure,oV hr]
   ·cases h
  ·cases h
theorem tL{t:TypeId}{ps:Array (Nat×Value)}{cs:vQ}(h:uJ P t ps.toList=some cs):(Instr.build t ps).run P w= .ok (.agg cs) w:=by
 unfold uJ at h
 split at h
 ·rename_i z hz
  split at h
  ·rename_i fs hu
   split at h
   ·rename_i pl hp
    have:=oV (w:=w) hp;have e:(fs.mapM fun f=>(do pure (f.offset,<-sizeOf f.type):Sem (Nat×Nat))).run P w= .ok pl.toArray w:=by
     rw[Array.mapM_eq_mapM_toList,Sem.run_map,this];rfl
    simp only[Instr.build,Sem.run_bind,wA hz,xQ hu,Result.andThen_ok,e,h,Sem.run_pure]
   ·cases h
  ·rename_i n el hu
   split at h
   ·rename_i ie hi
    simp[Instr.build,wA hz,xQ hu,yM hi,h]
   ·cases h
  ·cases h
 ·cases h
def qAf:List (Nat×Value) ->List (Nat×Value) ->Prop
 |[],[]=>True
 |x::r,y::l=>(x.1=y.1/\x.2.cells=y.2.cells)/\qAf r l
 |_,_ =>False
theorem bE{place:Nat ->Option (Nat×Nat)}:∀{ps ps':List (Nat×Value)} {cells:vQ},qAf ps ps' ->Instr.fill place cells ps=Instr.fill place cells ps'
 |[],[],_,_ =>rfl
 |[],_ ::_,_,h=>h.elim
 |_ ::_,[],_,h=>h.elim
 |(i,v)::r,(j,u)::l,cells,h=>by
  obtain⟨⟨h3,h4⟩,h2⟩:=h;simp only at h3 h4;subst h3;simp only[Instr.fill,h4]
  split
  ·rfl
  ·split
   ·rfl
   ·exact bE h2
theorem uV{t:TypeId}:∀{ps:List (Nat×Value)} {K:List (Nat×Value) ->Prop},kE P t ps K ->∃ps',qAf ps ps'/\K ps'
 |[],K,h=>⟨[],trivial,h⟩
 |(i,v)::r,K,h=>by
  unfold kE at h
  split at h
  ·have hv:v.oneCell'=true:=by
    cases hv:v.oneCell' with
    |true=>rfl
    |false=>rw[hv]at h;exact h.elim
   rw[hv]at h;obtain⟨ps',h1,h2⟩:=uV (h:kE P t r _);refine⟨(i,.agg #[v])::ps',⟨⟨rfl,?_⟩,h1⟩,h2⟩
   cases v<;>first|rfl|cases hv
  ·obtain⟨ps',h1,h2⟩:=uV h
   exact⟨_ ::ps',⟨⟨rfl,rfl⟩,h1⟩,h2⟩
  ·exact h.elim
theorem tK{t:TypeId}{ps ps':List (Nat×Value)}(h:qAf ps ps'):uJ P t ps=uJ P t ps':=by
 unfold uJ
 split
 ·split
  ·split
   ·exact bE h
   ·rfl
  ·split
   ·exact bE h
   ·rfl
  ·rfl
 ·rfl
theorem cV{t:TypeId}{x:Value}{ts:Array TypeId}{ty:TypeId}{K:Value ->Prop}(ht:ts[0]? =some t)(h:vLen P t x K):∃v,(∀w,(Builtin.len_ ts ty #[x]).run P w= .ok v w)/\K v:=by
 unfold vLen at h
 split at h
 ·rename_i hu
  cases x with
  |string s=>exact⟨_,fun w=>by simp[Builtin.len_,ht,xQ hu,goInt],h⟩
  |_ =>exact h.elim
 ·rename_i n el hu
  exact⟨_,fun w=>by simp[Builtin.len_,ht,xQ hu,goInt],h⟩
 ·rename_i arr hu
  split at h
  ·rename_i n el hu2
   exact⟨_,fun w=>by simp[Builtin.len_,ht,xQ hu,xQ hu2,goInt],h⟩
  ·exact h.elim
 ·rename_i el hu
  cases x with
  |slice p n c=>exact⟨_,fun w=>by simp[Builtin.len_,ht,xQ hu,goInt],h⟩
  |_ =>exact h.elim
 ·exact h.elim
theorem cT{t:TypeId}{x:Value}{ts:Array TypeId}{ty:TypeId}{K:Value ->Prop}(ht:ts[0]? =some t)(h:vCap P t x K):∃v,(∀w,(Builtin.cap_ ts ty #[x]).run P w= .ok v w)/\K v:=by
 unfold vCap at h
 split at h
 ·rename_i el hu
  cases x with
  |slice p n c=>exact⟨_,fun w=>by simp[Builtin.cap_,ht,xQ hu,goInt],h⟩
  |_ =>exact h.elim
 ·exact h.elim
end
section
variable{P:Program}{w:wQ}
theorem wk{s:Sem Value}{K:Value ->Prop}:(∃v,(∀w,s.run P w= .ok v w)/\K v) ->∃v,s.run P w= .ok v w/\K v:=fun⟨v,h1,h2⟩=>⟨v,h1 w,h2⟩
theorem r_v{s:Sem Value}{v:Value}{w':wQ}(h:s.run P w= .ok v w'):(do pure (Next.value (<-s)):Sem Next).run P w= .ok (.value v) w':=by
 simp only[Sem.run_bind,h,Result.andThen_ok,Sem.run_pure]
theorem aO{d:Nat}{t:TypeId}{ms:Array (String×TypeId)}(hu:P.underlying t=some (.interface ms)){x y:Value}{b:Bool}{w':wQ}(h:(Op.equalIn (d+1) t x y).run P w= .ok b w'):
  (x= .nilIface\/∃u v,x= .iface u v)/\(y= .nilIface\/∃u v,y= .iface u v):=by
 simp only[Op.equalIn,Sem.run_bind,xQ hu,Result.andThen_ok]at h
 cases x<;>cases y<;>first
  |(simp;done)
  |(exfalso;revert h;simp;done)
theorem fK{t:TypeId}{ms:Array (String×TypeId)}(hu:P.underlying t=some (.interface ms)){x y:Value}{b:Bool}{w':wQ}(h:(Op.equal t x y).run P w= .ok b w'):
  (x= .nilIface\/∃u v,x= .iface u v)/\(y= .nilIface\/∃u v,y= .iface u v):=aO (d:=9999) hu h
theorem fJ{d:Nat}{t:TypeId}{fs:Array Field}(hu:P.underlying t=some (.struct fs)){x y:Value}{b:Bool}{w w':wQ}(h:(Op.equalIn (d+1) t x y).run P w= .ok b w'):
  ∃c e,x= .agg c/\y= .agg e:=by
 simp only[Op.equalIn,Sem.run_bind,xQ hu,Result.andThen_ok]at h
 cases x<;>cases y<;>first
  |(exact⟨_,_,rfl,rfl⟩)
  |(exfalso;revert h;simp;done)
theorem qCa{d:Nat}{t:TypeId}(hu:P.underlying t=some .bool){x y:Bool}:(Op.equalIn (d+1) t (.bool x) (.bool y)).run P w= .ok (x==y) w:=by
 simp only[Op.equalIn,Sem.run_bind,xQ hu,Result.andThen_ok,Sem.run_pure]
theorem dF{t:TypeId}(hu:P.underlying t=some .bool){x y:Bool}:(Op.equal t (.bool x) (.bool y)).run P w= .ok (x==y) w:=qCa (d:=9999) hu
theorem qEi{d:Nat}{t:TypeId}{ms:Array (String×TypeId)}(hu:P.underlying t=some (.interface ms)):(Op.equalIn (d+1) t .nilIface .nilIface).run P w= .ok true w:=by
 simp only[Op.equalIn,Sem.run_bind,xQ hu,Result.andThen_ok,Sem.run_pure]
theorem qEn{t:TypeId}{ms:Array (String×TypeId)}(hu:P.underlying t=some (.interface ms)):(Op.equal t .nilIface .nilIface).run P w= .ok true w:=qEi (d:=9999) hu
theorem qCb{d:Nat}{t:TypeId}{ms:Array (String×TypeId)}(hu:P.underlying t=some (.interface ms)){u:TypeId}{v:Value}:(Op.equalIn (d+1) t (.iface u v) .nilIface).run P w= .ok false w:=by
 simp only[Op.equalIn,Sem.run_bind,xQ hu,Result.andThen_ok,Sem.run_pure]
theorem qAu{t:TypeId}{ms:Array (String×TypeId)}(hu:P.underlying t=some (.interface ms)){u:TypeId}{v:Value}:(Op.equal t (.iface u v) .nilIface).run P w= .ok false w:=qCb (d:=9999) hu
theorem qEj{d:Nat}{t:TypeId}{el:TypeId}(hu:P.underlying t=some (.pointer el)){p:pQ}:(Op.equalIn (d+1) t (.pointer p) (.pointer none)).run P w= .ok p.isNone w:=by
 cases p<;>simp only[Op.equalIn,Sem.run_bind,xQ hu,Result.andThen_ok,Sem.run_pure,Option.isNone]
theorem iG{t:TypeId}{el:TypeId}(hu:P.underlying t=some (.pointer el)){p:pQ}:(Op.equal t (.pointer p) (.pointer none)).run P w= .ok p.isNone w:=qEj (d:=9999) hu
theorem qHd{d:Nat}{t:TypeId}{el:TypeId}(hu:P.underlying t=some (.slice el)){p:pQ}{l c l' c':Nat}:(Op.equalIn (d+1) t (.slice p l c) (.slice none l' c')).run P w= .ok p.isNone w:=by
 cases p<;>simp only[Op.equalIn,Sem.run_bind,xQ hu,Result.andThen_ok,Sem.run_pure,Option.isNone]
theorem qAv{t:TypeId}{el:TypeId}(hu:P.underlying t=some (.slice el)){p:pQ}{l c l' c':Nat}:(Op.equal t (.slice p l c) (.slice none l' c')).run P w= .ok p.isNone w:=qHd (d:=9999) hu
def okG:Value ->Value ->Bool
 | .agg _,.agg _ =>false
 | .nilIface,.nilIface=>false
 |_,_ =>true
theorem iW{op:BinOp}{t:TypeId}{x y:Operand}(a b:Value)(h:okG a b=true):(eqGuard op t x y a b).run P w= .ok () w:=by
 unfold eqGuard
 cases op<;>cases a<;>cases b<;>first
  |rfl
  |cases h
theorem qCy{op:BinOp}{t:TypeId}{x y:Operand}{va vb:Value}{K:Value ->Prop}(hy:iN y=true ->vb= .nilIface)(h:vBin P w op t x y va vb K):
  ∃v,(do eqGuard op t x y va vb;binOp op t va vb:Sem Value).run P w= .ok v w/\K v:=by
 have guard:∀(a b:Value),okG a b=true ->(eqGuard op t x y a b).run P w= .ok () w:=fun a b=>iW a b;unfold vBin at h
 split at h
 ·split at h
  ·rename_i k a k' b
   obtain⟨v,h1,h2⟩:=cU (P:=P) (t:=t) h;exact⟨v,by simp only[Sem.run_bind,guard (.int k a) (.int k' b) rfl,Result.andThen_ok,h1],h2⟩
  ·exact h.elim
 ·split at h
  ·rename_i hu _ _ a b
   split at h
   ·refine⟨_,?_,h⟩
    simp only[Sem.run_bind,guard (.bool a) (.bool b) rfl,Result.andThen_ok];simp[binOp,dF hu]
   ·refine⟨_,?_,h⟩
    simp only[Sem.run_bind,guard (.bool a) (.bool b) rfl,Result.andThen_ok];simp[binOp,dF hu]
   ·exact h.elim
  ·exact h.elim
 ·split at h
  ·rename_i hu _ _ a b
   split at h
   ·refine⟨_,?_,h⟩
    simp only[Sem.run_bind,guard (.string a) (.string b) rfl,Result.andThen_ok];simp[binOp,Op.stringOp,vK]
   ·refine⟨_,?_,h⟩
    simp only[Sem.run_bind,guard (.string a) (.string b) rfl,Result.andThen_ok];simp[binOp,Op.stringOp,vK]
   ·refine⟨_,?_,h.2⟩
    simp only[Sem.run_bind,guard (.string a) (.string b) rfl,Result.andThen_ok];have:¬(((a.size+b.size:Nat):Int)>IntKind.i64.max):=by
     have:=h.1;simp only[IntKind.max,IntKind.signed,IntKind.bits];omega
    simp only[binOp,Op.stringOp,this,if_false,Sem.run_pure]
   ·exact h.elim
  ·exact h.elim
 ·rename_i ms hu
  split at h
  ·rename_i hn
   have hvb:=hy hn;subst hvb;have hyc:y= .const .nilIface:=by
    unfold iN at hn
    split at hn
    ·rfl
    ·cases hn
   subst hyc;have hg:(eqGuard op t x (.const .nilIface) va .nilIface).run P w= .ok () w:=by
    cases va<;>first
     |exact iW _ _ rfl
     |(unfold eqGuard;cases op<;>cases x<;>rfl)
   split at h
   ·cases va<;>simp only[xR]at h
    ·exact⟨_,by simp only[Sem.run_bind,hg,Result.andThen_ok];simp[binOp,qAu hu],h⟩
    ·exact⟨_,by simp only[Sem.run_bind,hg,Result.andThen_ok];simp[binOp,qEn hu],h⟩
   ·cases va<;>simp only[xR]at h
    ·exact⟨_,by simp only[Sem.run_bind,hg,Result.andThen_ok];simp[binOp,qAu hu],h⟩
    ·exact⟨_,by simp only[Sem.run_bind,hg,Result.andThen_ok];simp[binOp,qEn hu],h⟩
   ·exact h.elim
  ·split at h
   ·obtain⟨b,h1,h2⟩:=h
    refine⟨_,?_,h2⟩;simp only[Sem.run_bind]at h1⊢
    cases hg:(eqGuard .eql t x y va vb).run P w with
    |halt e w'=>simp[hg]at h1
    |ok u w'=>
     simp only[hg,Result.andThen_ok]at h1⊢;have hs:=fK hu h1;obtain⟨ha|⟨_,_,ha⟩,hb|⟨_,_,hb⟩⟩:=hs<;>subst ha<;>subst hb<;>simp only[binOp,Sem.run_bind,h1,Result.andThen_ok,Sem.run_pure]
   ·obtain⟨b,h1,h2⟩:=h
    refine⟨_,?_,h2⟩;simp only[Sem.run_bind]at h1⊢
    cases hg:(eqGuard .neq t x y va vb).run P w with
    |halt e w'=>simp[hg]at h1
    |ok u w'=>
     simp only[hg,Result.andThen_ok]at h1⊢;have hs:=fK hu h1;obtain⟨ha|⟨_,_,ha⟩,hb|⟨_,_,hb⟩⟩:=hs<;>subst ha<;>subst hb<;>simp only[binOp,Sem.run_bind,h1,Result.andThen_ok,Sem.run_pure]
   ·exact h.elim
 ·rename_i fs hu
  split at h
  ·obtain⟨b,h1,h2⟩:=h
   refine⟨_,?_,h2⟩;simp only[Sem.run_bind]at h1⊢
   cases hg:(eqGuard .eql t x y va vb).run P w with
   |halt e w'=>simp[hg]at h1
   |ok u w'=>
    simp only[hg,Result.andThen_ok]at h1⊢;obtain⟨c,d,ha,hb⟩:=fJ (d:=9999) hu h1;subst ha;subst hb;simp only[binOp,Sem.run_bind,h1,Result.andThen_ok,Sem.run_pure]
  ·obtain⟨b,h1,h2⟩:=h
   refine⟨_,?_,h2⟩;simp only[Sem.run_bind]at h1⊢
   cases hg:(eqGuard .neq t x y va vb).run P w with
   |halt e w'=>simp[hg]at h1
   |ok u w'=>
    simp only[hg,Result.andThen_ok]at h1⊢;obtain⟨c,d,ha,hb⟩:=fJ (d:=9999) hu h1;subst ha;subst hb;simp only[binOp,Sem.run_bind,h1,Result.andThen_ok,Sem.run_pure]
  ·exact h.elim
 ·rename_i el hu
  split at h
  ·rename_i p
   split at h
   ·refine⟨_,?_,h⟩
    simp only[Sem.run_bind,guard (.pointer p) (.pointer none) rfl,Result.andThen_ok];simp[binOp,iG hu]
   ·refine⟨_,?_,h⟩
    simp only[Sem.run_bind,guard (.pointer p) (.pointer none) rfl,Result.andThen_ok];simp[binOp,iG hu]
   ·exact h.elim
  ·exact h.elim
 ·rename_i el hu
  split at h
  ·rename_i p l1 c1 l2 c2
   split at h
   ·refine⟨_,?_,h⟩
    simp only[Sem.run_bind,guard (.slice p l1 c1) (.slice none l2 c2) rfl,Result.andThen_ok];simp[binOp,qAv hu]
   ·refine⟨_,?_,h⟩
    simp only[Sem.run_bind,guard (.slice p l1 c1) (.slice none l2 c2) rfl,Result.andThen_ok];simp[binOp,qAv hu]
   ·exact h.elim
  ·exact h.elim
 ·exact h.elim
theorem vO{e:Env}{n:Nat}{dfs:List Deferred}{a:Act}(h:Rep n dfs e a)(xs:Array Operand){K:List Value ->Prop}(hk:wvs e xs.toList K):K (xs.map a.eval).toList:=by
 have:=lG h hk
 simpa using this
theorem dH{xs:vQ}{v:Value}(h:xs.toList=[v]):xs= #[v]:=by
 cases xs;simp at h;subst h;rfl
theorem gS{xs:vQ}{u v:Value}(h:xs.toList=[u,v]):xs= #[u,v]:=by
 cases xs;simp at h;subst h;rfl
theorem sG{n:Nat}{dfs:List Deferred}{e:Env}{a:Act}{o:Oper}{K:Value ->Prop}(hr:Rep n dfs e a)(h:sF P w e o.op K):∃v,(execOp a.eval o).run P w= .ok (.value v) w/\K v:=by
 obtain⟨dst,op,type,pos,after,guard⟩:=o;have fin:∀{s:Sem Value} {K':Value ->Prop},(∃v,s.run P w= .ok v w/\K' v) ->∃v,(do pure (Next.value (<-s)):Sem Next).run P w= .ok (.value v) w/\K' v:=
  fun⟨v,h1,h2⟩=>⟨v,r_v h1,h2⟩
 unfold sF at h;simp only at h
 split at h
 ·exact⟨_,rfl,xF hr h⟩
 ·exact⟨_,rfl,xF hr h⟩
 ·rename_i c x y
  have h:=xF hr h;simp only[execOp]
  split at h
  ·rename_i hc;exact⟨_,by simp[hc,asBool],xF hr h⟩
  ·rename_i hc;exact⟨_,by simp[hc,asBool],xF hr h⟩
  ·exact h.elim
 ·exact fin (aC (xF hr h))
 ·exact qCz (ρ:=a.eval) rfl (xF hr h)
 ·rename_i op t x y yt
  have h:=xF hr h;have h:=xF hr h;refine fin (qCy (fun hn=> ?_) h);unfold iN at hn
  split at hn
  ·rfl
  ·cases hn
 ·exact fin (wk (pI (xF hr h)))
 ·exact fin (wM (xF hr h))
 ·rename_i t x
  have h:=xF hr h
  split at h
  ·exact h.elim
  ·rename_i d hd hu
   refine fin ⟨_,?_,h⟩
   cases d<;>first
    |exact absurd rfl (hd _)
    |simp[Instr.makeInterface,xQ hu]
  ·exact h.elim
 ·rename_i fn first cap
  have h:=lG hr h;have h:=lG hr h;refine fin ⟨_,?_,h⟩;have e1:(List.map a.eval first.toList).toArray=first.map a.eval:=by simp[<-Array.toList_map]
  have e2:(List.map a.eval cap.toList).toArray=cap.map a.eval:=by simp[<-Array.toList_map]
  rw[e1,e2];simp[Instr.makeFunc]
 ·rename_i t x lo hi
  have h:=xF hr h;have h:=lE hr h;have h:=lE hr h;exact fin (wk (fS h))
 ·rename_i t x lo hi mx
  have h:=xF hr h;have h:=xF hr h;have h:=xF hr h;have h:=xF hr h;exact fin (wk (lC h))
 ·exact fin (wk (tM (xF hr h)))
 ·exact fin (wk (fP (xF hr h)))
 ·rename_i t x i
  have h:=xF hr h;have h:=xF hr h;exact fin (wk (tN h))
 ·rename_i t x i
  have h:=xF hr h;have h:=xF hr h;exact fin (wk (fQ h))
 ·rename_i x i
  have h:=xF hr h
  split at h
  ·rename_i vs hv
   split at h
   ·rename_i v hi
    exact fin ⟨v,by simp[Instr.extract,hv,hi],h⟩
   ·exact h.elim
  ·exact h.elim
 ·rename_i x xt at_ ok
  have h:=xF hr h;obtain⟨u,b,h1,h2⟩:=qGf h;obtain⟨u',rfl,h3⟩:=sN h2
  cases ok
  ·exact fin ⟨_,by simpa using h1,h3⟩
  ·exact fin ⟨_,by simpa using h1,h3⟩
 ·rename_i t parts
  have h:=lF hr h;obtain⟨ps',hs,h⟩:=uV h
  split at h
  ·rename_i cs hc
   refine fin ⟨_,tL ?_,h⟩;rw[<-hc,<-tK hs];congr 1;simp
  ·exact h.elim
 ·rename_i c
  have bi:∀{b:Builtin} {ts:Array TypeId} {ty:TypeId} {cs:Array Bool} {xs:vQ} {K':Value ->Prop} {s:Sem Value},builtin b ts ty cs xs=(do pure (Next.value (<-s)):Sem Next) ->(∃v,s.run P w= .ok v w/\K' v) ->
    ∃v,(builtin b ts ty cs xs).run P w= .ok (.value v) w/\K' v:=fun e h=>by rw[e];exact fin h
  obtain⟨callee,args,argTypes⟩:=c;simp only at h;simp only[execOp]
  split at h
  ·have h:=vO hr _ h
   split at h
   ·rename_i x t hx ht
    have hx:=dH hx;simp only[resolve,Sem.run_bind,Sem.run_pure,Result.andThen_ok,invoke];exact bi rfl (by rw[hx];exact wk (cV ht h))
   ·exact h.elim
  ·have h:=vO hr _ h
   split at h
   ·rename_i x t hx ht
    have hx:=dH hx;simp only[resolve,Sem.run_bind,Sem.run_pure,Result.andThen_ok,invoke];exact bi rfl (by rw[hx];exact wk (cT ht h))
   ·exact h.elim
  ·have h:=vO hr _ h
   split at h
   ·rename_i k x k' y hx
    have hx:=gS hx;simp only[resolve,Sem.run_bind,Sem.run_pure,Result.andThen_ok,invoke];exact bi rfl ⟨_,by rw[hx];simp[Builtin.min_,Builtin.min2,yU],h⟩
   ·exact h.elim
  ·have h:=vO hr _ h
   split at h
   ·rename_i k x k' y hx
    have hx:=gS hx;simp only[resolve,Sem.run_bind,Sem.run_pure,Result.andThen_ok,invoke];exact bi rfl ⟨_,by rw[hx];simp[Builtin.max_,Builtin.max2,vJ],h⟩
   ·exact h.elim
  ·exact h.elim
 ·exact h.elim
end
def qB(w:wQ)(a:Addr)(v:Value)(K:World ->Prop):Prop:=(w.cell? a).isSome=true/\w.frozen? a=false/\K (w.setCell a v)
def qL(w:wQ)(o:Obj)(K:Nat ->World ->Prop):Prop:=K w.heap.size (w.alloc o)
def qO(w:wQ)(K:World ->Prop):Prop:=K w.drew
def nA(a:Addr):Nat ->List Value ->World ->(World ->Prop) ->Prop
 |_,[],w,K=>K w
 |i,v::vs,w,K=>yE v.oneCell' (qB w (a.add i) v fun w'=>nA a (i+1) vs w' K)
def qDj(P:Program)(w:wQ)(t:TypeId)(a:Addr)(cs:vQ)(K:World ->Prop):Prop:=∃w',(storeVar t a (.agg cs)).run P w= .ok () w'/\K w'
def uI(P:Program)(el:TypeId)(n:Nat):vQ:=(Array.range (n*P.cellsOf el)).map fun i=>(zc P el)[i%(zc P el).size]!
def CallT(P:Program)(f:FuncId)(args:vQ)(w:wQ)(R:Value ->World ->Prop):Prop:=Calls P f args w fun e w'=>∃v,e= .returned v/\R v w'
theorem CallT.mono{P:Program}{f:FuncId}{args:vQ}{w:wQ}{R R':Value ->World ->Prop}(h:CallT P f args w R)(hr:∀v w',R v w' ->R' v w'):CallT P f args w R':=
 Calls.mono h fun _ _ ⟨v,h1,h2⟩=>⟨v,h1,hr _ _ h2⟩
section
variable(P:Program)(G:Nat ->Bool)(w:wQ)
def wS(t:TypeId)(p v:Value)(K:World ->Prop):Prop:=
 match p with
 | .pointer q=>qN q fun a=>
  match P.info? t with
  |some i=>match fW P t with
   |some false=>match Nat.beq i.size 1 with|true=>yE v.oneCell' (qB w a v K)|false=>False
   |some true=>match v with
    | .agg cs=>match Nat.ble i.size 16 with
     |true=>match Nat.beq cs.size i.size with|true=>nA a 0 cs.toList w K|false=>False
     |false=>qDj P w t a cs K
    |_ =>False
   |none=>False
  |none=>False
 |_ =>False
def mD(el:TypeId)(len:Nat)(ps:List (Nat×Value)):Option (vQ):=
 match P.info? el with
 |some ie=>match Nat.ble (len*ie.size) 16777216 with
  |true=>match Nat.beq (len*ie.size) 0 with
   |true=>Instr.fill (fun i=>some (i*ie.size,ie.size)) #[] ps
   |false=>match zv P el with
    |some z=>Instr.fill (fun i=>some (i*ie.size,ie.size)) ((Array.range (len*ie.size)).map (z.cells[·%z.cells.size]!)) ps
    |none=>none
  |false=>none
 |none=>none
def qGe(t:TypeId)(l c:Value)(K:Value ->World ->Prop):Prop:=
 match l,c with
 | .int _ l,.int _ c=>match P.underlying t with
  |some (.slice el)=>match P.info? el with
   |some ie=>match zv P el with
    |some _ =>(0<=l/\l<=c/\c<=281474976710656/\(ie.bytes:Int)*c<=281474976710656)/\qL w (.cells (uI P el c.toNat) el) fun r w'=>K (.slice (some ⟨r,0,none⟩) l.toNat c.toNat) w'
    |none=>False
   |none=>False
  |_ =>False
 |_,_ =>False
def AppC(ts:Array TypeId)(ty:TypeId)(s x:Value)(K:Value ->World ->Prop):Prop:=
 ∃(p:pQ) (l c:Nat) (w':wQ),(Builtin.append_ ts ty #[s,x]).run P w= .ok (.slice p l c) w'/\K (.slice p l c) w'
def CopyC(ts:Array TypeId)(ty:TypeId)(s x:Value)(K:Value ->World ->Prop):Prop:=
 ∃(n:Int) (w':wQ),(Builtin.copy_ ts ty #[s,x]).run P w= .ok (.int .i64 n) w'/\K (.int .i64 n) w'
def ConvC(s d:TypeId)(x:Value)(K:Value ->World ->Prop):Prop:=
 ∃(p:pQ) (l c:Nat) (w':wQ),(convert s d x).run P w= .ok (.slice p l c) w'/\K (.slice p l c) w'
def gH(f:FuncId)(args:vQ)(K:Value ->World ->Prop):Prop:=∃v w',(callFunc f args).run P w= .ok (.value v) w'/\K v w'
def vG(recv:Value)(name:String)(args:List Value)(K:Value ->World ->Prop):Prop:=
 ∃t v f r,recv= .iface t v/\(method (P.types.size+Made.depth) t v name).run P w= .ok (f,r) w/\(match G f with|true=>CallT P f (r::args).toArray w K|false=>gH P w f (r::args).toArray K)
def nF(fv:Value)(args:List Value)(K:Value ->World ->Prop):Prop:=
 match fv with
 | .func (.func g) first cap=>match G g with
  |true=>CallT P g (first.toList++args++cap.toList).toArray w K
  |false=>gH P w g (first.toList++args++cap.toList).toArray K
 | .func (.method name) first _ =>match first.toList++args with
  |recv::args=>vG P G w recv name args K
  |[]=>False
 |_ =>False
def dL(e:Env)(op:Op)(ty:TypeId)(K:Value ->World ->Prop):Prop:=
 match op with
 | .store t x y=>wv e x fun p=>wv e y fun v=>wS P w t p v fun w'=>K undef w'
 | .alloc t=>match zv P t with|some _ =>qL w (.cells (zc P t) t) fun r w'=>K (.pointer (some ⟨r,0,none⟩)) w'|none=>False
 | .box t x=>wv e x fun v=>qL w (.cells v.cells t) fun r w'=>K (.pointer (some ⟨r,0,none⟩)) w'
 | .buildSlice t len ps=>wvp e ps.toList fun ps=>match P.underlying t with
  |some (.slice el)=>match mD P el len ps with
   |some cs=>qL w (.cells cs el) fun r w'=>K (.slice (some ⟨r,0,none⟩) len len) w'
   |none=>False
  |_ =>False
 | .makeSlice t l c=>wv e l fun l=>wv e c fun c=>qGe P w t l c K
 | .convert s d x=>wv e x fun x=>ConvC P w s d x K
 | .call c=>match c.callee with
  | .builtin .append=>wvs e c.args.toList fun xs=>match xs with|[s,x]=>AppC P w c.argTypes ty s x K|_ =>False
  | .builtin .copy=>wvs e c.args.toList fun xs=>match xs with|[s,x]=>CopyC P w c.argTypes ty s x K|_ =>False
  | .value f=>wv e f fun fv=>wvs e c.args.toList fun xs=>nF P G w fv xs fun v w'=>TyR P ty v fun v'=>K v' w'
  | .invoke r name=>wv e r fun rv=>wvs e c.args.toList fun xs=>vG P G w rv name xs fun v w'=>TyR P ty v fun v'=>K v' w'
  |_ =>False
 |_ =>False
end
def jW(P:Program)(G:Nat ->Bool):Prop:=∀g,G g=true ->∃fn,P.funcs[g]? =some fn/\fn.body.isNone=false/\(fn.name== "runtime.NumGoroutine")=false
section
variable{P:Program}{G:Nat ->Bool}{w:wQ}
theorem qBu{v:Value}(h:v.oneCell'=true):v.cells= #[v]:=by cases v<;>first|rfl|cases h
theorem aS{b:Bool}{X:Prop}(h:yE b X):b=true/\X:=by cases b with|true=>exact⟨rfl,h⟩|false=>exact h.elim
theorem qBj{a:Addr}{v:Value}{K:World ->Prop}(hv:v.oneCell'=true)(h:qB w a v K):(store a v).run P w= .ok () (w.setCell a v)/\K (w.setCell a v):=by
 obtain⟨h1,h2,h3⟩:=h;refine⟨?_,h3⟩;rw[run_store P w a v .plain hv]
 cases hc:w.cell? a with
 |none=>simp[hc]at h1
 |some u=>simp[h2]
theorem mX{a:Addr}:∀{vs:List Value} {i:Nat} {w:wQ} {K:World ->Prop},nA a i vs w K ->∃w',(storeCells a vs i).run P w= .ok () w'/\K w'
 |[],_,w,_,h=>⟨w,by simp[storeCells],h⟩
 |v::vs,i,w,K,h=>by
  obtain⟨h1,h2⟩:=aS h;obtain⟨h3,h4⟩:=qBj (P:=P) h1 h2;obtain⟨w',h5,h6⟩:=mX h4;exact⟨w',by simp only[storeCells,Sem.run_bind,h3,Result.andThen_ok,h5],h6⟩
theorem pH{t:TypeId}{p v:Value}{K:World ->Prop}(h:wS P w t p v K):∃w',(Instr.storeAt t p v).run P w= .ok () w'/\K w':=by
 unfold wS at h
 cases p with
 |pointer q=>
  replace h:=uP h;obtain⟨a,rfl,h⟩:=h
  split at h
  ·rename_i i hi
   split at h
   ·split at h
    ·rename_i e
     have e:=Nat.eq_of_beq_eq_true e;obtain⟨h1,h2⟩:=aS h;obtain⟨h3,h4⟩:=qBj (P:=P) h1 h2;refine⟨_,?_,h4⟩;have ha:(a.add 0)=a:=by simp[Addr.add]
     simp only[Instr.storeAt,Instr.sureAddr,Sem.run_bind,Sem.run_pure,Result.andThen_ok,storeVar,yM hi,qBu h1,e];simp[storeCells,ha,h3]
    ·exact h.elim
   ·cases v with
    |agg cs=>
     simp only at h
     split at h
     ·split at h
      ·rename_i e
       have e:=Nat.eq_of_beq_eq_true e;obtain⟨w',h1,h2⟩:=mX (P:=P) h;refine⟨w',?_,h2⟩;simp only[Instr.storeAt,Instr.sureAddr,Sem.run_bind,Sem.run_pure,Result.andThen_ok,storeVar,yM hi,Value.cells,e];simp[h1]
      ·exact h.elim
     ·obtain⟨w',h1,h2⟩:=h
      exact⟨w',by simp only[Instr.storeAt,Instr.sureAddr,Sem.run_bind,Sem.run_pure,Result.andThen_ok,h1],h2⟩
    |_ =>exact h.elim
   ·exact h.elim
  ·exact h.elim
 |_ =>exact h.elim
theorem fZ{t el:TypeId}{len:Nat}{ps:Array (Nat×Value)}{cs:vQ}(hu:P.underlying t=some (.slice el))(h:mD P el len ps.toList=some cs):
  (Instr.buildSlice t len ps).run P w= .ok (.slice (some ⟨w.heap.size,0,none⟩) len len) (w.alloc (.cells cs el)):=by
 unfold mD at h
 split at h
 ·rename_i ie hi
  split at h
  ·rename_i hle
   have hle:=Nat.le_of_ble_eq_true hle;have hn:¬(len*ie.size>2^24):=oQ
   split at h
   ·rename_i e
    have e:=Nat.eq_of_beq_eq_true e;have e0:¬(0>2^24):=oQ;have e1:(Array.map (fun x=>(#[]:vQ)[x%(#[]:vQ).size]!) (Array.range 0))= #[]:=by simp
    simp only[Instr.buildSlice,Sem.run_bind,xQ hu,yM hi,Result.andThen_ok,Sem.run_ite,if_false,e,e0,if_true,Sem.run_pure,e1,h,newRow,run_newObj]
    rfl
   ·rename_i e
    have e:len*ie.size≠0:=fun e'=>by rw[e']at e;simp at e
    split at h
    ·rename_i z hz
     simp only[Instr.buildSlice,Sem.run_bind,xQ hu,yM hi,Result.andThen_ok,Sem.run_ite,hn,if_false,e,Sem.run_pure,wA hz,h,newRow,run_newObj]
     rfl
    ·cases h
  ·cases h
 ·cases h
theorem wP{t:TypeId}{l c:Value}{K:Value ->World ->Prop}(h:qGe P w t l c K):∃v w',(Instr.makeSlice t l c).run P w= .ok v w'/\K v w':=by
 unfold qGe at h
 split at h
 ·rename_i k l k' c
  split at h
  ·rename_i el hu
   split at h
   ·rename_i ie hi
    split at h
    ·rename_i z hz
     obtain⟨⟨h1,h2,h3,h4⟩,hk⟩:=h;refine⟨.slice (some ⟨w.heap.size,0,none⟩) l.toNat c.toNat,w.alloc (.cells (uI P el c.toNat) el),?_,hk⟩;have wl:IntKind.i64.wrap l=l:=by rw[IntKind.wrap_i64];omega
     have wc:IntKind.i64.wrap c=c:=by rw[IntKind.wrap_i64];omega
     have t1:¬(c<0):=oQ;have t2:¬((ie.bytes:Int)*c>2^48):=oQ;have t3:¬(l<0):=oQ;have t4:¬(l>c):=oQ;have hzc:zc P el=z.cells:=by
      unfold zv at hz;unfold zc;simp only[hi]at hz⊢;simp[hz]
     simp only[Instr.makeSlice,Sem.run_bind,xQ hu,Result.andThen_ok,asInt,asIntOf,Sem.run_pure,rZ hi,wl,wc];simp only[t1,t2,t3,t4,decide_false,Bool.or_self,Bool.false_eq_true,if_false,run_askRoom,Result.andThen_ok,yM hi,Sem.run_bind]
     by_cases hn:c.toNat*ie.size=0
     ·simp only[hn,if_true]
      have e0:Array.range 0= #[]:=rfl;simp[newRow,uI,rR hi,hn,e0]
     ·simp only[hn,if_false,Sem.run_bind,wA hz,Result.andThen_ok,Sem.run_pure]
      simp[newRow,uI,rR hi,hzc]
    ·exact h.elim
   ·exact h.elim
  ·exact h.elim
 ·exact h.elim
theorem tH(hG:jW P G){g:FuncId}(hg:G g=true){args:vQ}:(callFunc g args).run P w= .ok (.enter g args) w:=by
 obtain⟨fn,h1,h2,h3⟩:=hG g hg;simp only[callFunc,Sem.run_bind,run_program,Result.andThen_ok,h1,h3,h2,Bool.false_eq_true,if_false,Sem.run_pure]
theorem fA{o:Oper}{a:Act}{next:Act ->World ->Prop}{Q:Exit ->Act ->World ->Prop}{f:FuncId}{args:vQ}{K:Value ->World ->Prop}
  (hk:∀v w',K v w' ->next (a.put o.dst v) w')(h:CallT P f args w K):o.upon P a next Q (.ok (.enter f args) w):=by
 rw[Oper.upon_enter];exact Calls.mono h fun e w' ⟨v,he,hv⟩=>by subst he;exact hk _ _ hv
theorem pF(hG:jW P G){o:Oper}{a:Act}{next:Act ->World ->Prop}{Q:Exit ->Act ->World ->Prop}{fv:Value}{args:List Value}{K:Value ->World ->Prop}
  (hk:∀v w',K v w' ->next (a.put o.dst v) w')(h:nF P G w fv args K):
  o.upon P a next Q ((do let d<-Deferred.ofValue fv args.toArray;invoke d.target d.args:Sem Next).run P w):=by
 unfold nF at h;have inv:∀{recv:Value} {name:String} {args:List Value},vG P G w recv name args K ->o.upon P a next Q ((callMethod recv name args.toArray).run P w):=by
  intro recv name args hi;obtain⟨t,v,f,r,rfl,h1,h3⟩:=hi;simp only[callMethod,Sem.run_bind,run_program,Result.andThen_ok,h1];have: #[r]++args.toArray=(r::args).toArray:=by simp
  rw[this]
  split at h3
  ·rename_i h2
   rw[tH hG h2];exact fA hk h3
  ·obtain⟨v,w',h4,h5⟩:=h3
   rw[h4];exact hk _ _ h5
 split at h
 ·rename_i g first cap
  have e:first++args.toArray++cap=(first.toList++args++cap.toList).toArray:=by simp
  simp only[Deferred.ofValue,Sem.run_bind,Sem.run_pure,Result.andThen_ok,invoke,e]
  split at h
  ·rename_i hg
   rw[tH hG hg];exact fA hk h
  ·obtain⟨v,w',h1,h2⟩:=h
   rw[h1];exact hk _ _ h2
 ·rename_i name first cap
  simp only[Deferred.ofValue,Sem.run_bind,Sem.run_pure,Result.andThen_ok,invoke]
  split at h
  ·rename_i recv rest hr
   have e:first++args.toArray=(recv::rest).toArray:=by rw[<-hr];simp
   rw[e];have e2:((recv::rest).toArray.extract 1 (recv::rest).toArray.size)=rest.toArray:=by simp
   have e3:((recv::rest).toArray[0]? :Option Value)=some recv:=by simp
   simp only[e3,e2];exact inv h
  ·exact h.elim
 ·exact h.elim
theorem qEq(x:Value)(ys:vQ):((#[x]++ys)[0]? :Option Value)=some x:=by
 cases ys with|mk l=>simp
theorem qIf(x:Value)(ys:vQ):(#[x]++ys).extract 1 (#[x]++ys).size=ys:=by
 cases ys with|mk l=>apply Array.ext';simp
theorem lD(hG:jW P G){n:Nat}{dfs:List Deferred}{e:Env}{a:Act}{o:Oper}{next:Act ->World ->Prop}{Q:Exit ->Act ->World ->Prop}{K:Value ->World ->Prop}(hr:Rep n dfs e a)
  (hk:∀v w',K v w' ->next (a.put o.dst v) w')(h:dL P G w e o.op o.type K):o.wp P a w next Q:=by
 obtain⟨dst,op,type,pos,after,guard⟩:=o;have fin:∀{s:Sem Value} {v:Value} {w':wQ},s.run P w= .ok v w' ->K v w' ->Oper.upon P ⟨dst,op,type,pos,after,guard⟩ a next Q ((do pure (Next.value (<-s)):Sem Next).run P w):=by
  intro s v w' h1 h2;rw[r_v h1];exact hk _ _ h2
 unfold Oper.wp;unfold dL at h;simp only at h
 split at h
 ·have h:=xF hr h
  have h:=xF hr h;obtain⟨w',h1,h2⟩:=pH h;simp only[execOp,Sem.run_bind,h1,Result.andThen_ok,Sem.run_pure,Oper.upon_skip];exact hk _ _ h2
 ·rename_i t
  split at h
  ·rename_i z hz
   simp only[execOp];refine fin (v:= .pointer (some ⟨w.heap.size,0,none⟩)) (w':=w.alloc (.cells (zc P t) t)) ?_ h;have hzc:zc P t=z.cells:=by
    unfold zv at hz;unfold zc
    split at hz
    ·simp[hz]
    ·cases hz
   simp only[Instr.alloc,Sem.run_bind,wA hz,Result.andThen_ok,newVar,newRow,run_newObj,Sem.run_pure,hzc]
   rfl
  ·exact h.elim
 ·rename_i t x
  have h:=xF hr h;simp only[execOp];refine fin (v:= .pointer (some ⟨w.heap.size,0,none⟩)) (w':=w.alloc (.cells (a.eval x).cells t)) ?_ h;simp only[Instr.box,Sem.run_bind,newVar,newRow,run_newObj,Sem.run_pure,Result.andThen_ok]
  rfl
 ·rename_i t len ps
  have h:=lF hr h
  split at h
  ·rename_i el hu
   split at h
   ·rename_i cs hc
    simp only[execOp];refine fin (v:= .slice (some ⟨w.heap.size,0,none⟩) len len) (w':=w.alloc (.cells cs el)) (fZ hu ?_) h;rw[<-hc];congr 1;simp
   ·exact h.elim
  ·exact h.elim
 ·have h:=xF hr h
  have h:=xF hr h;obtain⟨v,w',h1,h2⟩:=wP h;simp only[execOp];exact fin h1 h2
 ·have h:=xF hr h
  obtain⟨p,l,c,w',h1,h2⟩:=h;simp only[execOp];exact fin h1 h2
 ·rename_i c
  obtain⟨callee,args,argTypes⟩:=c;simp only at h;simp only[execOp]
  split at h
  ·have h:=vO hr _ h
   split at h
   ·rename_i s x hx
    have hx:=gS hx;obtain⟨p,l,c,w',h1,h2⟩:=h;simp only[resolve,Sem.run_bind,Sem.run_pure,Result.andThen_ok,invoke,hx];have:=fin h1 h2
    simpa only[builtin,Sem.run_bind]using this
   ·exact h.elim
  ·have h:=vO hr _ h
   split at h
   ·rename_i s x hx
    have hx:=gS hx;obtain⟨m,w',h1,h2⟩:=h;simp only[resolve,Sem.run_bind,Sem.run_pure,Result.andThen_ok,invoke,hx];have:=fin h1 h2
    simpa only[builtin,Sem.run_bind]using this
   ·exact h.elim
  ·rename_i f
   have h:=xF hr h;have h:=vO hr _ h;have:=pF (Q:=Q) (o:=⟨dst,.call ⟨.value f,args,argTypes⟩,type,pos,after,guard⟩) (a:=a) (next:=next) hG (fun v w' hv=>hk _ _ (dT hv)) h
   simpa only[resolve,Array.toArray_toList]using this
  ·rename_i r name
   have h:=xF hr h;have h:=vO hr _ h;obtain⟨t,v,f,rr,h0,h1,h3⟩:=h;simp only[resolve,Sem.run_bind,Sem.run_pure,Result.andThen_ok,invoke];have e0:=qEq (a.eval r) (args.map a.eval);have e1:=qIf (a.eval r) (args.map a.eval);rw[h0]at e0 e1;simp only[h0,e0,e1,callMethod,Sem.run_bind,run_program,Result.andThen_ok,h1];have e2: #[rr]++args.map a.eval=(rr::(args.map a.eval).toList).toArray:=by simp
   rw[e2]
   split at h3
   ·rename_i h2
    rw[tH hG h2];exact fA (fun v w' hv=>hk _ _ (dT hv)) h3
   ·obtain⟨v,w',h4,h5⟩:=h3
    rw[h4];exact hk _ _ (dT h5)
  ·exact h.elim
 ·exact h.elim
end
def qEt(P:Program)(t:TypeId):Bool:=
 match P.underlying t with
 |some (.int _)|some .bool|some .string|some (.pointer _)|some (.slice _)=>true
 |_ =>false
def iJ(P:Program)(_e:Env)(op:Op):Bool:=
 match op with
 | .move _ | .assign _ | .pick .. | .makeInterface .. | .slice .. | .fieldAddr .. | .field .. | .indexAddr .. | .index .. | .extract .. | .build .. | .unOp .. =>true
 | .binOp _ t _ _ _ =>qEt P t
 | .convert s d _ =>match P.underlying d with
  |some (.int _)=>true
  |some .string=>match P.underlying s with|some .string=>true|_ =>false
  |_ =>false
 | .call c=>match c.callee with| .builtin .len| .builtin .cap| .builtin .min| .builtin .max=>true|_ =>false
 |_ =>false
section
variable{P:Program}{w:wQ}
theorem qCx{op:BinOp}{t:TypeId}{x y:Operand}{va vb:Value}{K:Value ->Prop}(hf:qEt P t=true)(h:vBin P w op t x y va vb K):
  ∃v,(∀w,(do eqGuard op t x y va vb;binOp op t va vb:Sem Value).run P w= .ok v w)/\K v:=by
 have guard:∀(a b:Value) (w:wQ),okG a b=true ->(eqGuard op t x y a b).run P w= .ok () w:=fun a b w=>iW a b;unfold vBin at h;unfold qEt at hf
 split at h
 ·split at h
  ·rename_i k a k' b
   obtain⟨v,h1,h2⟩:=cU (P:=P) (t:=t) h;exact⟨v,fun w=>by simp only[Sem.run_bind,guard (.int k a) (.int k' b) w rfl,Result.andThen_ok,h1],h2⟩
  ·exact h.elim
 ·split at h
  ·rename_i hu _ _ a b
   split at h
   ·refine⟨_,fun w=> ?_,h⟩
    simp only[Sem.run_bind,guard (.bool a) (.bool b) w rfl,Result.andThen_ok];simp[binOp,dF hu]
   ·refine⟨_,fun w=> ?_,h⟩
    simp only[Sem.run_bind,guard (.bool a) (.bool b) w rfl,Result.andThen_ok];simp[binOp,dF hu]
   ·exact h.elim
  ·exact h.elim
 ·split at h
  ·rename_i hu _ _ a b
   split at h
   ·refine⟨_,fun w=> ?_,h⟩
    simp only[Sem.run_bind,guard (.string a) (.string b) w rfl,Result.andThen_ok];simp[binOp,Op.stringOp,vK]
   ·refine⟨_,fun w=> ?_,h⟩
    simp only[Sem.run_bind,guard (.string a) (.string b) w rfl,Result.andThen_ok];simp[binOp,Op.stringOp,vK]
   ·refine⟨_,fun w=> ?_,h.2⟩
    simp only[Sem.run_bind,guard (.string a) (.string b) w rfl,Result.andThen_ok];have:¬(((a.size+b.size:Nat):Int)>IntKind.i64.max):=by
     have:=h.1;simp only[IntKind.max,IntKind.signed,IntKind.bits];omega
    simp only[binOp,Op.stringOp,this,if_false,Sem.run_pure]
   ·exact h.elim
  ·exact h.elim
 ·rename_i hu;simp[hu]at hf
 ·rename_i hu;simp[hu]at hf
 ·rename_i el hu
  split at h
  ·rename_i p
   split at h
   ·refine⟨_,fun w=> ?_,h⟩
    simp only[Sem.run_bind,guard (.pointer p) (.pointer none) w rfl,Result.andThen_ok];simp[binOp,iG hu]
   ·refine⟨_,fun w=> ?_,h⟩
    simp only[Sem.run_bind,guard (.pointer p) (.pointer none) w rfl,Result.andThen_ok];simp[binOp,iG hu]
   ·exact h.elim
  ·exact h.elim
 ·rename_i el hu
  split at h
  ·rename_i p l1 c1 l2 c2
   split at h
   ·refine⟨_,fun w=> ?_,h⟩
    simp only[Sem.run_bind,guard (.slice p l1 c1) (.slice none l2 c2) w rfl,Result.andThen_ok];simp[binOp,qAv hu]
   ·refine⟨_,fun w=> ?_,h⟩
    simp only[Sem.run_bind,guard (.slice p l1 c1) (.slice none l2 c2) w rfl,Result.andThen_ok];simp[binOp,qAv hu]
   ·exact h.elim
  ·exact h.elim
 ·exact h.elim
theorem oU{n:Nat}{dfs:List Deferred}{e:Env}{a:Act}{o:Oper}{K:Value ->Prop}(hr:Rep n dfs e a)(hf:iJ P e o.op=true)(h:sF P w e o.op K):
  ∃v,(∀w,(execOp a.eval o).run P w= .ok (.value v) w)/\K v:=by
 obtain⟨dst,op,type,pos,after,guard⟩:=o;have fin:∀{s:Sem Value} {K':Value ->Prop},(∃v,(∀w,s.run P w= .ok v w)/\K' v) ->∃v,(∀w,(do pure (Next.value (<-s)):Sem Next).run P w= .ok (.value v) w)/\K' v:=
  fun⟨v,h1,h2⟩=>⟨v,fun w=>r_v (h1 w),h2⟩
 unfold sF at h;unfold iJ at hf;simp only at h hf
 split at h
 ·exact⟨_,fun _ =>rfl,xF hr h⟩
 ·exact⟨_,fun _ =>rfl,xF hr h⟩
 ·rename_i c x y
  have h:=xF hr h;simp only[execOp]
  split at h
  ·rename_i hc;exact⟨_,fun w=>by simp[hc,asBool],xF hr h⟩
  ·rename_i hc;exact⟨_,fun w=>by simp[hc,asBool],xF hr h⟩
  ·exact h.elim
 ·cases hf
 ·cases hf
 ·have h:=xF hr h
  have h:=xF hr h;exact fin (qCx hf h)
 ·exact fin (pI (xF hr h))
 ·rename_i s d x
  have h:=xF hr h;unfold qBo at h;refine fin ?_
  split at h
  ·rename_i k1 k hs hd
   revert h
   generalize a.eval x=xv;intro h
   cases xv with
   |int k0 m=>exact⟨_,fun w=>by simp[convert,xQ hs,xQ hd,Conv.intToInt],h⟩
   |_ =>exact h.elim
  ·rename_i hs hd
   revert h
   generalize a.eval x=xv;intro h
   cases xv with
   |string b=>exact⟨_,fun w=>by simp[convert,xQ hs,xQ hd],h⟩
   |_ =>exact h.elim
  ·rename_i el hs hd
   simp[hs,hd]at hf
  ·exact h.elim
 ·rename_i t x
  have h:=xF hr h
  split at h
  ·exact h.elim
  ·rename_i d hd hu
   refine fin ⟨_,fun w=> ?_,h⟩
   cases d<;>first
    |exact absurd rfl (hd _)
    |simp[Instr.makeInterface,xQ hu]
  ·exact h.elim
 ·cases hf
 ·rename_i t x lo hi
  have h:=xF hr h;have h:=lE hr h;have h:=lE hr h;exact fin (fS h)
 ·rename_i t x lo hi mx
  have h:=xF hr h;have h:=xF hr h;have h:=xF hr h;have h:=xF hr h;exact fin (lC h)
 ·exact fin (tM (xF hr h))
 ·exact fin (fP (xF hr h))
 ·have h:=xF hr h
  have h:=xF hr h;exact fin (tN h)
 ·have h:=xF hr h
  have h:=xF hr h;exact fin (fQ h)
 ·rename_i x i
  have h:=xF hr h
  split at h
  ·rename_i vs hv
   split at h
   ·rename_i v hi
    exact fin ⟨v,fun w=>by simp[Instr.extract,hv,hi],h⟩
   ·exact h.elim
  ·exact h.elim
 ·cases hf
 ·rename_i t parts
  have h:=lF hr h;obtain⟨ps',hs,h⟩:=uV h
  split at h
  ·rename_i cs hc
   refine fin ⟨_,fun w=>tL ?_,h⟩;rw[<-hc,<-tK hs];congr 1;simp
  ·exact h.elim
 ·rename_i c
  have bi:∀{b:Builtin} {ts:Array TypeId} {ty:TypeId} {cs:Array Bool} {xs:vQ} {K':Value ->Prop} {s:Sem Value},builtin b ts ty cs xs=(do pure (Next.value (<-s)):Sem Next) ->(∃v,(∀w,s.run P w= .ok v w)/\K' v) ->
    ∃v,(∀w,(builtin b ts ty cs xs).run P w= .ok (.value v) w)/\K' v:=fun e h=>by rw[e];exact fin h
  obtain⟨callee,args,argTypes⟩:=c;simp only at h;simp only[execOp]
  split at h
  ·have h:=vO hr _ h
   split at h
   ·rename_i x t hx ht
    have hx:=dH hx;simp only[resolve,Sem.run_bind,Sem.run_pure,Result.andThen_ok,invoke];exact bi rfl (by rw[hx];exact cV ht h)
   ·exact h.elim
  ·have h:=vO hr _ h
   split at h
   ·rename_i x t hx ht
    have hx:=dH hx;simp only[resolve,Sem.run_bind,Sem.run_pure,Result.andThen_ok,invoke];exact bi rfl (by rw[hx];exact cT ht h)
   ·exact h.elim
  ·have h:=vO hr _ h
   split at h
   ·rename_i k x k' y hx
    have hx:=gS hx;simp only[resolve,Sem.run_bind,Sem.run_pure,Result.andThen_ok,invoke];exact bi rfl ⟨_,fun w=>by rw[hx];simp[Builtin.min_,Builtin.min2,yU],h⟩
   ·exact h.elim
  ·have h:=vO hr _ h
   split at h
   ·rename_i k x k' y hx
    have hx:=gS hx;simp only[resolve,Sem.run_bind,Sem.run_pure,Result.andThen_ok,invoke];exact bi rfl ⟨_,fun w=>by rw[hx];simp[Builtin.max_,Builtin.max2,vJ],h⟩
   ·exact h.elim
  ·exact h.elim
 ·exact h.elim
end
section
variable{wr:Op ->Bool}{P:Program}{ops:Array Oper}{K:Act ->World ->Prop}
abbrev noEx:Exit ->Act ->World ->Prop:=fun _ _ _ =>False
def aOp(wr:Op ->Bool)(P:Program)(ops:Array Oper)(j:Nat)(N:Act ->World ->Prop)(a:Act)(w:wQ):Prop:=
 match ops[j]? with
 |none=>False
 |some o=>if wr o.op then o.wp P a w N noEx else∃v,(execOp a.eval o).run P w= .ok (.value v) w/\N (a.put o.dst v) w
abbrev nO:=List (Nat×Sem Next×Value)
def Oblig(P:Program)(ops:Array Oper)(ps:nO)(j:Nat)(w:wQ):Prop:=
 ∀x∈ps,x.1∉(aM ops).getD j [] ->x.2.1.run P w= .ok (.value x.2.2) w
def isW(wr:Op ->Bool)(ops:Array Oper)(j:Nat):Prop:=∀o,ops[j]? =some o ->wr o.op=true
def wpO(wr:Op ->Bool)(P:Program)(ops:Array Oper)(K:Act ->World ->Prop)(ps:nO):Nat ->Array Bool ->Act ->World ->Prop
 |0,listed,a,w=>Region.ready .any ops listed=[]/\K a w
 |f+1,listed,a,w=>(Region.ready .any ops listed=[] ->K a w)/\
  ∀j∈Region.ready .any ops listed,aOp wr P ops j (fun a' w'=>(isW wr ops j ->Oblig P ops ps j w')/\wpO wr P ops K ps f (listed.setIfInBounds j true) a' w') a w
theorem qIq{o:Oper}{a:Act}{w:wQ}{N:Act ->World ->Prop}{Q:Exit ->Act ->World ->Prop}(h:o.wp P a w N noEx):o.wp P a w N Q:=by
 unfold Oper.wp at*;generalize(execOp a.eval o).run P w=r at*
 cases r with
 |ok n w'=>
  cases n<;>simp only[Oper.upon]at h⊢<;>first
   |exact h
   |exact Calls.mono h (fun e w'' he=>by
     cases e with
     |returned v=>exact he
     |panicked c=>exact he.elim
     |outgrown=>obtain⟨_,_,hf⟩:=he;exact hf.elim)
 |halt x w'=>cases x<;>simp only[Oper.upon]at h⊢<;>exact h.elim
theorem nU{j:Nat}{N N':Act ->World ->Prop}{a:Act}{w:wQ}(h:∀a w,N a w ->N' a w)(hh:aOp wr P ops j N a w):aOp wr P ops j N' a w:=by
 unfold aOp at*
 split
 ·rename_i e;simp[e]at hh
 ·rename_i o e
  simp only[e]at hh
  split at hh
  ·rename_i hw;simp only[hw,if_true];exact Oper.wp_mono h hh
  ·rename_i hw;simp only[hw];obtain⟨v,h1,h2⟩:=hh;exact⟨v,h1,h _ _ h2⟩
theorem mG{ps ps':nO}(hs:∀x∈ps,x∈ps'):∀{f:Nat} {listed:Array Bool} {a:Act} {w:wQ},wpO wr P ops K ps' f listed a w ->wpO wr P ops K ps f listed a w
 |0,_,_,_,h=>h
 |_ +1,_,_,_,h=>⟨h.1,fun j hj=>nU (fun _ _ ⟨h1,h2⟩=>⟨fun hw x hx=>h1 hw x (hs x hx),mG hs h2⟩) (h.2 j hj)⟩
def bO(wr:Op ->Bool)(ops:Array Oper):Bool:=
 let t:=aM ops
 (List.range ops.size).all fun j=>
  match ops[j]? with
  |none=>false
  |some oj=>
   (uR oj).all (·<j)&&(match oj.op with| .select .. =>false|_ =>true)&&oj.guard.isNone&&
   (List.range j).all fun k=>(t.getD j []).contains k||(match ops[k]? with|none=>false|some ok=>(wr oj.op&&wr ok.op)||(ok.apart ops oj&&oj.apart ops ok))
theorem sB(h:bO wr ops=true){j:Nat}{oj:Oper}(hj:ops[j]? =some oj):
  (∀p∈uR oj,p<j)/\(∀cs b,oj.op≠ .select cs b)/\oj.guard=none/\
  ∀k ok,k<j ->ops[k]? =some ok ->k∈(aM ops).getD j []\/(wr oj.op=true/\wr ok.op=true)\/(ok.apart ops oj=true/\oj.apart ops ok=true):=by
 have hlt:=(Array.getElem?_eq_some_iff.1 hj).1;have h':=List.all_eq_true.1 h j (List.mem_range.2 hlt);simp only[hj,Bool.and_eq_true,List.all_eq_true,decide_eq_true_eq,Bool.or_eq_true]at h';obtain⟨⟨⟨h1,h2⟩,h3⟩,h4⟩:=h';refine⟨h1,fun cs b e=>by simp[e]at h2,by simpa using h3,fun k ok hk hok=> ?_⟩;rcases h4 k (List.mem_range.2 hk)with h5|h5
 ·exact .inl (by simpa using h5)
 ·simp only[hok,Bool.or_eq_true,Bool.and_eq_true]at h5
  exact .inr h5
theorem nW(h:bO wr ops=true){listed:Array Bool}(inv:Inv ops listed){i j:Nat}{oi oj:Oper}(hi:i∈Region.ready .any ops listed)(hj:j∈Region.ready .any ops listed)(hij:j≠i)
  (hoi:ops[i]? =some oi)(hoj:ops[j]? =some oj)(hri:wr oi.op=false):oi.apart ops oj=true/\i∉(aM ops).getD j []:=by
 obtain⟨hilt,hiu,oi',hoi',hwi⟩:=vW hi;obtain⟨hjlt,hju,oj',hoj',hwj⟩:=vW hj;have e1:oi'=oi:=Option.some.inj (hoi'.symm.trans hoi);have e2:oj'=oj:=Option.some.inj (hoj'.symm.trans hoj);subst e1;subst e2;rw[mU (by rw[inv.size];exact hilt)]at hiu;rw[mU (by rw[inv.size];exact hjlt)]at hju;have hna:∀{x y:Nat} {oy:Oper},ops[y]? =some oy ->(∀p∈uR oy,listed.getD p false=true) ->listed.getD x false=false ->x∉(aM ops).getD y []:=by
  intro x y oy hy hw hx hmem;have:=fD (ops:=ops) (S:=fun p=>listed.getD p false=true) (fun k ok hk hs=>inv.closed k ok hk hs) hy hw x hmem;rw[hx]at this;cases this
 refine⟨?_,hna hoj hwj hiu⟩;rcases Nat.lt_or_ge i j with hlt|hge
 ·rcases(sB h hoj).2.2.2 i oi' hlt hoi with h1|⟨_,h2⟩|⟨h1,_⟩
  ·exact absurd h1 (hna hoj hwj hiu)
  ·rw[hri]at h2;cases h2
  ·exact h1
 ·have hlt:j<i:=oQ
  rcases(sB h hoi).2.2.2 j oj' hlt hoj with h1|⟨h2,_⟩|⟨_,h1⟩
  ·exact absurd h1 (hna hoi hwi hju)
  ·rw[hri]at h2;cases h2
  ·exact h1
theorem sH{listed:Array Bool}(_inv:Inv ops listed){i j:Nat}(hi:i∈Region.ready .any ops listed)(hij:i≠j):i∈Region.ready .any ops (listed.setIfInBounds j true):=by
 obtain⟨hlt,hu,o,ho,hw⟩:=vW hi;refine oW hlt ?_ ho fun p hp=> ?_
 ·simp only[Array.getD_eq_getD_getElem?,Array.getElem?_setIfInBounds_ne (Ne.symm hij)]at hu⊢;exact hu
 ·by_cases hpj:p=j
  ·subst hpj
   have hpl:=hw p hp;have:p<listed.size:=by
    rcases Nat.lt_or_ge p listed.size with h|h
    ·exact h
    ·simp[Array.getElem?_eq_none h]at hpl
   simp[this]
  ·have:=hw p hp
   simp only[Array.getD_eq_getD_getElem?,Array.getElem?_setIfInBounds_ne (Ne.symm hpj)]at this⊢;exact this
theorem dG{listed:Array Bool}(inv:Inv ops listed){j:Nat}(hj:j∈Region.ready .any ops listed):Inv ops (listed.setIfInBounds j true):=by
 obtain⟨hlt,hu,oj,hoj,hw⟩:=vW hj;refine⟨by simp[inv.size],fun i oi hi hli p hp=> ?_⟩;have hset:∀k,listed.getD k false=true ->(listed.setIfInBounds j true).getD k false=true:=by
  intro k hk
  by_cases hkj:k=j
  ·subst hkj;have:k<listed.size:=by rw[inv.size];exact hlt
   simp[this]
  ·simp only[Array.getD_eq_getD_getElem?,Array.getElem?_setIfInBounds_ne (Ne.symm hkj)]at hk⊢;exact hk
 by_cases hij:i=j
 ·subst hij
  have:oi=oj:=Option.some.inj (hi.symm.trans hoj);subst this;exact hset p (hw p hp)
 ·have hli':listed.getD i false=true:=by
   simp only[Array.getD_eq_getD_getElem?,Array.getElem?_setIfInBounds_ne (Ne.symm hij)]at hli⊢;exact hli
  exact hset p (inv.closed i oi hi hli' p hp)
theorem oF(a:Act)(ds:List Deferred):({a with defers:=ds}:Act).eval=a.eval:=by funext x;cases x<;>rfl
theorem qGq{j:Nat}{oi oj:Oper}(hoj:ops[j]? =some oj)(hap:oi.apart ops oj=true)(hsi:∀cs b,oi.op≠ .select cs b)(hsj:∀cs b,oj.op≠ .select cs b){N:Act ->World ->Prop}{a:Act}{v:Value}{w:wQ}
  (h:aOp wr P ops j N (a.put oi.dst v) w):aOp wr P ops j (fun a' w'=>N (a'.put oi.dst v) w'/\execOp a'.eval oi=execOp a.eval oi/\(wr oj.op=false ->w'=w)) a w:=by
 obtain⟨h1,h2,h3⟩:=Oper.apart_spec hap;have keep:∀(b:Act) (u:Value),b.eval=a.eval ->execOp (b.put oj.dst u).eval oi=execOp a.eval oi:=by
  intro b u hb;rw[execOp_put (ops:=ops) oi hsi b oj.dst u h3,hb]
 unfold aOp at*;simp only[hoj]at h⊢
 split
 ·rename_i hw
  simp only[hw,if_true]at h;unfold Oper.wp at*;rw[execOp_put (ops:=ops) oj hsj a oi.dst v h1]at h;generalize(execOp a.eval oj).run P w=r at*
  cases r with
  |ok n w'=>
   cases n<;>simp only[Oper.upon]at h⊢
   case value u=>exact⟨by rw[Act.put_comm a v u h2]at h;exact h,keep a u rfl,fun e=>by rw[hw]at e;cases e⟩
   case skip=>exact⟨by rw[Act.put_comm a v undef h2]at h;exact h,keep a undef rfl,fun e=>by rw[hw]at e;cases e⟩
   case defer d=>
    refine⟨?_,keep _ undef (oF _ _),fun e=>by rw[hw]at e;cases e⟩;rw[Act.put_defers,Act.put_comm _ v undef h2]at h;exact h
   case enter f args=>
    refine Calls.mono h fun e w'' he=> ?_
    cases e with
    |returned u=>
     have he:N ((a.put oi.dst v).put oj.dst u) w'':=he;exact⟨by rw[Act.put_comm a v u h2]at he;exact he,keep a u rfl,fun e=>by rw[hw]at e;cases e⟩
    |panicked c=>exact he
    |outgrown=>exact he
   case row row args=>
    refine Rows.mono h fun u w'' he=> ?_;exact⟨by rw[Act.put_comm a v u h2]at he;exact he,keep a u rfl,fun e=>by rw[hw]at e;cases e⟩
  |halt x w'=>cases x<;>simp only[Oper.upon]at h⊢<;>first|exact h|exact h.elim
 ·rename_i hw
  simp only[hw]at h;obtain⟨u,hu,hn⟩:=h;rw[execOp_put (ops:=ops) oj hsj a oi.dst v h1]at hu;exact⟨u,hu,by rw[Act.put_comm a v u h2]at hn;exact hn,keep a u rfl,by first|trivial|exact fun _ =>rfl|exact fun _ =>trivial⟩
theorem mW(hd:bO wr ops=true){ps ps':nO}(hs:∀x∈ps,x∈ps'){i:Nat}{oi:Oper}(hoi:ops[i]? =some oi)(hri:wr oi.op=false){v:Value}:
  ∀(f:Nat) (listed:Array Bool) (a:Act) (w:wQ),Inv ops listed ->i∈Region.ready .any ops listed ->(execOp a.eval oi).run P w= .ok (.value v) w ->
   ((∀w',(execOp a.eval oi).run P w'= .ok (.value v) w')\/(i,execOp a.eval oi,v)∈ps') ->
   wpO wr P ops K ps' f (listed.setIfInBounds i true) (a.put oi.dst v) w ->wpO wr P ops K ps (f+1) listed a w:=by
 have hsi:=(sB hd hoi).2.1;intro f
 induction f with
 |zero=>
  intro listed a w inv hi hrun hper H;refine⟨fun h=>(by rw[h]at hi;cases hi),fun j hj=> ?_⟩
  by_cases hji:j=i
  ·subst hji
   unfold aOp;simp only[hoi,hri,Bool.false_eq_true,if_false];exact⟨v,hrun,fun hw=>(by have:=hw oi hoi;rw[hri]at this;cases this),mG hs H⟩
  ·have:=sH inv hj hji
   rw[H.1]at this
   cases this
 |succ f ih=>
  intro listed a w inv hi hrun hper H;refine⟨fun h=>(by rw[h]at hi;cases hi),fun j hj=> ?_⟩
  by_cases hji:j=i
  ·subst hji
   unfold aOp;simp only[hoi,hri,Bool.false_eq_true,if_false];exact⟨v,hrun,fun hw=>(by have:=hw oi hoi;rw[hri]at this;cases this),mG hs H⟩
  ·obtain⟨hjlt,_,oj,hoj,hwj⟩:=vW hj
   obtain⟨hap,hna⟩:=nW hd inv hi hj hji hoi hoj hri;have H':=H.2 j (sH inv hj hji);have H':=qGq hoj hap hsi (sB hd hoj).2.1 H';refine nU ?_ H';rintro a' w' ⟨⟨hob,hwp⟩,hex,hsame⟩;refine⟨fun hw x hx=>hob hw x (hs x hx),?_⟩;have hrun':(execOp a'.eval oi).run P w'= .ok (.value v) w':=by
    rw[hex]
    cases hwr:wr oj.op with
    |false=>rw[hsame hwr];exact hrun
    |true=>
     rcases hper with hall|hmem
     ·exact hall w'
     ·exact hob (fun o ho=>by have:o=oj:=Option.some.inj (ho.symm.trans hoj);rw[this];exact hwr) _ hmem hna
   refine ih (listed.setIfInBounds j true) a' w' (dG inv hj) (sH inv hi (Ne.symm hji)) hrun' (by rw[hex];exact hper) ?_;rw[Array.setIfInBounds_comm _ _ (by exact fun e=>hji e)];exact hwp
theorem tJ{Q:Exit ->Act ->World ->Prop}(hg:bO wr ops=true)(hK:∀a w,K a w ->Q .normal a w):∀{f:Nat} {listed:Array Bool} {a:Act} {w:wQ},wpO wr P ops K [] f listed a w ->wpAny P .any ops Q f listed a w
 |0,_,_,_,h=>⟨h.1,hK _ _ h.2⟩
 |f+1,listed,a,w,h=>⟨fun h0=>hK _ _ (h.1 h0),fun j hj=>by
  have h':=h.2 j hj;obtain⟨_,_,oj,hoj,_⟩:=vW hj;have hgd:=(sB hg hoj).2.2.1;unfold aOp at h';unfold wpOp;simp only[hoj]at h'⊢;rw[if_pos (by simp[Region.wanted,hgd])];refine .inl ?_
  split at h'
  ·exact Oper.wp_mono (fun a w h=>tJ hg hK h.2) (qIq h')
  ·obtain⟨v,h1,h2⟩:=h'
   simp only[Oper.wp,h1,Oper.upon_value];exact tJ hg hK h2.2⟩
theorem wp_any{id:Nat}{Q:Exit ->Act ->World ->Prop}{a:Act}{w:wQ}(hm:P.follows .mixedOrders=true)(hd:bO wr ops=true)(hK:∀a w,K a w ->Q .normal a w)
  (h:wpO wr P ops K [] ops.size (Array.replicate ops.size false) a {w with drawn:=w.drawn+1}):(Code.region id ops true).wp P Q a w:=
 wp_region_any hm (tJ hd hK h)
theorem qCe:Inv ops (Array.replicate ops.size false):=by
 refine⟨sQ,fun j oj _ h=> ?_⟩
 exfalso
 by_cases hj:j<ops.size
 ·simp[hj]at h
 ·simp[hj]at h
end
def wrP(P:Program):Op ->Bool
 | .convert _ d _ =>match P.underlying d with|some (.slice _)=>true|_ =>false
 |op=>writes op
def eX:List Nat ->Nat ->Bool
 |[],_ =>false
 |x::r,n=>match Nat.beq x n with|true=>true|false=>eX r n
section
variable(P:Program)(G:Nat ->Bool)
def oP(o:Oper)(e:Env)(w:wQ)(K:Value ->World ->Prop):Prop:=
 match wrP P o.op with
 |true=>dL P G w e o.op o.type K
 |false=>sF P w e o.op fun v=>K v w
def lR(ops:Array Oper)(j:Nat):Option Nat:=match ops[j]? with|some o=>o.dst|none=>none
def tO(ops:Array Oper):List Oper ->Env ->World ->(Env ->World ->Prop) ->Prop
 |[],e,w,K=>K e w
 |o::r,e,w,K=>
  match o.guard with
  |none=>oP P G o e w fun v w'=>tO ops r (e.put o.dst v) w' K
  |some (j,want)=>match lR ops j with
   |none=>False
   |some d=>match e.get d with
    |some (.bool t)=>match want with
     |true=>IfC t (oP P G o ((d,.bool true)::e) w fun v w'=>tO ops r (Env.put ((d,.bool true)::e) o.dst v) w' K) (tO ops r (Env.put ((d,.bool false)::e) o.dst undef) w K)
     |false=>IfC t (tO ops r (Env.put ((d,.bool true)::e) o.dst undef) w K) (oP P G o ((d,.bool false)::e) w fun v w'=>tO ops r (Env.put ((d,.bool false)::e) o.dst v) w' K)
    |some (.tuple _)=>tO ops r (e.put o.dst undef) w K
    |_ =>False
def gO(ops:Array Oper)(e:Env):List Nat ->Option Nat
 |[]=>none
 |j::r=>match ops[j]? with
  |none=>none
  |some o=>match wrP P o.op with
   |true=>gO ops e r
   |false=>match iJ P e o.op with|true=>some j|false=>gO ops e r
def jF(ops:Array Oper):List Nat ->Option Nat
 |[]=>none
 |j::r=>match ops[j]? with
  |none=>jF ops r
  |some o=>match wrP P o.op with|true=>jF ops r|false=>some j
abbrev Pend:=List (Nat×Env×Value)
def lT(ops:Array Oper)(w:wQ)(j:Nat):Pend ->Prop ->Prop
 |[],X=>X
 |(i,e,v)::r,X=>match eX ((aM ops).getD j []) i with
  |true=>lT ops w j r X
  |false=>match ops[i]? with|none=>False|some o=>sF P w e o.op fun u=>And (u=v) (lT ops w j r X)
def qEf:List Nat ->(Nat ->Prop) ->Prop
 |[],_ =>True
 |[j],X=>X j
 |j::r,X=>And (X j) (qEf r X)
def fT(ops:Array Oper):Nat ->Array Bool ->Pend ->Env ->World ->(Env ->World ->Prop) ->Prop
 |0,listed,_,e,w,K=>match Region.ready .any ops listed with|[]=>K e w|_ ::_ =>False
 |f+1,listed,ps,e,w,K=>match Region.ready .any ops listed with
  |[]=>K e w
  |j0::js=>match gO P ops e (j0::js)with
   |some i=>match ops[i]? with
    |none=>False
    |some o=>sF P w e o.op fun v=>fT ops f (listed.setIfInBounds i true) ps (e.put o.dst v) w K
   |none=>match jF P ops (j0::js)with
    |some i=>match ops[i]? with
     |none=>False
     |some o=>sF P w e o.op fun v=>fT ops f (listed.setIfInBounds i true) ((i,e,v)::ps) (e.put o.dst v) w K
    |none=>qEf (j0::js) fun j=>match ops[j]? with
     |none=>False
     |some o=>dL P G w e o.op o.type fun v w'=>lT P ops w' j ps (fT ops f (listed.setIfInBounds j true) ps (e.put o.dst v) w' K)
end
def Code.sz:Code ->Nat
 | .seq x y=>1+Code.sz x+Code.sz y
 | .cond _ x y=>1+Code.sz x+Code.sz y
 | .block _ x=>1+Code.sz x
 | .loop x=>1+Code.sz x
 | .scope x=>1+Code.sz x
 |_ =>1
def uW:List Oper ->List Nat
 |[]=>[]
 |o::r=>match o.dst with|some d=>d::uW r|none=>uW r
def Code.dsts:Code ->List Nat
 | .seq x y=>Code.dsts x++Code.dsts y
 | .cond _ x y=>Code.dsts x++Code.dsts y
 | .block _ x=>Code.dsts x
 | .loop x=>Code.dsts x
 | .region _ ops _ =>uW ops.toList
 |_ =>[]
abbrev Lv:=List (Nat×Kd)
@[reducible] def ST:Lv ->Type
 |[]=>Unit
 |(_,k)::r=>k.T×ST r
def sZ:(ls:Lv) ->ST ls ->Env
 |[],_ =>[]
 |(s,k)::r,z=>(s,k.val z.1)::sZ r z.2
def fU:(ls:Lv) ->Env ->(ST ls ->Prop) ->Prop
 |[],_,K=>K ()
 |(s,k)::r,e,K=>match e.get s with
  |some v=>k.un v fun x=>fU r e fun z=>K (x,z)
  |none=>False
def rG(ds:List Nat)(e:Env):List Nat ->Env
 |[]=>[]
 |s::r=>match eX ds s with
  |true=>rG ds e r
  |false=>match e.get s with|some v=>(s,v)::rG ds e r|none=>rG ds e r
def xB{T:Type}(start:(T ->World ->Prop) ->Prop)(round:T ->World ->(T ->World ->Prop) ->Prop):Prop:=
 ∃(J:T ->World ->Prop) (m:T ->World ->Nat),start J/\∀z w,J z w ->round z w fun z' w'=>J z' w'/\m z' w'<m z w
section
variable(P:Program)(G:Nat ->Bool)(ann:Nat ->Option (Lv×List Nat))
def vc:Nat ->Code ->(Exit ->Env ->World ->Prop) ->Env ->World ->Prop
 |_,.skip,K,e,w=>K .normal e w
 |_,.label _,K,e,w=>K .normal e w
 |_,.exit id,K,e,w=>K (.exit id) e w
 |_,.goto l,K,e,w=>K (.goto l) e w
 |_,.ret,K,e,w=>K .ret e w
 |_,.region _ ops false,K,e,w=>tO P G ops ops.toList e w fun e w=>K .normal e w
 |_,.region _ ops true,K,e,w=>match iR (wrP P) ops with
  |true=>qO w fun w=>tO P G ops ops.toList e w fun e w=>K .normal e w
  |false=>match bO (wrP P) ops with
   |true=>qO w fun w=>fT P G ops ops.size (Array.replicate ops.size false) [] e w fun e w=>K .normal e w
   |false=>False
 |b,.seq x y,K,e,w=>match ann b with
  |none=>vc (b+1) x (fun ex e w=>match ex with| .normal=>vc (b+1+Code.sz x) y K e w|ex=>K ex e w) e w
  |some (ls,ks)=>xH (fun(z:ST ls) w=>vc (b+1+Code.sz x) y K (sZ ls z++rG (Code.dsts x) e ks) w)
    (fun J=>vc (b+1) x (fun ex e w=>match ex with| .normal=>fU ls e fun z=>J z w|ex=>K ex e w) e w)
 |b,.cond c x y,K,e,w=>wv e c fun v=>match v with
  | .bool t=>IfC t (vc (b+1) x K e w) (vc (b+1+Code.sz x) y K e w)
  |_ =>False
 |b,.block id x,K,e,w=>vc (b+1) x (fun ex e w=>match ex with
  | .exit id'=>match Nat.beq id' id with|true=>K .normal e w|false=>K (.exit id') e w
  |ex=>K ex e w) e w
 |b,.loop x,K,e,w=>match ann b with
  |none=>False
  |some (ls,ks)=>xB (fun J=>fU ls e fun z=>J z w)
     (fun z w N=>vc (b+1) x (fun ex e w=>match ex with| .normal=>fU ls e fun z=>N z w|ex=>K ex e w) (sZ ls z++rG (Code.dsts x) e ks) w)
 |_,_,_,_,_ =>False
end
def okD(n:Nat)(ds:List Nat):Bool:=match ds with|[]=>true|d::r=>match Nat.blt d n with|true=>okD n r|false=>false
section
variable{P:Program}{G:Nat ->Bool}{ann:Nat ->Option (Lv×List Nat)}{n:Nat}{dfs:List Deferred}
def Ext(ds:List Nat)(a a':Act):Prop:=∀s,s∉ds ->a'.tmps.getD s undef=a.tmps.getD s undef
theorem Ext.refl(ds:List Nat)(a:Act):Ext ds a a:=fun _ _ =>rfl
theorem Ext.trans{ds:List Nat}{a a1 a2:Act}(h:Ext ds a a1)(h':Ext ds a1 a2):Ext ds a a2:=fun s hs=>(h' s hs).trans (h s hs)
theorem Ext.mono{ds ds':List Nat}{a a1:Act}(h:Ext ds a a1)(hs:∀s,s∈ds ->s∈ds'):Ext ds' a a1:=fun s h'=>h s fun h1=>h' (hs s h1)
theorem Ext.put{ds:List Nat}{a a1:Act}{d:Option Tmp}{v:Value}(h:Ext ds a a1)(hd:∀x,d=some x ->x∈ds):Ext ds a (a1.put d v):=by
 intro s hs
 cases d with
 |none=>exact h s hs
 |some d=>
  have:d≠s:=fun e=>hs (e▸hd d rfl);have hp:(a1.put (some d) v).tmps.getD s undef=a1.tmps.getD s undef:=by simp[Act.put,this]
  rw[hp];exact h s hs
theorem qEu{e:Env}{d:Nat}{v:Value}(hv:e.get d=some v)(s:Nat):Env.get ((d,v)::e) s=e.get s:=by
 simp only[Env.get]
 split
 ·rename_i h;have h:=Nat.eq_of_beq_eq_true h;subst h;exact hv.symm
 ·rfl
theorem Rep.same{e e':Env}{a:Act}(h:Rep n dfs e a)(he:∀s,e'.get s=e.get s):Rep n dfs e' a:=⟨h.size,fun s v hs=>h.get s v (by rw[<-he];exact hs),h.defers⟩
theorem dO{t:Bool}{X Y:Prop}(h:IfC t X Y):(t=true/\X)\/(t=false/\Y):=by cases t;exact .inr ⟨rfl,h⟩;exact .inl ⟨rfl,h⟩
theorem sT{ds:List Nat}(h:okD n ds=true):∀d∈ds,d<n:=by
 induction ds with
 |nil=>simp
 |cons d r ih=>
  simp only[okD]at h
  split at h
  ·rename_i hb
   intro x hx;rcases List.mem_cons.1 hx with rfl|hx
   ·exact Nat.le_of_ble_eq_true hb
   ·exact ih h x hx
  ·cases h
theorem cW{ops:Array Oper}{e:Env}{a:Act}(hr:Rep n dfs e a){j d:Nat}(hj:lR ops j=some d){v:Value}(hv:e.get d=some v):
  yielded ops a.tmps j=match v with| .bool b=>some b|_ =>none:=by
 obtain⟨h1,h2⟩:=hr.get d v hv;have:a.tmps[d]? =some v:=by
  have hd:d<a.tmps.size:=by rw[hr.size];exact h1
  simp[hd]at h2;simp[hd,h2]
 unfold yielded;have hj':(ops[j]?).bind (·.dst)=some d:=by
  unfold lR at hj
  cases ho:ops[j]? with
  |none=>simp[ho]at hj
  |some o=>simpa [ho]using hj
 simp only[hj',Option.bind_some,this]
 cases v<;>rfl
theorem aD(hG:jW P G){ops:Array Oper}{Q:Exit ->Act ->World ->Prop}{K:Env ->World ->Prop}{K':Act ->World ->Prop}{ds:List Nat}{a0:Act}
  (hK:∀e a w,Rep n dfs e a ->Ext ds a0 a ->K e w ->K' a w):
  ∀(l:List Oper) (k:Nat) (e:Env) (a:Act) (w:wQ),(∀j,l[j]? =ops[k+j]?) ->(∀d∈uW l,d<n/\d∈ds) ->Rep n dfs e a ->Ext ds a0 a ->tO P G ops l e w K ->
   yP (wrP P) P ops Q K' (List.range' k l.length) a w:=by
 intro l
 induction l with
 |nil=>intro k e a w _ _ hr hx h;exact hK e a w hr hx h
 |cons o l ih=>
  intro k e a w hl hds hr hx h;have ho:ops[k]? =some o:=by simpa using(hl 0).symm
  have hl':∀j,l[j]? =ops[k+1+j]? :=fun j=>by have:=hl (j+1);simpa [Nat.add_assoc,Nat.add_comm 1 j]using this
  have hdo:∀d,o.dst=some d ->d<n/\d∈ds:=fun d hd=>hds d (by simp[uW,hd]);have hdl:∀d∈uW l,d<n/\d∈ds:=fun d hd=>hds d (by unfold uW;split<;>simp[hd]);have hput:∀{e:Env} {v:Value},Rep n dfs e a ->Ext ds a0 a ->Rep n dfs (e.put o.dst v) (a.put o.dst v)/\Ext ds a0 (a.put o.dst v):=by
   intro e v hr hx;exact⟨hr.put (fun x hx=>(hdo x hx).1) v,hx.put fun x hx=>(hdo x hx).2⟩
  have run:∀{e:Env},Rep n dfs e a ->Ext ds a0 a ->Region.wanted o (yielded ops a.tmps)=true ->(oP P G o e w fun v w'=>tO P G ops l (e.put o.dst v) w' K) ->
    yP (wrP P) P ops Q K' (k::List.range' (k+1) l.length) a w:=by
   intro e hr hx hw h;simp only[yP,ho,hw,if_true];unfold oP at h
   split at h
   ·rename_i hwr
    simp only[hwr,if_true];exact lD hG hr (fun v w' hv=>ih (k+1) _ _ _ hl' hdl (hput hr hx).1 (hput hr hx).2 hv) h
   ·rename_i hwr
    simp only[hwr,Bool.false_eq_true,if_false];obtain⟨v,h1,h2⟩:=sG hr h;exact⟨v,h1,ih (k+1) _ _ _ hl' hdl (hput hr hx).1 (hput hr hx).2 h2⟩
  have skip:∀{e:Env},Rep n dfs e a ->Ext ds a0 a ->Region.wanted o (yielded ops a.tmps)=false ->tO P G ops l (e.put o.dst undef) w K ->
    yP (wrP P) P ops Q K' (k::List.range' (k+1) l.length) a w:=by
   intro e hr hx hw h;simp only[yP,ho,hw,Bool.false_eq_true,if_false];exact ih (k+1) _ _ _ hl' hdl (hput hr hx).1 (hput hr hx).2 h
  simp only[List.length_cons,List.range'_succ];simp only[tO]at h
  split at h
  ·rename_i hg
   exact run hr hx (by simp[Region.wanted,hg]) h
  ·rename_i j want hg
   split at h
   ·exact h.elim
   ·rename_i d hd
    split at h
    ·rename_i t ht
     have hy:=cW hr hd ht;have hr':∀{b:Bool},t=b ->Rep n dfs ((d,.bool b)::e) a/\Ext ds a0 a:=by
      intro b hb;subst hb;exact⟨hr.same (qEu ht),hx⟩
     split at h
     ·rcases dO h with⟨rfl,h⟩|⟨rfl,h⟩
      ·exact run (hr' rfl).1 (hr' rfl).2 (by simp[Region.wanted,hg,hy]) h
      ·exact skip (hr' rfl).1 (hr' rfl).2 (by simp[Region.wanted,hg,hy]) h
     ·rcases dO h with⟨rfl,h⟩|⟨rfl,h⟩
      ·exact skip (hr' rfl).1 (hr' rfl).2 (by simp[Region.wanted,hg,hy]) h
      ·exact run (hr' rfl).1 (hr' rfl).2 (by simp[Region.wanted,hg,hy]) h
    ·rename_i vs ht
     have hy:=cW hr hd ht;exact skip hr hx (by simp[Region.wanted,hg,hy]) h
    ·exact h.elim
theorem memN_iff{ds:List Nat}{s:Nat}:eX ds s=true↔s∈ds:=by
 induction ds with
 |nil=>simp[eX]
 |cons x r ih=>
  simp only[eX]
  split
  ·rename_i e;have e:=Nat.eq_of_beq_eq_true e;subst e;simp
  ·rename_i e
   have e:x≠s:=fun e'=>by subst e';simp at e
   simp[ih,Ne.symm e]
theorem sD{o:Oper}{d:Nat}:∀{l:List Oper},o∈l ->o.dst=some d ->d∈uW l
 |x::r,h,hd=>by
  rcases List.mem_cons.1 h with rfl|h
  ·simp[uW,hd]
  ·unfold uW;split
   ·exact List.mem_cons_of_mem _ (sD h hd)
   ·exact sD h hd
theorem kP{ops:Array Oper}{e:Env}:∀{l:List Nat} {i:Nat},gO P ops e l=some i ->i∈l/\∀o,ops[i]? =some o ->wrP P o.op=false/\iJ P e o.op=true
 |[],i,h=>by cases h
 |j::r,i,h=>by
  simp only[gO]at h
  split at h
  ·cases h
  ·rename_i o ho
   split at h
   ·obtain⟨h1,h2⟩:=kP h;exact⟨List.mem_cons_of_mem _ h1,h2⟩
   ·rename_i hw
    split at h
    ·rename_i hf
     have h:=Option.some.inj h;subst h;exact⟨sQ,fun o' ho'=>by have:=Option.some.inj (ho.symm.trans ho');subst this;exact⟨hw,hf⟩⟩
    ·obtain⟨h1,h2⟩:=kP h;exact⟨List.mem_cons_of_mem _ h1,h2⟩
theorem kR{ops:Array Oper}:∀{l:List Nat} {i:Nat},jF P ops l=some i ->i∈l/\∀o,ops[i]? =some o ->wrP P o.op=false
 |[],i,h=>by cases h
 |j::r,i,h=>by
  simp only[jF]at h
  split at h
  ·obtain⟨h1,h2⟩:=kR h;exact⟨List.mem_cons_of_mem _ h1,h2⟩
  ·rename_i o ho
   split at h
   ·obtain⟨h1,h2⟩:=kR h;exact⟨List.mem_cons_of_mem _ h1,h2⟩
   ·rename_i hw
    have h:=Option.some.inj h;subst h;exact⟨sQ,fun o' ho'=>by have:=Option.some.inj (ho.symm.trans ho');subst this;exact hw⟩
theorem kQ{ops:Array Oper}:∀{l:List Nat},jF P ops l=none ->∀j∈l,∀o,ops[j]? =some o ->wrP P o.op=true
 |[],_,j,hj=>by cases hj
 |i::r,h,j,hj=>by
  simp only[jF]at h;intro o ho
  split at h
  ·rename_i hn
   rcases List.mem_cons.1 hj with rfl|hj
   ·rw[hn]at ho;cases ho
   ·exact kQ h j hj o ho
  ·rename_i o' ho'
   split at h
   ·rename_i hw
    rcases List.mem_cons.1 hj with rfl|hj
    ·have:=Option.some.inj (ho'.symm.trans ho);subst this;exact hw
    ·exact kQ h j hj o ho
   ·cases h
theorem bA{X:Nat ->Prop}:∀{l:List Nat},qEf l X ->∀j∈l,X j
 |[],_,j,hj=>by cases hj
 |[i],h,j,hj=>by simp at hj;subst hj;exact h
 |i::k::r,h,j,hj=>by
  rcases List.mem_cons.1 hj with rfl|hj
  ·exact h.1
  ·exact bA h.2 j hj
abbrev Kept:=List (Nat×Env×Value×Act×Oper)
def oM(L:Kept):Pend:=L.map fun x=>(x.1,x.2.1,x.2.2.1)
def qAz(L:Kept):nO:=L.map fun x=>(x.1,execOp x.2.2.2.1.eval x.2.2.2.2,x.2.2.1)
theorem sA{ops:Array Oper}{w:wQ}{j:Nat}{X:Prop}:∀{L:Kept},(∀x∈L,ops[x.1]? =some x.2.2.2.2/\Rep n dfs x.2.1 x.2.2.2.1) ->lT P ops w j (oM L) X ->
  X/\∀x∈L,x.1∉(aM ops).getD j [] ->(execOp x.2.2.2.1.eval x.2.2.2.2).run P w= .ok (.value x.2.2.1) w
 |[],_,h=>⟨h,fun x hx=>by cases hx⟩
 |(i,e,v,a,o)::r,hR,h=>by
  obtain⟨ho,ha⟩:=hR (i,e,v,a,o) sQ;simp only at ho ha;have hR':∀x∈r,ops[x.1]? =some x.2.2.2.2/\Rep n dfs x.2.1 x.2.2.2.1:=fun x hx=>hR x (List.mem_cons_of_mem _ hx);simp only[oM,List.map_cons,lT,ho]at h
  split at h
  ·rename_i hm
   obtain⟨h1,h2⟩:=sA hR' h;refine⟨h1,fun x hx hn=> ?_⟩;rcases List.mem_cons.1 hx with rfl|hx
   ·exact absurd (memN_iff.1 hm) hn
   ·exact h2 x hx hn
  ·obtain⟨u,hu,rfl,h3⟩:=sG (P:=P) (o:=o) ha h
   obtain⟨h1,h2⟩:=sA hR' h3;refine⟨h1,fun x hx hn=> ?_⟩;rcases List.mem_cons.1 hx with rfl|hx
   ·exact hu
   ·exact h2 x hx hn
theorem wZ(hG:jW P G){ops:Array Oper}{K:Env ->World ->Prop}{K':Act ->World ->Prop}{ds:List Nat}{a0:Act}(hok:bO (wrP P) ops=true)
  (hds:∀(j:Nat) (o:Oper) (d:Nat),ops[j]? =some o ->o.dst=some d ->d<n/\d∈ds)(hK:∀e a w,Rep n dfs e a ->Ext ds a0 a ->K e w ->K' a w):
  ∀(f:Nat) (listed:Array Bool) (L:Kept) (e:Env) (a:Act) (w:wQ),Inv ops listed ->(∀x∈L,ops[x.1]? =some x.2.2.2.2/\Rep n dfs x.2.1 x.2.2.2.1) ->Rep n dfs e a ->Ext ds a0 a ->
   fT P G ops f listed (oM L) e w K ->wpO (wrP P) P ops K' (qAz L) f listed a w:=by
 intro f
 induction f with
 |zero=>
  intro listed L e a w _ _ hr hx h;simp only[fT]at h
  split at h
  ·rename_i h0;exact⟨h0,hK e a w hr hx h⟩
  ·exact h.elim
 |succ f ih=>
  intro listed L e a w inv hL hr hx h;have hput:∀{j:Nat} {o:Oper} {e:Env} {a:Act} (v:Value),ops[j]? =some o ->Rep n dfs e a ->Ext ds a0 a ->Rep n dfs (e.put o.dst v) (a.put o.dst v)/\Ext ds a0 (a.put o.dst v):=by
   intro j o e a v ho hr hx;exact⟨hr.put (fun d hd=>(hds j o d ho hd).1) v,hx.put fun d hd=>(hds j o d ho hd).2⟩
  simp only[fT]at h
  split at h
  ·rename_i h0
   exact⟨fun _ =>hK e a w hr hx h,fun j hj=>by rw[h0]at hj;cases hj⟩
  ·rename_i j0 js h0
   split at h
   ·rename_i i hi
    obtain⟨hmem,hfree⟩:=kP hi;rw[<-h0]at hmem
    split at h
    ·exact h.elim
    ·rename_i o ho
     obtain⟨hw,hf⟩:=hfree o ho;obtain⟨v,hv,hk⟩:=oU hr hf h;obtain⟨hr',hx'⟩:=hput v ho hr hx;exact mW (ps':=qAz L) hok (fun x hx=>hx) ho hw f listed a w inv hmem (hv w) (.inl hv) (ih _ L _ _ _ (dG inv hmem) hL hr' hx' hk)
   ·split at h
    ·rename_i i hi
     obtain⟨hmem,hread⟩:=kR hi;rw[<-h0]at hmem
     split at h
     ·exact h.elim
     ·rename_i o ho
      have hw:=hread o ho;obtain⟨v,hv,hk⟩:=sG hr h;obtain⟨hr',hx'⟩:=hput v ho hr hx;refine mW (ps':=qAz ((i,e,v,a,o)::L)) hok (fun x hx=>List.mem_cons_of_mem _ hx) ho hw f listed a w inv hmem hv (.inr (by simp[qAz])) ?_;refine ih _ ((i,e,v,a,o)::L) _ _ _ (dG inv hmem) ?_ hr' hx' hk;intro x hx;rcases List.mem_cons.1 hx with rfl|hx
      ·exact⟨ho,hr⟩
      ·exact hL x hx
    ·rename_i hnone
     have h:=bA h;refine⟨fun e0=>(by rw[h0]at e0;cases e0),fun j hj=> ?_⟩;have hj':=hj;rw[h0]at hj';have h:=h j hj'
     split at h
     ·exact h.elim
     ·rename_i o ho
      have hw:=kQ hnone j hj' o ho;unfold aOp;simp only[ho,hw,if_true];refine lD hG hr (K:=fun v w'=>lT P ops w' j (oM L) (fT P G ops f (listed.setIfInBounds j true) (oM L) (e.put o.dst v) w' K)) (fun v w' hv=> ?_) h;obtain⟨h1,h2⟩:=sA hL hv;obtain⟨hr',hx'⟩:=hput v ho hr hx;refine⟨fun _ x hx hn=> ?_,ih _ L _ _ _ (dG inv hj) hL hr' hx' h1⟩;obtain⟨y,hy,rfl⟩:=List.mem_map.1 hx;exact h2 y hy hn
theorem tF{ds:List Nat}{e:Env}{s:Nat}{v:Value}:∀{ks:List Nat},(rG ds e ks).get s=some v ->s∉ds/\e.get s=some v
 |[],h=>by simp[rG,Env.get]at h
 |k::r,h=>by
  simp only[rG]at h
  split at h
  ·exact tF h
  ·rename_i hm
   split at h
   ·rename_i u hu
    simp only[Env.get]at h
    split at h
    ·rename_i e1;have e1:=Nat.eq_of_beq_eq_true e1;subst e1
     have hmm:k∉ds:=by
      intro hmem;rw[memN_iff.2 hmem]at hm
      cases hm
     exact⟨hmm,by rw[hu];exact h⟩
    ·exact tF h
   ·exact tF h
theorem bI{x y:Env}{s:Nat}:(x++y).get s=match x.get s with|some v=>some v|none=>y.get s:=by
 induction x with
 |nil=>rfl
 |cons p r ih=>
  obtain⟨t,v⟩:=p;simp only[List.cons_append,Env.get]
  split<;>simp_all
theorem kW{e:Env}:∀{ls:Lv} {K:ST ls ->Prop},fU ls e K ->∃z:ST ls,(∀s v,(sZ ls z).get s=some v ->e.get s=some v)/\K z
 |[],K,h=>⟨(),fun s v hs=>by simp[sZ,Env.get]at hs,h⟩
 |(s,k)::r,K,h=>by
  simp only[fU]at h
  split at h
  ·rename_i v hv
   obtain⟨x,hxv,h'⟩:=qIo h;clear h;subst hxv;obtain⟨z,h1,h2⟩:=kW h';refine⟨(x,z),fun t u ht=> ?_,h2⟩;simp only[sZ,Env.get]at ht
   split at ht
   ·rename_i e;have e:=Nat.eq_of_beq_eq_true e;subst e;rw[hv];exact ht
   ·exact h1 t u ht
  ·exact h.elim
theorem bW{ds ks:List Nat}{ls:Lv}{e e1:Env}{a a1:Act}(hr:Rep n dfs e a)(hr1:Rep n dfs e1 a1)(hx:Ext ds a a1){z:ST ls}(hz:∀s v,(sZ ls z).get s=some v ->e1.get s=some v):
  Rep n dfs (sZ ls z++rG ds e ks) a1:=by
 refine⟨hr1.size,fun s v hs=> ?_,hr1.defers⟩;rw[bI]at hs
 split at hs
 ·rename_i u hu
  have hs:=Option.some.inj hs;subst hs;exact hr1.get s u (hz s u hu)
 ·obtain⟨h1,h2⟩:=tF hs
  obtain⟨h3,h4⟩:=hr.get s v h2;exact⟨h3,by rw[hx s h1];exact h4⟩
theorem qCl{c:Code}{Q:Exit ->Act ->World ->Prop}(I:Nat ->Act ->World ->Prop)(round:∀m a w,I m a w ->c.wp P (Exit.then (fun a' w'=>∃m',m'<m/\I m' a' w') Q) a w):
  ∀m a w,I m a w ->(Code.loop c).wp P Q a w:=by
 intro m a w hI b k cs;have key:∀m a w,I m a w ->∃e a' w',Q e a' w'/\Arrives P (lone (b.at a (.code c:: .inLoop c::k)) cs w) b k cs e a' w':=by
  intro m
  induction m using Nat.strongRecOn with
  |_ m ih=>
   intro a w hI;obtain⟨e,a₁,w₁,hq,harr⟩:=round m a w hI b (.inLoop c::k) cs
   cases e with
   |normal=>
    obtain⟨m',hlt,hI₁⟩:=hq;obtain⟨e₂,a₂,w₂,hq₂,harr₂⟩:=ih m' hlt a₁ w₁ hI₁;exact⟨e₂,a₂,w₂,hq₂,.of_steps (Steps.trans harr (.one step_inLoop)) harr₂⟩
   |exit id=>exact⟨_,a₁,w₁,hq,.pass (x:= .inLoop c) rfl (fun _ _ => .inl sQ) harr⟩
   |goto l=>exact⟨_,a₁,w₁,hq,.pass (x:= .inLoop c) rfl (fun _ _ => .inl sQ) harr⟩
   |ret=>exact⟨_,a₁,w₁,hq,.pass (x:= .inLoop c) rfl (fun _ _ => .inl sQ) harr⟩
   |panic ch=>exact⟨_,a₁,w₁,hq,.pass (x:= .inLoop c) rfl (fun _ _ => .inl sQ) harr⟩
   |outgrown=>exact⟨_,a₁,w₁,hq,.pass (x:= .inLoop c) rfl (fun _ _ => .inl sQ) harr⟩
 obtain⟨e,a',w',hq,harr⟩:=key m a w hI;exact⟨e,a',w',hq,.of_steps (.one step_loop) harr⟩
theorem gT(hm:P.follows .mixedOrders=true)(hG:jW P G):∀(c:Code) (b:Nat) (K:Exit ->Env ->World ->Prop) (e:Env) (a:Act) (w:wQ),
  (∀d∈Code.dsts c,d<n) ->vc P G ann b c K e w ->Rep n dfs e a ->c.wp P (fun ex a' w'=>∃e',Rep n dfs e' a'/\Ext (Code.dsts c) a a'/\K ex e' w') a w:=by
 intro c
 induction c with
 |skip=>intro b K e a w _ h hr;exact wp_skip ⟨e,hr,Ext.refl _ _,h⟩
 |label l=>intro b K e a w _ h hr;exact wp_label ⟨e,hr,Ext.refl _ _,h⟩
 |exit id=>intro b K e a w _ h hr;exact wp_exit ⟨e,hr,Ext.refl _ _,h⟩
 |goto l=>intro b K e a w _ h hr;exact wp_goto ⟨e,hr,Ext.refl _ _,h⟩
 |ret=>intro b K e a w _ h hr;exact wp_ret ⟨e,hr,Ext.refl _ _,h⟩
 |refuse why=>intro b K e a w _ h hr;exact h.elim
 |rangeFunc f ps az bd ih1 ih2=>intro b K e a w _ h hr;exact h.elim
 |scope x ih=>intro b K e a w _ h hr;exact h.elim
 |region id ops dr=>
  intro b K e a w hd h hr;have hd':∀d∈uW ops.toList,d<n/\d∈Code.dsts (.region id ops dr):=fun d hx=>⟨hd d hx,hx⟩;have hlen:List.range ops.size=List.range' 0 ops.toList.length:=by rw[List.range_eq_range'];simp
  cases dr with
  |false=>
   refine qGg (wr:=wrP P) (K:=fun a' w'=>∃e',Rep n dfs e' a'/\Ext (Code.dsts (.region id ops false)) a a'/\K .normal e' w') (fun _ _ h=>h) ?_;rw[hlen];exact aD hG (K:=fun e w=>K .normal e w) (fun e' a' w' h1 h2 h3=>⟨e',h1,h2,h3⟩) ops.toList 0 e a w (fun j=>by simp) hd' hr (Ext.refl _ _) h
  |true=>
   simp only[vc]at h
   split at h
   ·rename_i hok
    refine qIp (wr:=wrP P) (K:=fun a' w'=>∃e',Rep n dfs e' a'/\Ext (Code.dsts (.region id ops true)) a a'/\K .normal e' w') hm hok (fun _ _ h=>h) ?_;rw[hlen];exact aD hG (K:=fun e w=>K .normal e w) (fun e' a' w' h1 h2 h3=>⟨e',h1,h2,h3⟩) ops.toList 0 e a _ (fun j=>by simp) hd' hr (Ext.refl _ _) h
   ·split at h
    ·rename_i hok
     refine wp_any (wr:=wrP P) (K:=fun a' w'=>∃e',Rep n dfs e' a'/\Ext (Code.dsts (.region id ops true)) a a'/\K .normal e' w') hm hok (fun _ _ h=>h) ?_;exact wZ hG (K:=fun e w=>K .normal e w) hok (fun j o d ho hd=>hd' d (sD (Array.mem_toList_iff.2 (Array.mem_of_getElem? ho)) hd)) (fun e' a' w' h1 h2 h3=>⟨e',h1,h2,h3⟩) ops.size _ [] e a _ qCe (fun x hx=>by cases hx) hr (Ext.refl _ _) h
    ·exact h.elim
 |seq x y ihx ihy=>
  intro b K e a w hd h hr;have hdx:∀d∈Code.dsts x,d<n:=fun d h=>hd d (List.mem_append_left _ h);have hdy:∀d∈Code.dsts y,d<n:=fun d h=>hd d (List.mem_append_right _ h);have left:∀{a a':Act},Ext (Code.dsts x) a a' ->Ext (Code.dsts (.seq x y)) a a':=fun h=>h.mono fun s hs=>List.mem_append_left _ hs;refine wp_seq ?_;simp only[vc]at h
  split at h
  ·refine wp_mono (ihx _ _ _ _ _ hdx h hr) ?_
   rintro ex a1 w1 ⟨e1,hr1,hx1,hk⟩
   cases ex with
   |normal=>
    refine wp_mono (ihy _ _ _ _ _ hdy hk hr1) ?_;rintro ex a2 w2 ⟨e2,hr2,hx2,hk2⟩;exact⟨e2,hr2,fun s hs=>(hx2 s fun h=>hs (List.mem_append_right _ h)).trans (hx1 s fun h=>hs (List.mem_append_left _ h)),hk2⟩
   |_ =>exact⟨e1,hr1,left hx1,hk⟩
  ·rename_i ls ks hls
   unfold xH at h;refine wp_mono (ihx _ _ _ _ _ hdx h hr) ?_;rintro ex a1 w1 ⟨e1,hr1,hx1,hk⟩
   cases ex with
   |normal=>
    obtain⟨z,hz,hk⟩:=kW hk;refine wp_mono (ihy _ _ _ _ _ hdy hk (bW hr hr1 hx1 hz)) ?_;rintro ex a2 w2 ⟨e2,hr2,hx2,hk2⟩;exact⟨e2,hr2,fun s hs=>(hx2 s fun h=>hs (List.mem_append_right _ h)).trans (hx1 s fun h=>hs (List.mem_append_left _ h)),hk2⟩
   |_ =>exact⟨e1,hr1,left hx1,hk⟩
 |cond c x y ihx ihy=>
  intro b K e a w hd h hr;have hdx:∀d∈Code.dsts x,d<n:=fun d h=>hd d (List.mem_append_left _ h);have hdy:∀d∈Code.dsts y,d<n:=fun d h=>hd d (List.mem_append_right _ h);have h:=xF hr h
  split at h
  ·rename_i t ht
   rcases dO h with⟨rfl,h⟩|⟨rfl,h⟩
   ·exact wp_cond_true ht (wp_mono (ihx _ _ _ _ _ hdx h hr) fun ex a w ⟨e,h1,h2,h3⟩=>⟨e,h1,h2.mono fun s hs=>List.mem_append_left _ hs,h3⟩)
   ·exact wp_cond_false ht (wp_mono (ihy _ _ _ _ _ hdy h hr) fun ex a w ⟨e,h1,h2,h3⟩=>⟨e,h1,h2.mono fun s hs=>List.mem_append_right _ hs,h3⟩)
  ·exact h.elim
 |block id x ih=>
  intro b K e a w hd h hr;refine wp_block (wp_mono (ih _ _ _ _ _ hd h hr) ?_);rintro ex a1 w1 ⟨e1,hr1,hx1,hk⟩
  cases ex with
  |exit id'=>
   simp only[Exit.inBlock];simp only at hk
   split at hk
   ·rename_i hb
    rw[if_pos (Nat.eq_of_beq_eq_true hb)];exact⟨e1,hr1,hx1,hk⟩
   ·rename_i hb
    rw[if_neg (fun e=>by subst e;simp at hb)];exact⟨e1,hr1,hx1,hk⟩
  |_ =>exact⟨e1,hr1,hx1,hk⟩
 |loop x ih=>
  intro b K e a w hd h hr;simp only[vc]at h
  split at h
  ·exact h.elim
  ·rename_i ls ks hls
   obtain⟨J,m,h0,hround⟩:=h;obtain⟨z0,hz0,hJ0⟩:=kW h0;refine qCl (fun k a' w=>∃z:ST ls,Rep n dfs (sZ ls z++rG (Code.dsts x) e ks) a'/\Ext (Code.dsts x) a a'/\J z w/\m z w=k) ?_ (m z0 w) a w ⟨z0,bW hr hr (Ext.refl _ _) hz0,Ext.refl _ _,hJ0,rfl⟩;rintro k a1 w1 ⟨z,hr1,hx1,hJ,rfl⟩;refine wp_mono (ih _ _ _ _ _ hd (hround z w1 hJ) hr1) ?_;rintro ex a2 w2 ⟨e2,hr2,hx2,hk⟩;have hx:Ext (Code.dsts x) a a2:=hx1.trans hx2
   cases ex with
   |normal=>
    obtain⟨z',hz',hJ',hlt⟩:=kW hk;exact⟨m z' w2,hlt,z',bW hr hr2 hx hz',hx,hJ',rfl⟩
   |_ =>exact⟨e2,hr2,hx,hk⟩
end
section
variable(P:Program)
def gA(w:wQ):List ResultVar ->Env ->(List Value ->Prop) ->Prop
 |[],_,K=>K []
 | .tmp t::r,e,K=>match e.get t with|some v=>gA w r e fun vs=>K (v::vs)|none=>False
 | .cell a t::r,e,K=>match e.get a with|some p=>pG P w t p fun v=>gA w r e fun vs=>K (v::vs)|none=>False
def cL:List Value ->Value
 |[v]=>v
 |vs=> .tuple vs.toArray
def lZ(rs:List ResultVar)(R:Value ->World ->Prop):Exit ->Env ->World ->Prop
 | .normal,e,w=>gA P w rs e fun vs=>R (cL vs) w
 | .ret,e,w=>gA P w rs e fun vs=>R (cL vs) w
 |_,_,_ =>False
def jX:Nat ->List Value ->Env
 |_,[]=>[]
 |i,v::vs=>(i,v)::jX (i+1) vs
def tR:List (Nat×Lv×List Nat) ->Nat ->Option (Lv×List Nat)
 |[],_ =>none
 |(b,l)::r,n=>match Nat.beq b n with|true=>some l|false=>tR r n
end
section
variable{P:Program}{G:Nat ->Bool}{ann:Nat ->Option (Lv×List Nat)}
def oX(tmps:vQ):ResultVar ->Sem Value
 | .tmp t=>pure (tmps.getD t undef)
 | .cell a t=>do loadVar t (<-asAddr (tmps.getD a undef))
theorem wE(fn:Func)(tmps:vQ):results fn tmps=(do
  let vs<-fn.results.mapM (oX tmps)
  pure (if h:vs.size=1 then vs[0]else .tuple vs)):=by
 have:(fun x=>match x with| .tmp t=>pure (tmps.getD t undef)| .cell a t=>do loadVar t (<-asAddr (tmps.getD a undef)):ResultVar ->Sem Value)=oX tmps:=by
  funext x;cases x<;>rfl
 rw[<-this];rfl
theorem mB{n:Nat}{dfs:List Deferred}{w:wQ}{e:Env}{a:Act}(hr:Rep n dfs e a):∀{rs:List ResultVar} {K:List Value ->Prop},gA P w rs e K ->
  ∃vs,(rs.mapM (oX a.tmps)).run P w= .ok vs w/\K vs
 |[],K,h=>⟨[],sQ,h⟩
 | .tmp t::r,K,h=>by
  simp only[gA]at h
  split at h
  ·rename_i v hv
   obtain⟨vs,h1,h2⟩:=mB hr h;refine⟨v::vs,?_,h2⟩;simp only[List.mapM_cons,oX,Sem.run_bind,Sem.run_pure,Result.andThen_ok,(hr.get t v hv).2,h1]
  ·exact h.elim
 | .cell x t::r,K,h=>by
  simp only[gA]at h
  split at h
  ·rename_i p hp
   have hload:∃v,(do loadVar t (<-asAddr p):Sem Value).run P w= .ok v w/\gA P w r e fun vs=>K (v::vs):=by
    have h':=h;unfold pG at h'
    cases p with
    |pointer q=>
     obtain⟨b,hq,_⟩:=uP h';subst hq;obtain⟨v,h1,h2⟩:=aC h;refine⟨v,?_,h2⟩;simp only[Instr.loadAt,Instr.sureAddr,Sem.run_bind,Sem.run_pure,Result.andThen_ok]at h1;simp only[asAddr,Sem.run_bind,Sem.run_pure,Result.andThen_ok,h1]
    |_ =>exact h'.elim
   obtain⟨v,h1,h2⟩:=hload;obtain⟨vs,h3,h4⟩:=mB hr h2;refine⟨v::vs,?_,h4⟩;simp only[List.mapM_cons,oX];rw[Sem.run_bind,(hr.get x p hp).2,h1];simp only[Result.andThen_ok,Sem.run_bind,h3,Sem.run_pure]
  ·exact h.elim
theorem yJ{n:Nat}{dfs:List Deferred}{w:wQ}{e:Env}{a:Act}{fn:Func}(hr:Rep n dfs e a){R:Value ->World ->Prop}(h:gA P w fn.results.toList e fun vs=>R (cL vs) w):
  ∃v,(results fn a.tmps).run P w= .ok v w/\R v w:=by
 obtain⟨vs,h1,h2⟩:=mB hr h;refine⟨_,?_,h2⟩;rw[wE,Sem.run_bind,Array.mapM_eq_mapM_toList,Sem.run_map,h1];simp only[Result.andThen_ok]
 match vs with
 |[]=>rfl
 |[v]=>rfl
 |u::v::r=>simp[cL]
theorem kH:∀{vs:List Value} {i s:Nat} {v:Value},(jX i vs).get s=some v ->i<=s/\vs[s -i]? =some v
 |[],_,_,_,h=>by simp[jX,Env.get]at h
 |u::vs,i,s,v,h=>by
  simp only[jX,Env.get]at h
  split at h
  ·rename_i e
   have e:=Nat.eq_of_beq_eq_true e;subst e;simp at h;subst h;simp
  ·obtain⟨h1,h2⟩:=kH h
   refine⟨oQ,?_⟩;rw[show s -i=(s -(i+1))+1 by omega]
   simpa using h2
theorem fG(hm:P.follows .mixedOrders=true)(hG:jW P G){f:FuncId}{fn:Func}{c:Code}{args:List Value}{w:wQ}{R:Value ->World ->Prop}(hf:P.funcs[f]? =some fn)(hb:fn.body=some c)
  (hd:okD fn.ntmps (Code.dsts c)=true)(hn:Nat.ble args.length fn.ntmps=true)(h:vc P G ann 0 c (lZ P fn.results.toList R) (jX 0 args) w):CallT P f args.toArray w R:=by
 have hn:=Nat.le_of_ble_eq_true hn;refine calls_of_wp hf hb ?_;have hr:Rep fn.ntmps [] (jX 0 args) {tmps:=args.toArray++Array.replicate (fn.ntmps -args.toArray.size) undef,defers:=[]}:=by
  refine⟨by simp;omega,fun s v hs=> ?_,rfl⟩;obtain⟨_,h2⟩:=kH hs;have hlt:s<args.length:=by simpa using(List.getElem?_eq_some_iff.1 h2).1
  refine⟨oQ,?_⟩;simp only[Array.getD_eq_getD_getElem?];rw[Array.getElem?_append_left (by simpa using hlt)];simp at h2;simp[h2]
 refine wp_mono (gT hm hG c 0 _ _ _ w (sT hd) h hr) ?_;rintro ex a' w' ⟨e',hr',_,hk⟩
 cases ex with
 |normal=>
  obtain⟨v,h1,h2⟩:=yJ hr' hk;exact⟨hr'.defers,v,h1,v,rfl,h2⟩
 |ret=>
  obtain⟨v,h1,h2⟩:=yJ hr' hk;exact⟨hr'.defers,v,h1,v,rfl,h2⟩
 |_ =>exact hk.elim
end
def LdI(w:wQ)(a:Addr)(k:IntKind)(K:Int ->Prop):Prop:=∃n:Int,w.cell? a=some (.int k n)/\K n
def LdB(w:wQ)(a:Addr)(K:Bool ->Prop):Prop:=∃b:Bool,w.cell? a=some (.bool b)/\K b
def LdS(w:wQ)(a:Addr)(K:ByteArray ->Prop):Prop:=∃s:ByteArray,w.cell? a=some (.string s)/\K s
def qS(w:wQ)(a:Addr)(K:pQ ->Nat ->Nat ->Prop):Prop:=∃p:pQ,∃l c:Nat,w.cell? a=some (.slice p l c)/\K p l c
def LdP(w:wQ)(a:Addr)(K:pQ ->Prop):Prop:=∃p:pQ,w.cell? a=some (.pointer p)/\K p
def LdV(w:wQ)(a:Addr)(K:Value ->Prop):Prop:=∃v:Value,w.cell? a=some v/\K v
section
variable(P:Program)
def B2S(w:wQ)(p:pQ)(l c:Nat)(K:ByteArray ->Prop):Prop:=∃b:ByteArray,(Conv.bytesToString (.slice p l c)).run P w= .ok (.string b) w/\K b
def qDa(w:wQ)(s d:TypeId)(x:Value)(K:pQ ->Nat ->Nat ->World ->Prop):Prop:=
 ∃(p:pQ) (l c:Nat) (w':wQ),(convert s d x).run P w= .ok (.slice p l c) w'/\K p l c w'
def yF(w:wQ)(ts:Array TypeId)(ty:TypeId)(s x:Value)(K:pQ ->Nat ->Nat ->World ->Prop):Prop:=
 ∃(p:pQ) (l c:Nat) (w':wQ),(Builtin.append_ ts ty #[s,x]).run P w= .ok (.slice p l c) w'/\K p l c w'
def jQ(w:wQ)(ts:Array TypeId)(ty:TypeId)(s x:Value)(K:Int ->World ->Prop):Prop:=
 ∃(n:Int) (w':wQ),(Builtin.copy_ ts ty #[s,x]).run P w= .ok (.int .i64 n) w'/\K n w'
def kX(t:TypeId)(x y:Operand)(va vb:Value)(w:wQ)(K:Bool ->Prop):Prop:=vEqI P w t x y va vb K
def aL(t:TypeId)(x y:Operand)(va vb:Value)(w:wQ)(K:Bool ->Prop):Prop:=
 ∃b:Bool,(do eqGuard .neq t x y va vb;Op.equal t va vb:Sem Bool).run P w= .ok b w/\K b
def VNil(w:wQ)(v:Value)(K:Value ->Prop):Prop:=vNil P w v K
def nN(w:wQ)(t:TypeId)(x:Value)(m:String):Prop:=(nilAhead (P.types.size+Made.depth) t x m).run P w= .ok (some false) w
def TAI(w:wQ)(x:Value)(xt at_ :TypeId)(K:Value ->Bool ->Prop):Prop:=∃(u:Value) (b:Bool),(Instr.typeAssert x xt at_ true).run P w= .ok (.tuple #[u,.bool b]) w/\K u b
def TAI1(w:wQ)(x:Value)(xt at_ :TypeId)(K:Value ->Prop):Prop:=∃u:Value,(Instr.typeAssert x xt at_ false).run P w= .ok u w/\K u
def TA(w:wQ)(x:Value)(xt at_ :TypeId)(ok:Bool)(K:Value ->Bool ->Prop):Prop:=vTA P w x xt at_ ok K
end
end Go.V
namespace Go.Proofs
open Go Go.V
open Go.IntKind (wrap)
noncomputable abbrev Pg:Program:=Tryz.prog
def jD(f:Func):Code:=match f.body with|some c=>c|none=> .skip
def withBodies:List Nat:=[2,3,4,5,6,7,8,9,10,11,12,13,14,15,16,17,18,19,20,21,22,23,24,25,26,27,28,29,30,31,32,33,34,35,36,37,38,39,40,41,42,43,44,45,46,47,48,49,50,51,52,53,54,55,56,57,58,59,60,61,62,63,64,65,66,67,68,69,70,71,72,73,74,75,76,77,78,79,80,81,85,86,87,88,89,90,91,92,93,97,98,99,100,101,102,103,104,105,106,107,108,109,110,111,112,113,114,115,116,117,118,119,120,121,122,123,124,125,126,127,128,129,130,131,132,133,134,135,136,137,138,139,140,141,142,143,144,145,146,147,148,149,150,151,152,153,154,155,156,157,158,159,160,161,162,163,164,165,166,167,168,169,189,190,191,192,193,194,195,202,206,209,212,215,218,221,224,242,245,247,248,249,250,252,253,254,257,258,259,263,264,265,266,267,268,269,270,271,272,273,274,275,276,277,278,279,280,281,282,283,284,286,304]
def Gg(g:Nat):Bool:=eX withBodies g
theorem follows:Pg.follows .mixedOrders=true:=by kernel_rfl
theorem pY:(withBodies.all fun g=>match Pg.funcs[g]? with|some fn=> !fn.body.isNone&& !(fn.name== "runtime.NumGoroutine")|none=>false)=true:=by kernel_rfl
theorem dU:jW Pg Gg:=by
 intro g hg;have h:=List.all_eq_true.1 pY g (memN_iff.1 hg)
 split at h
 ·rename_i fn hfn
  simp only[Bool.and_eq_true,Bool.not_eq_true']at h;exact⟨fn,hfn,h.1,h.2⟩
 ·cases h
abbrev vPq:=Value ->World ->Prop
def okFq(fn:Func)(n:Nat):Bool:= !fn.body.isNone&&(okD fn.ntmps (Code.dsts (jD fn))&&Nat.ble n fn.ntmps)
theorem cVq{f:FuncId}{fn:Func}{args:List Value}{w:wQ}{R:Value ->World ->Prop}{X:Prop}(ann:List (Nat×Lv×List Nat))(hf:Pg.funcs[f]? =some fn)(h:X)(hc:okFq fn args.length=true:=by kernel_rfl)(e:vc Pg Gg (tR ann) 0 (jD fn) (lZ Pg fn.results.toList R) (jX 0 args) w=X:=by kernel_rfl):CallT Pg f args.toArray w R:=by
 unfold okFq at hc;simp only[Bool.and_eq_true,Bool.not_eq_true']at hc;obtain⟨h1,h2,h3⟩:=hc;have hb:fn.body=some (jD fn):=by
  unfold jD
  split
  ·assumption
  ·rename_i hn
   rw[hn]at h1
   cases h1
 exact fG follows dU hf hb h2 h3 (e.symm▸h)
end Go.Proofs
namespace Go.V
open Go
open Go.IntKind (wrap)
def gN:Obj ->Obj
 | .cells c T f=> .cells c T (if c.size<=f.1 then(0,0)else f)
 |o=>o
def hp(w:wQ)(b:Nat):Option Obj:=(w.heap[b]?).map gN
def hn(w:wQ):Nat:=w.heap.size
def Row(T:TypeId)(arr:vQ):Option Obj:=some (.cells arr T (0,0))
def atR:Option Obj ->Nat ->Option Value
 |some (.cells c _ _),i=>c[i]?
 |_,_ =>none
def setR:Option Obj ->Nat ->Value ->Option Obj
 |some (.cells c T f),i,v=>some (.cells (c.setIfInBounds i v) T f)
 |o,_,_ =>o
def upd(w:wQ)(b i:Nat)(v:Value):World:=w.setCell ⟨b,i,none⟩ v
section
variable(w:wQ)(b i:Nat)(v:Value)
theorem yO:w.cell? ⟨b,i,none⟩=atR (hp w b) i:=by
 unfold World.cell? atR hp gN
 cases w.heap[b]? with
 |none=>rfl
 |some o=>cases o<;>rfl
@[simp] theorem atR_Row (T:TypeId) (arr:vQ):atR (Row T arr) i=arr[i]? :=rfl
@[simp] theorem setR_Row (T:TypeId) (arr:vQ):setR (Row T arr) i v=Row T (arr.setIfInBounds i v):=rfl
@[simp] theorem hp_drew:hp w.drew b=hp w b:=rfl
@[simp] theorem hn_drew:hn w.drew=hn w:=rfl
@[simp] theorem hn_upd:hn (upd w b i v)=hn w:=by simp[hn,upd]
@[simp] theorem hn_alloc (o:Obj):hn (w.alloc o)=hn w+1:=by simp[hn]
@[simp] theorem hp_upd_same:hp (upd w b i v) b=setR (hp w b) i v:=by
 unfold hp upd World.setCell setR;simp only[Array.getElem?_modify,if_true]
 cases w.heap[b]? with
 |none=>rfl
 |some o=>cases o<;>simp[gN]
theorem mA{c:Nat}(h:b≠c):(upd w b i v).heap[c]? =w.heap[c]? :=by
 unfold upd World.setCell;rw[Array.getElem?_modify,if_neg h]
@[simp] theorem hp_alloc_new (c:vQ) (T:TypeId):hp (w.alloc (.cells c T)) (hn w)=Row T c:=by
 unfold hp hn World.alloc Row gN;simp
theorem rH(o:Obj){c:Nat}(h:c<hn w):(w.alloc o).heap[c]? =w.heap[c]? :=by
 have h':c≠w.heap.size:=Nat.ne_of_lt h;unfold World.alloc;simp[Array.getElem?_push,h']
theorem iK(o:Obj){c:Nat}(h:c<hn w):hp (w.alloc o) c=hp w c:=by
 unfold hp;rw[rH w o h]
theorem zM{T:TypeId}{arr:vQ}{w:wQ}{b:Nat}(h:hp w b=Row T arr):b<hn w:=by
 unfold hp Row at h
 cases hb:w.heap[b]? with
 |none=>simp[hb]at h
 |some o=>exact(Array.getElem?_eq_some_iff.1 hb).1
theorem sR{T:TypeId}{arr:vQ}(h:hp w b=Row T arr)(hi:i<arr.size):w.frozen? ⟨b,i,none⟩=false:=by
 unfold hp Row at h;unfold World.frozen?
 cases hb:w.heap[b]? with
 |none=>simp[hb]at h
 |some o=>
  cases o<;>simp[hb,gN]at h⊢
  obtain⟨rfl,rfl,h3⟩:=h;intro h4;have h7:=h3 oQ;rw[h7];exact Nat.zero_le _
end
def RdI(k:IntKind)(K:Int ->Prop):Option Value ->Prop
 |some (.int k' n)=>k'=k/\K n
 |_ =>False
def RdB(K:Bool ->Prop):Option Value ->Prop|some (.bool x)=>K x|_ =>False
def RdS(K:ByteArray ->Prop):Option Value ->Prop|some (.string x)=>K x|_ =>False
def RdSl(K:pQ ->Nat ->Nat ->Prop):Option Value ->Prop|some (.slice p l c)=>K p l c|_ =>False
def RdP(K:pQ ->Prop):Option Value ->Prop|some (.pointer p)=>K p|_ =>False
def RdV(K:Value ->Prop):Option Value ->Prop|some v=>K v|_ =>False
@[simp] theorem RdI_some (k:IntKind) (K:Int ->Prop) (n:Int):RdI k K (some (.int k n))=K n:=by simp[RdI]
@[simp] theorem RdB_some (K:Bool ->Prop) (n:Bool):RdB K (some (.bool n))=K n:=rfl
@[simp] theorem RdS_some (K:ByteArray ->Prop) (n:ByteArray):RdS K (some (.string n))=K n:=rfl
@[simp] theorem RdSl_some (K:pQ ->Nat ->Nat ->Prop) (p:pQ) (l c:Nat):RdSl K (some (.slice p l c))=K p l c:=rfl
@[simp] theorem RdP_some (K:pQ ->Prop) (p:pQ):RdP K (some (.pointer p))=K p:=rfl
@[simp] theorem RdV_some (K:Value ->Prop) (v:Value):RdV K (some v)=K v:=rfl
section
variable(w:wQ)(b i:Nat)
theorem yZ(k:IntKind)(K:Int ->Prop):LdI w ⟨b,i,none⟩ k K=RdI k K (atR (hp w b) i):=by
 rw[<-yO];unfold LdI RdI;apply propext
 constructor
 ·rintro⟨n,h,hK⟩;rw[h];exact⟨rfl,hK⟩
 ·intro h;split at h
  ·rename_i e;obtain⟨rfl,hK⟩:=h;exact⟨_,e,hK⟩
  ·exact h.elim
theorem uE(K:Bool ->Prop):LdB w ⟨b,i,none⟩ K=RdB K (atR (hp w b) i):=by
 rw[<-yO];unfold LdB RdB;apply propext;constructor
 ·rintro⟨n,h,hK⟩;rw[h];exact hK
 ·intro h;split at h
  ·rename_i e;exact⟨_,e,h⟩
  ·exact h.elim
theorem vS(K:ByteArray ->Prop):LdS w ⟨b,i,none⟩ K=RdS K (atR (hp w b) i):=by
 rw[<-yO];unfold LdS RdS;apply propext;constructor
 ·rintro⟨n,h,hK⟩;rw[h];exact hK
 ·intro h;split at h
  ·rename_i e;exact⟨_,e,h⟩
  ·exact h.elim
theorem yY(K:pQ ->Nat ->Nat ->Prop):qS w ⟨b,i,none⟩ K=RdSl K (atR (hp w b) i):=by
 rw[<-yO];unfold qS RdSl;apply propext;constructor
 ·rintro⟨p,l,c,h,hK⟩;rw[h];exact hK
 ·intro h;split at h
  ·rename_i e;exact⟨_,_,_,e,h⟩
  ·exact h.elim
theorem uF(K:pQ ->Prop):LdP w ⟨b,i,none⟩ K=RdP K (atR (hp w b) i):=by
 rw[<-yO];unfold LdP RdP;apply propext;constructor
 ·rintro⟨n,h,hK⟩;rw[h];exact hK
 ·intro h;split at h
  ·rename_i e;exact⟨_,e,h⟩
  ·exact h.elim
theorem vM(K:Value ->Prop):LdV w ⟨b,i,none⟩ K=RdV K (atR (hp w b) i):=by
 rw[<-yO];unfold LdV RdV;apply propext;constructor
 ·rintro⟨n,h,hK⟩;rw[h];exact hK
 ·intro h;split at h
  ·rename_i e;exact⟨_,e,h⟩
  ·exact h.elim
end
theorem lK(w:wQ)(b i:Nat)(v:Value)(K:World ->Prop){T:TypeId}{arr:vQ}(h:hp w b=Row T arr)(hi:i<arr.size):
  qB w ⟨b,i,none⟩ v K=K (upd w b i v):=by
 apply propext
 constructor
 ·intro h';exact h'.2.2
 ·intro hK
  refine⟨?_,sR w b i h hi,hK⟩;rw[yO,h];simp[hi]
def StO:Option Obj ->Nat ->Prop ->Prop
 |some (.cells c _ (0,0)),i,X=>i<c.size/\X
 |_,_,_ =>False
@[simp] theorem StO_Row (T:TypeId) (arr:vQ) (i:Nat) (X:Prop):StO (Row T arr) i X=(i<arr.size/\X):=rfl
theorem sK{w:wQ}{b i:Nat}{v:Value}{K:World ->Prop}(h:StO (hp w b) i (K (upd w b i v))):qB w ⟨b,i,none⟩ v K:=by
 unfold StO at h
 split at h
 ·rename_i c T e
  rw[lK _ _ _ _ _ e h.1];exact h.2
 ·exact h.elim
theorem xY(w:wQ)(o:Obj)(K:Nat ->World ->Prop):qL w o K=K (hn w) (w.alloc o):=rfl
theorem zV(w:wQ)(K:World ->Prop):qO w K=K w.drew:=rfl
@[simp] theorem PtrC_some (a:Addr) (K:Addr ->Prop):qN (some a) K=K a:=rfl
@[simp] theorem IfC_true (X Y:Prop):IfC true X Y=X:=rfl
@[simp] theorem IfC_false (X Y:Prop):IfC false X Y=Y:=rfl
theorem qF{p:Prop}[Decidable p]{X Y:Prop}(h1:p ->X)(h2:¬p ->Y):IfC (decide p) X Y:=by
 by_cases h:p
 ·simp only[h,decide_true];exact h1 h
 ·simp only[h,decide_false];exact h2 h
theorem qX{b:Bool}{X Y:Prop}(h1:b=true ->X)(h2:b=false ->Y):IfC b X Y:=by
 cases b with
 |true=>exact h1 rfl
 |false=>exact h2 rfl
@[simp] theorem ShC_nat (n:Nat) (X:Prop):ShC (OfNat.ofNat n:Int) X=X:=by
 unfold ShC;rw[if_neg];exact Int.not_lt.2 (Int.natCast_nonneg n)
theorem qU{n:Int}{X:Prop}(h:0<=n)(hX:X):ShC n X:=by
 unfold ShC;rw[if_neg oQ];exact hX
theorem xK{n:Int}{X:Prop}(h:n≠0)(hX:X):zQ n X:=by
 unfold zQ;rw[if_neg h];exact hX
@[simp] theorem OneC_true (X:Prop):yE true X=X:=rfl
theorem yQ(b o n:Nat):(⟨b,o,none⟩:Addr).add n=⟨b,o+n,none⟩:=by
 unfold Addr.add;split<;>simp_all
@[simp] theorem elemAt_one (b o i:Nat):qH ⟨b,o,none⟩ i 1=⟨b,o+i,none⟩:=yQ b o i
theorem xW(b o i s:Nat):qH ⟨b,o,none⟩ i s=⟨b,o+i*s,none⟩:=by
 unfold qH
 split
 ·rw[yQ];simp
 ·rw[yQ]
@[simp] theorem slAdd_one (b o cap l:Nat) (h:l<cap):qQ (some ⟨b,o,none⟩) cap l 1=some ⟨b,o+l,none⟩:=by
 unfold qQ;rw[if_neg oQ];simp[yQ]
structure Fr (S:List Nat) (w w':wQ):Prop where
 os:w'.os=w.os
 tape:w'.tape=w.tape
 output:w'.output=w.output
 size:hn w<=hn w'
 raw:∀b,b<hn w ->b∉S ->w'.heap[b]? =w.heap[b]?
namespace Fr
variable{S S':List Nat}{w w' w'':wQ}{a b c:Nat}
theorem keep(h:Fr S w w'):∀b,b<hn w ->b∉S ->hp w' b=hp w b:=fun b hb hn=>by unfold hp;rw[h.raw b hb hn]
theorem refl(S:List Nat)(w:wQ):Fr S w w:=⟨rfl,rfl,rfl,Nat.le_refl _,fun _ _ _ =>rfl⟩
theorem mono(h:Fr S w w')(hs:∀x∈S,x∈S'):Fr S' w w':=⟨h.os,h.tape,h.output,h.size,fun b hb hn=>h.raw b hb fun h'=>hn (hs b h')⟩
theorem trans(h:Fr S w w')(h':Fr S w' w''):Fr S w w'':=
 ⟨h'.os.trans h.os,h'.tape.trans h.tape,h'.output.trans h.output,Nat.le_trans h.size h'.size,fun b hb hn=>(h'.raw b (Nat.lt_of_lt_of_le hb h.size) hn).trans (h.raw b hb hn)⟩
theorem trans'(h:Fr S w w')(h':Fr S' w' w'')(hs:∀x∈S',x<hn w ->x∈S):Fr S w w'':=
 ⟨h'.os.trans h.os,h'.tape.trans h.tape,h'.output.trans h.output,Nat.le_trans h.size h'.size,fun b hb hn=>(h'.raw b (Nat.lt_of_lt_of_le hb h.size) fun hx=>hn (hs b hx hb)).trans (h.raw b hb hn)⟩
theorem drew(S:List Nat)(w:wQ):Fr S w w.drew:=⟨rfl,rfl,rfl,Nat.le_refl _,fun _ _ _ =>rfl⟩
theorem alloc(S:List Nat)(w:wQ)(o:Obj):Fr S w (w.alloc o):=⟨rfl,rfl,rfl,sQ,fun _ hb _ =>rH w o hb⟩
theorem upd{i:Nat}{v:Value}(hb:b∈S):Fr S w (upd w b i v):=
 ⟨rfl,rfl,rfl,sQ,fun c _ hn=>mA w b i v fun e=>hn (e▸hb)⟩
theorem upd_new{i:Nat}{v:Value}(h:Fr S w w')(hb:hn w<=b):Fr S w (V.upd w' b i v):=
 ⟨h.os,h.tape,h.output,by simpa using h.size,fun c hc hn=>(mA w' b i v oQ).trans (h.raw c hc hn)⟩
theorem drewR(h:Fr S w w'):Fr S w w'.drew:=h.trans (drew _ _)
theorem allocR(h:Fr S w w')(o:Obj):Fr S w (w'.alloc o):=h.trans (alloc _ _ _)
theorem hp0(h:Fr [] w w')(hb:b<hn w):hp w' b=hp w b:=h.keep b hb sQ
theorem hp1(h:Fr [a] w w')(hb:b<hn w)(h1:b≠a):hp w' b=hp w b:=h.keep b hb (by simp[h1])
end Fr
def Has(w:wQ)(p:pQ)(vs:List Value):Prop:=
 match p with
 |none=>vs=[]
 |some a=>a.spot=none/\∃T arr,hp w a.block=Row T arr/\∀j v,vs[j]? =some v ->arr[a.off+j]? =some v
def u8v(x:UInt8):Value:= .int .u8 x.toNat
def bv(xs:bQ):List Value:=xs.map u8v
@[simp] theorem bv_length (xs:bQ):(bv xs).length=xs.length:=by simp[bv]
@[simp] theorem bv_append (xs ys:bQ):bv (xs++ys)=bv xs++bv ys:=by simp[bv]
@[simp] theorem bv_nil:bv []=[]:=rfl
@[simp] theorem bv_cons (x:UInt8) (xs:bQ):bv (x::xs)=u8v x::bv xs:=rfl
theorem kM(xs:bQ)(i:Nat):(bv xs)[i]? =(xs[i]?).map u8v:=by simp[bv]
theorem dV{xs ys:bQ}(h:bv xs=bv ys):xs=ys:=by
 induction xs generalizing ys with
 |nil=>cases ys with|nil=>rfl|cons y ys=>simp at h
 |cons x xs ih=>
  cases ys with
  |nil=>simp at h
  |cons y ys=>
   simp only[bv_cons,List.cons.injEq,u8v,Value.int.injEq,true_and]at h;have:x.toNat=y.toNat:=oQ;rw[ih h.2,UInt8.toNat_inj.1 this]
theorem Has.fr{S:List Nat}{w w':wQ}{p:pQ}{vs:List Value}(h:Has w p vs)(hf:Fr S w w')(hS:∀a,p=some a ->a.block∉S):Has w' p vs:=by
 cases p with
 |none=>exact h
 |some a=>
  obtain⟨h0,T,arr,h1,h2⟩:=h;exact⟨h0,T,arr,by rw[hf.keep _ (zM h1) (hS a rfl)];exact h1,h2⟩
theorem Has.fr0{w w':wQ}{p:pQ}{vs:List Value}(h:Has w p vs)(hf:Fr [] w w'):Has w' p vs:=h.fr hf sQ
def Own(w:wQ)(base:Nat)(e:TypeId)(size:Nat)(p:pQ)(l c:Nat)(xs:List Value):Prop:=
 xs.length=l*size/\((p=none/\l=0/\c=0)\/
  ∃(g:Nat) (arr:vQ),p=some ⟨g,0,none⟩/\base<=g/\hp w g=Row e arr/\l<=c/\arr.size=c*size/\∀(j:Nat) (v:Value),xs[j]? =some v ->arr[j]? =some v)
def xX:pQ ->List Nat
 |some a=>[a.block]
 |none=>[]
section
variable{w w':wQ}{base:Nat}{e:TypeId}{size:Nat}{p:pQ}{l c:Nat}{xs:List Value}
theorem Own.has(h:Own w base e size p l c xs):Has w p xs:=by
 rcases h with⟨hl,⟨rfl,rfl,rfl⟩|⟨g,arr,rfl,_,hg,_,_,hx⟩⟩
 ·simp at hl;exact hl
 ·exact⟨rfl,e,arr,hg,by simpa using hx⟩
theorem Own.fr{S:List Nat}(h:Own w base e size p l c xs)(hf:Fr S w w')(hS:∀a,p=some a ->a.block∉S):Own w' base e size p l c xs:=by
 rcases h with⟨hl,hn|⟨g,arr,rfl,hb,hg,h1,h2,hx⟩⟩
 ·exact⟨hl,.inl hn⟩
 ·exact⟨hl,.inr ⟨g,arr,rfl,hb,by rw[hf.keep _ (zM hg) (hS _ rfl)];exact hg,h1,h2,hx⟩⟩
theorem Own.fr0(h:Own w base e size p l c xs)(hf:Fr [] w w'):Own w' base e size p l c xs:=h.fr hf sQ
theorem Own.base_le{base':Nat}(h:Own w base e size p l c xs)(hb:base'<=base):Own w base' e size p l c xs:=by
 rcases h with⟨hl,hn|⟨g,arr,rfl,hb',rest⟩⟩
 ·exact⟨hl,.inl hn⟩
 ·exact⟨hl,.inr ⟨g,arr,rfl,Nat.le_trans hb hb',rest⟩⟩
theorem Own.blk(h:Own w base e size p l c xs):∀x∈xX p,base<=x/\x<hn w:=by
 rcases h with⟨hl,⟨rfl,_⟩|⟨g,arr,rfl,hb,hg,_⟩⟩
 ·simp[xX]
 ·simp[xX];exact⟨hb,zM hg⟩
theorem Own.at(h:Own w base e size p l c xs){a:Addr}(ha:p=some a):a.spot=none/\a.off=0/\base<=a.block/\a.block<hn w:=by
 rcases h with⟨hl,⟨rfl,_⟩|⟨g,arr,rfl,hb,hg,_⟩⟩
 ·cases ha
 ·cases ha;exact⟨rfl,rfl,hb,zM hg⟩
theorem Own.nil(w:wQ)(base:Nat)(e:TypeId)(size:Nat):Own w base e size none 0 0 []:=⟨sQ,.inl ⟨rfl,rfl,rfl⟩⟩
theorem Own.none_iff(h:Own w base e size none l c xs):l=0/\c=0/\xs=[]:=by
 rcases h with⟨hl,⟨_,rfl,rfl⟩|⟨g,arr,h,_⟩⟩
 ·simp at hl;exact⟨rfl,rfl,hl⟩
 ·cases h
end
theorem Own.new{w:wQ}{base:Nat}{e:TypeId}{size:Nat}{cs:vQ}{l:Nat}(hb:base<=hn w)(hs:cs.size=l*size):
  Own (w.alloc (.cells cs e)) base e size (some ⟨hn w,0,none⟩) l l cs.toList:=
 ⟨by simpa using hs,.inr ⟨hn w,cs,rfl,hb,sQ,Nat.le_refl _,hs,fun j v h=>by simpa using h⟩⟩
def updL(w:wQ)(g o:Nat):List Value ->World
 |[]=>w
 |v::r=>updL (upd w g o v) g (o+1) r
theorem qHj(w:wQ)(g o:Nat)(vs:List Value):hn (updL w g o vs)=hn w:=by
 induction vs generalizing w o with
 |nil=>rfl
 |cons v r ih=>simp[updL,ih]
theorem Fr.updL{S:List Nat}{w:wQ}{g o:Nat}{vs:List Value}(hb:g∈S):Fr S w (updL w g o vs):=by
 induction vs generalizing w o with
 |nil=>exact Fr.refl _ _
 |cons v r ih=>exact(Fr.upd hb).trans ih
theorem iL{g:Nat}{T:TypeId}:∀{vs:List Value} {w:wQ} {o:Nat} {arr:vQ},hp w g=Row T arr ->o+vs.length<=arr.size ->
  ∃arr',hp (updL w g o vs) g=Row T arr'/\arr'.size=arr.size/\∀j,arr'[j]? =if o<=j/\j<o+vs.length then vs[j -o]? else arr[j]?
 |[],w,o,arr,h,_ =>⟨arr,h,rfl,fun j=>by simp;intro h1 h2;omega⟩
 |v::r,w,o,arr,h,hl=>by
  simp only[List.length_cons]at hl;obtain⟨arr',h1,h2,h3⟩:=iL (vs:=r) (w:=upd w g o v) (o:=o+1) (arr:=arr.setIfInBounds o v) (by rw[hp_upd_same,h,setR_Row]) (by simp;omega);refine⟨arr',h1,by simpa using h2,fun j=> ?_⟩;rw[h3 j];simp only[List.length_cons]
  by_cases hj:j=o
  ·subst hj
   have:j<arr.size:=oQ;rw[if_neg oQ,if_pos oQ];simp[this]
  ·by_cases hj2:o+1<=j/\j<o+1+r.length
   ·rw[if_pos hj2,if_pos oQ]
    have:j -o=(j -(o+1))+1:=oQ;rw[this];rfl
   ·rw[if_neg hj2,if_neg oQ,Array.getElem?_setIfInBounds_ne oQ]
theorem mC{P:Program}{g:Nat}{T:TypeId}:∀{vs:List Value} {w:wQ} {i o:Nat} {arr:vQ},hp w g=Row T arr ->o+i+vs.length<=arr.size ->(∀v∈vs,v.oneCell'=true) ->
  (storeCells ⟨g,o,none⟩ vs i).run P w= .ok () (updL w g (o+i) vs)
 |[],w,i,o,arr,_,_,_ =>by simp[storeCells,updL]
 |v::r,w,i,o,arr,h,hl,h1=>by
  simp only[List.length_cons]at hl;have hi:o+i<arr.size:=oQ;have hc:w.cell? ⟨g,o+i,none⟩=some arr[o+i]:=by rw[yO,h];simp[hi]
  have hst:(store ((⟨g,o,none⟩:Addr).add i) v).run P w= .ok () (upd w g (o+i) v):=by
   rw[yQ,run_store P w _ v _ (h1 v sQ),hc];simp[sR w g (o+i) h hi,upd]
  have ih:=mC (P:=P) (vs:=r) (w:=upd w g (o+i) v) (i:=i+1) (o:=o) (arr:=arr.setIfInBounds (o+i) v) (by rw[hp_upd_same,h,setR_Row]) (by simp;omega) (fun x hx=>h1 x (by simp[hx]));simp only[storeCells,Sem.run_bind,hst,Result.andThen_ok,ih,updL]
  rfl
def fY(P:Program)(t e size bytes:Nat):Bool:=
 match P.underlying t,P.info? e with
 |some (.slice e'),some i=>Nat.beq e' e&&Nat.beq i.size size&&Nat.beq i.bytes bytes&&Nat.blt 0 size&&Nat.ble bytes 64&&(match i.zero with|some z=>Nat.beq z.cells.size size|none=>false)
 |_,_ =>false
section
variable{P:Program}{t ty e size bytes:Nat}
theorem cC(h:fY P t e size bytes=true):P.underlying t=some (.slice e)/\∃i z,P.info? e=some i/\i.size=size/\i.bytes=bytes/\i.zero=some z/\z.cells.size=size/\0<size/\bytes<=64:=by
 unfold fY at h
 split at h
 ·rename_i e' i h1 h2
  simp only[Bool.and_eq_true,Nat.ble_eq]at h;obtain⟨⟨⟨⟨⟨e1,e2⟩,e3⟩,h3⟩,h4⟩,h5⟩:=h;have e1:=Nat.eq_of_beq_eq_true e1;have e2:=Nat.eq_of_beq_eq_true e2;have e3:=Nat.eq_of_beq_eq_true e3;subst e1 e2 e3
  split at h5
  ·rename_i z hz
   exact⟨h1,i,z,h2,rfl,rfl,hz,Nat.eq_of_beq_eq_true h5,Nat.lt_of_succ_le (Nat.le_of_ble_eq_true h3),h4⟩
  ·cases h5
 ·cases h
theorem Has.cells{w:wQ}{a:Addr}{vs:List Value}(h:Has w (some a) vs):∀(j:Nat) (v:Value),vs[j]? =some v ->w.cell? (a.add j)=some v:=by
 obtain⟨h0,T,arr,h1,h2⟩:=h;intro j v hv;obtain⟨b,o,s⟩:=a;simp only at h0 h1 h2;subst h0;rw[yQ,yO,h1,atR_Row];exact h2 j v hv
theorem uO(hok:fY P t e size bytes=true){S:List Nat}{w0 w:wQ}(hf:Fr S w0 w){p:pQ}{l c:Nat}{xs:List Value}(hown:Own w (hn w0) e size p l c xs)
  {q:pQ}{m d:Nat}{news:List Value}(hx:Has w q news)(hm:news.length=m*size)(h1:∀u∈news,u.oneCell'=true)(hbig:l+m<=1099511627776)(hd:q=none ->d=0)
  {K:pQ ->Nat ->Nat ->World ->Prop}(hK:∀p' c' w',Fr S w0 w' ->Fr (xX p) w w' ->Own w' (hn w0) e size p' (l+m) c' (xs++news) ->(∀x∈xX p',x∈xX p\/hn w<=x) ->K p' (l+m) c' w'):
  yF P w #[t,t] ty (.slice p l c) (.slice q m d) K:=by
 obtain⟨ht,i,z,hi,rfl,rfl,hz,hzs,hpos,hb64⟩:=cC hok;have hnew:∀(need old:Nat) (ys:List Value),ys.length=need*i.size ->hn w0<=hn w ->need<=grownCap w need old e ->
   Own (w.drew.alloc (.cells (ys.toArray++Builtin.zeroCells z.cells (grownCap w need old e -need)) e)) (hn w0) e i.size (some ⟨w.heap.size,0,none⟩) need (grownCap w need old e) ys:=by
  intro need old ys hys hle hcap;refine⟨hys,.inr ⟨hn w,_,rfl,hle,by rw[<-hn_drew w,hp_alloc_new],hcap,?_,fun j v hj=> ?_⟩⟩
  ·rw[Array.size_append,size_zeroCells,hzs]
   simp only[List.size_toArray,hys];rw[<-Nat.add_mul];congr 1;omega
  ·rw[Array.getElem?_append_left (by simp;exact(List.getElem?_eq_some_iff.1 hj).1)]
   simpa using hj
 have hsz:=hf.size;have same:∀{w':wQ},w'=w ->m=0 ->K p (l+m) c w':=by
  intro w' e1 e2;subst e1 e2;have:news=[]:=List.length_eq_zero_iff.1 (by rw[hm];simp);subst this;exact hK p c w' hf (Fr.refl _ _) (by simpa using hown) (fun x hx=> .inl hx)
 cases q with
 |none=>
  have hnil:news=[]:=hx;subst hnil;have hm0:m=0:=by
   simp only[List.length_nil]at hm;rcases Nat.mul_eq_zero.1 hm.symm with h|h
   ·exact h
   ·omega
  have hd0:=hd rfl;subst hd0;refine⟨p,l+m,c,w,?_,same rfl hm0⟩;subst hm0;rcases hown with⟨_,⟨rfl,rfl,rfl⟩|⟨g,arr,rfl,_,_,hlc,_⟩⟩
  ·simp[Builtin.append_,run_underlying ht,sizeOf,typeInfo,hi,Builtin.lenOf,Builtin.firstCells]
  ·simp[Builtin.append_,run_underlying ht,sizeOf,typeInfo,hi,Builtin.lenOf,Builtin.firstCells,hlc,storeCells]
 |some a=>
  have hcs:=hx.cells;rcases hown with⟨hl,⟨rfl,rfl,rfl⟩|⟨g,arr,rfl,hbg,hg,hlc,hsize,hxs⟩⟩
  ·have hxs0:xs=[]:=List.length_eq_zero_iff.1 (by rw[hl];simp)
   subst hxs0;rcases Nat.eq_zero_or_pos m with rfl|hpos'
   ·have:news=[]:=List.length_eq_zero_iff.1 (by rw[hm];simp)
    subst this;refine⟨none,0+0,0,w,?_,same rfl rfl⟩;simp[Builtin.append_,run_underlying ht,sizeOf,typeInfo,hi,Builtin.lenOf,Builtin.firstCells,loadCells,loadCellsFrom]
   ·have hr:=run_append_nil (P:=P) w t ty e i z ht hi hz a m d news hm hcs hpos' oQ (by
     calc m*i.bytes<=1099511627776*64:=Nat.mul_le_mul oQ hb64
      _ <=281474976710656:=dQ)
    have hg':=hnew m 0 news hm hsz (grownCap_ge _ _ _ _);refine⟨_,_,_,_,hr,?_⟩;have:=hK (some ⟨w.heap.size,0,none⟩) (grownCap w m 0 e) _ ((hf.drewR).allocR _) ((Fr.drew _ _).allocR _) (by simpa using hg') (fun x hx=> .inr (by simp[xX]at hx;subst hx;exact Nat.le_refl _))
    simpa using this
  ·by_cases hroom:l+m<=c
   ·have hfit:l*i.size+news.length<=arr.size:=by rw[hm,hsize,<-Nat.add_mul];exact Nat.mul_le_mul_right _ hroom
    have hst:=mC (P:=P) (vs:=news) (w:=w) (i:=0) (o:=l*i.size) hg (by simpa using hfit) h1;have hfc:=run_firstCells_some (P:=P) w i.size m a m d news hm hcs;refine⟨some ⟨g,0,none⟩,l+m,c,updL w g (l*i.size) news,?_,?_⟩
    ·simp only[Nat.add_zero]at hst
     simp[Builtin.append_,run_underlying ht,sizeOf,typeInfo,hi,Builtin.lenOf,hroom,hfc,Addr.add_lit,hst]
    ·obtain⟨arr',h2,h3,h4⟩:=iL (vs:=news) (o:=l*i.size) hg hfit
     refine hK _ _ _ (hf.trans' (S':=[g]) (Fr.updL sQ) (fun x hx hlt=>by simp at hx;omega)) (Fr.updL (by simp[xX])) ⟨by rw[List.length_append,hl,hm,Nat.add_mul],.inr ⟨g,arr',rfl,hbg,h2,hroom,by rw[h3,hsize],fun j v hj=> ?_⟩⟩ (fun x hx=> .inl hx);rw[h4 j]
     by_cases hjl:j<xs.length
     ·rw[List.getElem?_append_left hjl]at hj
      rw[if_neg oQ];exact hxs j v hj
     ·rw[List.getElem?_append_right oQ]at hj
      have:=(List.getElem?_eq_some_iff.1 hj).1;rw[if_pos oQ,<-hj,hl]
   ·have holds:∀(j:Nat) (v:Value),xs[j]? =some v ->w.cell? ((⟨g,0,none⟩:Addr).add j)=some v:=by
     intro j v hj;rw[yQ,yO,hg,atR_Row]
     simpa using hxs j v hj
    have hr:=run_append_grow (P:=P) w t ty e i z ht hi hz ⟨g,0,none⟩ l c xs hl holds a m d news hm hcs oQ oQ (growslice_fits oQ (by
     calc (l+m)*i.bytes<=1099511627776*64:=Nat.mul_le_mul hbig hb64
      _ <=140737488355328:=dQ))
    have hg':=hnew (l+m) c (xs++news) (by rw[List.length_append,hl,hm,Nat.add_mul]) hsz (grownCap_ge _ _ _ _);refine⟨_,_,_,_,hr,?_⟩;have:=hK (some ⟨w.heap.size,0,none⟩) (grownCap w (l+m) c e) _ ((hf.drewR).allocR _) ((Fr.drew _ _).allocR _) (by simpa using hg') (fun x hx=> .inr (by simp[xX]at hx;subst hx;exact Nat.le_refl _))
    simpa using this
theorem vC(hok:fY P t e size bytes=true){S:List Nat}{w0 w:wQ}(hf:Fr S w0 w){p:pQ}{l c:Nat}{xs:List Value}(hown:Own w (hn w0) e size p l c xs)
  {q:pQ}{m d:Nat}{news:List Value}(hx:Has w q news)(hm:news.length=m*size)(h1:∀u∈news,u.oneCell'=true)(hbig:l+m<=1099511627776)(hd:q=none ->d=0)
  {K:pQ ->Nat ->Nat ->World ->Prop}(hK:∀p' c' w',Fr S w0 w' ->Fr (xX p) w w' ->Own w' (hn w0) e size p' (l+m) c' (xs++news) ->K p' (l+m) c' w'):
  yF P w #[t,t] ty (.slice p l c) (.slice q m d) K:=
 uO hok hf hown hx hm h1 hbig hd fun p' c' w' a b c _ =>hK p' c' w' a b c
theorem dB(hok:fY P t e size bytes=true){S:List Nat}{w0 w:wQ}(hf:Fr S w0 w){p:pQ}{l c:Nat}{xs:List Value}(hown:Own w (hn w0) e size p l c xs)
  {cs:vQ}{m:Nat}(hm:cs.size=m*size)(h1:∀u∈cs.toList,u.oneCell'=true)(hbig:l+m<=1099511627776)
  {K:pQ ->Nat ->Nat ->World ->Prop}(hK:∀p' c' w',Fr S w0 w' ->Fr (xX p) w w' ->Own w' (hn w0) e size p' (l+m) c' (xs++cs.toList) ->(∀x∈xX p',x∈xX p\/hn w<=x) ->K p' (l+m) c' w'):
  qL w (.cells cs e) fun r w1=>yF P w1 #[t,t] ty (.slice p l c) (.slice (some ⟨r,0,none⟩) m m) K:=by
 rw[xY];have hfa:Fr [] w (w.alloc (.cells cs e)):=Fr.alloc _ _ _;refine uO hok (hf.allocR _) (hown.fr0 hfa) (q:=some ⟨hn w,0,none⟩) ⟨rfl,e,cs,sQ,fun j v h=>by simpa using h⟩ (by simpa using hm) h1 hbig sQ ?_;intro p' c' w' h2 h3 h4 h5;exact hK p' c' w' h2 ((Fr.alloc _ _ _).trans h3) h4 fun x hx=>(h5 x hx).imp id fun h=>by simp at h;omega
theorem gU(hok:fY P t e size bytes=true){S:List Nat}{w0 w:wQ}(hf:Fr S w0 w){p:pQ}{l c:Nat}{xs:List Value}(hown:Own w (hn w0) e size p l c xs)
  {cs:vQ}{m:Nat}(hm:cs.size=m*size)(h1:∀u∈cs.toList,u.oneCell'=true)(hbig:l+m<=1099511627776)
  {K:pQ ->Nat ->Nat ->World ->Prop}(hK:∀p' c' w',Fr S w0 w' ->Fr (xX p) w w' ->Own w' (hn w0) e size p' (l+m) c' (xs++cs.toList) ->K p' (l+m) c' w'):
  qL w (.cells cs e) fun r w1=>yF P w1 #[t,t] ty (.slice p l c) (.slice (some ⟨r,0,none⟩) m m) K:=by
 rw[xY];have hfa:Fr [] w (w.alloc (.cells cs e)):=Fr.alloc _ _ _;refine vC hok (hf.allocR _) (hown.fr0 hfa) (q:=some ⟨hn w,0,none⟩) ⟨rfl,e,cs,sQ,fun j v h=>by simpa using h⟩ (by simpa using hm) h1 hbig sQ ?_;intro p' c' w' h2 h3 h4;exact hK p' c' w' h2 ((Fr.alloc _ _ _).trans h3) h4
theorem qBr{src:Nat}(hs:P.underlying src=some .string)(ht:P.underlying t=some (.slice e))(he:P.underlying e=some (.int .u8)){S:List Nat}{w0 w:wQ}(hf:Fr S w0 w){s:ByteArray}
  {K:pQ ->Nat ->Nat ->World ->Prop}(hK:∀p' c' w',Fr S w0 w' ->Fr [] w w' ->(∃a,p'=some a/\hn w<=a.block) ->Own w' (hn w0) e 1 p' s.size c' (bv s.data.toList) ->K p' s.size c' w'):
  qDa P w src t (.string s) K:=by
 refine⟨_,_,_,_,run_bytes_of_string w src t e s hs ht he,?_⟩;refine hK _ _ _ (hf.drewR.allocR _) ((Fr.drew _ _).allocR _) ⟨_,rfl,Nat.le_refl _⟩ ⟨sQ,.inr ⟨hn w,bytesRow s (grownCap w s.size 0 e),rfl,hf.size,?_,grownCap_ge _ _ _ _,?_,fun j v hj=> ?_⟩⟩
 ·unfold hp
  have:(w.drew.alloc (.cells (bytesRow s (grownCap w s.size 0 e)) e ((bytesRow s (grownCap w s.size 0 e)).size,(bytesRow s (grownCap w s.size 0 e)).size+1))).heap[hn w]? =some (.cells (bytesRow s (grownCap w s.size 0 e)) e ((bytesRow s (grownCap w s.size 0 e)).size,(bytesRow s (grownCap w s.size 0 e)).size+1)):=by
   show(w.heap.push _)[w.heap.size]? =_;simp
  rw[this];simp[gN,Row]
 ·have h1:=grownCap_ge w s.size 0 e
  have h2:s.data.size=s.size:=rfl;simp only[bytesRow,Array.size_append,Array.size_map,Array.size_replicate,h2];omega
 ·have hj':j<s.data.size:=by have:=(List.getElem?_eq_some_iff.1 hj).1;simpa using this
  unfold bytesRow;rw[Array.getElem?_append_left (by simpa using hj')];rw[kM]at hj;simp only[Array.getElem?_map]
  simpa [u8v]using hj
theorem qDb{src:Nat}(hs:P.underlying src=some .string)(ht:P.underlying t=some (.slice e))(he:P.underlying e=some (.int .u8)){S:List Nat}{w0 w:wQ}(hf:Fr S w0 w){nm:bQ}
  {K:pQ ->Nat ->Nat ->World ->Prop}(hK:∀p' c' w',Fr S w0 w' ->Fr [] w w' ->(∃a,p'=some a/\hn w<=a.block) ->Own w' (hn w0) e 1 p' nm.length c' (bv nm) ->K p' nm.length c' w'):
  qDa P w src t (.string ⟨nm.toArray⟩) K:=by
 have e1:(⟨nm.toArray⟩:ByteArray).size=nm.length:=by simp[ByteArray.size]
 refine qBr hs ht he hf ?_;rw[e1];exact hK
theorem rM{w:wQ}{p:pQ}{c:Nat}{xs:bQ}(hx:Has w p (bv xs)){l:Nat}(hl:l=xs.length){K:ByteArray ->Prop}(hK:K ⟨xs.toArray⟩):B2S P w p l c K:=by
 subst hl
 cases p with
 |none=>
  have:xs=[]:=dV (xs:=xs) (ys:=[]) hx;subst this;exact⟨ByteArray.empty,by simp[Conv.bytesToString],hK⟩
 |some a=>
  refine⟨_,?_,hK⟩;have hl:=run_loadCells_list (P:=P) w a (bv xs) (hx.cells);have e1:(bv xs)=(xs.map fun x=>(x.toNat:Int)).map (Value.int .u8):=by simp[bv,u8v,Function.comp_def]
  rw[bv_length,e1]at hl;rw[run_bytesToString w a xs.length c _ hl,foldl_push_byteCells];simp[ByteArray.empty,ByteArray.emptyWithCapacity]
  rfl
end
theorem aH(k:IntKind){m:Nat}(hm:m<=k.bits -(if k.signed then 1 else 0)){x:Nat}(hx:x<2^m):k.wrap (x:Int)=x:=by
 have h1:(2:Nat)^m<=2^(k.bits -(if k.signed then 1 else 0)):=Nat.pow_le_pow_right dQ hm;have key:∀(M:Nat) (b:Bool),2^(k.bits -(if k.signed then 1 else 0))=M ->k.wrap (x:Int)=x\/M<=x:=by
  intro M b hM;rcases Nat.lt_or_ge x M with h|h
  ·left
   subst hM
   cases k<;>simp[wrap,IntKind.bits,IntKind.signed]at h⊢<;>omega
  ·exact .inr h
 rcases key _ true rfl with h|h
 ·exact h
 ·omega
theorem jI(n x:Nat):BitVec.ofInt n (x:Int)=BitVec.ofNat n x:=by
 apply BitVec.eq_of_toNat_eq;simp
theorem kJ(k:IntKind){m:Nat}(hm:m<=k.bits -(if k.signed then 1 else 0)){a b:Nat}(ha:a<2^m)(hb:b<2^m):zF k a b=(a&&&b:Nat):=by
 have hk:m<=k.bits:=oQ;have ha':a<2^k.bits:=Nat.lt_of_lt_of_le ha (Nat.pow_le_pow_right dQ hk);have hb':b<2^k.bits:=Nat.lt_of_lt_of_le hb (Nat.pow_le_pow_right dQ hk);unfold zF;rw[jI,jI,BitVec.toNat_and,BitVec.toNat_ofNat,BitVec.toNat_ofNat,Nat.mod_eq_of_lt ha',Nat.mod_eq_of_lt hb'];exact aH k hm (Nat.and_lt_two_pow _ hb)
theorem vT(k:IntKind){m:Nat}(hm:m<=k.bits -(if k.signed then 1 else 0)){a b:Nat}(ha:a<2^m)(hb:b<2^m):bOr k a b=(a|||b:Nat):=by
 have hk:m<=k.bits:=oQ;have ha':a<2^k.bits:=Nat.lt_of_lt_of_le ha (Nat.pow_le_pow_right dQ hk);have hb':b<2^k.bits:=Nat.lt_of_lt_of_le hb (Nat.pow_le_pow_right dQ hk);unfold bOr;rw[jI,jI,BitVec.toNat_or,BitVec.toNat_ofNat,BitVec.toNat_ofNat,Nat.mod_eq_of_lt ha',Nat.mod_eq_of_lt hb'];exact aH k hm (Nat.or_lt_two_pow ha hb)
theorem kK(k:IntKind){m:Nat}(hm:m<=k.bits -(if k.signed then 1 else 0)){a b:Nat}(ha:a<2^m)(hb:b<2^m):uS k a b=(a^^^b:Nat):=by
 have hk:m<=k.bits:=oQ;have ha':a<2^k.bits:=Nat.lt_of_lt_of_le ha (Nat.pow_le_pow_right dQ hk);have hb':b<2^k.bits:=Nat.lt_of_lt_of_le hb (Nat.pow_le_pow_right dQ hk);unfold uS;rw[jI,jI,BitVec.toNat_xor,BitVec.toNat_ofNat,BitVec.toNat_ofNat,Nat.mod_eq_of_lt ha',Nat.mod_eq_of_lt hb'];exact aH k hm (Nat.xor_lt_two_pow ha hb)
theorem jT(k:IntKind)(a c:Nat)(hc:c<=k.bits):qY k a c=(a/2^c:Nat):=by
 unfold qY;rw[Int.toNat_natCast,Nat.min_eq_left hc,Int.fdiv_eq_ediv_of_nonneg _ (Int.le_of_lt (Int.pow_pos dQ))];simp
theorem kU(k:IntKind)(a:Int)(c:Nat)(hc:c<=k.bits):xJ k a c=k.wrap (a*2^c):=by
 unfold xJ;rw[Int.toNat_natCast,Nat.min_eq_left hc]
theorem or_u8{a b:Int}(ha:0<=a)(ha':a<256)(hb:0<=b)(hb':b<256):bOr .u8 a b=(a.toNat|||b.toNat:Nat):=by
 obtain⟨x,rfl⟩:=Int.eq_ofNat_of_zero_le ha;obtain⟨y,rfl⟩:=Int.eq_ofNat_of_zero_le hb;rw[vT .u8 (m:=8) dQ oQ oQ];simp
theorem qGk{a b:Int}(ha:0<=a)(ha':a<256)(hb:0<=b)(hb':b<256):uS .u8 a b=(a.toNat^^^b.toNat:Nat):=by
 obtain⟨x,rfl⟩:=Int.eq_ofNat_of_zero_le ha;obtain⟨y,rfl⟩:=Int.eq_ofNat_of_zero_le hb;rw[kK .u8 (m:=8) dQ oQ oQ];simp
theorem shr_u8{a c:Int}(ha:0<=a)(hc:0<=c)(hc':c<=8):qY .u8 a c=(a.toNat/2^c.toNat:Nat):=by
 obtain⟨x,rfl⟩:=Int.eq_ofNat_of_zero_le ha;obtain⟨y,rfl⟩:=Int.eq_ofNat_of_zero_le hc;rw[jT .u8 _ _ (by simp only[IntKind.bits];omega)];simp
theorem qGr{a b:Int}(ha:0<=a)(ha':a<65536)(hb:0<=b)(hb':b<65536):zF .u16 a b=(a.toNat&&&b.toNat:Nat):=by
 obtain⟨x,rfl⟩:=Int.eq_ofNat_of_zero_le ha;obtain⟨y,rfl⟩:=Int.eq_ofNat_of_zero_le hb;rw[kJ .u16 (m:=16) dQ oQ oQ];simp
theorem qFi{a b:Int}(ha:0<=a)(ha':a<65536)(hb:0<=b)(hb':b<65536):bOr .u16 a b=(a.toNat|||b.toNat:Nat):=by
 obtain⟨x,rfl⟩:=Int.eq_ofNat_of_zero_le ha;obtain⟨y,rfl⟩:=Int.eq_ofNat_of_zero_le hb;rw[vT .u16 (m:=16) dQ oQ oQ];simp
theorem qIh{a c:Int}(ha:0<=a)(hc:0<=c)(hc':c<=16):qY .u16 a c=(a.toNat/2^c.toNat:Nat):=by
 obtain⟨x,rfl⟩:=Int.eq_ofNat_of_zero_le ha;obtain⟨y,rfl⟩:=Int.eq_ofNat_of_zero_le hc;rw[jT .u16 _ _ (by simp only[IntKind.bits];omega)];simp
theorem qBm{a c:Int}(hc:0<=c)(hc':c<=16):xJ .u16 a c=wrap .u16 (a*2^c.toNat):=by
 obtain⟨y,rfl⟩:=Int.eq_ofNat_of_zero_le hc;rw[kU .u16 _ _ (by simp only[IntKind.bits];omega)];simp
theorem qAj{a b:Int}(ha:0<=a)(ha':a<4294967296)(hb:0<=b)(hb':b<4294967296):zF .u32 a b=(a.toNat&&&b.toNat:Nat):=by
 obtain⟨x,rfl⟩:=Int.eq_ofNat_of_zero_le ha;obtain⟨y,rfl⟩:=Int.eq_ofNat_of_zero_le hb;rw[kJ .u32 (m:=32) dQ oQ oQ];simp
theorem bS{a b:Int}(ha:0<=a)(ha':a<4294967296)(hb:0<=b)(hb':b<4294967296):bOr .u32 a b=(a.toNat|||b.toNat:Nat):=by
 obtain⟨x,rfl⟩:=Int.eq_ofNat_of_zero_le ha;obtain⟨y,rfl⟩:=Int.eq_ofNat_of_zero_le hb;rw[vT .u32 (m:=32) dQ oQ oQ];simp
theorem sW{a b:Int}(ha:0<=a)(ha':a<4294967296)(hb:0<=b)(hb':b<4294967296):uS .u32 a b=(a.toNat^^^b.toNat:Nat):=by
 obtain⟨x,rfl⟩:=Int.eq_ofNat_of_zero_le ha;obtain⟨y,rfl⟩:=Int.eq_ofNat_of_zero_le hb;rw[kK .u32 (m:=32) dQ oQ oQ];simp
theorem uB{a c:Int}(ha:0<=a)(hc:0<=c)(hc':c<=32):qY .u32 a c=(a.toNat/2^c.toNat:Nat):=by
 obtain⟨x,rfl⟩:=Int.eq_ofNat_of_zero_le ha;obtain⟨y,rfl⟩:=Int.eq_ofNat_of_zero_le hc;rw[jT .u32 _ _ (by simp only[IntKind.bits];omega)];simp
theorem gB{a c:Int}(hc:0<=c)(hc':c<=32):xJ .u32 a c=wrap .u32 (a*2^c.toNat):=by
 obtain⟨y,rfl⟩:=Int.eq_ofNat_of_zero_le hc;rw[kU .u32 _ _ (by simp only[IntKind.bits];omega)];simp
theorem dD{a b:Int}(ha:0<=a)(ha':a<18446744073709551616)(hb:0<=b)(hb':b<18446744073709551616):zF .u64 a b=(a.toNat&&&b.toNat:Nat):=by
 obtain⟨x,rfl⟩:=Int.eq_ofNat_of_zero_le ha;obtain⟨y,rfl⟩:=Int.eq_ofNat_of_zero_le hb;rw[kJ .u64 (m:=64) dQ oQ oQ];simp
theorem dJ{a c:Int}(ha:0<=a)(hc:0<=c)(hc':c<=64):qY .u64 a c=(a.toNat/2^c.toNat:Nat):=by
 obtain⟨x,rfl⟩:=Int.eq_ofNat_of_zero_le ha;obtain⟨y,rfl⟩:=Int.eq_ofNat_of_zero_le hc;rw[jT .u64 _ _ (by simp only[IntKind.bits];omega)];simp
theorem qAi{a b:Int}(ha:0<=a)(ha':a<9223372036854775808)(hb:0<=b)(hb':b<9223372036854775808):zF .i64 a b=(a.toNat&&&b.toNat:Nat):=by
 obtain⟨x,rfl⟩:=Int.eq_ofNat_of_zero_le ha;obtain⟨y,rfl⟩:=Int.eq_ofNat_of_zero_le hb;rw[kJ .i64 (m:=63) dQ oQ oQ];simp
theorem eZ{a b:Int}(ha:0<=a)(ha':a<9223372036854775808)(hb:0<=b)(hb':b<9223372036854775808):bOr .i64 a b=(a.toNat|||b.toNat:Nat):=by
 obtain⟨x,rfl⟩:=Int.eq_ofNat_of_zero_le ha;obtain⟨y,rfl⟩:=Int.eq_ofNat_of_zero_le hb;rw[vT .i64 (m:=63) dQ oQ oQ];simp
theorem qBn{a c:Int}(ha:0<=a)(hc:0<=c)(hc':c<=64):qY .i64 a c=(a.toNat/2^c.toNat:Nat):=by
 obtain⟨x,rfl⟩:=Int.eq_ofNat_of_zero_le ha;obtain⟨y,rfl⟩:=Int.eq_ofNat_of_zero_le hc;rw[jT .i64 _ _ (by simp only[IntKind.bits];omega)];simp
theorem tI{a c:Int}(hc:0<=c)(hc':c<=64):xJ .i64 a c=wrap .i64 (a*2^c.toNat):=by
 obtain⟨y,rfl⟩:=Int.eq_ofNat_of_zero_le hc;rw[kU .i64 _ _ (by simp only[IntKind.bits];omega)];simp
theorem yX{a b j:Nat}(h:a%2^j=0)(hb:b<2^j):a|||b=a+b:=by
 have:=Nat.two_pow_add_eq_or_of_lt hb (a/2^j);rw[Nat.mul_div_cancel' (Nat.dvd_of_mod_eq_zero h)]at this;exact this.symm
theorem lY{a b:Int}(j:Nat)(ha:0<=a)(hj:a%2^j=0)(hb:0<=b)(hbj:b<2^j)(hs:a+b<4294967296):bOr .u32 a b=a+b:=by
 obtain⟨x,rfl⟩:=Int.eq_ofNat_of_zero_le ha;obtain⟨y,rfl⟩:=Int.eq_ofNat_of_zero_le hb;rw[vT .u32 (m:=32) dQ oQ oQ,yX (j:=j)]
 ·simp
 ·have h2:((2:Int)^j)=((2^j:Nat):Int):=by simp
  rw[h2]at hj;omega
 ·have h2:((2:Int)^j)=((2^j:Nat):Int):=by simp
  rw[h2]at hbj;omega
theorem iS{a b:Int}(ha:0<=a)(hj:a%256=0)(hb:0<=b)(hbj:b<256)(hs:a+b<4294967296):bOr .u32 a b=a+b:=
 lY 8 ha (by simpa using hj) hb (by simpa using hbj) hs
theorem sE{a b:Int}(ha:0<=a)(hj:a%65536=0)(hb:0<=b)(hbj:b<65536)(hs:a+b<4294967296):bOr .u32 a b=a+b:=
 lY 16 ha (by simpa using hj) hb (by simpa using hbj) hs
theorem bR{a b:Int}(ha:0<=a)(hj:a%16777216=0)(hb:0<=b)(hbj:b<16777216)(hs:a+b<4294967296):bOr .u32 a b=a+b:=
 lY 24 ha (by simpa using hj) hb (by simpa using hbj) hs
theorem jP(n:Int):wrap .u8 n=n%256:=by simp[wrap,IntKind.bits,IntKind.signed]
theorem uN{n:Int}(h:0<=n)(h':n<256):wrap .u8 n=n:=by rw[jP];omega
theorem qGi(n:Int):wrap .u16 n=n%65536:=by simp[wrap,IntKind.bits,IntKind.signed]
theorem vL{n:Int}(h:0<=n)(h':n<65536):wrap .u16 n=n:=by rw[qGi];omega
theorem pK(n:Int):wrap .u32 n=n%4294967296:=by simp[wrap,IntKind.bits,IntKind.signed]
theorem xV{n:Int}(h:0<=n)(h':n<4294967296):wrap .u32 n=n:=by rw[pK];omega
theorem qGj(n:Int):wrap .u64 n=n%18446744073709551616:=by simp[wrap,IntKind.bits,IntKind.signed]
theorem zE{n:Int}(h:0<=n)(h':n<18446744073709551616):wrap .u64 n=n:=by rw[qGj];omega
theorem qA{n:Int}(h: -9223372036854775808<=n)(h':n<9223372036854775808):wrap .i64 n=n:=by
 simp[wrap,IntKind.bits,IntKind.signed];omega
def gb(xs:bQ)(i:Nat):Nat:=(xs.getD i 0).toNat
theorem yC(xs:bQ)(i:Nat):gb xs i<256:=UInt8.toNat_lt _
theorem bH{xs:bQ}{i:Nat}{x:UInt8}(h:xs[i]? =some x):gb xs i=x.toNat:=by simp[gb,List.getD,h]
theorem kZ{xs:bQ}{i:Nat}(h:i<xs.length):(bv xs)[i]? =some (.int .u8 (gb xs i)):=by
 rw[kM,List.getElem?_eq_getElem h];simp[u8v,gb,List.getD,h]
section
variable{w:wQ}{p:pQ}{vs:List Value}
theorem Has.some(h:Has w p vs){i:Nat}{v:Value}(hv:vs[i]? =some v):∃b o,p=some ⟨b,o,none⟩/\atR (hp w b) (o+i)=some v:=by
 cases p with
 |none=>have:vs=[]:=h;subst this;simp at hv
 |some a=>
  obtain⟨h0,T,arr,h1,h2⟩:=h;obtain⟨b,o,s⟩:=a;simp only at h0 h1 h2;subst h0;exact⟨b,o,rfl,by rw[h1,atR_Row];exact h2 i v hv⟩
theorem qDg{k:IntKind}(h:Has w p vs){i:Nat}{n:Int}(hv:vs[i]? =some (.int k n)){K:Int ->Prop}(hK:K n):qN p fun a=>LdI w (qH a i 1) k K:=by
 obtain⟨b,o,rfl,h2⟩:=h.some hv;rw[PtrC_some,elemAt_one,yZ,h2,RdI_some];exact hK
theorem IdxI{k:IntKind}(h:Has w p vs){i:Int}{l:Nat}(h0:0<=i)(h1:i<l){n:Int}(hv:vs[i.toNat]? =some (.int k n)){K:Int ->Prop}(hK:K n):
  And (0<=i/\i<(l:Int)) (qN p fun a=>LdI w (qH a i.toNat 1) k K):=⟨⟨h0,h1⟩,qDg h hv hK⟩
theorem gV{xs:bQ}(h:Has w p (bv xs)){i:Int}{l:Nat}(hl:l=xs.length)(h0:0<=i)(h1:i<l){K:Int ->Prop}(hK:K (gb xs i.toNat)):
  And (0<=i/\i<(l:Int)) (qN p fun a=>LdI w (qH a i.toNat 1) .u8 K):=IdxI h h0 h1 (kZ oQ) hK
end
theorem qDh{S:List Nat}{w0 w:wQ}{e:Nat}{p:pQ}{l c:Nat}{xs:List Value}{i:Nat}{v:Value}(hf:Fr S w0 w)(ho:Own w (hn w0) e 1 p l c xs)(hi:i<l){K:World ->Prop}
  (hK:∀w',Fr S w0 w' ->Fr (xX p) w w' ->Own w' (hn w0) e 1 p l c (xs.set i v) ->K w'):qN p fun a=>qB w (qH a i 1) v K:=by
 rcases ho with⟨hl,⟨rfl,rfl,rfl⟩|⟨g,arr,rfl,hb,hg,hlc,hsz,hx⟩⟩
 ·omega
 ·rw[PtrC_some,elemAt_one,Nat.zero_add,lK w g i v K hg (by rw[hsz];omega)]
  refine hK _ (hf.upd_new hb) (Fr.upd (by simp[xX])) ⟨by simpa using hl,.inr ⟨g,arr.setIfInBounds i v,rfl,hb,by rw[hp_upd_same,hg,setR_Row],hlc,by simpa using hsz,fun j u hj=> ?_⟩⟩;rw[List.getElem?_set]at hj;rw[Array.getElem?_setIfInBounds]
  split at hj
  ·rename_i e1
   subst e1;have h1:i<xs.length:=oQ;have h2:i<arr.size:=by rw[hsz];omega
   simp[h1]at hj;simp[h2,hj]
  ·rename_i e1
   rw[if_neg e1];exact hx j u hj
theorem iC(xs:bQ)(i:Nat)(y:UInt8):(bv xs).set i (u8v y)=bv (xs.set i y):=by simp[bv,List.map_set]
theorem zS(n:Int):∃y:UInt8,Value.int .u8 (wrap .u8 n)=u8v y:=
 ⟨UInt8.ofNat (wrap .u8 n).toNat,by simp only[u8v,UInt8.toNat_ofNat'];rw[jP];congr 1;omega⟩
theorem Has.slice{w:wQ}{b o:Nat}{vs:List Value}(h:Has w (Option.some ⟨b,o,Option.none⟩) vs)(i n:Nat):Has w (Option.some ⟨b,o+i,Option.none⟩) ((vs.drop i).take n):=by
 obtain⟨_,T,arr,h1,h2⟩:=h;refine⟨rfl,T,arr,h1,fun j v hj=> ?_⟩;have:=h2 (i+j) v (by
  rw[List.getElem?_take]at hj
  split at hj
  ·rw[List.getElem?_drop]at hj;exact hj
  ·cases hj)
 simpa [Nat.add_assoc]using this
theorem uQ{a:Addr}:a.block∈xX (some a):=by simp[xX]
theorem aI{P:Program}{el:TypeId}{z:Value}(h1:P.cellsOf el=1)(h2:zc P el= #[z])(n:Nat):uI P el n=Array.replicate n z:=by
 unfold uI;rw[h1,h2];apply Array.ext
 ·simp
 ·intro i h1 h2;simp[Nat.mod_one]
theorem oA(n:Nat):(Array.replicate n (Value.int .u8 0))=(bv (List.replicate n 0)).toArray:=by
 apply Array.ext';simp[bv,u8v]
theorem dR{n:Int}(h:0<=n)(X:Prop):ShC n X=X:=by unfold ShC;rw[if_neg oQ]
theorem qGn{n:Int}(h:n≠0)(X:Prop):zQ n X=X:=by unfold zQ;rw[if_neg h]
theorem qP{T:Type}{start:(T ->World ->Prop) ->Prop}{round:T ->World ->(T ->World ->Prop) ->Prop}(J:T ->World ->Prop)(m:T ->World ->Nat)(h1:start J)(h2:∀z w,J z w ->round z w fun z' w'=>J z' w'/\m z' w'<m z w):xB start round:=
 ⟨J,m,h1,h2⟩
theorem qJ{T:Type}{J:T ->World ->Prop}{B:(T ->World ->Prop) ->Prop}(I:T ->World ->Prop)(h1:∀z w,I z w ->J z w)(h2:∀J':T ->World ->Prop,(∀z w,I z w ->J' z w) ->B J'):xH J B:=h2 J h1
section
variable{w:wQ}{b i:Nat}{T:TypeId}{arr:vQ}
theorem qC{k:IntKind}{n:Int}{K:Int ->Prop}(h:hp w b=Row T arr)(hv:arr[i]? =some (.int k n))(hK:K n):LdI w ⟨b,i,none⟩ k K:=by
 rw[yZ,h,atR_Row,hv,RdI_some];exact hK
theorem zB{n:Bool}{K:Bool ->Prop}(h:hp w b=Row T arr)(hv:arr[i]? =some (.bool n))(hK:K n):LdB w ⟨b,i,none⟩ K:=by
 rw[uE,h,atR_Row,hv,RdB_some];exact hK
theorem qDd{n:ByteArray}{K:ByteArray ->Prop}(h:hp w b=Row T arr)(hv:arr[i]? =some (.string n))(hK:K n):LdS w ⟨b,i,none⟩ K:=by
 rw[vS,h,atR_Row,hv,RdS_some];exact hK
theorem qK{p:pQ}{l c:Nat}{K:pQ ->Nat ->Nat ->Prop}(h:hp w b=Row T arr)(hv:arr[i]? =some (.slice p l c))(hK:K p l c):qS w ⟨b,i,none⟩ K:=by
 rw[yY,h,atR_Row,hv,RdSl_some];exact hK
theorem zZ{n:pQ}{K:pQ ->Prop}(h:hp w b=Row T arr)(hv:arr[i]? =some (.pointer n))(hK:K n):LdP w ⟨b,i,none⟩ K:=by
 rw[uF,h,atR_Row,hv,RdP_some];exact hK
theorem qT{n:Value}{K:Value ->Prop}(h:hp w b=Row T arr)(hv:arr[i]? =some n)(hK:K n):LdV w ⟨b,i,none⟩ K:=by
 rw[vM,h,atR_Row,hv,RdV_some];exact hK
theorem qD{v:Value}{K:World ->Prop}(h:hp w b=Row T arr)(hi:i<arr.size)(hK:∀w',hp w' b=Row T (arr.setIfInBounds i v) ->Fr [b] w w' ->hn w'=hn w ->K w'):qB w ⟨b,i,none⟩ v K:=by
 rw[lK w b i v K h hi];exact hK _ (by rw[hp_upd_same,h,setR_Row]) (Fr.upd sQ) sQ
theorem qG{cs:vQ}{K:Nat ->World ->Prop}(hK:∀w',hp w' (hn w)=Row T cs ->Fr [] w w' ->hn w'=hn w+1 ->K (hn w) w'):qL w (.cells cs T) K:=by
 rw[xY];exact hK _ (hp_alloc_new _ _ _) (Fr.alloc _ _ _) sQ
theorem qE{K:World ->Prop}(hK:∀w',Fr [] w w' ->hn w'=hn w ->K w'):qO w K:=by
 rw[zV];exact hK _ (Fr.drew _ _) sQ
end
namespace Fr
variable{S:List Nat}{w w' w0:wQ}{b c:Nat}{T:TypeId}{arr:vQ}
theorem row0(hf:Fr [] w w')(h:hp w b=Row T arr):hp w' b=Row T arr:=by rw[hf.hp0 (zM h)];exact h
theorem row(hf:Fr S w w')(h:hp w b=Row T arr)(hb:b∉S):hp w' b=Row T arr:=by rw[hf.keep b (zM h) hb];exact h
theorem row1(hf:Fr [c] w w')(h:hp w b=Row T arr)(hb:b≠c):hp w' b=Row T arr:=hf.row h (by simp[hb])
theorem new1(h:Fr S w0 w)(h':Fr [c] w w')(hc:hn w0<=c):Fr S w0 w':=h.trans' h' fun x hx hlt=>by simp at hx;omega
end Fr
theorem Has.of_row{w:wQ}{b:Nat}{T:TypeId}{arr:vQ}(h:hp w b=Row T arr):Has w (Option.some ⟨b,0,Option.none⟩) arr.toList:=⟨rfl,T,arr,h,fun j v hj=>by simpa using hj⟩
theorem Own.of_row{w:wQ}{b base:Nat}{T:TypeId}{arr:vQ}{size l:Nat}(h:hp w b=Row T arr)(hb:base<=b)(hs:arr.size=l*size):Own w base T size (some ⟨b,0,none⟩) l l arr.toList:=
 ⟨by simpa using hs,.inr ⟨b,arr,rfl,hb,h,Nat.le_refl _,hs,fun j v hj=>by simpa using hj⟩⟩
def wIq(x:Int):Int:=wrap .i64 x
def iQq(x:Int):Value:= .int .i64 x
def aQq(a:Addr)(k:Nat):Addr:=⟨a.block,a.off+k,none⟩
def g4q(a b c d:Int):Value:= .agg #[.int .i64 a,.int .i64 b,.int .i64 c,.int .i64 d]
def l4q(w:wQ)(r:Nat)(K:Int ->Int ->Int ->Int ->Prop):Prop:=LdI w ⟨r,0,none⟩ .i64 fun a=>LdI w ⟨r,0+1,none⟩ .i64 fun b=>LdI w ⟨r,0+2,none⟩ .i64 fun c=>LdI w ⟨r,0+3,none⟩ .i64 fun d=>K a b c d
theorem nEq{xs:vQ}{i j:Nat}{v:Value}{y:Option Value}(h:i≠j)(h2:xs[j]? =y):(xs.setIfInBounds i v)[j]? =y:=(Array.getElem?_setIfInBounds_ne h).trans h2
end Go.V
namespace Go.Proofs
open Go Go.V
open Go.IntKind (wrap)
def wp34(x0:Int)(R:vPq)(w:wQ):Prop:=ShC 24 (ShC 16 (ShC 8 (qL w (.cells #[.int .u8 (wrap .u8 (qY .u32 x0 24)),.int .u8 (wrap .u8 (qY .u32 x0 16)),.int .u8 (wrap .u8 (qY .u32 x0 8)),.int .u8 (wrap .u8 x0)] 5) fun a b=>R (.slice (some ⟨a,0,none⟩) 4 4) b)))
theorem call34{x0:Int}{R:vPq}{w:wQ}(h:wp34 x0 R w):CallT Pg 34 #[.int .u32 x0] w R:=cVq [] Tryz.func34 h
def wp46(x0:pQ)(x0l:Nat)(x0c:Nat)(x1:Int)(R:vPq)(w:wQ):Prop:=qO w fun a=>And (0<=x1/\x1<(x0l:Int)) (qN x0 fun b=>LdI a (qH b x1.toNat 1) .u8 fun c=>ShC 24 (And (0<=wIq (x1+1)/\wIq (x1+1)<(x0l:Int)) (qN x0 fun d=>LdI a (qH d ((wIq (x1+1)).toNat) 1) .u8 fun e=>ShC 16 (And (0<=wIq (x1+2)/\wIq (x1+2)<(x0l:Int)) (qN x0 fun f=>LdI a (qH f ((wIq (x1+2)).toNat) 1) .u8 fun g=>ShC 8 (And (0<=wIq (x1+3)/\wIq (x1+3)<(x0l:Int)) (qN x0 fun h=>LdI a (qH h ((wIq (x1+3)).toNat) 1) .u8 fun i=>R (.int .u32 (bOr .u32 (bOr .u32 (bOr .u32 (xJ .u32 (wrap .u32 c) 24) (xJ .u32 (wrap .u32 e) 16)) (xJ .u32 (wrap .u32 g) 8)) (wrap .u32 i))) a)))))))
theorem call46{x0:pQ}{x0l:Nat}{x0c:Nat}{x1:Int}{R:vPq}{w:wQ}(h:wp46 x0 x0l x0c x1 R w):CallT Pg 46 #[.slice x0 x0l x0c,.int .i64 x1] w R:=cVq [] Tryz.func46 h
def wp47(R:vPq)(w:wQ):Prop:=qL w (.cells #[.int .u8 137,.int .u8 80,.int .u8 78,.int .u8 71,.int .u8 13,.int .u8 10,.int .u8 26,.int .u8 10] 5) fun a b=>R (.slice (some ⟨a,0,none⟩) 8 8) b
theorem call47{R:vPq}{w:wQ}(h:wp47 R w):CallT Pg 47 #[] w R:=cVq [] Tryz.func47 h
def wp63(x0:pQ)(x0l:Nat)(x0c:Nat)(R:vPq)(w:wQ):Prop:=xB (fun(f:(Int×Int×Unit) ->World ->Prop)=>f (4294967295,(0:Int),()) w) (fun a c g=>IfC (decide (a.2.1<(x0l:Int))) (And (0<=a.2.1/\a.2.1<(x0l:Int)) (qN x0 fun h=>LdI c (qH h a.2.1.toNat 1) .u8 fun i=>xB (fun(j:(Int×Int×Unit) ->World ->Prop)=>j (uS .u32 a.1 (wrap .u32 i),(0:Int),()) c) (fun b d e=>IfC (decide (b.2.1<(8:Int))) (IfC ((zF .u32 b.1 1)==1) (ShC 1 (e (uS .u32 (qY .u32 b.1 (1:Int)) 3988292384,wIq (b.2.1+1),()) d)) (ShC 1 (e (qY .u32 b.1 1,wIq (b.2.1+1),()) d))) (g (b.1,wIq (a.2.1+1),()) d)))) (R (.int .u32 (uS .u32 (if IntKind.signed .u32 then -1 else IntKind.max .u32) a.1)) c))
theorem call63{x0:pQ}{x0l:Nat}{x0c:Nat}{R:vPq}{w:wQ}(h:wp63 x0 x0l x0c R w):CallT Pg 63 #[.slice x0 x0l x0c] w R:=cVq [(8,[(3,.i .u32),(8,.i .i64)],[2,6,7]),(24,[(3,.i .u32),(16,.i .i64)],[2,6,7,8])] Tryz.func63 h
def wp48(x0:ByteArray)(x1:pQ)(x1l:Nat)(x1c:Nat)(R:vPq)(w:wQ):Prop:=qDa Pg w 9 33 (.string x0) fun k l m n=>yF Pg n #[33,33] 33 (.slice k l m) (.slice x1 x1l x1c) fun a b c o=>CallT Pg 34 #[.int .u32 (wrap .u32 (x1l:Int))] o fun p q=>∃d e f,And (p= .slice d e f) (yF Pg q #[33,33] 33 (.slice d e f) (.slice a b c) fun r s t u=>CallT Pg 63 #[.slice a b c] u fun v y=>∃g,And (v= .int .u32 g) (CallT Pg 34 #[.int .u32 g] y fun z A=>∃h i j,And (z= .slice h i j) (yF Pg A #[33,33] 33 (.slice r s t) (.slice h i j) fun B C D E=>R (.slice B C D) E)))
theorem call48{x0:ByteArray}{x1:pQ}{x1l:Nat}{x1c:Nat}{R:vPq}{w:wQ}(h:wp48 x0 x1 x1l x1c R w):CallT Pg 48 #[.string x0,.slice x1 x1l x1c] w R:=cVq [] Tryz.func48 h
def wp26(x0:pQ)(x0l:Nat)(x0c:Nat)(R:vPq)(w:wQ):Prop:=qL w (.cells #[] 3) fun e f=>xB (fun(g:(Sl×Int×Unit) ->World ->Prop)=>g ((⟨some ⟨e,0,none⟩,0,0⟩:Sl),(8:Int),()) f) (fun b c h=>IfC (decide ((wIq (b.2.1+12))<=(x0l:Int))) (qL c (.cells #[iQq b.2.1] 3) fun i j=>yF Pg j #[28,28] 28 (.slice b.1.a b.1.len b.1.cap) (.slice (some ⟨i,0,none⟩) 1 1) fun k l m n=>CallT Pg 46 #[.slice x0 x0l x0c,iQq b.2.1] n fun o p=>∃d,And (o= .int .u32 d) (h ((⟨k,l,m⟩:Sl),wIq (b.2.1+(wIq ((12:Int)+(wIq d)))),()) p)) (R (.slice b.1.a b.1.len b.1.cap) c))
theorem call26{x0:pQ}{x0l:Nat}{x0c:Nat}{R:vPq}{w:wQ}(h:wp26 x0 x0l x0c R w):CallT Pg 26 #[.slice x0 x0l x0c] w R:=cVq [(8,[(3,.sl),(4,.i .i64)],[0,2])] Tryz.func26 h
def wp30(x0:pQ)(x0l:Nat)(x0c:Nat)(R:vPq)(w:wQ):Prop:=qL w (.cells #[] 53) fun f g=>xB (fun(h:(Sl×Int×Unit) ->World ->Prop)=>h ((⟨some ⟨f,0,none⟩,0,0⟩:Sl),(8:Int),()) g) (fun b d i=>IfC (decide ((wIq (b.2.1+12))<=(x0l:Int))) (CallT Pg 46 #[.slice x0 x0l x0c,iQq b.2.1] d fun j k=>∃c,And (j= .int .u32 c) (qO k fun e=>And (0<=wIq (b.2.1+8)/\wIq (b.2.1+8)<=(x0c:Int)) (And (0<=wIq (b.2.1+4)/\wIq (b.2.1+4)<=wIq (b.2.1+8)) (And (0<=wIq ((wIq (b.2.1+8))+(wIq c))/\wIq ((wIq (b.2.1+8))+(wIq c))<=(x0c:Int)) (And (0<=wIq (b.2.1+8)/\wIq (b.2.1+8)<=wIq ((wIq (b.2.1+8))+(wIq c))) (B2S Pg e (qQ x0 x0c ((wIq (b.2.1+4)).toNat) 1) (((wIq (b.2.1+8)).toNat) -((wIq (b.2.1+4)).toNat)) (x0c -((wIq (b.2.1+4)).toNat)) fun l=>qL e (.cells #[.string l,.slice (qQ x0 x0c ((wIq (b.2.1+8)).toNat) 1) (((wIq ((wIq (b.2.1+8))+(wIq c))).toNat) -((wIq (b.2.1+8)).toNat)) (x0c -((wIq (b.2.1+8)).toNat))] 53) fun m n=>yF Pg n #[50,50] 50 (.slice b.1.a b.1.len b.1.cap) (.slice (some ⟨m,0,none⟩) 1 1) fun o p q r=>i ((⟨o,p,q⟩:Sl),wIq (b.2.1+(wIq ((12:Int)+(wIq c)))),()) r)))))) (R (.slice b.1.a b.1.len b.1.cap) d))
theorem call30{x0:pQ}{x0l:Nat}{x0c:Nat}{R:vPq}{w:wQ}(h:wp30 x0 x0l x0c R w):CallT Pg 30 #[.slice x0 x0l x0c] w R:=cVq [(8,[(3,.sl),(4,.i .i64)],[0,2])] Tryz.func30 h
section
variable{w:wQ}
def xI(n:Nat):bQ:=[UInt8.ofNat (n/2^24),UInt8.ofNat (n/2^16),UInt8.ofNat (n/2^8),UInt8.ofNat n]
def fV(w:wQ)(xs:bQ)(v:Value)(w':wQ):Prop:=
 Fr [] w w'/\∃p c,v= .slice p xs.length c/\Own w' (hn w) 5 1 p xs.length c (bv xs)
theorem jL(n:Nat):u8v (UInt8.ofNat n)= .int .u8 (n%256:Nat):=by simp[u8v]
theorem c34{n:Nat}(h:n<4294967296):CallT Pg 34 #[.int .u32 n] w (fV w (xI n)):=by
 apply call34;unfold wp34;simp (disch:=omega) only[dR,xY,uB,jP];refine⟨Fr.alloc _ _ _,_,_,rfl,?_⟩;have:=Own.new (w:=w) (base:=hn w) (e:=5) (size:=1) (cs:=(bv (xI n)).toArray) (l:=4) (Nat.le_refl _) rfl
 simpa [xI,jL]using this
def be4(xs:bQ)(i:Nat):Nat:=gb xs i*16777216+gb xs (i+1)*65536+gb xs (i+2)*256+gb xs (i+3)
theorem iB(xs:bQ)(i:Nat):be4 xs i<4294967296:=by
 have:=yC xs i;have:=yC xs (i+1);have:=yC xs (i+2);have:=yC xs (i+3);unfold be4;omega
theorem c46{p:pQ}{l c:Nat}{xs:bQ}{at_ :Int}(hx:Has w p (bv xs))(hl:l=xs.length)(h0:0<=at_)(h1:at_ +4<=l)(h2:at_ <4611686018427387904):
  CallT Pg 46 #[.slice p l c,.int .i64 at_] w fun v w'=>v= .int .u32 (be4 xs at_.toNat)/\w'=w.drew:=by
 apply call46;unfold wp46 wIq;have hx:Has w.drew p (bv xs):=hx.fr0 (Fr.drew _ _);rw[zV];simp (disch:=omega) only[qA,dR];refine gV hx hl oQ oQ ?_;refine gV hx hl oQ oQ ?_;refine gV hx hl oQ oQ ?_;refine gV hx hl oQ oQ ?_;have e1:(at_ +1).toNat=at_.toNat+1:=oQ;have e2:(at_ +2).toNat=at_.toNat+2:=oQ;have e3:(at_ +3).toNat=at_.toNat+3:=oQ;refine⟨?_,sQ⟩;have ha:=yC xs at_.toNat;have hb:=yC xs (at_.toNat+1);have hc:=yC xs (at_.toNat+2);have hd:=yC xs (at_.toNat+3);simp only[e1,e2,e3,be4];generalize gb xs at_.toNat=a,gb xs (at_.toNat+1)=b,gb xs (at_.toNat+2)=c,gb xs (at_.toNat+3)=d at*;simp (disch:=omega) only[xV,gB,Int.reduceToNat,Int.reducePow,bR,sE,iS];simp
theorem c47:CallT Pg 47 #[] w (fV w [137,80,78,71,13,10,26,10]):=by
 apply call47;unfold wp47;rw[xY];exact⟨Fr.alloc _ _ _,_,_,rfl,Own.new (w:=w) (base:=hn w) (e:=5) (size:=1) (l:=8) (Nat.le_refl _) rfl⟩
def vZ(x:Nat):Nat:=if x%2=1 then(x/2)^^^3988292384 else x/2
def jY:Nat ->Nat ->Nat|0,x=>x|n+1,x=>jY n (vZ x)
def vU(xs:bQ):Nat:=(xs.foldl (fun x v=>jY 8 (x^^^v.toNat)) 4294967295)^^^4294967295
theorem eE{x:Nat}(h:x<4294967296):vZ x<4294967296:=by
 unfold vZ
 split
 ·exact Nat.xor_lt_two_pow (n:=32) oQ oQ
 ·omega
theorem iE{n x:Nat}(h:x<4294967296):jY n x<4294967296:=by
 induction n generalizing x with
 |zero=>exact h
 |succ n ih=>exact ih (eE h)
def gW(x:Nat)(xs:bQ):Nat:=xs.foldl (fun x v=>jY 8 (x^^^v.toNat)) x
theorem dE{xs:bQ}{x:Nat}(h:x<4294967296):gW x xs<4294967296:=by
 induction xs generalizing x with
 |nil=>exact h
 |cons v r ih=>exact ih (iE (Nat.xor_lt_two_pow (n:=32) h (by have:=UInt8.toNat_lt v;omega)))
theorem qAq(xs:bQ):vU xs=gW 4294967295 xs^^^4294967295:=rfl
theorem jN(xs:bQ):vU xs<4294967296:=Nat.xor_lt_two_pow (n:=32) (dE dQ) dQ
theorem aZ{x:Nat}{xs:bQ}{i:Nat}(h:i<xs.length):gW x (xs.take (i+1))=jY 8 (gW x (xs.take i)^^^gb xs i):=by
 rw[List.take_succ_eq_append_getElem h];simp only[gW,List.foldl_append,List.foldl_cons,List.foldl_nil];simp[gb,List.getD,h]
theorem qBv(n x:Nat):jY (n+1) x=vZ (jY n x):=by
 induction n generalizing x with
 |zero=>rfl
 |succ n ih=>rw[jY,ih (vZ x)];rfl
theorem c63{p:pQ}{l c:Nat}{xs:bQ}(hx:Has w p (bv xs))(hl:l=xs.length)(hb:l<4611686018427387904):
  CallT Pg 63 #[.slice p l c] w fun v w'=>v= .int .u32 (vU xs)/\w'=w:=by
 apply call63;unfold wp63 wIq;refine qP (fun z w'=>w'=w/\∃i:Nat,i<=l/\z.2.1=i/\z.1=gW 4294967295 (xs.take i)) (fun z _ =>l -z.2.1.toNat) ⟨rfl,0,oQ,rfl,by simp[gW]⟩ ?_;rintro⟨x,k,⟨⟩⟩ w' ⟨rfl,i,hi,rfl,rfl⟩;have hlt:=dE (xs:=xs.take i) (x:=4294967295) dQ;refine qF (fun h=> ?_) (fun h=> ?_)
 ·simp only at h
  have hi':i<xs.length:=oQ;refine gV hx hl oQ h ?_;have hg:=yC xs i;simp (disch:=omega) only[xV,sW,Int.toNat_natCast];refine qP (fun z w''=>w''=w'/\∃n:Nat,n<=8/\z.2.1=n/\z.1=jY n (gW 4294967295 (xs.take i)^^^gb xs i)) (fun z _ =>8 -z.2.1.toNat) ⟨rfl,0,oQ,rfl,rfl⟩ ?_;rintro⟨y,k,⟨⟩⟩ w'' ⟨rfl,n,hn,rfl,rfl⟩;have hy:=iE (n:=n) (x:=gW 4294967295 (xs.take i)^^^gb xs i) (Nat.xor_lt_two_pow (n:=32) hlt oQ);have hs:=qBv n (gW 4294967295 (xs.take i)^^^gb xs i);generalize hY:jY n (gW 4294967295 (xs.take i)^^^gb xs i)=Y at*;refine qF (fun h8=> ?_) (fun h8=> ?_)
  ·simp only at h8
   simp (disch:=omega) only[dR,qAj,uB,qA,Int.toNat_natCast,Int.reduceToNat,Nat.and_one_is_mod,Nat.reducePow,sW];refine qX (fun h1=> ?_) (fun h1=> ?_)
   ·simp only[beq_iff_eq]at h1
    refine⟨⟨by trivial,n+1,oQ,sQ,?_⟩,oQ⟩;rw[hs,vZ,if_pos oQ]
   ·simp only[beq_eq_false_iff_ne]at h1
    refine⟨⟨by trivial,n+1,oQ,sQ,?_⟩,oQ⟩;rw[hs,vZ,if_neg oQ]
  ·simp only at h8
   have h8':n=8:=oQ;subst h8';simp (disch:=omega) only[qA];refine⟨⟨by trivial,i+1,oQ,sQ,?_⟩,oQ⟩;rw[aZ hi',hY]
 ·simp only at h
  have:i=xs.length:=oQ;subst this;rw[List.take_length]at hlt;refine⟨?_,rfl⟩;have e1:(if IntKind.signed .u32 then(-1:Int)else IntKind.max .u32)=4294967295:=dQ;simp (disch:=omega) only[e1,sW,List.take_length,Int.reduceToNat,Int.toNat_natCast,qAq,Nat.xor_comm]
theorem uK(xs:bQ):∀u∈bv xs,u.oneCell'=true:=by
 intro u hu;obtain⟨x,_,rfl⟩:=List.mem_map.1 hu
 rfl
theorem jJ:fY Pg 33 5 1 1=true:=by kernel_rfl
theorem qZ(n:Nat):(xI n).length=4:=rfl
def qV(name data:bQ):bQ:=xI data.length++(name++data)++xI (vU (name++data))
theorem c48{nm:bQ}{p:pQ}{l c:Nat}{xs:bQ}(hx:Has w p (bv xs))(hl:l=xs.length)(hb:l<4294967296)(hs:nm.length<4294967296)(hd:p=none ->c=0):
  CallT Pg 48 #[.string ⟨nm.toArray⟩,.slice p l c] w (fV w (qV nm xs)):=by
 subst hl;apply call48;unfold wp48;refine qDb (S:=[]) (w0:=w) (by kernel_rfl) (e:=5) (by kernel_rfl) (by kernel_rfl) (Fr.refl _ _) ?_;intro p1 c1 w1 hf1 hf1' _ ho1;refine vC jJ hf1 ho1 (hx.fr0 hf1) sQ (uK _) oQ hd ?_;intro p2 c2 w2 hf2 hf2' ho2;rw[xV oQ oQ];refine CallT.mono (c34 hb) ?_;rintro _ w3 ⟨hf3,p3,c3,rfl,ho3⟩;refine⟨_,_,_,rfl,?_⟩;have ho2':=ho2.fr0 hf3;have hf3':=hf2.trans hf3;have hne:∀a,p2=some a ->a.block∉xX p3:=fun a ha hx=>by have:=ho2.at ha;have:=ho3.blk _ hx;omega
 refine vC jJ hf3' (ho3.base_le hf2.size) ho2'.has sQ (by rw[<-bv_append];exact uK _) (by simp only[qZ];omega) (by intro h;subst h;exact ho2'.none_iff.2.1) ?_;intro p4 c4 w4 hf4 hf4' ho4;have ho2'':=ho2'.fr hf4' hne;refine CallT.mono (c63 (xs:=nm++xs) (by rw[bv_append];exact ho2''.has) sQ oQ) ?_;rintro _ _ ⟨rfl,rfl⟩;refine⟨_,rfl,?_⟩;refine CallT.mono (c34 (jN _)) ?_;rintro _ w5 ⟨hf5,p5,c5,rfl,ho5⟩;refine⟨_,_,_,rfl,?_⟩;refine vC jJ (hf4.trans hf5) (ho4.fr0 hf5) ho5.has sQ (uK _) (by simp only[qZ];omega) (by intro h;subst h;exact ho5.none_iff.2.1) ?_;intro p6 c6 w6 hf6 hf6' ho6;have e:(qV nm xs).length=(xI xs.length).length+(nm.length+xs.length)+(xI (vU (nm++xs))).length:=by simp only[qV,List.length_append]
 refine⟨hf6,p6,c6,by rw[e],?_⟩;rw[e]
 simpa only[qV,bv_append,List.append_assoc]using ho6
abbrev Ch:=bQ×bQ
def sigL:bQ:=[137,80,78,71,13,10,26,10]
def chs(l:List Ch):bQ:=l.flatMap fun c=>qV c.1 c.2
def xD(l:List Ch):bQ:=sigL++chs l
def sC(l:List Ch):Prop:=∀c∈l,c.1.length=4/\c.2.length<4294967296
theorem xE{nm data:bQ}(h:nm.length=4):(qV nm data).length=12+data.length:=by
 simp only[qV,List.length_append,qZ,h];omega
def uX:Nat ->List Ch ->List Nat
 |_,[]=>[]
 |at_,c::r=>at_ ::uX (at_ +12+c.2.length) r
theorem vB(xs ys:bQ)(i:Nat):gb (xs++ys) (xs.length+i)=gb ys i:=by
 simp[gb,List.getD,List.getElem?_append_right]
theorem yL{xs ys:bQ}{i:Nat}(h:i<xs.length):gb (xs++ys) i=gb xs i:=by
 simp[gb,List.getD,List.getElem?_append_left h]
theorem lL(xs ys:bQ)(i:Nat):be4 (xs++ys) (xs.length+i)=be4 ys i:=by
 simp only[be4,Nat.add_assoc,vB]
theorem fX{xs ys:bQ}{i:Nat}(h:i+4<=xs.length):be4 (xs++ys) i=be4 xs i:=by
 simp only[be4];rw[yL oQ,yL oQ,yL oQ,yL oQ]
theorem vA{n:Nat}(h:n<4294967296):be4 (xI n) 0=n:=by
 simp[be4,gb,xI];omega
theorem qBs{nm d ys:bQ}(h:d.length<4294967296):be4 (qV nm d++ys) 0=d.length:=by
 unfold qV;rw[List.append_assoc,List.append_assoc,fX (by simp[qZ]),vA h]
theorem uU:chs []=[]:=rfl
theorem xN(c:Ch)(r:List Ch):chs (c::r)=qV c.1 c.2++chs r:=by simp[chs]
theorem zL(a b:List Ch):chs (a++b)=chs a++chs b:=by simp[chs]
theorem yI{l:List Ch}(h:sC l):12*l.length<=(chs l).length:=by
 induction l with
 |nil=>simp[chs]
 |cons c r ih=>
  have:=ih fun x hx=>h x (by simp[hx]);have hc:=xE (data:=c.2) (h c sQ).1;simp only[xN,List.length_append,List.length_cons];omega
theorem iT(l:List Ch)(c:Ch):∀at_,sC l ->uX at_ (l++[c])=uX at_ l++[at_ +(chs l).length]:=by
 induction l with
 |nil=>intro at_ _;simp[uX,chs]
 |cons x r ih=>
  intro at_ h;have hc:=xE (data:=x.2) (h x sQ).1;simp only[List.cons_append,uX,xN,List.length_append];rw[ih _ fun y hy=>h y (by simp[hy])];simp only[hc];have:at_ +(12+x.2.length+(chs r).length)=at_ +12+x.2.length+(chs r).length:=oQ;rw[this]
theorem gP{a b:List Ch}(h:sC (a++b)):sC a:=fun x hx=>h x (by simp[hx])
theorem tC{a b:List Ch}(h:sC (a++b)):sC b:=fun x hx=>h x (by simp[hx])
theorem mS{a:List Ch}{c:Ch}{r:List Ch}:xD (a++c::r)=(sigL++chs a)++(qV c.1 c.2++chs r):=by
 simp[xD,zL,xN]
theorem bD{a:List Ch}{c:Ch}{r:List Ch}(hc:c.2.length<4294967296):be4 (xD (a++c::r)) (8+(chs a).length)=c.2.length:=by
 rw[mS];have h:=lL (sigL++chs a) (qV c.1 c.2++chs r) 0;have e:(sigL++chs a).length+0=8+(chs a).length:=by simp[sigL];omega
 rw[e]at h;rw[h,qBs hc]
def iv(ns:List Nat):List Value:=ns.map fun(n:Nat)=> .int .i64 (n:Int)
theorem ok28:fY Pg 28 3 1 8=true:=by kernel_rfl
def RetR(e size:Nat)(w:wQ)(n:Nat)(vs:List Value)(v:Value)(w':wQ):Prop:=
 Fr [] w w'/\∃p c,v= .slice p n c/\Own w' (hn w) e size p n c vs
theorem c26{p:pQ}{l c:Nat}{cs:List Ch}(hx:Has w p (bv (xD cs)))(hl:l=(xD cs).length)(hb:l<1099511627776)(hok:sC cs):
  CallT Pg 26 #[.slice p l c] w (RetR 3 1 w cs.length (iv (uX 8 cs))):=by
 apply call26;unfold wp26 wIq iQq;rw[xY];refine qP (fun z w'=>Fr [] w w'/\∃a r,cs=a++r/\z.2.1=((8+(chs a).length:Nat):Int)/\z.1.len=a.length/\Own w' (hn w) 3 1 z.1.a z.1.len z.1.cap (iv (uX 8 a)))
  (fun z _ =>l+1 -z.2.1.toNat) ⟨Fr.alloc _ _ _,[],cs,rfl,by simp[chs],rfl,Own.new (w:=w) (e:=3) (size:=1) (cs:= #[]) (l:=0) (Nat.le_refl _) sQ⟩ ?_
 rintro⟨⟨q,n,m⟩,k,⟨⟩⟩ w1 ⟨hf,a,r,rfl,rfl,rfl,ho⟩;simp only at ho;have hlen:l=8+(chs a).length+(chs r).length:=by rw[hl];simp[xD,sigL,zL];omega
 have ha:=yI (gP hok);have hr:=yI (tC hok);refine qF (fun h=> ?_) (fun h=> ?_)
 ·simp only at h
  rw[qA oQ oQ]at h
  cases r with
  |nil=>simp only[uU,List.length_nil]at hlen;omega
  |cons ch r=>
   obtain⟨h4,hd⟩:=hok ch sQ;have hcl:=xE (data:=ch.2) h4;simp only[xN,List.length_append]at hlen;dsimp only;refine gU ok28 hf ho (cs:= #[.int .i64 ((8+(chs a).length:Nat):Int)]) sQ (by simp[Value.oneCell']) oQ ?_;intro q' m' w2 hf2 hf2' ho2;refine CallT.mono (c46 (hx.fr0 hf2) hl oQ oQ oQ) ?_;rintro _ _ ⟨rfl,rfl⟩;rw[Int.toNat_natCast,bD hd];refine⟨_,rfl,?_⟩;simp (disch:=omega) only[qA];refine⟨⟨hf2.drewR,a++[ch],r,sQ,?_,sQ,?_⟩,oQ⟩
   ·simp only[zL,xN,uU,List.length_append,List.append_nil,hcl];omega
   ·have:=ho2.fr0 (Fr.drew [] w2)
    simpa [iT _ _ _ (gP hok),iv]using this
 ·simp only at h
  rw[qA oQ oQ]at h
  cases r with
  |cons ch r=>
   exfalso
   obtain⟨h4,hd⟩:=hok ch sQ;have hcl:=xE (data:=ch.2) h4;simp only[xN,List.length_append]at hlen;omega
  |nil=>exact⟨hf,q,m,sQ,by simpa using ho⟩
def PcHas(Q:Nat ->Prop)(w:wQ):List Value ->List Ch ->Prop
 |[],[]=>True
 | .string s:: .slice p l c::r,ch::cs=>s=⟨ch.1.toArray⟩/\Has w p (bv ch.2)/\l=ch.2.length/\(p=none ->c=0)/\(∀a,p=some a ->Q a.block)/\PcHas Q w r cs
 |_,_ =>False
theorem PcHas.fr{Q:Nat ->Prop}{S:List Nat}{w w':wQ}(hf:Fr S w w')(hS:∀b,Q b ->b∉S):∀{vs:List Value} {cs:List Ch},PcHas Q w vs cs ->PcHas Q w' vs cs
 |[],[],_ =>trivial
 | .string _ :: .slice _ _ _ ::_,_ ::_,⟨h1,h2,h3,h4,h5,h6⟩=>⟨h1,h2.fr hf fun a ha=>hS _ (h5 a ha),h3,h4,h5,PcHas.fr hf hS h6⟩
theorem PcHas.snoc{Q:Nat ->Prop}{w:wQ}{p:pQ}{l c:Nat}{ch:Ch}(h2:Has w p (bv ch.2))(h3:l=ch.2.length)(h4:p=none ->c=0)(h5:∀a,p=some a ->Q a.block):
  ∀{vs:List Value} {cs:List Ch},PcHas Q w vs cs ->PcHas Q w (vs++[.string ⟨ch.1.toArray⟩,.slice p l c]) (cs++[ch])
 |[],[],_ =>⟨rfl,h2,h3,h4,h5,trivial⟩
 | .string _ :: .slice _ _ _ ::_,_ ::_,⟨k1,k2,k3,k4,k5,k6⟩=>⟨k1,k2,k3,k4,k5,PcHas.snoc h2 h3 h4 h5 k6⟩
theorem PcHas.at{Q:Nat ->Prop}{w:wQ}:∀{vs:List Value} {cs:List Ch} {i:Nat} {ch:Ch},PcHas Q w vs cs ->cs[i]? =some ch ->
  ∃p l c,vs[i*2]? =some (.string ⟨ch.1.toArray⟩)/\vs[i*2+1]? =some (.slice p l c)/\Has w p (bv ch.2)/\l=ch.2.length/\(p=none ->c=0)/\(∀a,p=some a ->Q a.block)
 |[],[],_,_,_,h=>by simp at h
 | .string _ :: .slice p l c::_,_ ::_,0,_,⟨k1,k2,k3,k4,k5,_⟩,h=>by
  simp at h;subst h;exact⟨p,l,c,by simp[k1],sQ,k2,k3,k4,k5⟩
 | .string _ :: .slice _ _ _ ::r,_ ::_,i+1,ch,⟨_,_,_,_,_,k6⟩,h=>by
  obtain⟨p,l,c,h1,h2,h3⟩:=PcHas.at (i:=i) k6 (by simpa using h);refine⟨p,l,c,?_,?_,h3⟩
  ·rw[show(i+1)*2=i*2+1+1 by omega];simpa using h1
  ·rw[show(i+1)*2+1=i*2+1+1+1 by omega];simpa using h2
theorem Has.sub{w:wQ}{b o:Nat}{xs ys zs:List Value}(h:Has w (some ⟨b,o,none⟩) (xs++(ys++zs))):Has w (some ⟨b,o+xs.length,none⟩) ys:=by
 obtain⟨_,T,arr,h1,h2⟩:=h;refine⟨rfl,T,arr,h1,fun j v hj=> ?_⟩;have:=h2 (xs.length+j) v (by
  rw[List.getElem?_append_right oQ,List.getElem?_append_left (by have:=(List.getElem?_eq_some_iff.1 hj).1;omega)];rw[show xs.length+j -xs.length=j by omega];exact hj)
 simpa [Nat.add_assoc]using this
theorem ok50:fY Pg 50 53 2 40=true:=by kernel_rfl
theorem Has.at2{w:wQ}{p:pQ}{vs:List Value}(h:Has w p vs){i:Nat}{v1 v2:Value}(h1:vs[i*2]? =some v1)(h2:vs[i*2+1]? =some v2):
  ∃b o,p=some ⟨b,o,none⟩/\atR (hp w b) (o+i*2)=some v1/\atR (hp w b) (o+i*2+1)=some v2:=by
 obtain⟨b,o,rfl,e1⟩:=h.some h1;obtain⟨b',o',e,e2⟩:=h.some h2
 cases e
 exact⟨b,o,rfl,e1,by rw[Nat.add_assoc];exact e2⟩
theorem zc53:zc Pg 53= #[.string ⟨#[]⟩,.slice none 0 0]:=by kernel_rfl
end
def wp38(x0:Int)(R:vPq)(w:wQ):Prop:=IfC (x0==2) (R (iQq 3) w) (IfC (x0==4) (R (iQq 2) w) (IfC (x0==6) (R (iQq 4) w) (R (iQq 1) w)))
theorem call38{x0:Int}{R:vPq}{w:wQ}(h:wp38 x0 R w):CallT Pg 38 #[.int .i64 x0] w R:=cVq [] Tryz.func38 h
def wp49(x0:Bool)(R:vPq)(w:wQ):Prop:=IfC x0 (R (iQq 7) w) (R (iQq 1) w)
theorem call49{x0:Bool}{R:vPq}{w:wQ}(h:wp49 x0 R w):CallT Pg 49 #[.bool x0] w R:=cVq [] Tryz.func49 h
def wp97(x0:Int)(x1:Int)(R:vPq)(w:wQ):Prop:=R (iQq (vJ (wIq (x0 -x1)) (wIq (x1 -x0)))) w
theorem call97{x0:Int}{x1:Int}{R:vPq}{w:wQ}(h:wp97 x0 x1 R w):CallT Pg 97 #[.int .i64 x0,.int .i64 x1] w R:=cVq [] Tryz.func97 h
def wp86(x0:Int)(x1:Int)(x2:Int)(R:vPq)(w:wQ):Prop:=CallT Pg 97 #[iQq (wIq ((wIq (x0+x1)) -x2)),iQq x0] w fun m n=>∃a,And (m=iQq a) (CallT Pg 97 #[iQq (wIq ((wIq (x0+x1)) -x2)),iQq x1] n fun o b=>∃c,And (o=iQq c) (IfC (decide (a<=c)) (CallT Pg 97 #[iQq (wIq ((wIq (x0+x1)) -x2)),iQq x0] b fun p q=>∃d,And (p=iQq d) (CallT Pg 97 #[iQq (wIq ((wIq (x0+x1)) -x2)),iQq x2] q fun r e=>∃f,And (r=iQq f) (IfC (decide (d<=f)) (R (iQq x0) e) (CallT Pg 97 #[iQq (wIq ((wIq (x0+x1)) -x2)),iQq x1] e fun s t=>∃g,And (s=iQq g) (CallT Pg 97 #[iQq (wIq ((wIq (x0+x1)) -x2)),iQq x2] t fun u h=>∃i,And (u=iQq i) (IfC (decide (g<=i)) (R (iQq x1) h) (R (iQq x2) h))))))) (CallT Pg 97 #[iQq (wIq ((wIq (x0+x1)) -x2)),iQq x1] b fun v y=>∃j,And (v=iQq j) (CallT Pg 97 #[iQq (wIq ((wIq (x0+x1)) -x2)),iQq x2] y fun z k=>∃l,And (z=iQq l) (IfC (decide (j<=l)) (R (iQq x1) k) (R (iQq x2) k))))))
theorem call86{x0:Int}{x1:Int}{x2:Int}{R:vPq}{w:wQ}(h:wp86 x0 x1 x2 R w):CallT Pg 86 #[.int .i64 x0,.int .i64 x1,.int .i64 x2] w R:=cVq [] Tryz.func86 h
def wp64(x0:Int)(x1:pQ)(x1l:Nat)(x1c:Nat)(x2:pQ)(x2l:Nat)(x2c:Nat)(x3:Int)(x4:Int)(R:vPq)(w:wQ):Prop:=qO w fun c=>And (0<=x3/\x3<(x2l:Int)) (qN x2 fun h=>LdI c (qH h x3.toNat 1) .u8 fun d=>xH (fun(b:(Int×Int×Unit)) (a:wQ)=>IfC (x0==1) (R (iQq b.1) a) (IfC (x0==2) (R (iQq (wIq d)) a) (IfC (x0==3) (zQ 2 (R (iQq (wIq (Int.tdiv (wIq (b.1+(wIq d))) (2:Int))):Value) a)) (IfC (x0==4) (CallT Pg 86 #[iQq b.1,iQq (wIq d),iQq b.2.1] a fun i j=>∃f,And (i=iQq f) (R (iQq f) j)) (R (iQq 0) a))))) (fun g=>IfC (decide (x3>=x4)) (qO c fun e=>And (0<=wIq (x3 -x4)/\wIq (x3 -x4)<(x1l:Int)) (qN x1 fun k=>LdI e (qH k ((wIq (x3 -x4)).toNat) 1) .u8 fun l=>And (0<=wIq (x3 -x4)/\wIq (x3 -x4)<(x2l:Int)) (qN x2 fun m=>LdI e (qH m ((wIq (x3 -x4)).toNat) 1) .u8 fun n=>g (wIq l,wIq n,()) e))) (g (0,(0:Int),()) c)))
theorem call64{x0:Int}{x1:pQ}{x1l:Nat}{x1c:Nat}{x2:pQ}{x2l:Nat}{x2c:Nat}{x3:Int}{x4:Int}{R:vPq}{w:wQ}(h:wp64 x0 x1 x1l x1c x2 x2l x2c x3 x4 R w):CallT Pg 64 #[.int .i64 x0,.slice x1 x1l x1c,.slice x2 x2l x2c,.int .i64 x3,.int .i64 x4] w R:=cVq [(4,[(11,.i .i64),(13,.i .i64)],[0,12])] Tryz.func64 h
def wp54(x0:Int)(x1:pQ)(x1l:Nat)(x1c:Nat)(x2:pQ)(x2l:Nat)(x2c:Nat)(x3:Int)(R:vPq)(w:wQ):Prop:=qL w (.cells #[] 5) fun e f=>xB (fun(g:(Sl×Int×Unit) ->World ->Prop)=>g ((⟨some ⟨e,0,none⟩,0,0⟩:Sl),(0:Int),()) f) (fun b c h=>IfC (decide (b.2.1<(x1l:Int))) (And (0<=b.2.1/\b.2.1<(x1l:Int)) (qN x1 fun i=>LdI c (qH i b.2.1.toNat 1) .u8 fun j=>CallT Pg 64 #[iQq x0,.slice x1 x1l x1c,.slice x2 x2l x2c,iQq b.2.1,iQq x3] c fun k l=>∃d,And (k=iQq d) (qL l (.cells #[.int .u8 (wrap .u8 (j -(wrap .u8 d)))] 5) fun m n=>yF Pg n #[33,33] 33 (.slice b.1.a b.1.len b.1.cap) (.slice (some ⟨m,0,none⟩) 1 1) fun o p q r=>h ((⟨o,p,q⟩:Sl),wIq (b.2.1+1),()) r))) (R (.slice b.1.a b.1.len b.1.cap) c))
theorem call54{x0:Int}{x1:pQ}{x1l:Nat}{x1c:Nat}{x2:pQ}{x2l:Nat}{x2c:Nat}{x3:Int}{R:vPq}{w:wQ}(h:wp54 x0 x1 x1l x1c x2 x2l x2c x3 R w):CallT Pg 54 #[.int .i64 x0,.slice x1 x1l x1c,.slice x2 x2l x2c,.int .i64 x3] w R:=cVq [(8,[(9,.sl),(15,.i .i64)],[0,1,2,3,8,13,14])] Tryz.func54 h
def wp55(x0_0:Int)(x0_1:Int)(x0_2:Int)(x0_3:Int)(x0_4:Bool)(R:vPq)(w:wQ):Prop:=qL w (.cells #[iQq x0_0,iQq x0_1,iQq x0_2,iQq x0_3,.bool x0_4] 27) fun a f=>qO f fun b=>LdI b ⟨a,0+3,none⟩ .i64 fun g=>LdI b ⟨a,0+2,none⟩ .i64 fun c=>CallT Pg 38 #[iQq g] b fun h d=>∃e,And (h=iQq e) (LdI d ⟨a,0+2,none⟩ .i64 fun i=>And ((iQq i:Value)=iQq c) (zQ 8 (R (iQq (vJ (1:Int) (wIq (Int.tdiv (wIq (e*c)) 8))):Value) d)))
theorem call55{x0_0:Int}{x0_1:Int}{x0_2:Int}{x0_3:Int}{x0_4:Bool}{R:vPq}{w:wQ}(h:wp55 x0_0 x0_1 x0_2 x0_3 x0_4 R w):CallT Pg 55 #[.agg #[.int .i64 x0_0,.int .i64 x0_1,.int .i64 x0_2,.int .i64 x0_3,.bool x0_4]] w R:=cVq [] Tryz.func55 h
def wp52(x0_0:Int)(x0_1:Int)(x0_2:Int)(x0_3:Int)(x0_4:Bool)(x1:Int)(R:vPq)(w:wQ):Prop:=qL w (.cells #[iQq x0_0,iQq x0_1,iQq x0_2,iQq x0_3,.bool x0_4] 27) fun a f=>qO f fun b=>LdI b ⟨a,0+3,none⟩ .i64 fun g=>LdI b ⟨a,0+2,none⟩ .i64 fun c=>CallT Pg 38 #[iQq g] b fun h d=>∃e,And (h=iQq e) (LdI d ⟨a,0+2,none⟩ .i64 fun i=>And ((iQq i:Value)=iQq c) (zQ 8 (R (iQq (wIq (Int.tdiv (wIq ((wIq ((wIq (x1*e))*c))+7)) (8:Int))):Value) d)))
theorem call52{x0_0:Int}{x0_1:Int}{x0_2:Int}{x0_3:Int}{x0_4:Bool}{x1:Int}{R:vPq}{w:wQ}(h:wp52 x0_0 x0_1 x0_2 x0_3 x0_4 x1 R w):CallT Pg 52 #[.agg #[.int .i64 x0_0,.int .i64 x0_1,.int .i64 x0_2,.int .i64 x0_3,.bool x0_4],.int .i64 x1] w R:=cVq [] Tryz.func52 h
def wp51(x0_0:Int)(x0_1:Int)(x0_2:Int)(x0_3:Int)(x1:Int)(x2:Int)(R:vPq)(w:wQ):Prop:=qL w (.cells #[iQq x0_0,iQq x0_1,iQq x0_2,iQq x0_3] 95) fun d f=>LdI f ⟨d,0,none⟩ .i64 fun g=>xB (fun(h:(Int×Int×Unit) ->World ->Prop)=>h (0,g,()) f) (fun a e i=>IfC (decide (a.2.1<x1)) (LdI e ⟨d,0+2,none⟩ .i64 fun j=>i (wIq (a.1+1),wIq (a.2.1+j),()) e) (LdI e ⟨d,0+1,none⟩ .i64 fun k=>xB (fun(l:(Int×Int×Unit) ->World ->Prop)=>l (0,k,()) e) (fun b c m=>IfC (decide (b.2.1<x2)) (LdI c ⟨d,0+3,none⟩ .i64 fun n=>m (wIq (b.1+1),wIq (b.2.1+n),()) c) (IfC (a.1==0) (R (.tuple #[iQq 0,iQq 0]) c) (IfC (b.1==0) (R (.tuple #[iQq 0,iQq 0]) c) (R (.tuple #[iQq a.1,iQq b.1]) c))))))
theorem call51{x0_0:Int}{x0_1:Int}{x0_2:Int}{x0_3:Int}{x1:Int}{x2:Int}{R:vPq}{w:wQ}(h:wp51 x0_0 x0_1 x0_2 x0_3 x1 x2 R w):CallT Pg 51 #[.agg #[.int .i64 x0_0,.int .i64 x0_1,.int .i64 x0_2,.int .i64 x0_3],.int .i64 x1,.int .i64 x2] w R:=cVq [(8,[(8,.i .i64),(10,.i .i64)],[1,2,3,6,7,9]),(23,[(9,.i .i64),(11,.i .i64)],[2,3,6,7,8])] Tryz.func51 h
def wp50(x0:Bool)(x1:Int)(R:vPq)(w:wQ):Prop:=qL w (.cells (zc Pg 95) 95) fun a d=>IfC (!x0) (qB d ⟨a,0,none⟩ (iQq 0) fun g=>qB g ⟨a,0+1,none⟩ (iQq 0) fun h=>qB h ⟨a,0+2,none⟩ (iQq 1) fun i=>qB i ⟨a,0+3,none⟩ (iQq 1) fun e=>l4q e a fun j k l m=>R (g4q j k l m) e) (qL d (.cells #[iQq 0,iQq 0,iQq 8,iQq 8,iQq 4,iQq 0,iQq 8,iQq 8,iQq 0,iQq 4,iQq 4,iQq 8,iQq 2,iQq 0,iQq 4,iQq 4,iQq 0,iQq 2,iQq 2,iQq 4,iQq 1,iQq 0,iQq 2,iQq 2,iQq 0,iQq 1,iQq 1,iQq 2] 95) fun b c=>And (0<=x1/\x1<(7:Int)) (LdI c (qH ⟨b,0,none⟩ x1.toNat 4) .i64 fun n=>LdI c ⟨(qH ⟨b,0,none⟩ x1.toNat 4).block,(qH ⟨b,0,none⟩ x1.toNat 4).off+1,none⟩ .i64 fun o=>LdI c ⟨(qH ⟨b,0,none⟩ x1.toNat 4).block,(qH ⟨b,0,none⟩ x1.toNat 4).off+2,none⟩ .i64 fun p=>LdI c ⟨(qH ⟨b,0,none⟩ x1.toNat 4).block,(qH ⟨b,0,none⟩ x1.toNat 4).off+3,none⟩ .i64 fun q=>qB c ⟨a,0,none⟩ (iQq n) fun r=>qB r ⟨a,0+1,none⟩ (iQq o) fun s=>qB s ⟨a,0+2,none⟩ (iQq p) fun t=>qB t ⟨a,0+3,none⟩ (iQq q) fun f=>l4q f a fun u v y z=>R (g4q u v y z) f))
theorem call50{x0:Bool}{x1:Int}{R:vPq}{w:wQ}(h:wp50 x0 x1 R w):CallT Pg 50 #[.bool x0,.int .i64 x1] w R:=cVq [] Tryz.func50 h
def wp53(x0:pQ)(x0l:Nat)(x0c:Nat)(x1:Int)(R:vPq)(w:wQ):Prop:=qL w (.cells #[] 5) fun i j=>xB (fun(k:(Sl×Int×Unit) ->World ->Prop)=>k ((⟨some ⟨i,0,none⟩,0,0⟩:Sl),(0:Int),()) j) (fun b d f=>IfC (decide (b.2.1<(x0l:Int))) (And (0<=b.2.1/\b.2.1<(x0l:Int)) (qN x0 fun l=>LdI d (qH l b.2.1.toNat 1) .i64 fun e=>IfC (x1==8) (qL d (.cells #[.int .u8 (wrap .u8 e)] 5) fun m n=>yF Pg n #[33,33] 33 (.slice b.1.a b.1.len b.1.cap) (.slice (some ⟨m,0,none⟩) 1 1) fun o p q r=>f ((⟨o,p,q⟩:Sl),wIq (b.2.1+1),()) r) (IfC (x1==16) (ShC 8 (qL d (.cells #[.int .u8 (wrap .u8 (qY .i64 e 8)),.int .u8 (wrap .u8 e)] 5) fun s t=>yF Pg t #[33,33] 33 (.slice b.1.a b.1.len b.1.cap) (.slice (some ⟨s,0,none⟩) 2 2) fun u v y z=>f ((⟨u,v,y⟩:Sl),wIq (b.2.1+1),()) z)) (xH (fun(c:(Sl×Unit)) (A:wQ)=>qO A fun g=>zQ 8 (And (0<=wIq (Int.tdiv (wIq (b.2.1*x1)) 8)/\wIq (Int.tdiv (wIq (b.2.1*x1)) 8)<(c.1.len:Int)) (qN c.1.a fun B=>LdI g (qH B ((wIq (Int.tdiv (wIq (b.2.1*x1)) 8)).toNat) 1) .u8 fun C=>zQ 8 (ShC (wIq ((wIq ((8:Int) -x1)) -(Int.tmod (wIq (b.2.1*x1)) 8))) (And (0<=wIq (Int.tdiv (wIq (b.2.1*x1)) 8)/\wIq (Int.tdiv (wIq (b.2.1*x1)) 8)<(c.1.len:Int)) (qN c.1.a fun D=>qB g (qH D ((wIq (Int.tdiv (wIq (b.2.1*x1)) 8)).toNat) 1) (.int .u8 (bOr .u8 C (wrap .u8 (xJ .i64 e (wIq ((wIq ((8:Int) -x1)) -(Int.tmod (wIq (b.2.1*x1)) 8))))))) fun E=>f ((⟨c.1.a,c.1.len,c.1.cap⟩:Sl),wIq (b.2.1+1),()) E)))))) (fun h=>zQ 8 (IfC ((Int.tmod (wIq (b.2.1*x1)) 8)==0) (qL d (.cells #[.int .u8 0] 5) fun F G=>yF Pg G #[33,33] 33 (.slice b.1.a b.1.len b.1.cap) (.slice (some ⟨F,0,none⟩) 1 1) fun H I J K=>h ((⟨H,I,J⟩:Sl),()) K) (h ((⟨b.1.a,b.1.len,b.1.cap⟩:Sl),()) d))))))) (R (.slice b.1.a b.1.len b.1.cap) d))
theorem call53{x0:pQ}{x0l:Nat}{x0c:Nat}{x1:Int}{R:vPq}{w:wQ}(h:wp53 x0 x0l x0c x1 R w):CallT Pg 53 #[.slice x0 x0l x0c,.int .i64 x1] w R:=cVq [(8,[(5,.sl),(12,.i .i64)],[1,4,10,11]),(32,[(5,.sl)],[1,7,8,10,11,12])] Tryz.func53 h
section
variable{w:wQ}
theorem c38{x:Int}:CallT Pg 38 #[.int .i64 x] w fun v w'=>v= .int .i64 (if x=2 then 3 else if x=4 then 2 else if x=6 then 4 else 1)/\w'=w:=by
 apply call38;unfold wp38 iQq;refine qX (fun h=> ?_) (fun h=>qX (fun h'=> ?_) (fun h'=>qX (fun h''=> ?_) (fun h''=> ?_)))<;>simp_all
theorem c49{x:Bool}:CallT Pg 49 #[.bool x] w fun v w'=>v= .int .i64 (if x then 7 else 1)/\w'=w:=by
 apply call49;unfold wp49 iQq;refine qX (fun h=> ?_) (fun h=> ?_)<;>simp_all
theorem c97{x y:Int}:CallT Pg 97 #[.int .i64 x,.int .i64 y] w fun v w'=>(∃n,v= .int .i64 n)/\w'=w:=by
 apply call97;exact⟨⟨_,rfl⟩,rfl⟩
theorem c86{x y z:Int}:CallT Pg 86 #[.int .i64 x,.int .i64 y,.int .i64 z] w fun v w'=>(∃n,v= .int .i64 n)/\w'=w:=by
 apply call86;unfold wp86 wIq iQq;refine CallT.mono c97 ?_;rintro _ _ ⟨⟨n,rfl⟩,rfl⟩;refine⟨_,rfl,CallT.mono c97 ?_⟩;rintro _ _ ⟨⟨n,rfl⟩,rfl⟩;refine⟨_,rfl,qF (fun _ => ?_) (fun _ => ?_)⟩
 ·refine CallT.mono c97 ?_
  rintro _ _ ⟨⟨n,rfl⟩,rfl⟩;refine⟨_,rfl,CallT.mono c97 ?_⟩;rintro _ _ ⟨⟨n,rfl⟩,rfl⟩;refine⟨_,rfl,qF (fun _ =>⟨⟨_,rfl⟩,rfl⟩) (fun _ => ?_)⟩;refine CallT.mono c97 ?_;rintro _ _ ⟨⟨n,rfl⟩,rfl⟩;refine⟨_,rfl,CallT.mono c97 ?_⟩;rintro _ _ ⟨⟨n,rfl⟩,rfl⟩;exact⟨_,rfl,qF (fun _ =>⟨⟨_,rfl⟩,rfl⟩) (fun _ =>⟨⟨_,rfl⟩,rfl⟩)⟩
 ·refine CallT.mono c97 ?_
  rintro _ _ ⟨⟨n,rfl⟩,rfl⟩;refine⟨_,rfl,CallT.mono c97 ?_⟩;rintro _ _ ⟨⟨n,rfl⟩,rfl⟩;exact⟨_,rfl,qF (fun _ =>⟨⟨_,rfl⟩,rfl⟩) (fun _ =>⟨⟨_,rfl⟩,rfl⟩)⟩
theorem c64{k at_ st:Int}{p q:pQ}{l c l' c':Nat}{xs ys:bQ}(hx:Has w p (bv xs))(hl:l=xs.length)(hy:Has w q (bv ys))(hl':l'=ys.length)(h0:0<=at_)(h1:at_ <l)(h2:at_ <l')(hb:at_ <1099511627776)(hs:1<=st)(hsb:st<1099511627776):
  CallT Pg 64 #[.int .i64 k,.slice p l c,.slice q l' c',.int .i64 at_,.int .i64 st] w fun v w'=>(∃n,v= .int .i64 n)/\Fr [] w w':=by
 apply call64;unfold wp64 wIq iQq;have hf1:=Fr.drew [] w;rw[zV];refine gV (hy.fr0 hf1) hl' h0 h2 ?_;refine qJ (fun _ w'=>Fr [] w w') ?_ ?_
 ·intro z w2 hf
  refine qX (fun _ =>⟨⟨_,rfl⟩,hf⟩) (fun _ =>qX (fun _ =>⟨⟨_,rfl⟩,hf⟩) (fun _ =>qX (fun _ =>xK dQ ⟨⟨_,rfl⟩,hf⟩) (fun _ =>qX (fun _ => ?_) (fun _ =>⟨⟨_,rfl⟩,hf⟩))));refine CallT.mono c86 ?_;rintro _ _ ⟨⟨n,rfl⟩,rfl⟩;exact⟨_,rfl,⟨_,rfl⟩,hf⟩
 ·intro J hJ
  refine qF (fun h=> ?_) (fun h=>hJ _ _ hf1);have hf2:=hf1.drewR;rw[zV,qA oQ oQ];refine gV (hx.fr0 hf2) hl oQ oQ ?_;refine gV (hy.fr0 hf2) hl' oQ oQ ?_;exact hJ _ _ hf2
theorem c54{k st:Int}{p q:pQ}{l c l' c':Nat}{xs ys:bQ}(hx:Has w p (bv xs))(hl:l=xs.length)(hy:Has w q (bv ys))(hl':l'=ys.length)(hll:l=l')(hb:l<1099511627776)(hs:1<=st)(hsb:st<1099511627776):
  CallT Pg 54 #[.int .i64 k,.slice p l c,.slice q l' c',.int .i64 st] w fun v w'=>∃zs,zs.length=l/\fV w zs v w':=by
 apply call54;unfold wp54 wIq iQq;rw[xY];refine qP (fun z w'=>Fr [] w w'/\∃zs:bQ,z.2.1=(zs.length:Int)/\zs.length<=l/\z.1.len=zs.length/\Own w' (hn w) 5 1 z.1.a z.1.len z.1.cap (bv zs)) (fun z _ =>l -z.2.1.toNat)
  ⟨Fr.alloc _ _ _,[],rfl,sQ,rfl,Own.new (w:=w) (e:=5) (size:=1) (cs:= #[]) (l:=0) (Nat.le_refl _) sQ⟩ ?_
 rintro⟨⟨a,n,m⟩,i,⟨⟩⟩ w2 ⟨hf,zs,rfl,hle,rfl,ho⟩;dsimp only at*;refine qF (fun h=> ?_) (fun h=> ?_)
 ·refine gV (hx.fr0 hf) hl oQ h ?_
  refine CallT.mono (c64 (hx.fr0 hf) hl (hy.fr0 hf) hl' oQ h oQ oQ hs hsb) ?_;rintro _ w3 ⟨⟨n,rfl⟩,hf3⟩;refine⟨_,rfl,?_⟩;generalize hv:wrap .u8 (↑(gb xs (zs.length:Int).toNat) -wrap .u8 n)=v;have hv0:∃y:UInt8,Value.int .u8 v=u8v y:=⟨UInt8.ofNat v.toNat,by rw[jL];rw[jP]at hv;congr 1;omega⟩;obtain⟨y,hy'⟩:=hv0;rw[hy'];refine gU jJ (hf.trans hf3) (ho.fr0 hf3) (cs:= #[u8v y]) (m:=1) rfl (by simp[u8v,Value.oneCell']) oQ ?_;intro p' c' w4 hf4 _ ho4;rw[qA oQ oQ];exact⟨⟨hf4,zs++[y],sQ,by simp;omega,sQ,by simpa using ho4⟩,oQ⟩
 ·exact⟨zs,oQ,hf,a,m,rfl,ho⟩
def chN(c:Nat):Nat:=if c=2 then 3 else if c=4 then 2 else if c=6 then 4 else 1
theorem tV(c:Nat):1<=chN c/\chN c<=4:=by unfold chN;split<;>(try split)<;>(try split)<;>omega
theorem c38n{c:Nat}:CallT Pg 38 #[.int .i64 c] w fun v w'=>v= .int .i64 (chN c)/\w'=w:=by
 refine CallT.mono c38 ?_;rintro _ _ ⟨rfl,rfl⟩;refine⟨?_,rfl⟩
 congr 1
 unfold chN
 repeat' split
 all_goals first|rfl|omega
def shp(W H D C:Nat)(L:Bool):Value:= .agg #[.int .i64 W,.int .i64 H,.int .i64 D,.int .i64 C,.bool L]
def rowB(C D n:Nat):Nat:=(n*chN C*D+7)/8
def pD(C D:Nat):Nat:=max 1 (chN C*D/8)
theorem c55{W H D C:Nat}{L:Bool}(hD:D<=16):CallT Pg 55 #[shp W H D C L] w fun v w'=>v= .int .i64 (pD C D)/\Fr [] w w':=by
 apply call55;unfold wp55 wIq iQq;have hc:=tV C;simp only[xY,zV,hp_alloc_new,hp_upd_same,hp_drew,hn_alloc,hn_upd,hn_drew,setR_Row,StO_Row,atR_Row,yZ,uE,vS,yY,uF,vM,RdI_some,RdB_some,RdS_some,RdSl_some,RdP_some,RdV_some,PtrC_some,IfC_true,IfC_false,OneC_true,elemAt_one,xW,Nat.zero_add,Nat.add_zero,Nat.reduceAdd,List.getElem?_toArray,List.getElem?_cons_zero,List.getElem?_cons_succ,List.setIfInBounds_toArray,List.set_cons_zero,List.set_cons_succ,List.size_toArray,List.length_cons,List.length_nil,Nat.reduceLT,true_and];refine CallT.mono c38n ?_;rintro _ _ ⟨rfl,rfl⟩;refine⟨_,rfl,?_⟩;simp only[xY,zV,hp_alloc_new,hp_upd_same,hp_drew,hn_alloc,hn_upd,hn_drew,setR_Row,StO_Row,atR_Row,yZ,uE,vS,yY,uF,vM,RdI_some,RdB_some,RdS_some,RdSl_some,RdP_some,RdV_some,PtrC_some,IfC_true,IfC_false,OneC_true,elemAt_one,xW,Nat.zero_add,Nat.add_zero,Nat.reduceAdd,List.getElem?_toArray,List.getElem?_cons_zero,List.getElem?_cons_succ,List.setIfInBounds_toArray,List.set_cons_zero,List.set_cons_succ,List.size_toArray,List.length_cons,List.length_nil,Nat.reduceLT,true_and];refine xK dQ ?_;have h1:chN C*D<=4*16:=Nat.mul_le_mul hc.2 hD;have e1:((chN C:Int)*(D:Int))=((chN C*D:Nat):Int):=by simp
 have e2:Int.tdiv ((chN C*D:Nat):Int) 8=((chN C*D/8:Nat):Int):=by
  rw[Int.tdiv_eq_ediv_of_nonneg oQ];simp
 simp (disch:=omega) only[e1,e2,qA];refine⟨?_,(Fr.alloc _ _ _).drewR⟩
 congr 1
 unfold vJ pD
 split<;>omega
theorem c52{W H D C n:Nat}{L:Bool}(hD:D<=16)(hn:n<=65536):CallT Pg 52 #[shp W H D C L,.int .i64 n] w fun v w'=>v= .int .i64 (rowB C D n)/\Fr [] w w':=by
 apply call52;unfold wp52 wIq iQq;have hc:=tV C;simp only[xY,zV,hp_alloc_new,hp_upd_same,hp_drew,hn_alloc,hn_upd,hn_drew,setR_Row,StO_Row,atR_Row,yZ,uE,vS,yY,uF,vM,RdI_some,RdB_some,RdS_some,RdSl_some,RdP_some,RdV_some,PtrC_some,IfC_true,IfC_false,OneC_true,elemAt_one,xW,Nat.zero_add,Nat.add_zero,Nat.reduceAdd,List.getElem?_toArray,List.getElem?_cons_zero,List.getElem?_cons_succ,List.setIfInBounds_toArray,List.set_cons_zero,List.set_cons_succ,List.size_toArray,List.length_cons,List.length_nil,Nat.reduceLT,true_and];refine CallT.mono c38n ?_;rintro _ _ ⟨rfl,rfl⟩;refine⟨_,rfl,?_⟩;simp only[xY,zV,hp_alloc_new,hp_upd_same,hp_drew,hn_alloc,hn_upd,hn_drew,setR_Row,StO_Row,atR_Row,yZ,uE,vS,yY,uF,vM,RdI_some,RdB_some,RdS_some,RdSl_some,RdP_some,RdV_some,PtrC_some,IfC_true,IfC_false,OneC_true,elemAt_one,xW,Nat.zero_add,Nat.add_zero,Nat.reduceAdd,List.getElem?_toArray,List.getElem?_cons_zero,List.getElem?_cons_succ,List.setIfInBounds_toArray,List.set_cons_zero,List.set_cons_succ,List.size_toArray,List.length_cons,List.length_nil,Nat.reduceLT,true_and];refine xK dQ ?_;have h1:n*chN C<=65536*4:=Nat.mul_le_mul hn hc.2;have h2:n*chN C*D<=65536*4*16:=Nat.mul_le_mul h1 hD;have e1:((n:Int)*(chN C:Int))=((n*chN C:Nat):Int):=by simp
 have e2:(((n*chN C:Nat):Int)*(D:Int))=((n*chN C*D:Nat):Int):=by simp
 have e3:Int.tdiv (((n*chN C*D:Nat):Int)+7) 8=((rowB C D n:Nat):Int):=by
  rw[Int.tdiv_eq_ediv_of_nonneg oQ];unfold rowB;omega
 have h3:rowB C D n<=4194304:=by unfold rowB;omega
 simp (disch:=omega) only[e1,e2,e3,qA];exact⟨by trivial,(Fr.alloc _ _ _).drewR⟩
def vH(X D W:Nat):Nat:=(W -X+D -1)/D
theorem c51{X Y DX DY W H:Nat}(hDX:DX=1\/DX=2\/DX=4\/DX=8)(hDY:DY=1\/DY=2\/DY=4\/DY=8)(hX:X<=8)(hY:Y<=8)(hW:W<=65536)(hH:H<=65536):
  CallT Pg 51 #[.agg #[.int .i64 X,.int .i64 Y,.int .i64 DX,.int .i64 DY],.int .i64 W,.int .i64 H] w fun v w'=>
   v=(if vH X DX W=0\/vH Y DY H=0 then .tuple #[.int .i64 0,.int .i64 0]else .tuple #[.int .i64 (vH X DX W),.int .i64 (vH Y DY H)])/\Fr [] w w':=by
 apply call51;unfold wp51 wIq iQq;simp only[xY,zV,hp_alloc_new,hp_upd_same,hp_drew,hn_alloc,hn_upd,hn_drew,setR_Row,StO_Row,atR_Row,yZ,uE,vS,yY,uF,vM,RdI_some,RdB_some,RdS_some,RdSl_some,RdP_some,RdV_some,PtrC_some,IfC_true,IfC_false,OneC_true,elemAt_one,xW,Nat.zero_add,Nat.add_zero,Nat.reduceAdd,List.getElem?_toArray,List.getElem?_cons_zero,List.getElem?_cons_succ,List.setIfInBounds_toArray,List.set_cons_zero,List.set_cons_succ,List.size_toArray,List.length_cons,List.length_nil,Nat.reduceLT,true_and];have hf:=Fr.alloc [] w (.cells #[.int .i64 X,.int .i64 Y,.int .i64 DX,.int .i64 DY] 95);have hg:hp (w.alloc (.cells #[.int .i64 X,.int .i64 Y,.int .i64 DX,.int .i64 DY] 95)) (hn w)=Row 95 #[.int .i64 X,.int .i64 Y,.int .i64 DX,.int .i64 DY]:=hp_alloc_new _ _ _;generalize w.alloc (.cells #[.int .i64 X,.int .i64 Y,.int .i64 DX,.int .i64 DY] 95)=w1 at*;refine qP (fun z w'=>w'=w1/\∃i:Nat,z.1=i/\z.2.1=((X+i*DX:Nat):Int)/\(i=0\/X+i*DX<W+DX)) (fun z _ =>W+16 -z.2.1.toNat) ⟨rfl,0,rfl,sQ,.inl rfl⟩ ?_;rintro⟨i',x',⟨⟩⟩ w1 ⟨rfl,i,rfl,rfl,hi⟩;dsimp only at*;refine qF (fun h=> ?_) (fun h=> ?_)
 ·simp only[xY,zV,hp_alloc_new,hp_upd_same,hp_drew,hn_alloc,hn_upd,hn_drew,setR_Row,StO_Row,atR_Row,yZ,uE,vS,yY,uF,vM,RdI_some,RdB_some,RdS_some,RdSl_some,RdP_some,RdV_some,PtrC_some,IfC_true,IfC_false,OneC_true,elemAt_one,xW,Nat.zero_add,Nat.add_zero,Nat.reduceAdd,List.getElem?_toArray,List.getElem?_cons_zero,List.getElem?_cons_succ,List.setIfInBounds_toArray,List.set_cons_zero,List.set_cons_succ,List.size_toArray,List.length_cons,List.length_nil,Nat.reduceLT,true_and,hg]
  have hi':(i:Int)<=65536:=by rcases hDX with rfl|rfl|rfl|rfl<;>omega
  have e:(X+(i+1)*DX:Nat)=X+i*DX+DX:=by rw[Nat.add_mul];omega
  rw[qA oQ oQ,qA oQ oQ];refine⟨⟨i+1,sQ,by rw[e];simp,.inr (by rw[e];omega)⟩,oQ⟩
 ·have hi2:i=vH X DX W:=by unfold vH;rcases hDX with rfl|rfl|rfl|rfl<;>omega
  subst hi2;simp only[xY,zV,hp_alloc_new,hp_upd_same,hp_drew,hn_alloc,hn_upd,hn_drew,setR_Row,StO_Row,atR_Row,yZ,uE,vS,yY,uF,vM,RdI_some,RdB_some,RdS_some,RdSl_some,RdP_some,RdV_some,PtrC_some,IfC_true,IfC_false,OneC_true,elemAt_one,xW,Nat.zero_add,Nat.add_zero,Nat.reduceAdd,List.getElem?_toArray,List.getElem?_cons_zero,List.getElem?_cons_succ,List.setIfInBounds_toArray,List.set_cons_zero,List.set_cons_succ,List.size_toArray,List.length_cons,List.length_nil,Nat.reduceLT,true_and,hg];refine qP (fun z w'=>w'=w1/\∃i:Nat,z.1=i/\z.2.1=((Y+i*DY:Nat):Int)/\(i=0\/Y+i*DY<H+DY)) (fun z _ =>H+16 -z.2.1.toNat) ⟨rfl,0,rfl,sQ,.inl rfl⟩ ?_;rintro⟨i',x',⟨⟩⟩ w1 ⟨rfl,i,rfl,rfl,hi⟩;dsimp only at*;refine qF (fun h=> ?_) (fun h=> ?_)
  ·simp only[xY,zV,hp_alloc_new,hp_upd_same,hp_drew,hn_alloc,hn_upd,hn_drew,setR_Row,StO_Row,atR_Row,yZ,uE,vS,yY,uF,vM,RdI_some,RdB_some,RdS_some,RdSl_some,RdP_some,RdV_some,PtrC_some,IfC_true,IfC_false,OneC_true,elemAt_one,xW,Nat.zero_add,Nat.add_zero,Nat.reduceAdd,List.getElem?_toArray,List.getElem?_cons_zero,List.getElem?_cons_succ,List.setIfInBounds_toArray,List.set_cons_zero,List.set_cons_succ,List.size_toArray,List.length_cons,List.length_nil,Nat.reduceLT,true_and,hg]
   have hi':(i:Int)<=65536:=by rcases hDY with rfl|rfl|rfl|rfl<;>omega
   have e:(Y+(i+1)*DY:Nat)=Y+i*DY+DY:=by rw[Nat.add_mul];omega
   rw[qA oQ oQ,qA oQ oQ];refine⟨⟨i+1,sQ,by rw[e];simp,.inr (by rw[e];omega)⟩,oQ⟩
  ·have hi2:i=vH Y DY H:=by unfold vH;rcases hDY with rfl|rfl|rfl|rfl<;>omega
   subst hi2;refine qX (fun h1=> ?_) (fun h1=>qX (fun h2=> ?_) (fun h2=> ?_))
   ·exact⟨by rw[if_pos (.inl (by simpa using h1))],hf⟩
   ·exact⟨by rw[if_pos (.inr (by simpa using h2))],hf⟩
   ·exact⟨by rw[if_neg (by simp at h1 h2;omega)],hf⟩
def zN(L:Bool)(p:Nat):Nat×Nat×Nat×Nat:=
 if L then [(0,0,8,8),(4,0,8,8),(0,4,4,8),(2,0,4,4),(0,2,2,4),(1,0,2,2),(0,1,1,2)].getD p (0,0,1,1)else(0,0,1,1)
def partV(x:Nat×Nat×Nat×Nat):Value:= .agg #[.int .i64 x.1,.int .i64 x.2.1,.int .i64 x.2.2.1,.int .i64 x.2.2.2]
theorem zc95:zc Pg 95= #[.int .i64 0,.int .i64 0,.int .i64 0,.int .i64 0]:=by kernel_rfl
theorem c50{L:Bool}{p:Nat}(hp7:p<7):CallT Pg 50 #[.bool L,.int .i64 p] w fun v w'=>v=partV (zN L p)/\Fr [] w w':=by
 apply call50;unfold wp50 l4q g4q iQq;rw[zc95]
 cases L with
 |false=>
  simp only[xY,zV,hp_alloc_new,hp_upd_same,hp_drew,hn_alloc,hn_upd,hn_drew,setR_Row,StO_Row,atR_Row,yZ,uE,vS,yY,uF,vM,RdI_some,RdB_some,RdS_some,RdSl_some,RdP_some,RdV_some,PtrC_some,IfC_true,IfC_false,OneC_true,elemAt_one,xW,Nat.zero_add,Nat.add_zero,Nat.reduceAdd,List.getElem?_toArray,List.getElem?_cons_zero,List.getElem?_cons_succ,List.setIfInBounds_toArray,List.set_cons_zero,List.set_cons_succ,List.size_toArray,List.length_cons,List.length_nil,Nat.reduceLT,true_and,Bool.not_false]
  iterate 4 (refine sK ?_;simp only[xY,zV,hp_alloc_new,hp_upd_same,hp_drew,hn_alloc,hn_upd,hn_drew,setR_Row,StO_Row,atR_Row,yZ,uE,vS,yY,uF,vM,RdI_some,RdB_some,RdS_some,RdSl_some,RdP_some,RdV_some,PtrC_some,IfC_true,IfC_false,OneC_true,elemAt_one,xW,Nat.zero_add,Nat.add_zero,Nat.reduceAdd,List.getElem?_toArray,List.getElem?_cons_zero,List.getElem?_cons_succ,List.setIfInBounds_toArray,List.set_cons_zero,List.set_cons_succ,List.size_toArray,List.length_cons,List.length_nil,Nat.reduceLT,true_and])
  exact⟨rfl,((((Fr.alloc [] w _).upd_new (Nat.le_refl _)).upd_new (Nat.le_refl _)).upd_new (Nat.le_refl _)).upd_new (Nat.le_refl _)⟩
 |true=>
  simp only[xY,zV,hp_alloc_new,hp_upd_same,hp_drew,hn_alloc,hn_upd,hn_drew,setR_Row,StO_Row,atR_Row,yZ,uE,vS,yY,uF,vM,RdI_some,RdB_some,RdS_some,RdSl_some,RdP_some,RdV_some,PtrC_some,IfC_true,IfC_false,OneC_true,elemAt_one,xW,Nat.zero_add,Nat.add_zero,Nat.reduceAdd,List.getElem?_toArray,List.getElem?_cons_zero,List.getElem?_cons_succ,List.setIfInBounds_toArray,List.set_cons_zero,List.set_cons_succ,List.size_toArray,List.length_cons,List.length_nil,Nat.reduceLT,true_and,Bool.not_true];have h7:p=0\/p=1\/p=2\/p=3\/p=4\/p=5\/p=6:=oQ;refine⟨oQ,?_⟩;have hnew:∀c,hp ((w.alloc (.cells #[.int .i64 0,.int .i64 0,.int .i64 0,.int .i64 0] 95)).alloc (.cells c 95)) (hn w+1)=Row 95 c:=fun c=>by
   have:=hp_alloc_new (w.alloc (.cells #[.int .i64 0,.int .i64 0,.int .i64 0,.int .i64 0] 95)) c 95
   simpa using this
  have hold:∀c,hp ((w.alloc (.cells #[.int .i64 0,.int .i64 0,.int .i64 0,.int .i64 0] 95)).alloc (.cells c 95)) (hn w)=Row 95 #[.int .i64 0,.int .i64 0,.int .i64 0,.int .i64 0]:=fun c=>by
   rw[iK _ _ sQ];simp
  rcases h7 with rfl|rfl|rfl|rfl|rfl|rfl|rfl<;>
  ·simp only[xY,zV,hp_alloc_new,hp_upd_same,hp_drew,hn_alloc,hn_upd,hn_drew,setR_Row,StO_Row,atR_Row,yZ,uE,vS,yY,uF,vM,RdI_some,RdB_some,RdS_some,RdSl_some,RdP_some,RdV_some,PtrC_some,IfC_true,IfC_false,OneC_true,elemAt_one,xW,Nat.zero_add,Nat.add_zero,Nat.reduceAdd,List.getElem?_toArray,List.getElem?_cons_zero,List.getElem?_cons_succ,List.setIfInBounds_toArray,List.set_cons_zero,List.set_cons_succ,List.size_toArray,List.length_cons,List.length_nil,Nat.reduceLT,true_and,hnew,hold,Int.toNat_natCast,Nat.reduceMul]
   iterate 4 (refine sK ?_;simp only[xY,zV,hp_alloc_new,hp_upd_same,hp_drew,hn_alloc,hn_upd,hn_drew,setR_Row,StO_Row,atR_Row,yZ,uE,vS,yY,uF,vM,RdI_some,RdB_some,RdS_some,RdSl_some,RdP_some,RdV_some,PtrC_some,IfC_true,IfC_false,OneC_true,elemAt_one,xW,Nat.zero_add,Nat.add_zero,Nat.reduceAdd,List.getElem?_toArray,List.getElem?_cons_zero,List.getElem?_cons_succ,List.setIfInBounds_toArray,List.set_cons_zero,List.set_cons_succ,List.size_toArray,List.length_cons,List.length_nil,Nat.reduceLT,true_and,hnew,hold])
   exact⟨rfl,(((((Fr.alloc [] w _).allocR _).upd_new (Nat.le_refl _)).upd_new (Nat.le_refl _)).upd_new (Nat.le_refl _)).upd_new (Nat.le_refl _)⟩
theorem u8_or(a b:Int):∃y:UInt8,Value.int .u8 (bOr .u8 a b)=u8v y:=zS _
theorem vR(a b:Nat):Int.tdiv (a:Int) (b:Int)=((a/b:Nat):Int):=by rw[Int.tdiv_eq_ediv_of_nonneg oQ];simp
theorem zG(a b:Nat):Int.tmod (a:Int) (b:Int)=((a%b:Nat):Int):=by rw[Int.tmod_eq_emod_of_nonneg oQ];simp
theorem c53{d:Nat}(hd:d=1\/d=2\/d=4\/d=8\/d=16){p:pQ}{l c:Nat}{vs:List Value}(hx:Has w p vs)(hl:l=vs.length)(hi:∀i,i<l ->∃n,vs[i]? =some (.int .i64 n))(hb:l<=1048576):
  CallT Pg 53 #[.slice p l c,.int .i64 d] w fun v w'=>∃zs,zs.length=(l*d+7)/8/\fV w zs v w':=by
 apply call53;unfold wp53 wIq;rw[xY];refine qP (fun z w'=>Fr [] w w'/\∃(k:Nat) (zs:bQ),z.2.1=(k:Int)/\k<=l/\zs.length=(k*d+7)/8/\z.1.len=zs.length/\Own w' (hn w) 5 1 z.1.a z.1.len z.1.cap (bv zs)) (fun z _ =>l -z.2.1.toNat)
  ⟨Fr.alloc _ _ _,0,[],rfl,oQ,sQ,rfl,Own.new (w:=w) (e:=5) (size:=1) (cs:= #[]) (l:=0) (Nat.le_refl _) sQ⟩ ?_
 rintro⟨⟨a,n,m⟩,i,⟨⟩⟩ w2 ⟨hf,k,zs,rfl,hle,hz,rfl,ho⟩;dsimp only at*;refine qF (fun h=> ?_) (fun h=> ?_)
 ·obtain⟨nv,hnv⟩:=hi k oQ
  refine IdxI (hx.fr0 hf) oQ h (by rw[Int.toNat_natCast];exact hnv) ?_;have hkd:k*d<=1048576*16:=Nat.mul_le_mul oQ oQ;have e1:((k:Int)*(d:Int))=((k*d:Nat):Int):=by simp
  have e2:Int.tdiv ((k*d:Nat):Int) 8=((k*d/8:Nat):Int):=vR _ 8;have e3:Int.tmod ((k*d:Nat):Int) 8=((k*d%8:Nat):Int):=zG _ 8;have e4:(k+1)*d=k*d+d:=by rw[Nat.add_mul];omega
  refine qX (fun h1=> ?_) (fun h1=>qX (fun h2=> ?_) (fun h2=> ?_))
  ·simp only[beq_iff_eq]at h1
   obtain⟨y,hy⟩:=zS nv;rw[hy];refine gU jJ hf ho (cs:= #[u8v y]) (m:=1) rfl (by simp[u8v,Value.oneCell']) oQ ?_;intro p' c' w3 hf3 _ ho3;rw[qA oQ oQ];exact⟨⟨hf3,k+1,zs++[y],sQ,oQ,by rw[e4];simp;omega,sQ,by simpa using ho3⟩,oQ⟩
  ·simp only[beq_iff_eq]at h2
   obtain⟨y,hy⟩:=zS nv;obtain⟨y',hy'⟩:=zS (qY .i64 nv 8);rw[hy,hy',dR dQ];refine gU jJ hf ho (cs:= #[u8v y',u8v y]) (m:=2) rfl (by simp[u8v,Value.oneCell']) oQ ?_;intro p' c' w3 hf3 _ ho3;rw[qA oQ oQ];exact⟨⟨hf3,k+1,zs++[y',y],sQ,oQ,by rw[e4];simp;omega,sQ,by simpa using ho3⟩,oQ⟩
  ·simp only[beq_eq_false_iff_ne,ne_eq]at h1 h2
   have hd':d=1\/d=2\/d=4:=oQ;have hmod:k*d%8+d<=8:=by rcases hd' with rfl|rfl|rfl<;>omega
   simp (disch:=omega) only[e1,e2,e3,qA,Int.toNat_natCast,qGn,dR];refine qJ (fun z w'=>Fr [] w w'/\∃(zs:bQ),zs.length=k*d/8+1/\z.1.len=zs.length/\Own w' (hn w) 5 1 z.1.a z.1.len z.1.cap (bv zs)) ?_ ?_
   ·rintro⟨⟨a,n,m⟩,⟨⟩⟩ w3 ⟨hf3,zs,hz,rfl,ho3⟩
    dsimp only at*;rw[zV];have hd1:=Fr.drew [] w3;refine gV (ho3.fr0 hd1).has rfl oQ oQ ?_;refine⟨⟨oQ,oQ⟩,?_⟩;rw[Int.toNat_natCast];generalize hv:Value.int .u8 (bOr .u8 _ _)=v;obtain⟨y,hy⟩:=u8_or (↑(gb zs (k*d/8))) (wrap .u8 (xJ .i64 nv (8 -↑d -↑(k*d%8))));rw[hv]at hy;subst hy;refine qDh (hf3.drewR) (ho3.fr0 hd1) oQ ?_;intro w4 hf4 _ ho4;rw[iC]at ho4;exact⟨⟨hf4,k+1,zs.set (k*d/8) y,sQ,oQ,by rw[e4,List.length_set,hz];omega,sQ,by simpa using ho4⟩,oQ⟩
   ·intro J hJ
    refine qX (fun h3=> ?_) (fun h3=> ?_)
    ·simp only[beq_iff_eq]at h3
     refine gU jJ hf ho (cs:= #[u8v 0]) (m:=1) rfl (by simp[u8v,Value.oneCell']) oQ ?_;intro p' c' w3 hf3 _ ho3;exact hJ _ _ ⟨hf3,zs++[0],by simp;omega,sQ,by simpa using ho3⟩
    ·simp only[beq_eq_false_iff_ne,ne_eq]at h3
     exact hJ _ _ ⟨hf,zs,oQ,rfl,ho⟩
 ·have:k=l:=oQ
  subst this;exact⟨zs,hz,hf,a,m,rfl,ho⟩
end
def wp32(x0_0:Int)(x0_1:Int)(x0_2:Int)(x0_3:Int)(x0_4:Bool)(x1:pQ)(x1l:Nat)(x1c:Nat)(x2:pQ)(x2l:Nat)(x2c:Nat)(R:vPq)(w:wQ):Prop:=qL w (.cells #[iQq x0_0,iQq x0_1,iQq x0_2,iQq x0_3,.bool x0_4] 27) fun d X=>qL X (.cells #[] 5) fun Y F=>LdI F ⟨d,0+3,none⟩ .i64 fun Z=>CallT Pg 38 #[iQq Z] F fun aa G=>∃e,And (aa=iQq e) (LdB G ⟨d,0+4,none⟩ fun ab=>CallT Pg 49 #[.bool ab] G fun ac ad=>∃H,And (ac=iQq H) (xB (fun(ae:(Sl×Int×Int×Unit) ->World ->Prop)=>ae ((⟨some ⟨Y,0,none⟩,0,0⟩:Sl),(0:Int),(0:Int),()) ad) (fun f p af=>IfC (decide (f.2.2.1<H)) (LdB p ⟨d,0+4,none⟩ fun ag=>CallT Pg 50 #[.bool ag,iQq f.2.2.1] p fun ah ai=>∃I J K L,And (ah=g4q I J K L) (qL ai (.cells (zc Pg 95) 95) fun g aj=>qB aj ⟨g,0,none⟩ (iQq I) fun ak=>qB ak ⟨g,0+1,none⟩ (iQq J) fun al=>qB al ⟨g,0+2,none⟩ (iQq K) fun am=>qB am ⟨g,0+3,none⟩ (iQq L) fun o=>l4q o g fun ao ap aq ar=>LdI o ⟨d,0,none⟩ .i64 fun au=>LdI o ⟨d,0+1,none⟩ .i64 fun av=>CallT Pg 51 #[g4q ao ap aq ar,iQq au,iQq av] o fun aw q=>∃r M,And (aw= .tuple #[iQq r,iQq M]) (l4q q d fun ax ay az ba=>LdB q ⟨d,0+4,none⟩ fun bb=>CallT Pg 52 #[.agg #[iQq ax,iQq ay,iQq az,iQq ba,.bool bb],iQq r] q fun bc bd=>∃h,And (bc=iQq h) (And (0<=h/\h<=h/\h<=281474976710656/\(1:Int)*h<=281474976710656) (qL bd (.cells (uI Pg 5 h.toNat) 5) fun be bf=>xB (fun(bg:(Sl×Int×Sl×Int×Unit) ->World ->Prop)=>bg ((⟨f.1.a,f.1.len,f.1.cap⟩:Sl),f.2.1,(⟨some ⟨be,0,none⟩,h.toNat,h.toNat⟩:Sl),(0:Int),()) bf) (fun b N bh=>IfC (decide (b.2.2.2.1<M)) (qL N (.cells #[] 3) fun bi bj=>xB (fun(bk:(Sl×Int×Unit) ->World ->Prop)=>bk ((⟨some ⟨bi,0,none⟩,0,0⟩:Sl),(0:Int),()) bj) (fun c i bl=>IfC (decide (c.2.1<r)) (LdI i ⟨g,0+1,none⟩ .i64 fun j=>LdI i ⟨g,0+3,none⟩ .i64 fun k=>LdI i ⟨d,0,none⟩ .i64 fun l=>LdI i ⟨g,0,none⟩ .i64 fun m=>LdI i ⟨g,0+2,none⟩ .i64 fun n=>And (0<=wIq ((wIq ((wIq ((wIq ((wIq ((wIq (j+(wIq (b.2.2.2.1*k))))*l))+m))+(wIq (c.2.1*n))))*e))+e)/\wIq ((wIq ((wIq ((wIq ((wIq ((wIq (j+(wIq (b.2.2.2.1*k))))*l))+m))+(wIq (c.2.1*n))))*e))+e)<=(x1c:Int)) (And (0<=wIq ((wIq ((wIq ((wIq ((wIq (j+(wIq (b.2.2.2.1*k))))*l))+m))+(wIq (c.2.1*n))))*e)/\wIq ((wIq ((wIq ((wIq ((wIq (j+(wIq (b.2.2.2.1*k))))*l))+m))+(wIq (c.2.1*n))))*e)<=wIq ((wIq ((wIq ((wIq ((wIq ((wIq (j+(wIq (b.2.2.2.1*k))))*l))+m))+(wIq (c.2.1*n))))*e))+e)) (yF Pg i #[28,28] 28 (.slice c.1.a c.1.len c.1.cap) (.slice (qQ x1 x1c ((wIq ((wIq ((wIq ((wIq ((wIq (j+(wIq (b.2.2.2.1*k))))*l))+m))+(wIq (c.2.1*n))))*e)).toNat) 1) (((wIq ((wIq ((wIq ((wIq ((wIq ((wIq (j+(wIq (b.2.2.2.1*k))))*l))+m))+(wIq (c.2.1*n))))*e))+e)).toNat) -((wIq ((wIq ((wIq ((wIq ((wIq (j+(wIq (b.2.2.2.1*k))))*l))+m))+(wIq (c.2.1*n))))*e)).toNat)) (x1c -((wIq ((wIq ((wIq ((wIq ((wIq (j+(wIq (b.2.2.2.1*k))))*l))+m))+(wIq (c.2.1*n))))*e)).toNat))) fun bm bn bo bp=>bl ((⟨bm,bn,bo⟩:Sl),wIq (c.2.1+1),()) bp))) (xH (fun(O:(Int×Unit)) (P:wQ)=>LdI P ⟨d,0+2,none⟩ .i64 fun bq=>CallT Pg 53 #[.slice c.1.a c.1.len c.1.cap,iQq bq] P fun br bs=>∃s t u,And (br= .slice s t u) (qO bs fun v=>l4q v d fun y z A B=>LdB v ⟨d,0+4,none⟩ fun C=>qL v (.cells #[.int .u8 (wrap .u8 O.1)] 5) fun bt D=>l4q D d fun bu bv bw bx=>LdB D ⟨d,0+4,none⟩ fun bz=>And ((.agg #[iQq bu,iQq bv,iQq bw,iQq bx,.bool bz]:Value)= .agg #[iQq y,iQq z,iQq A,iQq B,.bool C]) (yF Pg D #[33,33] 33 (.slice b.1.a b.1.len b.1.cap) (.slice (some ⟨bt,0,none⟩) 1 1) fun ca cb cc E=>l4q E d fun cd ce cf cg=>LdB E ⟨d,0+4,none⟩ fun ch=>And ((.agg #[iQq cd,iQq ce,iQq cf,iQq cg,.bool ch]:Value)= .agg #[iQq y,iQq z,iQq A,iQq B,.bool C]) (CallT Pg 55 #[.agg #[iQq y,iQq z,iQq A,iQq B,.bool C]] E fun ci cj=>∃Q,And (ci=iQq Q) (CallT Pg 54 #[iQq O.1,.slice s t u,.slice b.2.2.1.a b.2.2.1.len b.2.2.1.cap,iQq Q] cj fun ck cl=>∃S T U,And (ck= .slice S T U) (yF Pg cl #[33,33] 33 (.slice ca cb cc) (.slice S T U) fun cm cn co cp=>bh ((⟨cm,cn,co⟩:Sl),wIq (b.2.1+1),(⟨s,t,u⟩:Sl),wIq (b.2.2.2.1+1),()) cp)))))) (fun V=>IfC (decide ((x2l:Int)>(0:Int))) (zQ (x2l:Int) (And (0<=Int.tmod b.2.1 (x2l:Int)/\Int.tmod b.2.1 (x2l:Int)<(x2l:Int)) (qN x2 fun cq=>LdI i (qH cq ((Int.tmod b.2.1 (x2l:Int)).toNat) 1) .u8 fun cr=>zQ 5 (V (Int.tmod (wIq cr) 5,()) i)))) (V (0,()) i))))) (af ((⟨b.1.a,b.1.len,b.1.cap⟩:Sl),b.2.1,wIq (f.2.2.1+1),()) N))))))) (R (.slice f.1.a f.1.len f.1.cap) p))))
theorem call32{x0_0:Int}{x0_1:Int}{x0_2:Int}{x0_3:Int}{x0_4:Bool}{x1:pQ}{x1l:Nat}{x1c:Nat}{x2:pQ}{x2l:Nat}{x2c:Nat}{R:vPq}{w:wQ}(h:wp32 x0_0 x0_1 x0_2 x0_3 x0_4 x1 x1l x1c x2 x2l x2c R w):CallT Pg 32 #[.agg #[.int .i64 x0_0,.int .i64 x0_1,.int .i64 x0_2,.int .i64 x0_3,.bool x0_4],.slice x1 x1l x1c,.slice x2 x2l x2c] w R:=cVq [(12,[(7,.sl),(9,.i .i64),(28,.i .i64)],[1,2,3,6,8,27]),(32,[(7,.sl),(9,.i .i64),(14,.sl),(49,.i .i64)],[1,2,3,6,8,11,12,27,28,48]),(49,[(16,.sl),(54,.i .i64)],[1,2,3,6,7,8,9,11,12,14,15,27,28,48,49,53]),(66,[(19,.i .i64)],[1,2,3,7,8,9,11,12,14,16,27,28,48,49])] Tryz.func32 h
section
variable{w:wQ}
def RowsOf(ls:List Nat)(kind:Nat ->Nat)(xs:bQ):Prop:=
 ∃rows:List (bQ),xs=rows.flatten/\rows.map List.length=ls/\∀i r,rows[i]? =some r ->∃k t,r=k::t/\k.toNat=kind i
theorem RowsOf.nil(kind:Nat ->Nat):RowsOf [] kind []:=⟨[],rfl,rfl,fun i r h=>by simp at h⟩
theorem RowsOf.snoc{ls:List Nat}{kind:Nat ->Nat}{xs t:bQ}{k:UInt8}(h:RowsOf ls kind xs)(hk:k.toNat=kind ls.length):RowsOf (ls++[t.length+1]) kind (xs++k::t):=by
 obtain⟨rows,rfl,h2,h3⟩:=h;refine⟨rows++[k::t],sQ,by simp[h2],fun i r hr=> ?_⟩;have hl:ls.length=rows.length:=by rw[<-h2];simp
 by_cases hi:i<rows.length
 ·rw[List.getElem?_append_left hi]at hr;exact h3 i r hr
 ·rw[List.getElem?_append_right oQ]at hr
  have:i -rows.length=0:=by
   have:=(List.getElem?_eq_some_iff.1 hr).1;simp at this;omega
  rw[this]at hr;simp at hr;exact⟨k,t,hr.symm,by rw[hk];congr 1;omega⟩
def uD(W H D C:Nat)(L:Bool)(p:Nat):List Nat:=
 let x:=zN L p
 let a:=vH x.1 x.2.2.1 W
 let b:=vH x.2.1 x.2.2.2 H
 if a=0\/b=0 then []else List.replicate b (rowB C D a+1)
def nPass(L:Bool):Nat:=if L then 7 else 1
def rV(W H D C:Nat)(L:Bool):List Nat:=(List.range (nPass L)).flatMap (uD W H D C L)
def kY(fl:bQ)(i:Nat):Nat:=if fl.length=0 then 0 else gb fl (i%fl.length)%5
def tQ(ns:List Int):List Value:=ns.map (.int .i64)
theorem bT(L:Bool){p:Nat}(hp:p<7):((zN L p).2.2.1=1\/(zN L p).2.2.1=2\/(zN L p).2.2.1=4\/(zN L p).2.2.1=8)/\
  ((zN L p).2.2.2=1\/(zN L p).2.2.2=2\/(zN L p).2.2.2=4\/(zN L p).2.2.2=8)/\(zN L p).1<=8/\(zN L p).2.1<=8:=by
 have:p=0\/p=1\/p=2\/p=3\/p=4\/p=5\/p=6:=oQ
 cases L
 ·simp[zN]
 ·rcases this with rfl|rfl|rfl|rfl|rfl|rfl|rfl<;>simp[zN]
theorem qAp{X D W y:Nat}(hD:D=1\/D=2\/D=4\/D=8)(hy:y<vH X D W):X+y*D<W:=by
 unfold vH at hy;rcases hD with rfl|rfl|rfl|rfl<;>omega
theorem sM{X D W:Nat}(hD:D=1\/D=2\/D=4\/D=8):vH X D W<=W:=by
 unfold vH;rcases hD with rfl|rfl|rfl|rfl<;>omega
theorem c5u:Pg.cellsOf 5=1:=by kernel_rfl
theorem zc5:zc Pg 5= #[.int .u8 0]:=by kernel_rfl
theorem c32{W H D C:Nat}{L:Bool}{b o l c:Nat}{ns:List Int}{q:pQ}{fl fc:Nat}{fs:bQ}(hW:1<=W/\W<=64)(hH:1<=H/\H<=64)(hD:D=1\/D=2\/D=4\/D=8\/D=16)
  (hx:Has w (some ⟨b,o,none⟩) (tQ ns))(hl:l=ns.length)(hnn:ns.length=W*H*chN C)(hlc:l<=c)(hq:Has w q (bv fs))(hfl:fl=fs.length)(hfb:fl<65536):
  CallT Pg 32 #[shp W H D C L,.slice (some ⟨b,o,none⟩) l c,.slice q fl fc] w fun v w'=>∃zs,RowsOf (rV W H D C L) (kY fs) zs/\fV w zs v w':=by
 apply call32;unfold wp32 l4q g4q wIq iQq;refine qG fun w1 hS0 hf0 hn0=> ?_;have hx1:=hx.fr0 hf0;have hq1:=hq.fr0 hf0;have hcN:=tV C;generalize hrS:hn w=rs at*;refine qG fun w2 hA hfA hnA=> ?_;have hoA:=Own.of_row (base:=hn w1) (size:=1) (l:=0) hA (Nat.le_refl _) sQ;have hS:=hfA.row0 hS0;refine qC hS rfl ?_;refine CallT.mono c38n ?_;rintro _ _ ⟨rfl,rfl⟩;refine⟨_,rfl,zB hS rfl ?_⟩;refine CallT.mono c49 ?_;rintro _ _ ⟨rfl,rfl⟩;refine⟨_,rfl,?_⟩;have hP:((if L then 7 else 1:Int))=(nPass L:Int):=by unfold nPass;split<;>rfl
 rw[hP];have hP7:nPass L<=7:=by unfold nPass;split<;>omega
 refine qP (fun z w'=>Fr [] w1 w'/\∃(k:Nat) (zs:bQ) (ls:List Nat),z.2.2.1=(k:Int)/\k<=nPass L/\ls=(List.range k).flatMap (uD W H D C L)/\z.2.1=(ls.length:Int)/\RowsOf ls (kY fs) zs/\z.1.len=zs.length/\zs.length<=k*40000/\ls.length<=k*64/\Own w' (hn w1) 5 1 z.1.a z.1.len z.1.cap (bv zs))
  (fun z _ =>nPass L -z.2.2.1.toNat) ⟨hfA,0,[],[],rfl,oQ,sQ,rfl,RowsOf.nil _,rfl,sQ,sQ,by simpa using hoA⟩ ?_
 rintro⟨⟨a,n,m⟩,tn,k',⟨⟩⟩ w3 ⟨hf,k,zs,ls,rfl,hk,hls,rfl,hR,rfl,hzl,hlsl,ho⟩;dsimp only at*;refine qF (fun h=> ?_) (fun h=> ?_)
 ·have hp7:k<7:=oQ
  obtain⟨hDX,hDY,hX8,hY8⟩:=bT L hp7;refine zB (hf.row0 hS0) rfl ?_;refine CallT.mono (c50 hp7) ?_;rintro _ w4 ⟨rfl,hf4⟩;have hLP:uD W H D C L k=if vH (zN L k).1 (zN L k).2.2.1 W=0\/vH (zN L k).2.1 (zN L k).2.2.2 H=0 then []else List.replicate (vH (zN L k).2.1 (zN L k).2.2.2 H) (rowB C D (vH (zN L k).1 (zN L k).2.2.1 W)+1):=rfl;unfold partV;generalize(zN L k).1=X at*;generalize(zN L k).2.1=Y at*;generalize(zN L k).2.2.1=DX at*;generalize(zN L k).2.2.2=DY at*;refine⟨_,_,_,_,rfl,?_⟩;rw[zc95];have h34:=hf4.size;refine qG fun w5 hb5 hf5 hn5=> ?_;refine qD hb5 sQ fun w51 hb51 hf51 hn51=> ?_;refine qD hb51 sQ fun w52 hb52 hf52 hn52=> ?_;refine qD hb52 sQ fun w53 hb53 hf53 hn53=> ?_;refine qD hb53 sQ fun w54 hpart hf54 hn54=> ?_;have hpart:hp w54 (hn w4)=Row 95 #[.int .i64 X,.int .i64 Y,.int .i64 DX,.int .i64 DY]:=hpart;have hf35:Fr [] w3 w54:=((((hf4.trans hf5).new1 hf51 h34).new1 hf52 h34).new1 hf53 h34).new1 hf54 h34;have hrp:hn w4<hn w54:=zM hpart;generalize hn w4=rp at*;clear hb5 hb51 hb52 hb53 hf5 hf51 hf52 hf53 hf54 hn5 hn51 hn52 hn53 hn54;have hF5:=hf.trans hf35;refine qC hpart rfl (qC hpart rfl (qC hpart rfl (qC hpart rfl (qC (hF5.row0 hS0) rfl (qC (hF5.row0 hS0) rfl ?_)))));refine CallT.mono (c51 hDX hDY hX8 hY8 oQ oQ) ?_;rintro v w6 ⟨hv,hf6⟩;obtain⟨cw,ch,hv,hcw,hch,hcase⟩:∃cw ch:Nat,v= .tuple #[.int .i64 cw,.int .i64 ch]/\cw<=vH X DX W/\ch<=vH Y DY H/\uD W H D C L k=List.replicate ch (rowB C D cw+1):=by
   rw[hLP]
   split at hv
   ·rename_i h0;exact⟨0,0,hv,oQ,oQ,by rw[if_pos h0];rfl⟩
   ·rename_i h0;exact⟨_,_,hv,Nat.le_refl _,Nat.le_refl _,by rw[if_neg h0]⟩
  subst hv;have hcW:=sM (X:=X) (W:=W) hDX;have hcH:=sM (X:=Y) (W:=H) hDY;refine⟨_,_,rfl,?_⟩;have hS6:=(hF5.trans hf6).row0 hS0;refine qC hS6 rfl (qC hS6 rfl (qC hS6 rfl (qC hS6 rfl (zB hS6 rfl ?_))));refine CallT.mono (c52 oQ oQ) ?_;rintro _ w7 ⟨rfl,hf7⟩;refine⟨_,rfl,?_⟩;have hrB:rowB C D cw<=512:=by
   have h1:cw*chN C<=64*4:=Nat.mul_le_mul oQ hcN.2;have h2:cw*chN C*D<=64*4*16:=Nat.mul_le_mul h1 oQ;unfold rowB;omega
  refine⟨⟨oQ,oQ,oQ,oQ⟩,?_⟩;rw[aI c5u zc5,oA,Int.toNat_natCast];refine qG fun w8 hab hf8 hn8=> ?_;have hab:=Has.of_row hab;have hf58:=(hf6.trans hf7).trans hf8;have h57:hn w54<=hn w7:=(hf6.trans hf7).size;have ho8:=(ho.fr0 hf35).fr0 hf58;have hoblk:=ho.blk;have h35:=hf35.size;refine qP (fun z w'=>Fr [] w1 w'/\hp w' rp=Row 95 #[.int .i64 X,.int .i64 Y,.int .i64 DX,.int .i64 DY]/\(∀x∈xX z.1.a,x≠rp)/\
    ∃(y:Nat) (zs ys:bQ),z.2.2.2.1=(y:Int)/\y<=ch/\z.2.1=((ls.length+y:Nat):Int)/\RowsOf (ls++List.replicate y (rowB C D cw+1)) (kY fs) zs/\z.1.len=zs.length/\zs.length<=k*40000+y*513/\
     Own w' (hn w1) 5 1 z.1.a z.1.len z.1.cap (bv zs)/\Has w' z.2.2.1.a (bv ys)/\z.2.2.1.len=ys.length/\ys.length=rowB C D cw/\(∀x∈xX z.2.2.1.a,x<hn w'/\x∉xX z.1.a))
   (fun z _ =>ch -z.2.2.2.1.toNat)
   ⟨hF5.trans hf58,hf58.row0 hpart,fun x hx e=>by have:=hoblk x hx;omega,
    0,zs,List.replicate (rowB C D cw) 0,rfl,oQ,sQ,by simpa using hR,rfl,oQ,ho8,by simpa using hab,sQ,sQ,fun x hx=>by
     simp[xX]at hx;subst hx;exact⟨oQ,fun hx=>by have:=hoblk _ hx;omega⟩⟩ ?_
  rintro⟨⟨a,n,m⟩,tn,⟨pa,la,ca⟩,y',⟨⟩⟩ w9 ⟨hF9,hp9,hne9,y,zs,ys,rfl,hy,rfl,hR9,rfl,hzl9,ho9,hab9,rfl,hys,hdis⟩;dsimp only at*;have hchH:ch<=64:=oQ;refine qF (fun hyc=> ?_) (fun hyc=> ?_)
  ·have hs9:=hF9.row0 hS0
   refine qG fun w10 hb10 hf10 hn10=> ?_;have ho10:=Own.of_row (base:=hn w9) (size:=1) (l:=0) hb10 (Nat.le_refl _) sQ;have hyH:=qAp hDY (show y<vH Y DY H by omega);refine qP (fun z w'=>Fr [] w9 w'/\∃(x:Nat) (lst:List Int),z.2.1=(x:Int)/\x<=cw/\z.1.len=x*chN C/\lst.length=x*chN C/\Own w' (hn w9) 3 1 z.1.a z.1.len z.1.cap (tQ lst)) (fun z _ =>cw -z.2.1.toNat)
    ⟨hf10,0,[],rfl,oQ,sQ,sQ,by simpa [tQ]using ho10⟩ ?_
   rintro⟨⟨ax,nx,mx⟩,x',⟨⟩⟩ w11 ⟨hF11,x,lst,rfl,hx11,rfl,hlst,ho11⟩;dsimp only at*;have hF1:=hF9.trans hF11;have hp11:=hF11.row0 hp9;have hs11:=hF1.row0 hS0;refine qF (fun hxc=> ?_) (fun hxc=> ?_)
   ·have hxW:=qAp hDX (show x<vH X DX W by omega)
    refine qC hp11 rfl (qC hp11 rfl (qC hs11 rfl (qC hp11 rfl (qC hp11 rfl ?_))));have b1:y*DY<=64*8:=Nat.mul_le_mul oQ oQ;have b3:x*DX<=64*8:=Nat.mul_le_mul oQ oQ;have b2:(Y+y*DY)*W<=(H -1)*W:=Nat.mul_le_mul_right _ oQ;have hHW:(H -1)*W+W=W*H:=by
     obtain⟨H',rfl⟩:∃H',H=H'+1:=⟨H -1,oQ⟩;rw[Nat.add_sub_cancel,Nat.mul_comm W,Nat.succ_mul]
    have hWH:W*H<=64*64:=Nat.mul_le_mul hW.2 hH.2;have b4:((Y+y*DY)*W+X+x*DX+1)*chN C<=W*H*chN C:=Nat.mul_le_mul_right _ oQ;have b5:W*H*chN C<=64*64*4:=Nat.mul_le_mul hWH hcN.2;rw[Nat.succ_mul]at b4;simp (disch:=omega) only[<-Int.natCast_mul,<-Int.natCast_add,qA,Int.toNat_natCast,Nat.add_sub_cancel_left];generalize hat:((Y+y*DY)*W+X+x*DX)*chN C=at_ at*;refine⟨⟨oQ,oQ⟩,⟨oQ,oQ⟩,?_⟩;rw[slAdd_one _ _ _ _ oQ];have hnews:=Has.slice (hx1.fr0 hF1) at_ (chN C);refine vC (S:=[]) (w0:=w9) ok28 hF11 ho11 hnews (by simp[tQ];omega) (by intro u hu;simp only[tQ]at hu;obtain⟨z,_,rfl⟩:=List.mem_map.1 (List.mem_of_mem_drop (List.mem_of_mem_take hu));rfl) (by
     have:x*chN C<=64*4:=Nat.mul_le_mul oQ hcN.2;omega) sQ ?_
    intro p' c' w12 hf12 _ ho12;refine⟨⟨hf12,x+1,lst++(ns.drop at_).take (chN C),sQ,oQ,by rw[Nat.succ_mul],by rw[List.length_append,hlst,Nat.succ_mul];simp;omega,?_⟩,oQ⟩;have e:tQ (lst++(ns.drop at_).take (chN C))=tQ lst++((tQ ns).drop at_).take (chN C):=by simp[tQ,List.map_drop,List.map_take]
    rw[e];exact ho12
   ·have hxe:x=cw:=oQ
    subst hxe;refine qJ (fun z w'=>w'=w11/\z.1=(kY fs (ls.length+y):Int)) ?_ ?_
    ·rintro⟨kd,⟨⟩⟩ w11 ⟨rfl,rfl⟩
     dsimp only;have hxb:x*chN C<=64*4:=Nat.mul_le_mul oQ hcN.2;have hoblk9:=ho9.blk;have h911:=hF11.size;refine qC hs11 rfl ?_;refine CallT.mono (c53 hD ho11.has (by simp[tQ,hlst]) (fun i hi=>⟨lst.getD i 0,by simp only[tQ,List.getElem?_map];rw[List.getElem?_eq_getElem oQ];simp[List.getD,show i<lst.length by omega]⟩) oQ) ?_;rintro _ w12 ⟨zs2,hz2,hf12,p12,c12,rfl,ho12⟩;refine⟨_,_,_,rfl,?_⟩;have hz2':zs2.length=rowB C D x:=hz2;refine qE fun w13 hf13 hn13=> ?_;have hs13:=((hF1.trans hf12).trans hf13).row0 hS0;refine qC hs13 rfl (qC hs13 rfl (qC hs13 rfl (qC hs13 rfl (zB hs13 rfl ?_))));have hfil:kY fs (ls.length+y)<5:=by unfold kY;split<;>omega
     have hk8:Value.int .u8 (wrap .u8 (kY fs (ls.length+y):Int))=u8v (UInt8.ofNat (kY fs (ls.length+y))):=by
      rw[jL,jP];congr 1
     rw[hk8];refine qG fun w14 hb14 hf14 hn14=> ?_;have hf1214:=hf13.trans hf14;have hf914:=(hF11.trans hf12).trans hf1214;have hs14:=(hF9.trans hf914).row0 hS0;refine qC hs14 rfl (qC hs14 rfl (qC hs14 rfl (qC hs14 rfl (zB hs14 rfl ?_))));refine⟨rfl,?_⟩;have h1112:=hf12.size;have h1214:=hf1214.size;refine uO (S:=[]) (w0:=w1) jJ (hF9.trans hf914) (ho9.fr0 hf914) (Has.of_row hb14) rfl (by simp[u8v,Value.oneCell']) oQ sQ ?_;intro p15 c15 w15 hF15 hf15 ho15 hsrc15;have hs15:=hF15.row0 hS0;refine qC hs15 rfl (qC hs15 rfl (qC hs15 rfl (qC hs15 rfl (zB hs15 rfl ?_))));refine⟨rfl,?_⟩;refine CallT.mono (c55 oQ) ?_;rintro _ w16 ⟨rfl,hf16⟩;refine⟨_,rfl,?_⟩;have hst:1<=pD C D/\pD C D<=8:=by
      have h1:chN C*D<=4*16:=Nat.mul_le_mul hcN.2 oQ;unfold pD;omega
     have hne12:∀a',p12=some a' ->a'.block∉xX a:=fun a' ha hx=>by have:=ho12.at ha;have:=hoblk9 _ hx;omega
     have hnea:∀a',pa=some a' ->a'.block∉xX a:=fun a' ha=>(hdis _ (by rw[ha];exact uQ)).2;have ho12':=((ho12.fr0 hf1214).fr hf15 hne12).fr0 hf16;have hab':=((hab9.fr0 hf914).fr hf15 hnea).fr0 hf16;refine CallT.mono (c54 ho12'.has rfl hab' rfl oQ oQ oQ oQ) ?_;rintro _ w17 ⟨zs3,hz3,hf17,p17,c17,rfl,ho17⟩;refine⟨_,_,_,rfl,?_⟩;have hf1517:=hf16.trans hf17;have h1517:=hf1517.size;have h1415:=hf15.size;refine uO (S:=[]) (w0:=w1) jJ (hF15.trans hf1517) (ho15.fr0 hf1517) ho17.has sQ (uK _) oQ (by intro h;subst h;exact ho17.none_iff.2.1) ?_;intro p18 c18 w18 hF18 hf18 ho18 hsrc18;have hblk12:=ho12.blk;have hn15:rp∉xX p15:=fun hx=>by
      have:=zM hp9;have:=hf914.size;rcases hsrc15 _ hx with h|h
      ·exact hne9 _ h rfl
      ·omega
     have hd15:∀x∈xX p12,x∉xX p15:=fun x hx hx'=>by
      have:=hblk12 x hx;rcases hsrc15 _ hx' with h|h
      ·have:=hoblk9 _ h;omega
      ·omega
     have hp15:hp w15 rp=_ :=hf15.row (hf914.row0 hp9) fun hx=>hne9 _ hx rfl;have hp18:=hf18.row (hf1517.row0 hp15) hn15;simp (disch:=omega) only[qA];have hrp9:=zM hp9;have h914:=hf914.size;have h1718:=hf18.size;refine⟨⟨hF18,hp18,fun x hx e=> ?_,y+1,zs++UInt8.ofNat (kY fs (ls.length+y))::zs3,zs2,sQ,oQ,by simp only[Int.natCast_add];omega,?_,?_,?_,?_,?_,rfl,hz2',fun x hx=>⟨?_,fun hx'=> ?_⟩⟩,oQ⟩
     ·subst e
      rcases hsrc18 _ hx with h|h
      ·exact hn15 h
      ·omega
     ·have:=hR9.snoc (k:=UInt8.ofNat (kY fs (ls.length+y))) (t:=zs3) (by simp;omega)
      rw[hz3,hz2']at this;rw[List.replicate_succ',<-List.append_assoc];exact this
     ·simp;omega
     ·simp;omega
     ·have e:(zs++UInt8.ofNat (kY fs (ls.length+y))::zs3).length=zs.length+1+zs3.length:=by simp;omega
      simpa using ho18
     ·exact(((ho12'.fr0 hf17).fr hf18 fun a' ha=>hd15 _ (by rw[ha];exact uQ))).has
     ·have:=hblk12 x hx;omega
     ·have:=hblk12 x hx
      rcases hsrc18 _ hx' with h|h
      ·exact hd15 x hx h
      ·omega
    ·intro J hJ
     have hq11:=hq1.fr0 hF1;refine qF (fun hq0=> ?_) (fun hq0=> ?_)
     ·refine xK oQ ?_
      rw[zG];have hml:=Nat.mod_lt (ls.length+y) (show 0<fl by omega);refine gV hq11 hfl oQ oQ (xK dQ ?_);have hg:=yC fs ((ls.length+y)%fl);rw[Int.toNat_natCast,qA oQ oQ];refine hJ _ _ ⟨rfl,?_⟩;have:=zG (gb fs ((ls.length+y)%fl)) 5;simp only at this⊢;rw[show(5:Int)=((5:Nat):Int)from rfl,this];unfold kY;rw[if_neg oQ,hfl]
     ·refine hJ _ _ ⟨rfl,?_⟩
      unfold kY;rw[if_pos oQ];rfl
  ·have:y=ch:=oQ
   subst this;rw[qA oQ oQ];refine⟨⟨hF9,k+1,zs,ls++List.replicate y (rowB C D cw+1),sQ,oQ,?_,sQ,hR9,rfl,oQ,by simp;omega,ho9⟩,oQ⟩;rw[List.range_succ,List.flatMap_append,<-hls];simp[hcase]
 ·have:k=nPass L:=oQ
  subst this;refine⟨zs,by rw[hls]at hR;exact hR,hf0.trans hf,a,m,rfl,?_⟩;exact ho.base_le oQ
end
def wp65(x0:Addr)(x1:Int)(R:vPq)(w:wQ):Prop:=xH (fun(A:(Unit)) (h:wQ)=>qO h fun b=>qS b x0 fun c d B=>LdI b (aQq x0 1) .i64 fun a=>zQ 8 (And (0<=wIq (Int.tdiv a 8)/\wIq (Int.tdiv a 8)<(d:Int)) (qN c fun i=>LdI b (qH i ((wIq (Int.tdiv a 8)).toNat) 1) .u8 fun j=>LdI b (aQq x0 1) .i64 fun e=>zQ 8 (ShC (Int.tmod e 8) (And (0<=wIq (Int.tdiv a 8)/\wIq (Int.tdiv a 8)<(d:Int)) (qN c fun k=>qB b (qH k ((wIq (Int.tdiv a 8)).toNat) 1) (.int .u8 (bOr .u8 j (wrap .u8 (xJ .i64 x1 (Int.tmod e 8))))) fun f=>LdI f (aQq x0 1) .i64 fun l=>qB f (aQq x0 1) (iQq (wIq (l+1))) fun m=>R (.tuple #[]) m)))))) (fun g=>LdI w (aQq x0 1) .i64 fun n=>zQ 8 (IfC ((Int.tmod n 8)==0) (qS w x0 fun o p q=>qL w (.cells #[.int .u8 0] 5) fun r s=>yF Pg s #[33,33] 33 (.slice o p q) (.slice (some ⟨r,0,none⟩) 1 1) fun t u v y=>qB y x0 (.slice t u v) fun z=>g (()) z) (g (()) w)))
theorem call65{x0:Addr}{x1:Int}{R:vPq}{w:wQ}(h:wp65 x0 x1 R w):CallT Pg 65 #[.pointer (some x0),.int .i64 x1] w R:=cVq [(0,[],[0,1])] Tryz.func65 h
def wp66(x0:Addr)(x1:Int)(x2:Int)(R:vPq)(w:wQ):Prop:=xB (fun(c:(Int×Unit) ->World ->Prop)=>c (0,()) w) (fun a b d=>IfC (decide (a.1<x2)) (ShC a.1 (CallT Pg 65 #[.pointer (some x0),iQq (zF .i64 (qY .i64 x1 a.1) 1)] b fun e f=>And (e= .tuple #[]) (d (wIq (a.1+1),()) f))) (R (.tuple #[]) b))
theorem call66{x0:Addr}{x1:Int}{x2:Int}{R:vPq}{w:wQ}(h:wp66 x0 x1 x2 R w):CallT Pg 66 #[.pointer (some x0),.int .i64 x1,.int .i64 x2] w R:=cVq [(3,[(8,.i .i64)],[0,1,7])] Tryz.func66 h
def wp98(x0:Addr)(x1:Int)(x2:Int)(R:vPq)(w:wQ):Prop:=xB (fun(c:(Int×Unit) ->World ->Prop)=>c (wIq (x2 -1),()) w) (fun a b d=>IfC (decide (a.1>=(0:Int))) (ShC a.1 (CallT Pg 65 #[.pointer (some x0),iQq (zF .i64 (qY .i64 x1 a.1) 1)] b fun e f=>And (e= .tuple #[]) (d (wIq (a.1 -1),()) f))) (R (.tuple #[]) b))
theorem call98{x0:Addr}{x1:Int}{x2:Int}{R:vPq}{w:wQ}(h:wp98 x0 x1 x2 R w):CallT Pg 98 #[.pointer (some x0),.int .i64 x1,.int .i64 x2] w R:=cVq [(3,[(6,.i .i64)],[0,1])] Tryz.func98 h
def wp88(x0:Addr)(x1:Int)(R:vPq)(w:wQ):Prop:=IfC (decide (x1<(144:Int))) (CallT Pg 98 #[.pointer (some x0),iQq (wIq ((48:Int)+x1)),iQq 8] w fun a b=>And (a= .tuple #[]) (R (.tuple #[]) b)) (IfC (decide (x1<(256:Int))) (CallT Pg 98 #[.pointer (some x0),iQq (wIq ((256:Int)+x1)),iQq 9] w fun c d=>And (c= .tuple #[]) (R (.tuple #[]) d)) (IfC (decide (x1<(280:Int))) (CallT Pg 98 #[.pointer (some x0),iQq (wIq (x1 -256)),iQq 7] w fun e f=>And (e= .tuple #[]) (R (.tuple #[]) f)) (CallT Pg 98 #[.pointer (some x0),iQq (wIq (x1 -88)),iQq 8] w fun g h=>And (g= .tuple #[]) (R (.tuple #[]) h))))
theorem call88{x0:Addr}{x1:Int}{R:vPq}{w:wQ}(h:wp88 x0 x1 R w):CallT Pg 88 #[.pointer (some x0),.int .i64 x1] w R:=cVq [] Tryz.func88 h
def wp99(x0:Int)(R:vPq)(w:wQ):Prop:=IfC ((wIq (x0 -257))==28) (R (.tuple #[iQq 258,iQq 0]) w) (IfC (decide ((wIq (x0 -257))<(8:Int))) (R (.tuple #[iQq (wIq ((3:Int)+(wIq (x0 -257)))),iQq 0]:Value) w) (zQ 4 (zQ 4 (ShC (wIq ((wIq (Int.tdiv (wIq (x0 -257)) 4)) -1)) (zQ 4 (R (.tuple #[iQq (wIq ((3:Int)+(xJ .i64 (wIq ((4:Int)+(Int.tmod (wIq (x0 -257)) 4))) (wIq ((wIq (Int.tdiv (wIq (x0 -257)) 4)) -1))))),iQq (wIq ((wIq (Int.tdiv (wIq (x0 -257)) 4)) -1))]:Value) w))))))
theorem call99{x0:Int}{R:vPq}{w:wQ}(h:wp99 x0 R w):CallT Pg 99 #[.int .i64 x0] w R:=cVq [] Tryz.func99 h
def wp100(x0:Int)(R:vPq)(w:wQ):Prop:=IfC (decide (x0<(4:Int))) (R (.tuple #[iQq (wIq ((1:Int)+x0)),iQq 0]:Value) w) (zQ 2 (zQ 2 (ShC (wIq ((wIq (Int.tdiv x0 2)) -1)) (zQ 2 (R (.tuple #[iQq (wIq ((1:Int)+(xJ .i64 (wIq ((2:Int)+(Int.tmod x0 2))) (wIq ((wIq (Int.tdiv x0 2)) -1))))),iQq (wIq ((wIq (Int.tdiv x0 2)) -1))]:Value) w)))))
theorem call100{x0:Int}{R:vPq}{w:wQ}(h:wp100 x0 R w):CallT Pg 100 #[.int .i64 x0] w R:=cVq [] Tryz.func100 h
section
variable{w:wQ}
def rN(out:bQ)(bits:List Bool):Prop:=out.length=(bits.length+7)/8/\∀i,(gb out (i/8)).testBit (i%8)=bits.getD i false
abbrev gI:=List (Nat×TypeId×vQ)
def Keeps(Z:gI)(w:wQ)(S:List Nat):Prop:=∀z∈Z,hp w z.1=Row z.2.1 z.2.2/\z.1∉S
theorem Keeps.fr{Z:gI}{w w':wQ}{S S' T:List Nat}(h:Keeps Z w S)(hf:Fr T w w')(hT:∀x∈T,x∈S\/hn w<=x)(hS:∀x∈S',x∈S\/hn w<=x):Keeps Z w' S':=fun z hz=>by
 obtain⟨h1,h2⟩:=h z hz;have hlt:=zM h1;refine⟨hf.row h1 fun hx=> ?_,fun hx=> ?_⟩
 ·rcases hT _ hx with h|h
  ·exact h2 h
  ·omega
 ·rcases hS _ hx with h|h
  ·exact h2 h
  ·omega
def WR(w0:wQ)(Z:gI)(w:wQ)(g:Nat)(bits:List Bool):Prop:=
 Fr [] w0 w/\hn w0<=g/\∃p l c out,hp w g=Row 139 #[.slice p l c,.int .i64 (bits.length:Int)]/\Own w (hn w0) 5 1 p l c (bv out)/\g∉xX p/\rN out bits/\Keeps Z w (g::xX p)
theorem bG(out:bQ)(i:Nat):gb (out++[0]) i=gb out i:=by
 unfold gb;simp only[List.getD_eq_getElem?_getD]
 by_cases h:i<out.length
 ·rw[List.getElem?_append_left h]
 ·rw[List.getElem?_append_right oQ,List.getElem?_eq_none (by omega:out.length<=i)]
  cases hh:i -out.length with
  |zero=>simp
  |succ n=>simp
theorem gb_set(out:bQ)(j:Nat)(y:UInt8)(hj:j<out.length)(i:Nat):gb (out.set j y) i=if i=j then y.toNat else gb out i:=by
 unfold gb;simp only[List.getD_eq_getElem?_getD,List.getElem?_set]
 by_cases h:i=j
 ·subst h;simp[hj]
 ·rw[if_neg (Ne.symm h),if_neg h]
theorem qCn{out:bQ}{bits:List Bool}{b:Bool}{y:UInt8}(h1:out.length=bits.length/8+1)(h2:∀i,(gb out (i/8)).testBit (i%8)=bits.getD i false)
  (hy:y.toNat=gb out (bits.length/8)|||((if b then 1 else 0)*2^(bits.length%8))):rN (out.set (bits.length/8) y) (bits++[b]):=by
 refine⟨by simp[h1];omega,fun i=> ?_⟩;rw[gb_set _ _ _ oQ];have hg:(bits++[b]).getD i false=if i=bits.length then b else bits.getD i false:=by
  simp only[List.getD_eq_getElem?_getD]
  by_cases hi:i<bits.length
  ·rw[List.getElem?_append_left hi,if_neg oQ]
  ·rw[List.getElem?_append_right oQ]
   by_cases he:i=bits.length
   ·subst he;simp
   ·rw[if_neg he,List.getElem?_eq_none (by simp;omega),List.getElem?_eq_none (by omega:bits.length<=i)]
 rw[hg]
 by_cases hd:i/8=bits.length/8
 ·rw[if_pos hd,hy,Nat.testBit_or]
  have h3:=h2 i;rw[hd]at h3;rw[h3]
  by_cases he:i=bits.length
  ·subst he
   rw[if_pos rfl];have:bits.getD bits.length false=false:=by simp[List.getD_eq_getElem?_getD]
   rw[this,Bool.false_or]
   cases b
   ·simp
   ·simp[Nat.testBit_two_pow]
  ·rw[if_neg he]
   have hne:bits.length%8≠i%8:=oQ
   cases b
   ·simp
   ·simp[Nat.testBit_two_pow,hne]
 ·rw[if_neg hd,h2 i,if_neg oQ]
theorem c65{w0:wQ}{Z:gI}{g:Nat}{bits:List Bool}(hw:WR w0 Z w g bits)(hb:bits.length<1099511627776)(b:Bool):
  CallT Pg 65 #[.pointer (some ⟨g,0,none⟩),.int .i64 (if b then 1 else 0)] w fun v w'=>v= .tuple #[]/\WR w0 Z w' g (bits++[b]):=by
 apply call65;unfold wp65 aQq wIq iQq;obtain⟨hf,hg,p,l,c,out,hrow,ho,hgp,⟨hlen,hbits⟩,hZ⟩:=hw;have e2:Int.tdiv (bits.length:Int) 8=((bits.length/8:Nat):Int):=vR _ 8;have e3:Int.tmod (bits.length:Int) 8=((bits.length%8:Nat):Int):=zG _ 8;refine qJ (fun _ w'=>Fr [] w0 w'/\∃p l c out1,hp w' g=Row 139 #[.slice p l c,.int .i64 (bits.length:Int)]/\Own w' (hn w0) 5 1 p l c (bv out1)/\g∉xX p/\out1.length=bits.length/8+1/\
  (∀i,(gb out1 (i/8)).testBit (i%8)=bits.getD i false)/\Keeps Z w' (g::xX p)) ?_ ?_
 ·rintro _ w1 ⟨hf1,p,l,c,out,hrow,ho,hgp,hlen,hbits,hZ⟩
  have hl:l=out.length:=by have:=ho.1;simpa using this.symm
  subst hl;refine qE fun w2 hf2 _ => ?_;have hrow2:=hf2.row0 hrow;have ho2:=ho.fr0 hf2;refine qK hrow2 rfl (qC hrow2 rfl (xK dQ ?_));simp (disch:=omega) only[e2,e3,qA,Int.toNat_natCast];refine gV ho2.has rfl oQ oQ ?_;refine qC hrow2 rfl (xK dQ ?_);rw[e3];refine qU oQ ⟨⟨oQ,oQ⟩,?_⟩;rw[Int.toNat_natCast];have hgl:=yC out (bits.length/8);have hpow:(if b then 1 else 0)*2^(bits.length%8)<256:=by
   have:bits.length%8=0\/bits.length%8=1\/bits.length%8=2\/bits.length%8=3\/bits.length%8=4\/bits.length%8=5\/bits.length%8=6\/bits.length%8=7:=oQ;rcases this with h|h|h|h|h|h|h|h<;>rw[h]<;>cases b<;>decide
  have hor:gb out (bits.length/8)|||((if b then 1 else 0)*2^(bits.length%8))<256:=Nat.or_lt_two_pow (n:=8) hgl hpow;have hval:Value.int .u8 (bOr .u8 (gb out (bits.length/8):Int) (wrap .u8 (xJ .i64 (if b then 1 else 0) ((bits.length%8:Nat):Int))))=u8v (UInt8.ofNat (gb out (bits.length/8)|||((if b then 1 else 0)*2^(bits.length%8)))):=by
   rw[jL,tI oQ oQ,Int.toNat_natCast];have e:((if b then 1 else 0:Int)*2^(bits.length%8))=(((if b then 1 else 0)*2^(bits.length%8):Nat):Int):=by cases b<;>simp
   rw[e,qA oQ oQ,uN oQ oQ,or_u8 oQ oQ oQ oQ,Int.toNat_natCast,Int.toNat_natCast,Nat.mod_eq_of_lt hor]
  rw[hval];refine qDh (hf1.trans hf2) ho2 oQ ?_;intro w3 hf3 hf3' ho3;have hrow3:=hf3'.row hrow2 hgp;refine qC hrow3 rfl (qD hrow3 sQ fun w4 hrow4 hf4 hn4=> ?_);rw[qA oQ oQ]at hrow4;have hn2:=hf2.size;have hn3:=hf3'.size;have hgp':∀a,p=some a ->a.block∉[g]:=fun a ha hx=>by simp at hx;exact hgp (by rw[ha,<-hx];exact uQ)
  have hps:=qCn (b:=b) (y:=UInt8.ofNat (gb out (bits.length/8)|||((if b then 1 else 0)*2^(bits.length%8)))) hlen hbits (by rw[UInt8.toNat_ofNat',Nat.mod_eq_of_lt hor]);refine⟨by trivial,hf3.new1 hf4 hg,hg,p,out.length,c,_,?_,?_,hgp,hps,?_⟩
  ·rw[hrow4];simp
  ·rw[<-iC];exact ho3.fr hf4 hgp'
  ·refine Keeps.fr (Keeps.fr (Keeps.fr hZ hf2 sQ (fun x hx=> .inl hx)) hf3' (fun x hx=> .inl (by simp[hx])) (fun x hx=> .inl hx)) hf4 (fun x hx=> .inl (by simp at hx;simp[hx])) (fun x hx=> .inl hx)
 ·intro J hJ
  refine qC hrow rfl (xK dQ ?_);rw[e3];have hl:l=out.length:=by have:=ho.1;simpa using this.symm
  subst hl;refine qX (fun h=> ?_) (fun h=> ?_)
  ·simp only[beq_iff_eq]at h
   refine qK hrow rfl ?_;refine dB jJ hf ho (cs:= #[u8v 0]) (m:=1) rfl (by simp[u8v,Value.oneCell']) oQ ?_;intro p' c' w1 hf1 hf1' ho1 hsrc;have hrow1:=hf1'.row hrow hgp;refine qD hrow1 sQ fun w2 hrow2 hf2 hn2=> ?_;have hglt:=zM hrow;have hgp':g∉xX p':=fun hx=>by
    rcases hsrc _ hx with h|h
    ·exact hgp h
    ·omega
   refine hJ _ _ ⟨hf1.new1 hf2 hg,p',_,c',out++[0],by rw[hrow2];simp;rfl,?_,hgp',by simp;omega,fun i=>by rw[bG];exact hbits i,?_⟩
   ·have:=ho1.fr hf2 (fun a ha hx=>by simp at hx;exact hgp' (by rw[ha,<-hx];exact uQ))
    simpa using this
   ·refine Keeps.fr (Keeps.fr hZ hf1' (S':=g::xX p') (fun x hx=> .inl (by simp[hx])) (fun x hx=> ?_)) hf2 (fun x hx=> .inl (by simp at hx;simp[hx])) (fun x hx=> .inl hx)
    rcases List.mem_cons.1 hx with rfl|hx
    ·exact .inl sQ
    ·exact(hsrc _ hx).imp (fun h=>by simp[h]) id
  ·simp only[beq_eq_false_iff_ne,ne_eq]at h
   exact hJ _ _ ⟨hf,p,_,c,out,hrow,ho,hgp,oQ,hbits,hZ⟩
def bitsL(v n:Nat):List Bool:=(List.range n).map v.testBit
def rI(v n j:Nat):List Bool:=(List.range j).map fun i=>v.testBit (n -1 -i)
def wordL(v n:Nat):List Bool:=rI v n n
@[simp] theorem bitsL_length (v n:Nat):(bitsL v n).length=n:=by simp[bitsL]
@[simp] theorem wordP_length (v n j:Nat):(rI v n j).length=j:=by simp[rI]
@[simp] theorem wordL_length (v n:Nat):(wordL v n).length=n:=by simp[wordL]
theorem qAm{v k:Nat}(hv:v<4611686018427387904)(hk:k<=62):zF .i64 (qY .i64 (v:Int) (k:Int)) 1=(if v.testBit k then 1 else 0:Int):=by
 have hd:v/2^k<=v:=Nat.div_le_self _ _;rw[qBn oQ oQ oQ,Int.toNat_natCast,Int.toNat_natCast,Nat.testBit_eq_decide_div_mod_eq];generalize v/2^k=q at*;rw[qAi oQ oQ oQ oQ,Int.toNat_natCast];have:(1:Int).toNat=1:=rfl;rw[this,Nat.and_one_is_mod]
 by_cases h:q%2=1
 ·simp[h]
 ·have:q%2=0:=oQ
  simp[this]
theorem c66{w0:wQ}{Z:gI}{g:Nat}{bits:List Bool}{v n:Nat}(hw:WR w0 Z w g bits)(hb:bits.length<549755813888)(hv:v<4611686018427387904)(hn:n<=62):
  CallT Pg 66 #[.pointer (some ⟨g,0,none⟩),.int .i64 v,.int .i64 n] w fun u w'=>u= .tuple #[]/\WR w0 Z w' g (bits++bitsL v n):=by
 apply call66;unfold wp66 wIq iQq;refine qP (fun z w'=>∃k:Nat,z.1=k/\k<=n/\WR w0 Z w' g (bits++bitsL v k)) (fun z _ =>n -z.1.toNat) ⟨0,rfl,oQ,by simpa [bitsL]using hw⟩ ?_;rintro⟨k',⟨⟩⟩ w1 ⟨k,rfl,hk,hw1⟩;dsimp only;refine qF (fun h=> ?_) (fun h=> ?_)
 ·refine qU oQ ?_
  rw[qAm hv oQ];refine CallT.mono (c65 hw1 (by simp;omega) _) ?_;rintro _ w2 ⟨rfl,hw2⟩;refine⟨rfl,?_⟩;rw[qA oQ oQ];refine⟨⟨k+1,sQ,oQ,?_⟩,oQ⟩;have e:bitsL v (k+1)=bitsL v k++[v.testBit k]:=by simp[bitsL,List.range_succ]
  rw[e,<-List.append_assoc];exact hw2
 ·have:k=n:=oQ
  subst this;exact⟨rfl,hw1⟩
theorem c98{w0:wQ}{Z:gI}{g:Nat}{bits:List Bool}{v n:Nat}(hw:WR w0 Z w g bits)(hb:bits.length<549755813888)(hv:v<4611686018427387904)(hn:n<=62):
  CallT Pg 98 #[.pointer (some ⟨g,0,none⟩),.int .i64 v,.int .i64 n] w fun u w'=>u= .tuple #[]/\WR w0 Z w' g (bits++wordL v n):=by
 apply call98;unfold wp98 wIq iQq;rw[qA oQ oQ];refine qP (fun z w'=>∃j:Nat,z.1=(n:Int) -1 -j/\j<=n/\WR w0 Z w' g (bits++rI v n j)) (fun z _ =>(z.1+1).toNat) ⟨0,sQ,oQ,by simpa [rI]using hw⟩ ?_;rintro⟨k',⟨⟩⟩ w1 ⟨j,rfl,hj,hw1⟩;dsimp only;refine qF (fun h=> ?_) (fun h=> ?_)
 ·refine qU oQ ?_
  have e1:(n:Int) -1 -j=((n -1 -j:Nat):Int):=oQ;rw[e1,qAm hv oQ];refine CallT.mono (c65 hw1 (by simp;omega) _) ?_;rintro _ w2 ⟨rfl,hw2⟩;refine⟨rfl,?_⟩;rw[qA oQ oQ];refine⟨⟨j+1,oQ,oQ,?_⟩,oQ⟩;have e:rI v n (j+1)=rI v n j++[v.testBit (n -1 -j)]:=by simp[rI,List.range_succ]
  rw[e,<-List.append_assoc];exact hw2
 ·have:j=n:=oQ
  subst this;exact⟨rfl,hw1⟩
def jU(s:Nat):List Bool:=if s<144 then wordL (48+s) 8 else if s<256 then wordL (256+s) 9 else if s<280 then wordL (s -256) 7 else wordL (s -88) 8
theorem gC(s:Nat):7<=(jU s).length/\(jU s).length<=9:=by unfold jU;split<;>(try split)<;>(try split)<;>simp
theorem c88{w0:wQ}{Z:gI}{g:Nat}{bits:List Bool}{s:Nat}(hw:WR w0 Z w g bits)(hb:bits.length<549755813888)(hs:s<288):
  CallT Pg 88 #[.pointer (some ⟨g,0,none⟩),.int .i64 s] w fun u w'=>u= .tuple #[]/\WR w0 Z w' g (bits++jU s):=by
 apply call88;unfold wp88 wIq iQq;refine qF (fun h=> ?_) (fun h=>qF (fun h'=> ?_) (fun h'=>qF (fun h''=> ?_) (fun h''=> ?_)))
 ·rw[qA oQ oQ,show(48:Int)+(s:Int)=((48+s:Nat):Int) by omega]
  refine CallT.mono (c98 hw hb oQ (n:=8) oQ) ?_;rintro _ w2 ⟨rfl,hw2⟩;exact⟨rfl,rfl,by unfold jU;rw[if_pos oQ];exact hw2⟩
 ·rw[qA oQ oQ,show(256:Int)+(s:Int)=((256+s:Nat):Int) by omega]
  refine CallT.mono (c98 hw hb oQ (n:=9) oQ) ?_;rintro _ w2 ⟨rfl,hw2⟩;exact⟨rfl,rfl,by unfold jU;rw[if_neg oQ,if_pos oQ];exact hw2⟩
 ·rw[qA oQ oQ,show(s:Int) -256=((s -256:Nat):Int) by omega]
  refine CallT.mono (c98 hw hb oQ (n:=7) oQ) ?_;rintro _ w2 ⟨rfl,hw2⟩;exact⟨rfl,rfl,by unfold jU;rw[if_neg oQ,if_neg oQ,if_pos oQ];exact hw2⟩
 ·rw[qA oQ oQ,show(s:Int) -88=((s -88:Nat):Int) by omega]
  refine CallT.mono (c98 hw hb oQ (n:=8) oQ) ?_;rintro _ w2 ⟨rfl,hw2⟩;exact⟨rfl,rfl,by unfold jU;rw[if_neg oQ,if_neg oQ,if_neg oQ];exact hw2⟩
def lenOf(s:Nat):Nat×Nat:=if s=285 then(258,0)else if s<265 then(s -254,0)else(3+(4+(s -257)%4)*2^((s -257)/4 -1),(s -257)/4 -1)
def zD(k:Nat):Nat×Nat:=if k<4 then(1+k,0)else(1+(2+k%2)*2^(k/2 -1),k/2 -1)
theorem c99{s:Nat}(h1:257<=s)(h2:s<=285):CallT Pg 99 #[.int .i64 s] w fun v w'=>v= .tuple #[.int .i64 (lenOf s).1,.int .i64 (lenOf s).2]/\w'=w:=by
 apply call99;unfold wp99 wIq iQq;have e0:wrap .i64 ((s:Int) -257)=((s -257:Nat):Int):=by rw[qA oQ oQ];omega
 rw[e0];have e2:Int.tdiv ((s -257:Nat):Int) 4=(((s -257)/4:Nat):Int):=vR _ 4;have e3:Int.tmod ((s -257:Nat):Int) 4=(((s -257)%4:Nat):Int):=zG _ 4;unfold lenOf;refine qX (fun h=> ?_) (fun h=>qF (fun h'=> ?_) (fun h'=> ?_))
 ·simp only[beq_iff_eq]at h
  rw[if_pos oQ];exact⟨rfl,rfl⟩
 ·simp only[beq_eq_false_iff_ne,ne_eq]at h
  rw[if_neg oQ,if_pos oQ,qA oQ oQ];refine⟨?_,rfl⟩;rw[show(3:Int)+((s -257:Nat):Int)=((s -254:Nat):Int) by omega];rfl
 ·simp only[beq_eq_false_iff_ne,ne_eq]at h
  rw[if_neg oQ,if_neg oQ];refine xK dQ (xK dQ ?_);have hp:2^((s -257)/4 -1)<=2^6:=Nat.pow_le_pow_right dQ oQ;have hm:(4+(s -257)%4)*2^((s -257)/4 -1)<=7*2^6:=Nat.mul_le_mul oQ hp;have e4:(((s -257)/4:Nat):Int) -1=(((s -257)/4 -1:Nat):Int):=oQ;have e5:(4:Int)+(((s -257)%4:Nat):Int)=((4+(s -257)%4:Nat):Int):=oQ;have e6:(((4+(s -257)%4:Nat):Int)*2^((s -257)/4 -1))=(((4+(s -257)%4)*2^((s -257)/4 -1):Nat):Int):=by simp
  simp (disch:=omega) only[e2,e3,e4,e5,qA,tI,Int.toNat_natCast,e6];refine qU oQ (xK dQ ⟨?_,by trivial⟩)
  congr 3
theorem c100{k:Nat}(h2:k<=29):CallT Pg 100 #[.int .i64 k] w fun v w'=>v= .tuple #[.int .i64 (zD k).1,.int .i64 (zD k).2]/\w'=w:=by
 apply call100;unfold wp100 wIq iQq;have e2:Int.tdiv (k:Int) 2=((k/2:Nat):Int):=vR _ 2;have e3:Int.tmod (k:Int) 2=((k%2:Nat):Int):=zG _ 2;unfold zD;refine qF (fun h'=> ?_) (fun h'=> ?_)
 ·rw[if_pos oQ,qA oQ oQ]
  refine⟨?_,rfl⟩;rw[show(1:Int)+(k:Int)=((1+k:Nat):Int) by omega];rfl
 ·rw[if_neg oQ]
  refine xK dQ (xK dQ ?_);have hp:2^(k/2 -1)<=2^14:=Nat.pow_le_pow_right dQ oQ;have hm:(2+k%2)*2^(k/2 -1)<=3*2^14:=Nat.mul_le_mul oQ hp;have e4:((k/2:Nat):Int) -1=((k/2 -1:Nat):Int):=oQ;have e5:(2:Int)+((k%2:Nat):Int)=((2+k%2:Nat):Int):=oQ;have e6:(((2+k%2:Nat):Int)*2^(k/2 -1))=(((2+k%2)*2^(k/2 -1):Nat):Int):=by simp
  simp (disch:=omega) only[e2,e3,e4,e5,qA,tI,Int.toNat_natCast,e6];refine qU oQ (xK dQ ⟨?_,by trivial⟩)
  congr 3
end
end Go.Proofs
