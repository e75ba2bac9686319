/- Contracts of the law and of what it walks -/
import Derived.Test.YtklagmhonmbdgaaGreatDoorK4
set_option maxRecDepth 1000000
set_option linter.unusedVariables false
set_option linter.unusedSimpArgs false
set_option maxHeartbeats 4000000
namespace Go.V
open Go
open Go.IntKind (wrap)
section
variable{wr:Op ->Bool}{P:Program}{ops:Array Oper}{K:Act ->World ->Prop}
def qLb(wr:Op ->Bool)(P:Program)(ops:Array Oper)(j:Nat)(N:Act ->World ->Prop)(a:Act)(w:wQ):Prop:=
 match ops[j]? with
 |none=>False
 |some o=>if Region.wanted o (yielded ops a.tmps)=true then(if wr o.op then o.wp P a w N noEx else∃v,(execOp a.eval o).run P w= .ok (.value v) w/\N (a.put o.dst v) w)else N (a.put o.dst undef) w
def qLo(wr:Op ->Bool)(P:Program)(ops:Array Oper)(K:Act ->World ->Prop)(ps:oT):Nat ->Array Bool ->Act ->World ->Prop
 |0,listed,a,w=>Region.ready .any ops listed=[]/\K a w
 |f+1,listed,a,w=>(Region.ready .any ops listed=[] ->K a w)/\
  ∀j∈Region.ready .any ops listed,qLb wr P ops j (fun a' w'=>(isW wr ops j ->w'=w\/Oblig P ops ps j w')/\qLo wr P ops K ps f (listed.setIfInBounds j true) a' w') a w
theorem qLi{j:Nat}{N N':Act ->World ->Prop}{a:Act}{w:wQ}(h:∀a w,N a w ->N' a w)(hh:qLb wr P ops j N a w):qLb wr P ops j N' a w:=by
 unfold qLb at*
 split
 ·rename_i e;simp[e]at hh
 ·rename_i o e
  simp only[e]at hh
  split at hh
  ·rename_i hg
   rw[if_pos hg]
   split at hh
   ·rename_i hw;simp only[hw,if_true];exact Oper.wp_mono h hh
   ·rename_i hw;simp only[hw];obtain⟨v,h1,h2⟩:=hh;exact⟨v,h1,h _ _ h2⟩
  ·rename_i hg
   rw[if_neg hg];exact h _ _ hh
theorem qKs{ps ps':oT}(hs:∀x∈ps,x∈ps'):∀{f:Nat} {listed:Array Bool} {a:Act} {w:wQ},qLo wr P ops K ps' f listed a w ->qLo wr P ops K ps f listed a w
 |0,_,_,_,h=>h
 |_ +1,_,_,_,h=>⟨h.1,fun j hj=>qLi (fun _ _ ⟨h1,h2⟩=>⟨fun hw=>(h1 hw).imp id (fun h x hx=>h x (hs x hx)),qKs hs h2⟩) (h.2 j hj)⟩
def qLe(wr:Op ->Bool)(ops:Array Oper):Bool:=
 let t:=cM ops
 (List.range ops.size).all fun j=>
  match ops[j]? with
  |none=>false
  |some oj=>
   (uX oj).all (·<j)&&(match oj.op with| .select .. =>false|_ =>true)&&
   (List.range j).all fun k=>(t.getD j []).contains k||(match ops[k]? with|none=>false|some ok=>(wr oj.op&&wr ok.op)||(ok.apart ops oj&&oj.apart ops ok))
theorem qKt(h:qLe wr ops=true){j:Nat}{oj:Oper}(hj:ops[j]? =some oj):
  (∀p∈uX oj,p<j)/\(∀cs b,oj.op≠ .select cs b)/\
  ∀k ok,k<j ->ops[k]? =some ok ->k∈(cM ops).getD j []\/(wr oj.op=true/\wr ok.op=true)\/(ok.apart ops oj=true/\oj.apart ops ok=true):=by
 have hlt:=(Array.getElem?_eq_some_iff.1 hj).1;have h':=List.all_eq_true.1 h j (List.mem_range.2 hlt);simp only[hj,Bool.and_eq_true,List.all_eq_true,decide_eq_true_eq,Bool.or_eq_true]at h';obtain⟨⟨h1,h2⟩,h4⟩:=h';refine⟨h1,fun cs b e=>by simp[e]at h2,fun k ok hk hok=> ?_⟩;rcases h4 k (List.mem_range.2 hk)with h5|h5
 ·exact .inl (by simpa using h5)
 ·simp only[hok,Bool.or_eq_true,Bool.and_eq_true]at h5
  exact .inr h5
theorem qLj(h:qLe wr ops=true){listed:Array Bool}(inv:Inv ops listed){i j:Nat}{oi oj:Oper}(hi:i∈Region.ready .any ops listed)(hj:j∈Region.ready .any ops listed)(hij:j≠i)
  (hoi:ops[i]? =some oi)(hoj:ops[j]? =some oj)(hri:wr oi.op=false):oi.apart ops oj=true/\i∉(cM ops).getD j []:=by
 obtain⟨hilt,hiu,oi',hoi',hwi⟩:=uE hi;obtain⟨hjlt,hju,oj',hoj',hwj⟩:=uE hj;have e1:oi'=oi:=Option.some.inj (hoi'.symm.trans hoi);have e2:oj'=oj:=Option.some.inj (hoj'.symm.trans hoj);subst e1;subst e2;rw[lL (by rw[inv.size];exact hilt)]at hiu;rw[lL (by rw[inv.size];exact hjlt)]at hju;have hna:∀{x y:Nat} {oy:Oper},ops[y]? =some oy ->(∀p∈uX oy,listed.getD p false=true) ->listed.getD x false=false ->x∉(cM ops).getD y []:=by
  intro x y oy hy hw hx hmem;have:=fU (ops:=ops) (S:=fun p=>listed.getD p false=true) (fun k ok hk hs=>inv.closed k ok hk hs) hy hw x hmem;rw[hx]at this;cases this
 refine⟨?_,hna hoj hwj hiu⟩;rcases Nat.lt_or_ge i j with hlt|hge
 ·rcases(qKt h hoj).2.2 i oi' hlt hoi with h1|⟨_,h2⟩|⟨h1,_⟩
  ·exact absurd h1 (hna hoj hwj hiu)
  ·rw[hri]at h2;cases h2
  ·exact h1
 ·have hlt:j<i:=oQ
  rcases(qKt h hoi).2.2 j oj' hlt hoj with h1|⟨h2,_⟩|⟨_,h1⟩
  ·exact absurd h1 (hna hoi hwi hju)
  ·rw[hri]at h2;cases h2
  ·exact h1
theorem qLw{j:Nat}{oi oj:Oper}(hoj:ops[j]? =some oj)(hap:oi.apart ops oj=true)(hsi:∀cs b,oi.op≠ .select cs b)(hsj:∀cs b,oj.op≠ .select cs b){N:Act ->World ->Prop}{a:Act}{v:Value}{w:wQ}
  (h:qLb wr P ops j N (a.put oi.dst v) w):qLb wr P ops j (fun a' w'=>N (a'.put oi.dst v) w'/\execOp a'.eval oi=execOp a.eval oi/\Region.wanted oi (yielded ops a'.tmps)=Region.wanted oi (yielded ops a.tmps)/\(wr oj.op=false ->w'=w)) a w:=by
 obtain⟨h1,h2,h3⟩:=Oper.apart_spec hap;have keep:∀(b:Act) (u:Value),b.eval=a.eval ->execOp (b.put oj.dst u).eval oi=execOp a.eval oi:=by
  intro b u hb;rw[execOp_put (ops:=ops) oi hsi b oj.dst u h3,hb]
 have keepw:∀(b:Act) (u:Value),b.tmps=a.tmps ->Region.wanted oi (yielded ops (b.put oj.dst u).tmps)=Region.wanted oi (yielded ops a.tmps):=by
  intro b u hb;rw[wanted_put oi b oj.dst u h3,hb]
 unfold qLb at*;simp only[hoj]at h⊢;rw[wanted_put oj a oi.dst v h1]at h
 split
 ·rename_i hg
  rw[if_pos hg]at h
  split
  ·rename_i hw
   simp only[hw,if_true]at h;unfold Oper.wp at*;rw[execOp_put (ops:=ops) oj hsj a oi.dst v h1]at h;generalize(execOp a.eval oj).run P w=r at*
   cases r with
   |ok n w'=>
    cases n<;>simp only[Oper.upon]at h⊢
    case value u=>exact⟨by rw[Act.put_comm a v u h2]at h;exact h,keep a u rfl,keepw a u rfl,fun e=>by rw[hw]at e;cases e⟩
    case skip=>exact⟨by rw[Act.put_comm a v undef h2]at h;exact h,keep a undef rfl,keepw a undef rfl,fun e=>by rw[hw]at e;cases e⟩
    case defer d=>
     refine⟨?_,keep _ undef (pJ _ _),keepw _ undef rfl,fun e=>by rw[hw]at e;cases e⟩;rw[Act.put_defers,Act.put_comm _ v undef h2]at h;exact h
    case enter f args=>
     refine Calls.mono h fun e w'' he=> ?_
     cases e with
     |returned u=>
      have he:N ((a.put oi.dst v).put oj.dst u) w'':=he;exact⟨by rw[Act.put_comm a v u h2]at he;exact he,keep a u rfl,keepw a u rfl,fun e=>by rw[hw]at e;cases e⟩
     |panicked c=>exact he
     |outgrown=>exact he
    case row row args=>
     refine Rows.mono h fun u w'' he=> ?_;exact⟨by rw[Act.put_comm a v u h2]at he;exact he,keep a u rfl,keepw a u rfl,fun e=>by rw[hw]at e;cases e⟩
   |halt x w'=>cases x<;>simp only[Oper.upon]at h⊢<;>first|exact h|exact h.elim
  ·rename_i hw
   simp only[hw]at h;obtain⟨u,hu,hn⟩:=h;rw[execOp_put (ops:=ops) oj hsj a oi.dst v h1]at hu;exact⟨u,hu,by rw[Act.put_comm a v u h2]at hn;exact hn,keep a u rfl,keepw a u rfl,by first|trivial|exact fun _ =>rfl|exact fun _ =>trivial⟩
 ·rename_i hg
  rw[if_neg hg]at h;exact⟨by rw[Act.put_comm a v undef h2]at h;exact h,keep a undef rfl,keepw a undef rfl,by first|trivial|exact fun _ =>rfl|exact fun _ =>trivial⟩
def qLk(P:Program)(ops:Array Oper)(oi:Oper)(a:Act)(w:wQ)(v:Value)(per:Prop):Prop:=
 (Region.wanted oi (yielded ops a.tmps)=true/\(execOp a.eval oi).run P w= .ok (.value v) w/\per)\/(Region.wanted oi (yielded ops a.tmps)=false/\v=undef)
theorem qLa{oi:Oper}{i:Nat}{a:Act}{w:wQ}{v:Value}{per:Prop}{N:Act ->World ->Prop}(hoi:ops[i]? =some oi)(hri:wr oi.op=false)(hrun:qLk P ops oi a w v per)(h:N (a.put oi.dst v) w):qLb wr P ops i N a w:=by
 unfold qLb;simp only[hoi,hri,Bool.false_eq_true,if_false];rcases hrun with⟨hg,hr,_⟩|⟨hg,rfl⟩
 ·rw[if_pos hg]
  exact⟨v,hr,h⟩
 ·rw[if_neg (by rw[hg];decide)]
  exact h
theorem qKv(hd:qLe wr ops=true){ps ps':oT}(hs:∀x∈ps,x∈ps'){i:Nat}{oi:Oper}(hoi:ops[i]? =some oi)(hri:wr oi.op=false){v:Value}:
  ∀(f:Nat) (listed:Array Bool) (a:Act) (w:wQ),Inv ops listed ->i∈Region.ready .any ops listed ->
   qLk P ops oi a w v ((∀w',(execOp a.eval oi).run P w'= .ok (.value v) w')\/(i,execOp a.eval oi,v)∈ps') ->
   qLo wr P ops K ps' f (listed.setIfInBounds i true) (a.put oi.dst v) w ->qLo wr P ops K ps (f+1) listed a w:=by
 have hsi:=(qKt hd hoi).2.1;intro f
 induction f with
 |zero=>
  intro listed a w inv hi hrun H;refine⟨fun h=>(by rw[h]at hi;cases hi),fun j hj=> ?_⟩
  by_cases hji:j=i
  ·subst hji
   exact qLa hoi hri hrun ⟨fun hw=>(by have:=hw oi hoi;rw[hri]at this;cases this),qKs hs H⟩
  ·have:=sP inv hj hji
   rw[H.1]at this
   cases this
 |succ f ih=>
  intro listed a w inv hi hrun H;refine⟨fun h=>(by rw[h]at hi;cases hi),fun j hj=> ?_⟩
  by_cases hji:j=i
  ·subst hji
   exact qLa hoi hri hrun ⟨fun hw=>(by have:=hw oi hoi;rw[hri]at this;cases this),qKs hs H⟩
  ·obtain⟨hjlt,_,oj,hoj,hwj⟩:=uE hj
   obtain⟨hap,hna⟩:=qLj hd inv hi hj hji hoi hoj hri;have H':=H.2 j (sP inv hj hji);have H':=qLw hoj hap hsi (qKt hd hoj).2.1 H';refine qLi ?_ H';rintro a' w' ⟨⟨hob,hwp⟩,hex,hwn,hsame⟩;refine⟨fun hw=>(hob hw).imp id (fun h x hx=>h x (hs x hx)),?_⟩;have hrun':qLk P ops oi a' w' v ((∀w',(execOp a'.eval oi).run P w'= .ok (.value v) w')\/(i,execOp a'.eval oi,v)∈ps'):=by
    unfold qLk;rw[hwn,hex];rcases hrun with⟨hg,hr,hper⟩|⟨hg,hv⟩
    ·refine .inl ⟨hg,?_,hper⟩
     cases hwr:wr oj.op with
     |false=>rw[hsame hwr];exact hr
     |true=>
      rcases hper with hall|hmem
      ·exact hall w'
      ·rcases hob (fun o ho=>by have:o=oj:=Option.some.inj (ho.symm.trans hoj);rw[this];exact hwr)with rfl|hob
       ·exact hr
       ·exact hob _ hmem hna
    ·exact .inr ⟨hg,hv⟩
   refine ih (listed.setIfInBounds j true) a' w' (dY inv hj) (sP inv hi (Ne.symm hji)) hrun' ?_;rw[Array.setIfInBounds_comm _ _ (by exact fun e=>hji e)];exact hwp
theorem qKo{Q:Exit ->Act ->World ->Prop}(hK:∀a w,K a w ->Q .normal a w):∀{f:Nat} {listed:Array Bool} {a:Act} {w:wQ},qLo wr P ops K [] f listed a w ->wpAny P .any ops Q f listed a w
 |0,_,_,_,h=>⟨h.1,hK _ _ h.2⟩
 |f+1,listed,a,w,h=>⟨fun h0=>hK _ _ (h.1 h0),fun j hj=>by
  have h':=h.2 j hj;obtain⟨_,_,oj,hoj,_⟩:=uE hj;unfold qLb at h';unfold wpOp;simp only[hoj]at h'⊢
  split at h'
  ·rename_i hg
   rw[if_pos hg];refine .inl ?_
   split at h'
   ·exact Oper.wp_mono (fun a w h=>qKo hK h.2) (qKi h')
   ·obtain⟨v,h1,h2⟩:=h'
    simp only[Oper.wp,h1,Oper.upon_value];exact qKo hK h2.2
  ·rename_i hg
   rw[if_neg hg];exact qKo hK h'.2⟩
theorem qMf{id:Nat}{Q:Exit ->Act ->World ->Prop}{a:Act}{w:wQ}(hm:P.follows .mixedOrders=true)(hK:∀a w,K a w ->Q .normal a w)
  (h:qLo wr P ops K [] ops.size (Array.replicate ops.size false) a {w with drawn:=w.drawn+1}):(Code.region id ops true).wp P Q a w:=
 wp_region_any hm (qKo hK h)
end
section
variable(P:Program)(G:Nat ->Bool)
def qLs(ops:Array Oper)(o:Oper)(dec:List Nat)(e:Env)(X:Bool ->List Nat ->Env ->Prop):Prop:=
 match o.guard with
 |none=>X true dec e
 |some (j,want)=>match fJ ops j with
  |none=>False
  |some d=>match e.get d with
   |some (.bool t)=>match qAg dec d with
    |true=>match t with
     |true=>X want dec e
     |false=>match want with|true=>X false dec e|false=>X true dec e
    |false=>match want with
     |true=>IfC t (X true (d::dec) ((d,.bool true)::e)) (X false (d::dec) ((d,.bool false)::e))
     |false=>IfC t (X false (d::dec) ((d,.bool true)::e)) (X true (d::dec) ((d,.bool false)::e))
   |some (.tuple _)=>X false dec e
   |_ =>False
def qKq(ops:Array Oper):Nat ->Array Bool ->List Nat ->Pend ->Env ->World ->(Env ->World ->Prop) ->Prop
 |0,listed,_,_,e,w,K=>match Region.ready .any ops listed with|[]=>K e w|_ ::_ =>False
 |f+1,listed,dec,ps,e,w,K=>match Region.ready .any ops listed with
  |[]=>K e w
  |j0::js=>match jM P ops (j0::js)with
   |some i=>match ops[i]? with
    |none=>False
    |some o=>qLs ops o dec e fun b dec e=>match b with
     |true=>sN P w e o.op fun v=>qKq ops f (listed.setIfInBounds i true) dec ((i,e,v)::ps) (e.put o.dst v) w K
     |false=>qKq ops f (listed.setIfInBounds i true) dec ps (e.put o.dst undef) w K
   |none=>qFv (j0::js) fun j=>match ops[j]? with
    |none=>False
    |some o=>qLs ops o dec e fun b dec e=>match b with
     |true=>bE P G w e o.op o.type fun v w'=>fL P ops w' j ps (qKq ops f (listed.setIfInBounds j true) dec ps (e.put o.dst v) w' K)
     |false=>qKq ops f (listed.setIfInBounds j true) dec ps (e.put o.dst undef) w K
end
section
variable{P:Program}{G:Nat ->Bool}{n:Nat}{dfs:List Deferred}
theorem qLh{ops:Array Oper}{o:Oper}{dec:List Nat}{e:Env}{a:Act}{X:Bool ->List Nat ->Env ->Prop}(hr:Rep n dfs e a)(h:qLs ops o dec e X):
  ∃b dec' e',X b dec' e'/\Rep n dfs e' a/\Region.wanted o (yielded ops a.tmps)=b:=by
 unfold qLs at h
 split at h
 ·rename_i hg
  exact⟨true,dec,e,h,hr,by simp[Region.wanted,hg]⟩
 ·rename_i j want hg
  split at h
  ·exact h.elim
  ·rename_i d hd
   split at h
   ·rename_i t ht
    have hy:=iW hr hd ht
    split at h
    ·cases t with
     |true=>exact⟨want,dec,e,h,hr,by cases want<;>simp[Region.wanted,hg,hy]⟩
     |false=>
      cases want with
      |true=>exact⟨false,dec,e,h,hr,by simp[Region.wanted,hg,hy]⟩
      |false=>exact⟨true,dec,e,h,hr,by simp[Region.wanted,hg,hy]⟩
    ·split at h
     ·rcases bG h with⟨rfl,h⟩|⟨rfl,h⟩
      ·exact⟨true,_,_,h,hr.same (qGl ht),by simp[Region.wanted,hg,hy]⟩
      ·exact⟨false,_,_,h,hr.same (qGl ht),by simp[Region.wanted,hg,hy]⟩
     ·rcases bG h with⟨rfl,h⟩|⟨rfl,h⟩
      ·exact⟨false,_,_,h,hr.same (qGl ht),by simp[Region.wanted,hg,hy]⟩
      ·exact⟨true,_,_,h,hr.same (qGl ht),by simp[Region.wanted,hg,hy]⟩
   ·rename_i vs ht
    have hy:=iW hr hd ht;exact⟨false,dec,e,h,hr,by simp[Region.wanted,hg,hy]⟩
   ·exact h.elim
theorem qLn(hG:kE P G){ops:Array Oper}{K:Env ->World ->Prop}{K':Act ->World ->Prop}{ds:List Nat}{a0:Act}(hok:qLe (wrP P) ops=true)
  (hds:∀(j:Nat) (o:Oper) (d:Nat),ops[j]? =some o ->o.dst=some d ->d<n/\d∈ds)(hK:∀e a w,Rep n dfs e a ->Ext ds a0 a ->K e w ->K' a w):
  ∀(f:Nat) (listed:Array Bool) (dec:List Nat) (L:Kept) (e:Env) (a:Act) (w:wQ),Inv ops listed ->(∀x∈L,ops[x.1]? =some x.2.2.2.2/\Rep n dfs x.2.1 x.2.2.2.1) ->Rep n dfs e a ->Ext ds a0 a ->
   qKq P G ops f listed dec (pR L) e w K ->qLo (wrP P) P ops K' (qCj L) f listed a w:=by
 intro f
 induction f with
 |zero=>
  intro listed dec L e a w _ _ hr hx h;simp only[qKq]at h
  split at h
  ·rename_i h0;exact⟨h0,hK e a w hr hx h⟩
  ·exact h.elim
 |succ f ih=>
  intro listed dec L e a w inv hL hr hx h;have hput:∀{j:Nat} {o:Oper} {e:Env} {a:Act} (v:Value),ops[j]? =some o ->Rep n dfs e a ->Ext ds a0 a ->Rep n dfs (e.put o.dst v) (a.put o.dst v)/\Ext ds a0 (a.put o.dst v):=by
   intro j o e a v ho hr hx;exact⟨hr.put (fun d hd=>(hds j o d ho hd).1) v,hx.put fun d hd=>(hds j o d ho hd).2⟩
  simp only[qKq]at h
  split at h
  ·rename_i h0
   exact⟨fun _ =>hK e a w hr hx h,fun j hj=>by rw[h0]at hj;cases hj⟩
  ·rename_i j0 js h0
   split at h
   ·rename_i i hi
    obtain⟨hmem,hread⟩:=kY hi;rw[<-h0]at hmem
    split at h
    ·exact h.elim
    ·rename_i o ho
     have hw:=hread o ho;obtain⟨b,dec',e',hX,hr2,hwant⟩:=qLh hr h
     cases b with
     |true=>
      obtain⟨v,hv,hk⟩:=sO hr2 hX;obtain⟨hr',hx'⟩:=hput v ho hr2 hx;refine qKv (ps':=qCj ((i,e',v,a,o)::L)) hok (fun x hx=>List.mem_cons_of_mem _ hx) ho hw f listed a w inv hmem (.inl ⟨hwant,hv,.inr (by simp[qCj])⟩) ?_;refine ih _ _ ((i,e',v,a,o)::L) _ _ _ (dY inv hmem) ?_ hr' hx' hk;intro x hx;rcases List.mem_cons.1 hx with rfl|hx
      ·exact⟨ho,hr2⟩
      ·exact hL x hx
     |false=>
      obtain⟨hr',hx'⟩:=hput undef ho hr2 hx;exact qKv (ps':=qCj L) hok (fun x hx=>hx) ho hw f listed a w inv hmem (.inr ⟨hwant,rfl⟩) (ih _ _ L _ _ _ (dY inv hmem) hL hr' hx' hX)
   ·rename_i hnone
    have h:=bU h;refine⟨fun e0=>(by rw[h0]at e0;cases e0),fun j hj=> ?_⟩;have hj':=hj;rw[h0]at hj';have h:=h j hj'
    split at h
    ·exact h.elim
    ·rename_i o ho
     have hw:=kX hnone j hj' o ho;obtain⟨b,dec',e',hX,hr2,hwant⟩:=qLh hr h;unfold qLb;simp only[ho,hw,if_true]
     cases b with
     |true=>
      rw[if_pos hwant];refine lU hG hr2 (K:=fun v w'=>fL P ops w' j (pR L) (qKq P G ops f (listed.setIfInBounds j true) dec' (pR L) (e'.put o.dst v) w' K)) (fun v w' hv=> ?_) hX;obtain⟨h1,h2⟩:=sJ hL hv;obtain⟨hr',hx'⟩:=hput v ho hr2 hx;refine⟨fun _ => .inr fun x hx hn=> ?_,ih _ _ L _ _ _ (dY inv hj) hL hr' hx' h1⟩;obtain⟨y,hy,rfl⟩:=List.mem_map.1 hx;exact h2 y hy hn
     |false=>
      rw[if_neg (by rw[hwant];decide)];obtain⟨hr',hx'⟩:=hput undef ho hr2 hx;exact⟨fun _ => .inl (by first|trivial|rfl),ih _ _ L _ _ _ (dY inv hj) hL hr' hx' hX⟩
def preJ(P:Program)(G:Nat ->Bool)(ann:Nat ->Option (Lv×List Nat)):Nat ->Nat ->Code ->(Exit ->Env ->World ->Prop) ->(Env ->World ->Prop) ->Env ->World ->Prop
 |0,_,_,_,M,e,w=>M e w
 |n+1,b,.seq x y,K,M,e,w=>match ann b with
  |none=>vc P G ann (b+1) x (fun ex e w=>match ex with| .normal=>preJ P G ann n (b+1+Code.sz x) y K M e w|ex=>K ex e w) e w
  |some (ls,ks)=>xK (fun(z:ST ls) w=>preJ P G ann n (b+1+Code.sz x) y K M (rJ ls z++rQ (Code.dsts x) e ks) w)
    (fun J=>vc P G ann (b+1) x (fun ex e w=>match ex with| .normal=>dK ls e fun z=>J z w|ex=>K ex e w) e w)
 |_,_,_,_,_,_,_ =>False
theorem qKx(hm:P.follows .mixedOrders=true)(hG:kE P G){ann:Nat ->Option (Lv×List Nat)}{N:Nat}{dfs:List Deferred}{K:Exit ->Env ->World ->Prop}{M:Env ->World ->Prop}:
  ∀(n b:Nat) (c:Code) (e:Env) (a:Act) (w:wQ),(∀d∈Code.dsts c,d<N) ->preJ P G ann n b c K M e w ->Rep N dfs e a ->∀{Q:Exit ->Act ->World ->Prop},
   (∀ex e' a' w',ex≠ .normal ->Rep N dfs e' a' ->K ex e' w' ->Q ex a' w') ->(∀e' a' w',Rep N dfs e' a' ->M e' w' ->(fY n c).wp P Q a' w') ->c.wp P Q a w
 |0,b,c,e,a,w,_,h,hr,Q,_,hM=>hM e a w hr h
 |n+1,b,.seq x y,e,a,w,hd,h,hr,Q,hK,hM=>by
  have hdx:∀d∈Code.dsts x,d<N:=fun d h=>hd d (List.mem_append_left _ h);have hdy:∀d∈Code.dsts y,d<N:=fun d h=>hd d (List.mem_append_right _ h);refine wp_seq ?_;simp only[preJ]at h
  split at h
  ·refine wp_mono (tC hm hG x _ _ _ _ _ hdx h hr) ?_
   rintro ex a1 w1 ⟨e1,hr1,hx1,hk⟩
   cases ex with
   |normal=>exact qKx hm hG n _ y e1 a1 w1 hdy hk hr1 hK hM
   |_ =>exact hK _ e1 a1 w1 sQ hr1 hk
  ·rename_i ls ks hls
   unfold xK at h;refine wp_mono (tC hm hG x _ _ _ _ _ hdx h hr) ?_;rintro ex a1 w1 ⟨e1,hr1,hx1,hk⟩
   cases ex with
   |normal=>
    obtain⟨z,hz,hk⟩:=gD hk;exact qKx hm hG n _ y _ a1 w1 hdy hk (aP hr hr1 hx1 hz) hK hM
   |_ =>exact hK _ e1 a1 w1 sQ hr1 hk
 |n+1,b,.skip,_,_,_,_,h,_,_,_,_ |n+1,b,.label _,_,_,_,_,h,_,_,_,_ |n+1,b,.exit _,_,_,_,_,h,_,_,_,_ |n+1,b,.goto _,_,_,_,_,h,_,_,_,_ |n+1,b,.ret,_,_,_,_,h,_,_,_,_ |n+1,b,.region ..,_,_,_,_,h,_,_,_,_ |n+1,b,.cond ..,_,_,_,_,h,_,_,_,_ |n+1,b,.block ..,_,_,_,_,h,_,_,_,_ |n+1,b,.loop ..,_,_,_,_,h,_,_,_,_ |n+1,b,.scope ..,_,_,_,_,h,_,_,_,_ |n+1,b,.refuse ..,_,_,_,_,h,_,_,_,_ |n+1,b,.rangeFunc ..,_,_,_,_,h,_,_,_,_ =>h.elim
def qKu:Code ->Array Oper| .seq (.region _ ops true) _ =>ops|_ => #[]
theorem qLc{k:Nat}(hm:P.follows .mixedOrders=true)(hG:kE P G){ann ann2:Nat ->Option (Lv×List Nat)}{f:FuncId}{fn:Func}{c:Code}{args:List Value}{w:wQ}{R:Value ->World ->Prop}(hf:P.funcs[f]? =some fn)(hb:fn.body=some c)
  (hd:okD fn.ntmps (Code.dsts c)=true)(hdr:okD fn.ntmps (Code.dsts (fY k c))=true)(hn:Nat.ble args.length fn.ntmps=true){id:Nat}(hc:fY k c= .seq (.region id (qKu (fY k c)) true) (eJ (fY k c)))(hok:qLe (wrP P) (qKu (fY k c))=true)
  (h:preJ P G ann k 0 c (fR P fn.results.toList R) (fun e w=>qO w fun w=>qKq P G (qKu (fY k c)) (qKu (fY k c)).size (Array.replicate (qKu (fY k c)).size false) [] [] e w fun e w=>vc P G ann2 0 (eJ (fY k c)) (fR P fn.results.toList R) e w) (kF 0 args) w):CallT P f args.toArray w R:=by
 have hn:=Nat.le_of_ble_eq_true hn;refine calls_of_wp hf hb ?_;have hr:Rep fn.ntmps [] (kF 0 args) {tmps:=args.toArray++Array.replicate (fn.ntmps -args.toArray.size) undef,defers:=[]}:=by
  refine⟨by simp;omega,fun s v hs=> ?_,rfl⟩;obtain⟨_,h2⟩:=kQ hs;have hlt:s<args.length:=by simpa using(List.getElem?_eq_some_iff.1 h2).1
  refine⟨oQ,?_⟩;simp only[Array.getD_eq_getD_getElem?];rw[Array.getElem?_append_left (by simpa using hlt)];simp at h2;simp[h2]
 refine qKx hm hG k 0 c _ _ _ (rD hd) h hr ?_ ?_
 ·rintro ex e' a' w' _ hr' hk
  cases ex with
  |normal=>contradiction
  |ret=>
   obtain⟨v,h1,h2⟩:=yO hr' hk;exact⟨hr'.defers,v,h1,v,rfl,h2⟩
  |_ =>exact hk.elim
 ·intro e1 a1 w1 hr1 hM
  have hds:=rD hdr;rw[hc]at hds⊢;have hdo:∀d∈jA (qKu (fY k c)).toList,d<fn.ntmps:=fun d hd=>hds d (List.mem_append_left _ hd);refine wp_seq (qMf (wr:=wrP P) (K:=fun a' w'=>∃e',Rep fn.ntmps [] e' a'/\vc P G ann2 0 (eJ (fY k c)) (fR P fn.results.toList R) e' w') hm ?_ ?_)
  ·rintro a' w' ⟨e',hr',hk⟩
   refine wp_mono (tC hm hG _ 0 _ _ _ w' (fun d hd=>hds d (List.mem_append_right _ hd)) hk hr') ?_;rintro ex a2 w2 ⟨e2,hr2,_,hk2⟩
   cases ex with
   |normal=>
    obtain⟨v,h1,h2⟩:=yO hr2 hk2;exact⟨hr2.defers,v,h1,v,rfl,h2⟩
   |ret=>
    obtain⟨v,h1,h2⟩:=yO hr2 hk2;exact⟨hr2.defers,v,h1,v,rfl,h2⟩
   |_ =>exact hk2.elim
  ·exact qLn hG (ds:=jA (qKu (fY k c)).toList) (a0:=a1) hok (fun j o d ho hd=>⟨hdo d (sL (Array.mem_toList_iff.2 (Array.mem_of_getElem? ho)) hd),sL (Array.mem_toList_iff.2 (Array.mem_of_getElem? ho)) hd⟩) (fun e' a' w' h1 h2 h3=>⟨e',h1,h3⟩) _ _ [] [] e1 a1 _ qDp (fun x hx=>by cases hx) hr1 (Ext.refl _ _) hM
end
end Go.V
namespace Go.Proofs
open Go Go.V
open Go.IntKind (wrap)
section
variable{w w' w0:wQ}{rb db kb crc k W H:Nat}{L:Bool}{p:pQ}{E:Er}{pal:List Px}{cl:List Nat}{d:Dec}
structure Env (w:wQ) (E:Er):Prop where
 tab:Tab w
 errs:Errs w E
 lo:E.n0<=hn w
 lace:LaceAt w E.n0
 ety:ETyp w
theorem Env.fr0(h:Env w E)(f:Fr [] w w'):Env w' E:=⟨h.tab.fr f sQ,h.errs.fr f sQ,Nat.le_trans h.lo f.size,h.lace.fr f (by have:=h.errs.low;omega) sQ,h.ety.fr0 f⟩
def Bad(E:Er)(C:Int ->Prop)(v:Value):Prop:=ErrF E v/\∀e',outE E v e' ->ErrK e'/\C (bR e')
theorem Bad.of125{s:ByteArray}{C:Int ->Prop}(hC:C 1):Bad E C (.iface 125 (.string s)):=by
 refine⟨.inr (.inr ⟨125,s,dQ,rfl⟩),fun e' he=> ?_⟩;rcases he with⟨h,_⟩|⟨_,rfl⟩
 ·simp[zD]at h
 ·exact⟨.inl ⟨s,rfl⟩,hC⟩
theorem c69t{xs:bQ}{C:Int ->Prop}(hr:RdAt w rb p xs)(hT:Tab w)(hE:Errs w E)(hlo:E.n0<=rb)(hrb:3<rb/\rb<hn w)(hp:∀a,p=some a ->3<a.block/\a.block<rb)(h8:8<=xs.length)(hsig:xs.take 8=sigL)(G:World ->Dec ->Nat ->bQ ->Prop)
  (start:∀w6 tmp,G w6 {wV (.iface 85 (.pointer (some ⟨rb,0,none⟩))) (hn w)with tmp:=tmp} 0 (xs.drop 8))
  (step:∀w1 d crc rs,Fr [rb] w w1 ->hn w+2<=hn w1 ->Errs w1 E ->Dst w1 (hn w+1) rb (hn w) p d crc rs ->G w1 d crc rs ->d.stage≠5/\CallT Pg 60 #[.pointer (some ⟨hn w+1,0,none⟩),.bool false] w1 fun v w2=>Fr [rb] w w2/\((v= .nilIface/\∃d' crc' rs',Dst w2 (hn w+1) rb (hn w) p d' crc' rs'/\rs'.length<rs.length/\G w2 d' crc' rs')\/Bad E C v)):
  CallT Pg 69 #[.iface 85 (.pointer (some ⟨rb,0,none⟩))] w fun v w'=>Fr [rb] w w'/\∃e,v= .tuple #[.nilIface,e]/\(ErrK e/\C (bR e)):=by
 have hlow:=hE.low;refine c69 hr hT hE hlo hrb hp h8 (fun w'=>Fr [rb] w w'/\hn w+2<=hn w'/\∃d crc rs,Dst w' (hn w+1) rb (hn w) p d crc rs/\G w' d crc rs) (fun w'=>left w' rb) ?_ ?_ ?_
 ·intro w6 tmp _ F6 n6 D6
  exact⟨F6,n6,_,_,_,D6,start w6 tmp⟩
 ·intro w6 s hs
  exact absurd hsig hs
 ·rintro w1 ⟨F1,n1,d,crc,rs,hD,hG⟩
  obtain⟨h5,hc⟩:=step w1 d crc rs F1 n1 (hE.fr F1 (by simp;omega)) hD hG;refine⟨d,crc,rs,hD,fun h=>absurd h h5,fun _ =>CallT.mono hc ?_⟩;rintro v w2 ⟨F2,⟨rfl,d',crc',rs',hD',hlt,hG'⟩|⟨hb,ho⟩⟩
  ·refine .inl ⟨rfl,⟨F2,by have:=zR hD'.dec;omega,_,_,_,hD',hG'⟩,?_⟩
   rw[hD.at_.left_eq,hD'.at_.left_eq];exact hlt
  ·refine .inr ⟨hb,hE.fr F2 (by simp;omega),fun e' he=>⟨F2,e',rfl,ho e' he⟩⟩
def uV(pal:List Px)(cl:List Nat):List Ch:=(if 0<pal.length then [(xX,xL pal)]else [])++((if zG pal then [(xJ,xM pal)]else [])++(if 0<cl.length then [(xJ,zX cl)]else []))
theorem vY{D C:Nat}:zK W H D C L pal cl=(nIHDR,xT W H D C L)::uV pal cl:=rfl
theorem dW{D C:Nat}(hok:yW D C pal cl)(hC:C=3):uV pal cl=(xX,xL pal)::(if zG pal then [(xJ,xM pal)]else []):=by
 obtain⟨q1,q2,q3⟩:=hok.pal3 hC;have hcl:=hok.cl0 oQ oQ;subst hcl;unfold uV;rw[if_pos (by omega:0<pal.length),show(if 0<([]:List Nat).length then [(xJ,zX [])]else [])=([]:List Ch)from rfl,List.append_nil,List.singleton_append]
theorem qCh{D C:Nat}(hok:yW D C pal cl)(hC:C≠3):uV pal cl=if 0<cl.length then [(xJ,zX cl)]else []:=by
 have hpn:=hok.paln hC;subst hpn
 rfl
def RightAt(w:wQ)(db k W H:Nat)(L:Bool)(pal:List Px)(cl:List Nat)(d:Dec)(r:List Ch):Prop:=
 (d.stage=0/\d.useT=false/\d.cb=0/\r=zK W H (qE k).2 (qE k).1 L pal cl)\/
 (d.stage=1/\d.useT=false/\jG d k W H L/\r=uV pal cl)\/
 (d.stage=2/\(qE k).1=3/\d.useT=false/\jG d k W H L/\kH w db d.pal pal.length (kK (xL pal) pal.length)/\r=if zG pal then [(xJ,xM pal)]else [])\/
 (d.stage=3/\jG d k W H L/\((qE k).1=3 ->∃n cs,kH w db d.pal n cs)/\(d.useT=true ->(qE k).1=0\/(qE k).1=2)/\r=[])
theorem RightAt.ready(h:RightAt w db k W H L pal cl d [])(hok:yW (qE k).2 (qE k).1 pal cl):jG d k W H L/\(1<=d.stage/\d.stage<=3)/\((qE k).1=3 ->d.stage≠1/\∃n cs,kH w db d.pal n cs)/\(d.useT=true ->(qE k).1=0\/(qE k).1=2):=by
 rcases h with⟨_,_,_,hr⟩|⟨h1,hu,hh,hr⟩|⟨h2,hC,hu,hh,hP,hr⟩|⟨h3,hh,hP,hu,_⟩
 ·exact absurd hr.symm (by simp[vY])
 ·refine⟨hh,oQ,fun hC=> ?_,fun e=>by rw[hu]at e;cases e⟩
  rw[dW hok hC]at hr
  cases hr
 ·exact⟨hh,oQ,fun _ =>⟨oQ,_,_,hP⟩,fun e=>by rw[hu]at e;cases e⟩
 ·exact⟨hh,oQ,fun e=>⟨oQ,hP e⟩,hu⟩
theorem RightAt.step{c:Ch}{r:List Ch}{tail:bQ}(h:RightAt w db k W H L pal cl d (c::r))(hD:Dst w db rb kb p d crc (qV c.1 c.2++tail))(hk:k<15)(hW:1<=W/\W<=20)(hH:1<=H/\H<=20)(hok:yW (qE k).2 (qE k).1 pal cl)(F0:Fr [rb] w0 w)(hkb:hn w0<=kb):
  CallT Pg 60 #[.pointer (some ⟨db,0,none⟩),.bool false] w fun v w'=>v= .nilIface/\Fr [rb] w0 w'/\∃d' crc',Dst w' db rb kb p d' crc' tail/\RightAt w' db k W H L pal cl d' r:=by
 have hne:=hD.ne;have hcb:=jT hk;have fr:∀{w':wQ},Fr [rb,kb,db] w w' ->Fr [rb] w0 w':=fun f=>F0.trans' f (fun x hx hlt=>by simp at hx⊢;omega);rcases h with⟨h0,hu,_,hr⟩|⟨h1,hu,hh,hr⟩|⟨h2,hC,hu,hh,hP,hr⟩|⟨_,_,_,_,hr⟩
 ·rw[vY]at hr
  obtain⟨rfl,rfl⟩:=List.cons.inj hr;refine CallT.mono (Dst.goodIHDR hD h0 oQ oQ hk) ?_;rintro v w2 ⟨rfl,F,tmp,crc',hD'⟩;exact⟨rfl,fr F,_,_,hD',.inr (.inl ⟨rfl,hu,⟨rfl,rfl,rfl,rfl,rfl⟩,rfl⟩)⟩
 ·by_cases hC:(qE k).1=3
  ·rw[dW hok hC]at hr
   obtain⟨rfl,rfl⟩:=List.cons.inj hr;obtain⟨q1,q2,q3⟩:=hok.pal3 hC;refine CallT.mono (Dst.goodPLTE hD h1 hh.D_ (vO hk).1 (by rw[hh.cb_];have:=hcb.2.1 hC;omega) oQ oQ q3) ?_;rintro v w2 ⟨rfl,F,tmp,crc',pl,hD',hP⟩;exact⟨rfl,fr F,_,_,hD',.inr (.inr (.inl ⟨rfl,hC,hu,⟨hh.W_,hh.H_,hh.D_,hh.cb_,hh.lace_⟩,hP,rfl⟩))⟩
  ·rw[qCh hok hC]at hr
   by_cases hcl:0<cl.length
   ·rw[if_pos hcl]at hr
    obtain⟨rfl,rfl⟩:=List.cons.inj hr;have hl:=hok.cll.resolve_left (List.length_pos_iff.1 hcl);have h02:(qE k).1=0\/(qE k).1=2:=by
     by_cases h0:(qE k).1=0
     ·exact .inl h0
     ·by_cases h2:(qE k).1=2
      ·exact .inr h2
      ·exact absurd (hok.cl0 h0 h2) (List.length_pos_iff.1 hcl)
    have hcc:=qFj hk;refine CallT.mono (qCi hD h1 ?_) ?_
    ·rw[mE,hl,hh.cb_]
     rcases h02 with h0|h2
     ·refine .inl ⟨by rw[h0];rfl,?_⟩
      have:=hcc.1 h0;omega
     ·refine .inr ⟨by rw[h2];rfl,?_⟩
      have:=hcc.2 h2;omega
    ·rintro v w2 ⟨rfl,F,n2,tmp,tr,crc',hD'⟩
     exact⟨rfl,fr F,_,_,hD',.inr (.inr (.inr ⟨rfl,⟨hh.W_,hh.H_,hh.D_,hh.cb_,hh.lace_⟩,fun e=>absurd e hC,fun _ =>h02,rfl⟩))⟩
   ·rw[if_neg hcl]at hr
    cases hr
 ·by_cases ha:zG pal=true
  ·rw[if_pos ha]at hr
   obtain⟨rfl,rfl⟩:=List.cons.inj hr;obtain⟨q1,q2,q3⟩:=hok.pal3 hC;have hal:(xM pal).length=pal.length:=by simp[xM]
   obtain⟨g,hpal,hdg,hrow,hcl,hn256⟩:=hP;refine CallT.mono (Dst.goodTRNS (al:=xM pal) hD h2 (by rw[hh.cb_];have:=hcb.2.1 hC;omega) ⟨g,hpal,hdg,hrow,hcl,hn256⟩ (mN _ _) oQ oQ) ?_;rintro v w2 ⟨rfl,hF,tmp,crc',pl,hD',_,hP'⟩;have F:=hF g (by rw[hpal]);exact⟨rfl,F0.trans' F (fun x hx hlt=>by simp at hx⊢;omega),_,_,hD',.inr (.inr (.inr ⟨rfl,⟨hh.W_,hh.H_,hh.D_,hh.cb_,hh.lace_⟩,fun _ =>⟨_,_,hP'⟩,(fun h=>by rw[hu]at h;cases h),rfl⟩))⟩
  ·rw[if_neg ha]at hr
   cases hr
 ·cases hr
end
section
variable{w w0 w1 w2:wQ}{rb db kb crc k W H:Nat}{L:Bool}{p q:pQ}{E:Er}{pal:List Px}{cl:List Nat}{d:Dec}
structure Stp (w0 w1:wQ) (E:Er) (db rb kb:Nat):Prop where
 F0:Fr [rb] w0 w1
 hkb:hn w0<=kb
 errs:Errs w1 E
 lace:LaceAt w1 E.n0
 lo:E.n0<=rb
 ord:kb<db
theorem Stp.fr(h:Stp w0 w1 E db rb kb)(f:Fr [rb,kb,db] w1 w2):Fr [rb] w0 w2:=h.F0.trans' f (fun x hx hlt=>by have:=h.hkb;have:=h.ord;simp at hx⊢;omega)
theorem wT{c:Ch}{b:List Ch}{t:bQ}:(chs b++t).length<(chs (c::b)++t).length:=by
 rw[qZ];simp only[List.length_append];have:4<=(qV c.1 c.2).length:=by unfold qV;simp only[List.length_append,xG];omega
 omega
theorem gP{l c:Nat}{a r:List Ch}{bad:bQ}{code:Int}{file:bQ}(ef:file=sigL++(chs a++bad))(hx:Has w q (bv file))(hl:l=file.length)(hlb:l<1099511627776)(hV:Env w E)
  (hfo:zK W H (qE k).2 (qE k).1 L pal cl=a++r)(hk:k<15)(hW:1<=W/\W<=20)(hH:1<=H/\H<=20)(hok:yW (qE k).2 (qE k).1 pal cl)(G2:Dec ->Nat ->bQ ->Prop)
  (hbad:∀{w0 w1:wQ} {db rb kb:Nat} {p:pQ} {d:Dec} {crc:Nat},Stp w0 w1 E db rb kb ->Dst w1 db rb kb p d crc bad ->RightAt w1 db k W H L pal cl d r ->
   CallT Pg 60 #[.pointer (some ⟨db,0,none⟩),.bool false] w1 fun v w2=>Fr [rb] w0 w2/\(Bad E (·=code) v\/(v= .nilIface/\∃d' crc' rs',Dst w2 db rb kb p d' crc' rs'/\rs'.length<bad.length/\G2 d' crc' rs')))
  (after:∀{w0 w1:wQ} {db rb kb:Nat} {p:pQ} {d:Dec} {crc:Nat} {rs:bQ},Stp w0 w1 E db rb kb ->Dst w1 db rb kb p d crc rs ->G2 d crc rs ->
   d.stage≠5/\CallT Pg 60 #[.pointer (some ⟨db,0,none⟩),.bool false] w1 fun v w2=>Fr [rb] w0 w2/\Bad E (·=code) v):
  CallT Pg 29 #[.slice q l c,.int .i64 code] w fun v w'=>v= .bool true/\Fr [] w w':=by
 subst ef;refine qAs (B:=fun e=>ErrK e/\bR e=code) hx hl hlb hV.tab hV.errs hV.lo hV.lace hV.ety (fun e h=>h) fun w2 rb p F2 hr hT2 hE2 hlo2 hrb hp hL2 _ => ?_;refine c69t (C:=(·=code)) hr hT2 hE2 hlo2 hrb hp (by simp[yB]) (kN _) (fun w' d crc rs=>(∃b,rs=chs b++bad/\RightAt w' (hn w2+1) k W H L pal cl d (b++r))\/G2 d crc rs) ?_ ?_
 ·intro w6 tmp
  rw[gU];exact .inl ⟨a,rfl,.inl ⟨rfl,rfl,rfl,hfo.symm⟩⟩
 ·intro w1 d crc rs F1 n1 E1 hD hG
  have hlow:=hE2.low;have hA:Stp w2 w1 E (hn w2+1) rb (hn w2):=⟨F1,Nat.le_refl _,E1,hL2.fr F1 oQ (by simp;omega),hlo2,oQ⟩;rcases hG with⟨b,rfl,hR⟩|hG
  ·have h5:d.stage≠5:=by rcases hR with h|h|h|h<;>omega
   refine⟨h5,?_⟩
   cases b with
   |nil=>
    refine CallT.mono (hbad hA hD hR) ?_;rintro v w3 ⟨F,hb|⟨rfl,d',crc',rs',hD',hlt,hg⟩⟩
    ·exact⟨F,.inr hb⟩
    ·exact⟨F,.inl ⟨rfl,d',crc',rs',hD',hlt,.inr hg⟩⟩
   |cons ch b=>
    have hD':=hD;rw[qZ,List.append_assoc]at hD';refine CallT.mono (RightAt.step hR hD' hk hW hH hok F1 (Nat.le_refl _)) ?_;rintro v w3 ⟨rfl,F,d',crc',hD2,hR2⟩;exact⟨F,.inl ⟨rfl,d',crc',_,hD2,wT,.inl ⟨b,rfl,hR2⟩⟩⟩
  ·obtain⟨h5,hc⟩:=after hA hD hG
   refine⟨h5,CallT.mono hc ?_⟩;rintro v w3 ⟨F,hb⟩;exact⟨F,.inr hb⟩
end
section
variable{w w' w0:wQ}{E:Er}{Q Q':Nat ->Prop}
theorem c30n{b o l c:Nat}{cs:List Ch}(hx:Has w (some ⟨b,o,none⟩) (bv (qU cs)))(hl:l=(qU cs).length)(hb:l<1099511627776)(hlc:l<=c)(hok:kA cs):
  CallT Pg 30 #[.slice (some ⟨b,o,none⟩) l c] w fun v w'=>∃vs,PcHas (·=b) w' vs cs/\RetR 53 2 w cs.length vs v w':=by
 apply call30;unfold wp30 wIq iQq;rw[zI];have hblt:b<hn w:=by obtain⟨_,T,arr,h1,_⟩:=hx;exact zR h1
 refine qP (fun z w'=>Fr [] w w'/\∃a r vs,cs=a++r/\z.2.1=((8+(chs a).length:Nat):Int)/\z.1.len=a.length/\PcHas (·=b) w' vs a/\Own w' (hn w) 53 2 z.1.a z.1.len z.1.cap vs)
  (fun z _ =>l+1 -z.2.1.toNat) ⟨Fr.alloc _ _ _,[],cs,[],rfl,by simp[chs],rfl,trivial,Own.new (w:=w) (e:=53) (size:=2) (cs:= #[]) (l:=0) (Nat.le_refl _) sQ⟩ ?_
 rintro⟨⟨q,n,m⟩,k,⟨⟩⟩ w1 ⟨hf,a,r,vs,rfl,rfl,rfl,hpc,ho⟩;simp only at ho;have hlen:l=8+(chs a).length+(chs r).length:=by rw[hl];simp[qU,sigL,xU];omega
 have ha:=yN (rC hok);have hr:=yN (mM hok);refine qG (fun h=> ?_) (fun h=> ?_)
 ·simp only at h
  rw[qA oQ oQ]at h
  cases r with
  |nil=>simp only[vJ,List.length_nil]at hlen;omega
  |cons ch r=>
   obtain⟨h4,hd⟩:=hok ch sQ;have hcl:=xA (data:=ch.2) h4;simp only[qZ,List.length_append]at hlen;dsimp only;refine CallT.mono (c46 (hx.fr0 hf) hl oQ oQ oQ) ?_;rintro _ _ ⟨rfl,rfl⟩;rw[Int.toNat_natCast,bX hd];refine⟨_,rfl,?_⟩;rw[zY];have hf2:=hf.drewR.drewR;have hx2:=hx.fr0 hf2;have e0:bv (qU (a++ch::r))=bv (sigL++chs a++xR ch.2.length)++(bv ch.1++bv (ch.2++xR (jJ (ch.1++ch.2))++chs r)):=by
    rw[lI,<-bv_append,<-bv_append];simp[qV]
   have e1:bv (qU (a++ch::r))=bv (sigL++chs a++xR ch.2.length++ch.1)++(bv ch.2++bv (xR (jJ (ch.1++ch.2))++chs r)):=by
    rw[lI,<-bv_append,<-bv_append];simp[qV]
   have hx3:=hx2;rw[e0]at hx2;rw[e1]at hx3;have g0:=Has.sub hx2;have g1:=Has.sub hx3;simp only[bv_length,List.length_append,xG,h4]at g0 g1;have es:sigL.length=8:=rfl;simp only[es]at g0 g1;simp (disch:=omega) only[qA];have t1:((((8+(chs a).length:Nat):Int)+4).toNat)=8+(chs a).length+4:=oQ;have t2:((((8+(chs a).length:Nat):Int)+8).toNat)=8+(chs a).length+4+4:=oQ;have t3:((((8+(chs a).length:Nat):Int)+8+(ch.2.length:Int)).toNat)=8+(chs a).length+4+4+ch.2.length:=oQ;simp only[t1,t2,t3];rw[slAdd_one _ _ _ _ oQ,slAdd_one _ _ _ _ oQ];refine⟨⟨oQ,oQ⟩,⟨oQ,oQ⟩,⟨oQ,oQ⟩,⟨oQ,oQ⟩,?_⟩;refine rX (xs:=ch.1) g0 oQ ?_;refine tD ok50 hf2 ((ho.fr0 (Fr.drew _ _)).fr0 (Fr.drew _ _)) sQ (by simp[Value.oneCell']) oQ ?_;intro q' m' w3 hf3 hf3' ho3;have hq:∀b',b'=b ->b'∉xD q:=by
    intro b' e hmem;have:=ho.blk _ hmem;omega
   refine⟨⟨hf3,a++[ch],r,_,sQ,?_,sQ,?_,ho3⟩,oQ⟩
   ·simp only[xU,qZ,vJ,List.length_append,List.append_nil,hcl];omega
   ·refine PcHas.snoc (g1.fr hf3' ?_) oQ sQ (by intro a ha;cases ha;rfl) (((hpc.fr (Fr.drew [] _) sQ).fr (Fr.drew [] _) sQ).fr hf3' hq)
    intro a' ha';cases ha';exact hq _ rfl
 ·simp only at h
  rw[qA oQ oQ]at h
  cases r with
  |cons ch r=>
   exfalso
   obtain⟨h4,hd⟩:=hok ch sQ;have hcl:=xA (data:=ch.2) h4;simp only[qZ,List.length_append]at hlen;omega
  |nil=>exact⟨vs,by simpa using hpc,hf,q,m,sQ,by simpa using ho⟩
theorem PcHas.mono(h:∀b,Q b ->Q' b):∀{vs:List Value} {cs:List Ch},PcHas Q w vs cs ->PcHas Q' w vs cs
 |[],[],_ =>trivial
 | .string _ :: .slice _ _ _ ::_,_ ::_,⟨h1,h2,h3,h4,h5,h6⟩=>⟨h1,h2,h3,h4,fun a ha=>h _ (h5 a ha),PcHas.mono h h6⟩
structure Made (k W H:Nat) (L:Bool) (pal:List Px) (cl:List Nat) (fl xs zs d0:bQ) (dr:List (bQ)):Prop where
 hk:k<15
 hW:1<=W/\W<=20
 hH:1<=H/\H<=20
 ok:yW (qE k).2 (qE k).1 pal cl
 rows:RowsOf (mH W H (qE k).2 (qE k).1 L) (gF fl) xs
 zl:tE xs zs
 flat:(d0::dr).flatten=zs
 ne:∀x∈d0::dr,x≠[]
 zlen:zs.length<=2097152
 xlen:xs.length<32768
def xV(k W H:Nat)(L:Bool)(pal:List Px)(cl:List Nat)(d0:bQ)(dr:List (bQ)):List Ch:=zK W H (qE k).2 (qE k).1 L pal cl++xZ (d0::dr)++[(xW,[])]
section
variable{k W H:Nat}{L:Bool}{pal:List Px}{cl:List Nat}{fl xs zs d0:bQ}{dr:List (bQ)}
theorem Made.okc(M:Made k W H L pal cl fl xs zs d0 dr):kA (xV k W H L pal cl d0 dr)/\(qU (xV k W H L pal cl d0 dr)).length<1099511627776:=by
 have hzp:0<zs.length:=by
  obtain⟨_,_,_,_,hz⟩:=M.zl;rw[hz];simp
 obtain⟨_,h1,h2,_⟩:=nJ (W:=W) (H:=H) (L:=L) M.hk M.ok hzp M.zlen M.flat M.ne;exact⟨h1,h2⟩
theorem Made.whole{q:pQ}{l c:Nat}{file:bQ}(M:Made k W H L pal cl fl xs zs d0 dr)(hV:Env w E)(hf:file=qU (xV k W H L pal cl d0 dr))(hx:Has w q (bv file))(hl:l=file.length):CallT Pg 28 #[.slice q l c] w fun v w'=>v= .bool true/\Fr [] w w':=
 qCy hf hx hl (by rw[hl,hf];exact M.okc.2) hV.tab hV.errs hV.lo hV.lace hV.ety M.hk M.hW M.hH M.ok M.rows M.zl M.flat M.ne M.zlen M.xlen
end
theorem nU{k W H:Nat}{L:Bool}{pal:List Px}{cl:List Nat}{v:Value}(hk:k<15)(hW:1<=W/\W<=20)(hH:1<=H/\H<=20)(hok:yW (qE k).2 (qE k).1 pal cl)(hF:oR w0 W H (qE k).2 (qE k).1 L pal cl v w):
  ∃fl xs zs d0 dr,Made k W H L pal cl fl xs zs d0 dr/\dL w0 (qU (xV k W H L pal cl d0 dr)) v w:=by
 obtain⟨fs,xs,zs,ds,_,hrows,hZ,hds,hne,hzl,hR⟩:=hF;have hD16:(qE k).2<=16:=by have:=(vO hk).1;omega
 cases ds with
 |nil=>
  obtain⟨bl,out,_,_,hz⟩:=hZ;rw[hz]at hds;simp at hds
 |cons d0 dr=>exact⟨fs,xs,zs,d0,dr,⟨hk,hW,hH,hok,hrows,hZ,hds,hne,hzl,aS hrows hW.2 hH.2 hD16⟩,hR⟩
def Pcs(w0 w:wQ)(p:pQ)(l c:Nat)(cs:List Ch):Prop:=∃b vs,Own w (hn w0) 53 2 p l c vs/\PcHas (·=b) w vs cs/\l=cs.length/\hn w0<=b/\b<hn w/\∀x∈xD p,b<x
theorem qDn{p:pQ}{base l c:Nat}{cs:List Ch}(h:Own w base 5 1 p l c (bv (qU cs)))(hl:l=(qU cs).length):∃b,p=some ⟨b,0,none⟩/\l<=c/\base<=b/\b<hn w:=by
 obtain⟨b,rfl,h1⟩:=pW h (by rw[hl];simp[qU,yB];omega);have:=h.at rfl;exact⟨b,rfl,h1,this.2.2.1,this.2.2.2⟩
theorem qBz{k W H:Nat}{L:Bool}{pal:List Px}{cl:List Nat}{fl xs zs d0:bQ}{dr:List (bQ)}{p:pQ}{l c:Nat}(M:Made k W H L pal cl fl xs zs d0 dr)(F:Fr [] w0 w)(h:Own w (hn w0) 5 1 p l c (bv (qU (xV k W H L pal cl d0 dr))))(hl:l=(qU (xV k W H L pal cl d0 dr)).length)
  {K:pQ ->Nat ->Nat ->World ->Prop}(hK:∀p l c w',Fr [] w0 w' ->Fr [] w w' ->Pcs w0 w' p l c (xV k W H L pal cl d0 dr) ->K p l c w'):
  CallT Pg 30 #[.slice p l c] w fun v w'=>Exists fun p':pQ=>Exists fun l':Nat=>Exists fun c':Nat=>And (v= .slice p' l' c') (K p' l' c' w'):=by
 obtain⟨b,rfl,hlc,hb0,hb1⟩:=qDn h hl;refine CallT.mono (c30n h.has hl (by rw[hl];exact M.okc.2) hlc M.okc.1) ?_;rintro v w' ⟨vs,hpc,f,q,c',rfl,ho⟩;refine⟨_,_,_,rfl,hK _ _ _ _ (F.trans f) f ⟨b,vs,ho.base_le F.size,hpc,rfl,hb0,Nat.lt_of_lt_of_le hb1 f.size,fun x hx=> ?_⟩⟩;have:=(ho.blk x hx).1;omega
theorem rA{p:pQ}{l c:Nat}{R:vPq}{X:World ->Prop}(hR:R (.bool true) w)(hX:l<=1000 ->X w):
  CallT Pg 22 #[.slice p l c] w fun v w2=>Exists fun b:Bool=>And (v= .bool b) (IfC (!b) (R (.bool true) w2) (X w2)):=by
 refine CallT.mono c22 ?_;rintro v w2 ⟨rfl,rfl⟩;refine⟨_,rfl,?_⟩
 by_cases h:l<=1000
 ·rw[decide_eq_true h];exact hX h
 ·rw[decide_eq_false h];exact hR
end
section
variable{w w' w0:wQ}{E:Er}{k W H:Nat}{L:Bool}{pal:List Px}{cl:List Nat}{fl xs zs d0:bQ}{dr:List (bQ)}{p q:pQ}{l c c':Nat}{cs:List Ch}{hd dd:bQ}{nm:bQ}
theorem Made.len(M:Made k W H L pal cl fl xs zs d0 dr):(qU (xV k W H L pal cl d0 dr)).length<1000000000:=by
 have hpl:pal.length<=9:=by
  by_cases h:(qE k).1=3
  ·exact(M.ok.pal3 h).2.1
  ·rw[M.ok.paln h];simp
 have hcll:cl.length<=4:=by
  have:=tF (qE k).1;rcases M.ok.cll with h|h
  ·rw[h];simp
  ·omega
 have hal:(xM pal).length=pal.length:=by simp[xM]
 have hsl:=vP pal;have hcL:=mE cl;have hdat:∀ds:List (bQ),(∀x∈ds,x≠[]) ->(chs (xZ ds)).length<=13*ds.flatten.length:=by
  intro ds
  induction ds with
  |nil=>intro _;simp[xZ,chs]
  |cons d r ih=>
   intro hne;have:=ih (fun x hx=>hne x (List.mem_cons_of_mem _ hx));have hd:1<=d.length:=List.length_pos_iff.2 (hne d sQ);have e:xZ (d::r)=(nIDAT,d)::xZ r:=rfl;rw[e,qZ,List.length_append,xA rfl,List.flatten_cons,List.length_append];dsimp only;omega
 have h1:=hdat _ M.ne;rw[M.flat]at h1;have hz:=M.zlen;unfold xV;rw[qU,List.length_append,xU,xU,List.length_append,List.length_append,zK,qZ,xU,xU];simp only[List.length_append];have e0:(qV nIHDR (xT W H (qE k).2 (qE k).1 L)).length=12+13:=xA rfl;have e1:(chs (if 0<pal.length then [(xX,xL pal)]else [])).length<=12+27:=by
  split
  ·rw[qZ,vJ,List.append_nil,xA rfl];dsimp only;omega
  ·simp[chs]
 have e2:(chs (if zG pal=true then [(xJ,xM pal)]else [])).length<=12+9:=by
  split
  ·rw[qZ,vJ,List.append_nil,xA rfl];dsimp only;omega
  ·simp[chs]
 have e3:(chs (if 0<cl.length then [(xJ,zX cl)]else [])).length<=12+8:=by
  split
  ·rw[qZ,vJ,List.append_nil,xA rfl];dsimp only;omega
  ·simp[chs]
 have e4:(chs [(xW,[])]).length=12:=rfl;rw[yB];omega
end
section
variable{w w' w0:wQ}{E:Er}{k W H:Nat}{L:Bool}{pal:List Px}{cl:List Nat}{fl xs zs d0:bQ}{dr:List (bQ)}{p q:pQ}{l c c':Nat}{cs:List Ch}{hd dd:bQ}{nm:bQ}
end
section
variable{w w' w0:wQ}
end
section
variable{w w' w0 wB:wQ}{E:Er}{k W H:Nat}{L:Bool}{pal:List Px}{cl:List Nat}{fl xs zs d0:bQ}{dr:List (bQ)}{p q:pQ}{l c c':Nat}{cs ds:List Ch}{hd dd:bQ}{nm:bQ}{s:Sl}
theorem mP{i:Nat}{ch:Ch}(h:Pcs w0 wB p l c cs)(FB:Fr [] wB w)(hi:cs[i]? =some ch){K:ByteArray ->Nat ->World ->Prop}
  (hK:∀q c' r w',Fr [] w w' ->hp w' r=Row 53 #[.string ⟨ch.1.toArray⟩,.slice q ch.2.length c'] ->Has w' q (bv ch.2) ->(q=none ->c'=0) ->(∀x∈xD q,x<hn wB/\hn w0<=x) ->hn w<=r ->K ⟨ch.1.toArray⟩ r w'):
  And (0<=(i:Int)/\(i:Int)<(l:Int)) (qN p fun a=>LdS w (qI a (i:Int).toNat 2) fun s=>qS w ⟨(qI a (i:Int).toNat 2).block,(qI a (i:Int).toNat 2).off+1,none⟩ fun p2 l2 c2=>qK w (.cells (zc Pg 53) 53) fun r w1=>qB w1 ⟨r,0,none⟩ (.string s) fun w2=>qB w2 ⟨r,0+1,none⟩ (.slice p2 l2 c2) fun w3=>LdS w3 ⟨r,0,none⟩ fun s'=>K s' r w3):=by
 obtain⟨b,vs,ho,hpc,hl,hb0,hb1,hb2⟩:=h;have ho:=ho.fr0 FB;have hpc:=hpc.fr FB sQ;have hil:i<cs.length:=(List.getElem?_eq_some_iff.1 hi).1;refine⟨⟨oQ,oQ⟩,?_⟩;obtain⟨q,m,c2,e1,e2,g1,g2,g3,g4⟩:=hpc.at hi;obtain⟨g,o,rfl,k1,k2⟩:=Has.at2 ho.has e1 e2;rw[PtrC_some,zE,Int.toNat_natCast,vU];dsimp only;rw[k1,RdS_some,yT,k2,RdSl_some];refine qF fun w1 h1 f1 n1=> ?_;rw[zc53]at h1;refine qD h1 sQ fun w2 h2 f2 n2=> ?_;refine qD h2 sQ fun w3 h3 f3 n3=> ?_;have h3':hp w3 (hn w)=Row 53 #[.string ⟨ch.1.toArray⟩,.slice q ch.2.length c2]:=by rw[<-g2];simpa using h3
 have F:Fr [] w w3:=(f1.new1 f2 (Nat.le_refl _)).new1 f3 (Nat.le_refl _);refine rY h3' rfl (hK q c2 _ w3 F h3' (g1.fr0 F) g3 (fun x hx=> ?_) (Nat.le_refl _))
 cases q with
 |none=>simp[xD]at hx
 |some a=>
  have:a.block=b:=g4 a rfl;simp[xD]at hx;omega
def Grow(wB w:wQ)(s:Sl)(ds:List Ch):Prop:=Fr [] wB w/\∃vs,Own w (hn wB) 53 2 s.a s.len s.cap vs/\PcHas (fun x=>x<hn w/\x∉xD s.a) w vs ds/\s.len=ds.length
theorem Grow.fr0(h:Grow wB w s ds)(f:Fr [] w w'):Grow wB w' s ds:=by
 obtain⟨F,vs,ho,hpc,hl⟩:=h;exact⟨F.trans f,vs,ho.fr0 f,(hpc.fr f sQ).mono (fun x hx=>⟨Nat.lt_of_lt_of_le hx.1 f.size,hx.2⟩),hl⟩
theorem Grow.start{r:Nat}(h:hp w r=Row 53 #[])(F:Fr [] wB w)(hr:hn wB<=r):Grow wB w ⟨some ⟨r,0,none⟩,0,0⟩ []:=⟨F,[],Own.of_row (arr:= #[]) h hr rfl,trivial,rfl⟩
theorem Grow.add{m:Nat}(h:Grow wB w s ds)(hx:Has w q (bv dd))(hm:m=dd.length)(hc:q=none ->c'=0)(hblk:∀x∈xD q,x<hn w/\x∉xD s.a)(hbig:ds.length<=1000000000){K:pQ ->Nat ->Nat ->World ->Prop}
  (hK:∀s' w',Grow wB w' s' (ds++[(nm,dd)]) ->Fr (xD s.a) w w' ->(∀x∈xD s'.a,x∈xD s.a\/hn w<=x) ->K s'.a s'.len s'.cap w'):
  qK w (.cells #[.string ⟨nm.toArray⟩,.slice q m c'] 53) fun r w1=>zQ Pg w1 #[50,50] 50 (.slice s.a s.len s.cap) (.slice (some ⟨r,0,none⟩) 1 1) K:=by
 obtain⟨F,vs,ho,hpc,hl⟩:=h;refine mX ok50 F ho (cs:= #[.string ⟨nm.toArray⟩,.slice q m c']) (m:=1) sQ (by simp[Value.oneCell']) oQ ?_;intro p' c'' w' F' f' ho' hm';refine hK ⟨p',s.len+1,c''⟩ w' ⟨F',_,ho',?_,by simp[hl]⟩ f' hm';have hsz:=f'.size;have step:∀x,(x<hn w/\x∉xD s.a) ->(x<hn w'/\x∉xD p'):=fun x hx=>⟨oQ,fun hx'=>(hm' x hx').elim hx.2 (fun h=>by omega)⟩;have h1:=(hpc.fr f' (fun x hx=>hx.2)).mono step;refine PcHas.snoc (ch:=(nm,dd)) (hx.fr f' (fun a ha hx'=>(hblk a.block (by subst ha;simp[xD])).2 hx')) hm hc (fun a ha=>step _ (hblk a.block (by subst ha;simp[xD]))) h1
theorem Grow.addAt{r:Nat}{c':Nat}(h:Grow wB w s ds)(hr:hp w r=Row 53 #[.string ⟨nm.toArray⟩,.slice q dd.length c'])(hx:Has w q (bv dd))(hc:q=none ->c'=0)(hblk:∀x∈xD q,x<hn w/\x∉xD s.a)(hbig:ds.length<=1000000000){K:pQ ->Nat ->Nat ->World ->Prop}
  (hK:∀s' w',Grow wB w' s' (ds++[(nm,dd)]) ->Fr (xD s.a) w w' ->(∀x∈xD s'.a,x∈xD s.a\/hn w<=x) ->K s'.a s'.len s'.cap w'):
  LdS w ⟨r,0,none⟩ fun n=>qS w ⟨r,0+1,none⟩ fun p1 l1 c1=>qK w (.cells #[.string n,.slice p1 l1 c1] 53) fun r1 w1=>zQ Pg w1 #[50,50] 50 (.slice s.a s.len s.cap) (.slice (some ⟨r1,0,none⟩) 1 1) K:=
 rY hr rfl (qL hr rfl (h.add hx rfl hc hblk hbig hK))
theorem Grow.blk(h:Grow wB w s ds):∀x∈xD s.a,hn wB<=x/\x<hn w:=by
 obtain⟨_,vs,ho,_⟩:=h;exact ho.blk
theorem qAc(x:Ch)(h:x∈zK W H (qE k).2 (qE k).1 L pal cl):x.1=nIHDR\/x.1=xX\/x.1=xJ:=by
 unfold zK at h;simp only[List.mem_cons,List.mem_append]at h;rcases h with rfl|h|h|h
 ·exact .inl rfl
 ·split at h
  ·simp at h;subst h;exact .inr (.inl rfl)
  ·simp at h
 ·split at h
  ·simp at h;subst h;exact .inr (.inr rfl)
  ·simp at h
 ·split at h
  ·simp at h;subst h;exact .inr (.inr rfl)
  ·simp at h
end
section
variable{w w' w0 wB:wQ}{E:Er}{k W H:Nat}{L:Bool}{pal:List Px}{cl:List Nat}{fl xs zs d0:bQ}{dr:List (bQ)}{p q:pQ}{l c c':Nat}{cs ds es:List Ch}{hd dd:bQ}{nm:bQ}{s:Sl}{db rb kb crc:Nat}{d:Dec}{rs:bQ}
end
section
variable{w w' w0 wB:wQ}{E:Er}{k W H:Nat}{L:Bool}{pal:List Px}{cl:List Nat}{fl xs zs d0:bQ}{dr:List (bQ)}{p q:pQ}{l c c':Nat}{cs ds es r:List Ch}{hd dd:bQ}{nm:bQ}{s:Sl}{db rb kb crc:Nat}{d:Dec}{rs:bQ}
theorem rK{b i:Nat}{n:ByteArray}{K:ByteArray ->Prop}(h:atR (hp w b) i=some (.string n))(hK:K n):LdS w ⟨b,i,none⟩ K:=by rw[vU,h,RdS_some];exact hK
theorem Made.cs_len(M:Made k W H L pal cl fl xs zs d0 dr):(xV k W H L pal cl d0 dr).length<=100000000:=by
 have:=yN M.okc.1;have:=M.len;unfold qU at this;rw[List.length_append]at this;omega
end
section
variable{w w' w0 wB:wQ}{E:Er}{k W H D C:Nat}{L:Bool}{pal:List Px}{cl:List Nat}{fl xs zs d0:bQ}{dr:List (bQ)}{p q:pQ}{l c c':Nat}{cs ds es r:List Ch}{hd dd:bQ}{nm:bQ}{s:Sl}{db rb kb crc:Nat}{d:Dec}{rs:bQ}
theorem fillD{r:Nat}{a0 a1 a2 a3:Int}{b:Bool}{s p c:Sl}{K:World ->Prop}(h:hp w r=Row 31 (zc Pg 31))(hK:∀w',hp w' r=Row 31 (yF a0 a1 a2 a3 b s p c) ->Fr [r] w w' ->hn w'=hn w ->K w'):
  qB w ⟨r,0,none⟩ (.int .i64 a0) fun w=>qB w ⟨r,0+1,none⟩ (.int .i64 a1) fun w=>qB w ⟨r,0+2,none⟩ (.int .i64 a2) fun w=>qB w ⟨r,0+3,none⟩ (.int .i64 a3) fun w=>qB w ⟨r,0+4,none⟩ (.bool b) fun w=>qB w ⟨r,0+5,none⟩ (.slice s.a s.len s.cap) fun w=>qB w ⟨r,0+6,none⟩ (.slice p.a p.len p.cap) fun w=>qB w ⟨r,0+7,none⟩ (.slice c.a c.len c.cap) K:=by
 rw[zc31]at h;refine qD h sQ fun w1 h1 f1 n1=> ?_;refine qD h1 sQ fun w2 h2 f2 n2=> ?_;refine qD h2 sQ fun w3 h3 f3 n3=> ?_;refine qD h3 sQ fun w4 h4 f4 n4=> ?_;refine qD h4 sQ fun w5 h5 f5 n5=> ?_;refine qD h5 sQ fun w6 h6 f6 n6=> ?_;refine qD h6 sQ fun w7 h7 f7 n7=> ?_;refine qD h7 sQ fun w8 h8 f8 n8=> ?_;exact hK w8 (by simpa [yF]using h8) (f1.trans (f2.trans (f3.trans (f4.trans (f5.trans (f6.trans (f7.trans f8))))))) oQ
structure DrawnAt (w0 w:wQ) (r W H D C:Nat) (L:Bool) (pal:List Px) (cl:List Nat) (s p c:Sl) (ns:List Int):Prop where
 fr:Fr [] w0 w
 row:hp w r=Row 31 (yF W H D C L s p c)
 new:hn w0<=r
 os:Own w (hn w0) 3 1 s.a s.len s.cap (tJ ns)
 nn:ns.length=W*H*chN C
 op:Own w (hn w0) 43 4 p.a p.len p.cap (gZ pal)
 oc:Own w (hn w0) 3 1 c.a c.len c.cap (iv cl)
 hW:1<=W/\W<=20
 hH:1<=H/\H<=20
 ok:yW D C pal cl
theorem DrawnAt.fr0{r:Nat}{s p c:Sl}{ns:List Int}(h:DrawnAt w0 w r W H D C L pal cl s p c ns)(f:Fr [] w w'):DrawnAt w0 w' r W H D C L pal cl s p c ns:=
 ⟨h.fr.trans f,f.row0 h.row,h.new,h.os.fr0 f,h.nn,h.op.fr0 f,h.oc.fr0 f,h.hW,h.hH,h.ok⟩
theorem hU{n:Nat}(hn32:n<4294967296){ss:List Nat}(hx:HasW w p (ss.map fun(s:Nat)=> .int .u16 (s:Int)))(hl:l=ss.length)(hb:l<=1000){K:Nat ->World ->Prop}
  (hK:∀{W H:Nat} {L:Bool} {pal:List Px} {cl:List Nat} {s p c:Sl} {ns:List Int} {r:Nat} {w':wQ},DrawnAt w w' r W H (qE (n%15)).2 (qE (n%15)).1 L pal cl s p c ns ->K r w'):
  CallT Pg 23 #[.int .u32 n,.slice p l c] w fun v4 w5=>Exists fun n6:Int=>Exists fun n7:Int=>Exists fun n8:Int=>Exists fun n9:Int=>Exists fun b10:Bool=>Exists fun p11:pQ=>Exists fun l12:Nat=>Exists fun c13:Nat=>Exists fun p14:pQ=>Exists fun l15:Nat=>Exists fun c16:Nat=>Exists fun p17:pQ=>Exists fun l18:Nat=>Exists fun c19:Nat=>And (v4= .agg #[.int .i64 n6,.int .i64 n7,.int .i64 n8,.int .i64 n9,.bool b10,.slice p11 l12 c13,.slice p14 l15 c16,.slice p17 l18 c19]) (qK w5 (.cells (zc Pg 31) 31) fun r20 w21=>qB w21 ⟨r20,0,none⟩ (.int .i64 n6) fun w22=>qB w22 ⟨r20,0+1,none⟩ (.int .i64 n7) fun w23=>qB w23 ⟨r20,0+2,none⟩ (.int .i64 n8) fun w24=>qB w24 ⟨r20,0+3,none⟩ (.int .i64 n9) fun w25=>qB w25 ⟨r20,0+4,none⟩ (.bool b10) fun w26=>qB w26 ⟨r20,0+5,none⟩ (.slice p11 l12 c13) fun w27=>qB w27 ⟨r20,0+6,none⟩ (.slice p14 l15 c16) fun w28=>qB w28 ⟨r20,0+7,none⟩ (.slice p17 l18 c19) fun w29=>K r20 w29):=by
 refine CallT.mono (c23 hn32 hx hl hb) ?_;rintro v w1 ⟨W,H,L,s,pp,cc,ns,pal,cl,hW,hH,rfl,F1,hos,hnn,hop,hoc,hok⟩;refine⟨_,_,_,_,_,_,_,_,_,_,_,_,_,_,rfl,?_⟩;refine qF fun w2 h2 f2 n2=> ?_;have hs:=F1.size;refine fillD h2 fun w3 h3 f3 n3=>hK ⟨(F1.trans f2).new1 f3 hs,h3,hs,?_,hnn,?_,?_,hW,hH,hok⟩
 ·exact(hos.fr0 f2).fr f3 (fun a ha=>by have:=hos.at ha;simp;omega)
 ·exact(hop.fr0 f2).fr f3 (fun a ha=>by have:=hop.at ha;simp;omega)
 ·exact(hoc.fr0 f2).fr f3 (fun a ha=>by have:=hoc.at ha;simp;omega)
theorem ldD{r:Nat}{s p c:Sl}{W H D C:Int}(h:hp w r=Row 31 (yF W H D C L s p c)){K:Int ->Int ->Int ->Int ->Bool ->pQ ->Nat ->Nat ->pQ ->Nat ->Nat ->pQ ->Nat ->Nat ->Prop}(hK:K W H D C L s.a s.len s.cap p.a p.len p.cap c.a c.len c.cap):
  LdI w ⟨r,0,none⟩ .i64 fun n1=>LdI w ⟨r,0+1,none⟩ .i64 fun n2=>LdI w ⟨r,0+2,none⟩ .i64 fun n3=>LdI w ⟨r,0+3,none⟩ .i64 fun n4=>LdB w ⟨r,0+4,none⟩ fun b=>qS w ⟨r,0+5,none⟩ fun p1 l1 c1=>qS w ⟨r,0+6,none⟩ fun p2 l2 c2=>qS w ⟨r,0+7,none⟩ fun p3 l3 c3=>K n1 n2 n3 n4 b p1 l1 c1 p2 l2 c2 p3 l3 c3:=
 qC h rfl (qC h rfl (qC h rfl (qC h rfl (zM h rfl (qL h rfl (qL h rfl (qL h rfl hK)))))))
theorem qCc{r m:Nat}{s p c:Sl}{ns:List Int}(hk:k<15)(hm:m<4294967296)(h:DrawnAt w0 w r W H (qE k).2 (qE k).1 L pal cl s p c ns){K:pQ ->Nat ->Nat ->World ->Prop}
  (hK:∀{fl xs zs d0:bQ} {dr:List (bQ)},Made k W H L pal cl fl xs zs d0 dr ->∀p' l' c' w',Fr [] w w' ->Pcs w0 w' p' l' c' (xV k W H L pal cl d0 dr) ->K p' l' c' w'):
  CallT Pg 24 #[.agg #[.int .i64 (W:Int),.int .i64 (H:Int),.int .i64 ((qE k).2:Int),.int .i64 ((qE k).1:Int),.bool L,.slice s.a s.len s.cap,.slice p.a p.len p.cap,.slice c.a c.len c.cap],.int .u32 (m:Int)] w fun v w1=>Exists fun p':pQ=>Exists fun l':Nat=>Exists fun c':Nat=>And (v= .slice p' l' c') (CallT Pg 30 #[.slice p' l' c'] w1 fun v' w2=>Exists fun p2:pQ=>Exists fun l2:Nat=>Exists fun c2:Nat=>And (v'= .slice p2 l2 c2) (K p2 l2 c2 w2)):=by
 refine CallT.mono (c24 hm h.hW h.hH (vO hk).1 h.os h.nn h.op h.oc h.ok) ?_;rintro v w1 hF;obtain⟨fl,xs,zs,d0,dr,M,f,q,c',rfl,ho⟩:=nU hk h.hW h.hH h.ok hF;exact⟨_,_,_,rfl,qBz M (h.fr.trans f) (ho.base_le h.fr.size) rfl fun p l c w' F f' hp=>hK M p l c w' (f.trans f') hp⟩
end
section
variable{w w' w0 wB:wQ}{E:Er}{k W H D C:Nat}{L:Bool}{pal:List Px}{cl:List Nat}{fl xs zs d0:bQ}{dr:List (bQ)}{p q:pQ}{l c c':Nat}{cs ds es r:List Ch}{hd dd:bQ}{nm:bQ}{s:Sl}{db rb kb crc:Nat}{d:Dec}{rs:bQ}
theorem Grow.last{ch:Ch}(h:Grow wB w s (ds++[ch]))(hbig:ds.length<=1000000000){K:ByteArray ->Prop}(hK:K ⟨ch.1.toArray⟩):
  And (0<=wrap .i64 ((s.len:Int) -(1:Int))/\wrap .i64 ((s.len:Int) -(1:Int))<(s.len:Int)) (qN s.a fun a=>LdS w (qI a (wrap .i64 ((s.len:Int) -(1:Int))).toNat 2) K):=by
 obtain⟨F,vs,ho,hpc,hl⟩:=h;rw[List.length_append,List.length_singleton]at hl;have e:wrap .i64 ((s.len:Int) -(1:Int))=((ds.length:Nat):Int):=by rw[qA oQ oQ];omega
 rw[e];refine⟨⟨oQ,oQ⟩,?_⟩;obtain⟨q,m,c2,e1,e2,_⟩:=hpc.at (i:=ds.length) (ch:=ch) sQ;obtain⟨g,o,ea,k1,k2⟩:=Has.at2 ho.has e1 e2;rw[ea,PtrC_some,zE,Int.toNat_natCast];exact rK k1 hK
end
section
variable{w w' w0 w1 wB:wQ}{E:Er}{k W H D C:Nat}{L:Bool}{pal:List Px}{cl:List Nat}{fl xs zs d0:bQ}{dr:List (bQ)}{p q:pQ}{l c c':Nat}{cs ds es r:List Ch}{hd dd:bQ}{nm:bQ}{s:Sl}{db rb kb crc:Nat}{d:Dec}{rs:bQ}
end
section
variable{w w' w0 w1 wB:wQ}{E:Er}{k W H D C:Nat}{L:Bool}{pal:List Px}{cl:List Nat}{fl xs zs d0:bQ}{dr:List (bQ)}{p q:pQ}{l c c':Nat}{cs ds es r:List Ch}{hd dd:bQ}{nm:bQ}{s:Sl}{db rb kb crc:Nat}{d:Dec}{rs:bQ}
end
section
variable{w w' w0 w1 wB:wQ}{E:Er}{k W H D C:Nat}{L:Bool}{pal:List Px}{cl:List Nat}{fl xs zs d0:bQ}{dr:List (bQ)}{p q:pQ}{l c c':Nat}{cs ds es r:List Ch}{hd dd:bQ}{nm:bQ}{db rb kb crc:Nat}{d:Dec}{rs:bQ}
theorem qGq{t:Option Bool}{s:Nat×Nat×bQ}{e0 rest ys:bQ}(hk:k<15)(hW:1<=W/\W<=20)(hH:1<=H/\H<=20)(hok:yW (qE k).2 (qE k).1 pal cl)(hA:Stp w0 w1 E db rb kb)(hR:RightAt w1 db k W H L pal cl d [])(hD:Dst w1 db rb kb p d crc (qV nIDAT e0++rest))(he0:e0.length<4294967296)
  (hF:Flow e0.length (yV 0 nIDAT) (e0++(xR (jJ (nIDAT++e0))++rest)) ys s)(hAt:cQ s)(hpre:ys<+:zs)(hor:ys=zs\/∃b,t=some b/\oN b s)(hs0:t=none ->s.1=0)(hZ:tE xs zs)(hxl:xs.length<32768):
  CallT Pg 60 #[.pointer (some ⟨db,0,none⟩),.bool false] w1 fun v w2=>Fr [rb] w0 w2/\
   ((v= .nilIface/\∃dd crc' rs',Dst w2 db rb kb p dd crc' (rs'.drop 4)/\dd.stage=4/\Flow 0 crc' rs' [] s/\4<=rs'.length/\be4 rs' 0=crc'/\(t=none ->GoodRows (if L then 1 else 0) W H (chN (qE k).1*(qE k).2) xs))\/
    (ErrD E v/\(t≠some false ->(∀crc rs,Flow 0 crc rs [] s ->4<=rs.length) ->∃sv,v= .iface 125 (.string sv))/\(t=none ->(∀crc rs,Flow 0 crc rs [] s ->4<=rs.length/\be4 rs 0=crc) ->¬GoodRows (if L then 1 else 0) W H (chN (qE k).1*(qE k).2) xs))):=by
 obtain⟨hh,hs,hp3,hut⟩:=hR.ready hok;obtain⟨bl,out,hS,hP,hzs⟩:=hZ;obtain⟨pt,IT,bpp,cp,hPK,hIT⟩:=pk_of hk d.useT hut;have hcb:=jT hk;have hd:Hd d (cbN (qE k).1 (qE k).2) (qE k).2 W H d.useT IT:=by
  refine⟨hh.W_,hh.H_,hh.D_,hh.cb_,rfl,fun e=> ?_,hW,hH⟩;obtain⟨_,n,cs,g,hpal,_,_,_,hn256⟩:=hp3 (hIT.1 e);rw[hpal];exact⟨rfl,hn256⟩
 obtain⟨h1,h2,h3,h4⟩:=yA (nm:=nIDAT) (d:=e0) (rest:=rest) rfl he0;have hsp:d.stage=1 ->¬(7<=d.cb/\d.cb<=10):=fun e hc=>by
  have:=hh.cb_;exact(hp3 (hcb.2.2 oQ)).1 e
 refine hD.c60 oQ fun w3 tmp s' F1 n1 D1=> ?_;rw[h2];have hnx:zT d nIDAT= .idat:=by
  unfold zT;rw[if_neg dQ,if_neg dQ,if_neg dQ,if_pos rfl,if_neg oQ,if_neg (fun hc=>hsp hc.1 hc.2),if_neg oQ]
 rw[hnx];dsimp only;intro hs4;subst hs4;rw[if_neg dQ,h1];rw[h2,h3]at D1;have hne':=hD.ne;have hlow:=hA.errs.low;have hlo:=hA.lo;have hd1:Hd {d with tmp:=tmp,stage:=4} (cbN (qE k).1 (qE k).2) (qE k).2 W H d.useT IT:=⟨hd.W_,hd.H_,hd.D_,hd.cb_,hd.u_,hd.pal,hd.lW,hd.lH⟩;have hlace:d.lace=0\/d.lace=1:=by rw[hh.lace_];cases L<;>simp
 refine CallT.mono (D1.c79 (t:=t) (s:=s) (ys:=ys) hPK (hA.errs.fr F1 (by simp;omega)) hlo he0 hF hAt (by rw[<-hzs];exact hpre) (by rw[<-hzs];exact hor) hxl hS hP (hA.lace.fr F1 oQ (by simp;omega)) hd1 hlace hs0) ?_;rintro v w2 ⟨F2,n2,⟨ib,pb,ex,dd,crc',rs',rfl,hI,hQ,l1,l2,hsd,hD',hFl,c1,c2,hG⟩|⟨he,hf,hg⟩⟩
 ·refine⟨hA.fr (F1.trans F2),.inl ⟨rfl,dd,crc',rs',hD',?_,hFl,c1,c2,fun e=> ?_⟩⟩
  ·obtain⟨a,b,rfl⟩:=hsd
   rfl
  ·have:=hG e
   rw[show({d with tmp:=tmp,stage:=4}:Dec).lace=d.lace from rfl,hh.lace_]at this;exact this
 ·refine⟨hA.fr (F1.trans F2),.inr ⟨he,hf,fun e hall=> ?_⟩⟩
  have:=hg e hall;rw[show({d with tmp:=tmp,stage:=4}:Dec).lace=d.lace from rfl,hh.lace_]at this;exact this
theorem wO{v:Value}{C:Int ->Prop}(h:∃sv,v= .iface 125 (.string sv))(hC:C 1):Bad E C v:=by obtain⟨sv,rfl⟩:=h;exact Bad.of125 hC
end
section
variable{w w' w0 w1 wB:wQ}{E:Er}{k W H D C:Nat}{L:Bool}{pal:List Px}{cl:List Nat}{fl xs zs d0:bQ}{dr:List (bQ)}{p q:pQ}{l c c':Nat}{cs ds es r:List Ch}{hd dd:bQ}{nm:bQ}{s:Sl}{db rb kb crc:Nat}{d:Dec}{rs:bQ}
end
section
variable{w w' w0 w1 wB:wQ}{E:Er}{k W H D C:Nat}{L:Bool}{pal:List Px}{cl:List Nat}{fl xs zs d0:bQ}{dr:List (bQ)}{p q:pQ}{l c c':Nat}{rb:Nat}
end
section
variable{w w' w0 w1 wB:wQ}{E:Er}{k W H D C:Nat}{L:Bool}{pal:List Px}{cl:List Nat}{fl xs zs d0:bQ}{dr:List (bQ)}{p q:pQ}{l c c':Nat}{cs ds es r:List Ch}{hd dd:bQ}{nm:bQ}{db rb kb crc:Nat}{d:Dec}{rs:bQ}
end
section
variable{w w' w0 w1 wB:wQ}{E:Er}{k W H D C:Nat}{L:Bool}{pal:List Px}{cl:List Nat}{fl xs zs d0:bQ}{dr:List (bQ)}{p q:pQ}{l c c':Nat}{cs ds es r:List Ch}{hd dd:bQ}{nm:bQ}{db rb kb crc:Nat}{d:Dec}{rs:bQ}
end
section
variable{w w':wQ}{E:Er}{p q:pQ}{l c:Nat}
end
def wp33(x0_0:Int)(x0_1:Int)(x0_2:Int)(x0_3:Int)(x0_4:Bool)(x0_5:pQ)(x0_5l:Nat)(x0_5c:Nat)(x0_6:pQ)(x0_6l:Nat)(x0_6c:Nat)(x0_7:pQ)(x0_7l:Nat)(x0_7c:Nat)(x1:pQ)(x1l:Nat)(x1c:Nat)(R:vPq)(w:wQ):Prop:=qK w (.cells #[iQq x0_0,iQq x0_1,iQq x0_2,iQq x0_3,.bool x0_4,.slice x0_5 x0_5l x0_5c,.slice x0_6 x0_6l x0_6c,.slice x0_7 x0_7l x0_7c] 31) fun e d=>l4q d e fun u v y z=>LdB d ⟨e,0+4,none⟩ fun A=>qS d ⟨e,0+5,none⟩ fun B C D=>qS d ⟨e,0+6,none⟩ fun E F G=>qS d ⟨e,0+7,none⟩ fun H I J=>CallT Pg 24 #[.agg #[iQq u,iQq v,iQq y,iQq z,.bool A,.slice B C D,.slice E F G,.slice H I J],.int .u32 0] d fun K L=>∃k l m,And (K= .slice k l m) (CallT Pg 30 #[.slice k l m] L fun M N=>∃n h O,And (M= .slice n h O) (qK N (.cells #[] 53) fun P Q=>xE (fun(S:(Sl×Int×Unit) ->World ->Prop)=>S ((⟨some ⟨P,0,none⟩,0,0⟩:Sl),(0:Int),()) Q) (fun b g i=>IfC (decide (b.2.1<(h:Int))) (And (0<=b.2.1/\b.2.1<(h:Int)) (qN n fun j=>LdS g (qI j b.2.1.toNat 2) fun T=>qS g ⟨(qI j b.2.1.toNat 2).block,(qI j b.2.1.toNat 2).off+1,none⟩ fun U V X=>qK g (.cells (zc Pg 53) 53) fun f Y=>qB Y ⟨f,0,none⟩ (.string T) fun Z=>qB Z ⟨f,0+1,none⟩ (.slice U V X) fun c=>LdS c ⟨f,0,none⟩ fun aa=>IfC (yI aa ⟨#[73,68,65,84]⟩) (And (0<=wIq ((b.1.len:Int) -1)/\wIq ((b.1.len:Int) -1)<(b.1.len:Int)) (qN b.1.a fun ab=>LdS c (qI ab ((wIq ((b.1.len:Int) -1)).toNat) 2) fun ac=>IfC (!(yI ac ⟨#[73,68,65,84]⟩)) (CallT Pg 56 #[.slice x1 x1l x1c,iQq 1000,iQq 1] c fun ad ae=>∃o p q,And (ad= .slice o p q) (qK ae (.cells #[.string ⟨#[73,68,65,84]⟩,.slice o p q] 53) fun af ag=>zQ Pg ag #[50,50] 50 (.slice b.1.a b.1.len b.1.cap) (.slice (some ⟨af,0,none⟩) 1 1) fun ah ai aj ak=>i ((⟨ah,ai,aj⟩:Sl),wIq (b.2.1+1),()) ak)) (i ((⟨b.1.a,b.1.len,b.1.cap⟩:Sl),wIq (b.2.1+1),()) c))) (LdS c ⟨f,0,none⟩ fun al=>qS c ⟨f,0+1,none⟩ fun am ao ap=>qK c (.cells #[.string al,.slice am ao ap] 53) fun aq ar=>zQ Pg ar #[50,50] 50 (.slice b.1.a b.1.len b.1.cap) (.slice (some ⟨aq,0,none⟩) 1 1) fun au av aw ax=>i ((⟨au,av,aw⟩:Sl),wIq (b.2.1+1),()) ax))) (CallT Pg 31 #[.slice b.1.a b.1.len b.1.cap] g fun ay az=>∃r s t,And (ay= .slice r s t) (R (.slice r s t) az)))))
theorem call33{x0_0:Int}{x0_1:Int}{x0_2:Int}{x0_3:Int}{x0_4:Bool}{x0_5:pQ}{x0_5l:Nat}{x0_5c:Nat}{x0_6:pQ}{x0_6l:Nat}{x0_6c:Nat}{x0_7:pQ}{x0_7l:Nat}{x0_7c:Nat}{x1:pQ}{x1l:Nat}{x1c:Nat}{R:vPq}{w:wQ}(h:wp33 x0_0 x0_1 x0_2 x0_3 x0_4 x0_5 x0_5l x0_5c x0_6 x0_6l x0_6c x0_7 x0_7l x0_7c x1 x1l x1c R w):CallT Pg 33 #[.agg #[.int .i64 x0_0,.int .i64 x0_1,.int .i64 x0_2,.int .i64 x0_3,.bool x0_4,.slice x0_5 x0_5l x0_5c,.slice x0_6 x0_6l x0_6c,.slice x0_7 x0_7l x0_7c],.slice x1 x1l x1c] w R:=cVq [(10,[(6,.sl),(15,.i .i64)],[1,4,13,14])] Tryz.func33 h
section
variable{w w' w0 wB:wQ}{E:Er}{k W H D C:Nat}{L:Bool}{pal:List Px}{cl:List Nat}{fl xs zs d0:bQ}{dr:List (bQ)}{p q:pQ}{l c c':Nat}{cs ds es r:List Ch}{hd dd:bQ}{nm:bQ}{s:Sl}{db rb kb crc:Nat}{d:Dec}{rs:bQ}
theorem qKz(h:tE xs zs):0<zs.length:=by
 obtain⟨_,_,_,_,hz⟩:=h;rw[hz];simp
def PkI(wB w:wQ)(xs:bQ)(fo:List Ch)(n i:Nat)(s:Sl):Prop:=
 (i<=fo.length/\Grow wB w s (fo.take i))\/(∃zz,tE xs zz/\zz.length<=8*xs.length+64/\((fo.length<i/\i<=fo.length+n/\Grow wB w s (fo++[(nIDAT,zz)]))\/(i=fo.length+n+1/\Grow wB w s (fo++[(nIDAT,zz),(xW,[])]))))
theorem c33{r:Nat}{s pp cc:Sl}{ns:List Int}(hk:k<15)(h:DrawnAt w0 w r W H (qE k).2 (qE k).1 L pal cl s pp cc ns)(hx:Has w q (bv xs))(hl:l=xs.length)(hlc:l<=c)(hb:l<65536):
  CallT Pg 33 #[.agg #[.int .i64 (W:Int),.int .i64 (H:Int),.int .i64 ((qE k).2:Int),.int .i64 ((qE k).1:Int),.bool L,.slice s.a s.len s.cap,.slice pp.a pp.len pp.cap,.slice cc.a cc.len cc.cap],.slice q l c] w fun v w'=>∃zz,tE xs zz/\zz.length<=8*xs.length+64/\dL w (qU (xV k W H L pal cl zz [])) v w':=by
 suffices key:∀R:vPq,(∀v w',(∃zz,tE xs zz/\zz.length<=8*xs.length+64/\dL w (qU (xV k W H L pal cl zz [])) v w') ->R v w') ->CallT Pg 33 #[.agg #[.int .i64 (W:Int),.int .i64 (H:Int),.int .i64 ((qE k).2:Int),.int .i64 ((qE k).1:Int),.bool L,.slice s.a s.len s.cap,.slice pp.a pp.len pp.cap,.slice cc.a cc.len cc.cap],.slice q l c] w R from key _ fun _ _ h=>h
 intro R hR;apply call33;unfold wp33 l4q wIq iQq;refine qF fun w1 h1 f1 n1=> ?_;have hd:DrawnAt w0 w1 (hn w) W H (qE k).2 (qE k).1 L pal cl s pp cc ns:=⟨h.fr.trans f1,h1,h.fr.size,h.os.fr0 f1,h.nn,h.op.fr0 f1,h.oc.fr0 f1,h.hW,h.hH,h.ok⟩;refine ldD hd.row (qCc (m:=0) hk dQ hd fun{fl zx zs d0 dr} M p2 l2 c2 w2 f2 h2=> ?_);have hl2:l2=(xV k W H L pal cl d0 dr).length:=by obtain⟨b,vs,_,_,h,_⟩:=h2;exact h
 have hld:(xZ (d0::dr)).length=dr.length+1:=by simp[xZ]
 have eM:xV k W H L pal cl d0 dr=zK W H (qE k).2 (qE k).1 L pal cl++(xZ (d0::dr)++[(xW,[])]):=by unfold xV;rw[List.append_assoc]
 have hml:=M.cs_len;have hfn:=qAc (W:=W) (H:=H) (k:=k) (L:=L) (pal:=pal) (cl:=cl);have hf0:zK W H (qE k).2 (qE k).1 L pal cl≠[]:=by rw[vY];simp
 have hmk:∀zz,qU (xV k W H L pal cl zz [])=qU (zK W H (qE k).2 (qE k).1 L pal cl++[(nIDAT,zz),(xW,[])]):=fun zz=>by simp[xV,xZ]
 have hokc:=M.okc.1;have hMl:=M.len;have F2:=f1.trans f2;have hx2:=hx.fr0 F2;refine qF fun w4 h4 f4 n4=> ?_;have hF4:=F2.trans f4;generalize hcs:xV k W H L pal cl d0 dr=cs at*;generalize hfo:zK W H (qE k).2 (qE k).1 L pal cl=fo at*;have hcl:cs.length=fo.length+(dr.length+1)+1:=by rw[eM,List.length_append,List.length_append,hld,List.length_singleton];omega
 have at1:∀{i:Nat} {ch:Ch},cs[i]? =some ch ->i<fo.length ->fo[i]? =some ch/\¬ch.1=nIDAT:=by
  intro i ch hch hi;rw[eM,List.getElem?_append_left hi]at hch;refine⟨hch,fun e=> ?_⟩;have:=hfn ch (List.mem_of_getElem? hch);rw[e]at this;rcases this with h|h|h
  ·exact absurd h dQ
  ·exact absurd h dQ
  ·exact absurd h dQ
 have at2:∀{i:Nat} {ch:Ch},cs[i]? =some ch ->fo.length<=i ->i<fo.length+(dr.length+1) ->ch.1=nIDAT:=by
  intro i ch hch hi hi2;rw[eM,List.getElem?_append_right hi,List.getElem?_append_left oQ]at hch;have:=List.mem_of_getElem? hch;simp only[xZ,List.mem_map]at this;obtain⟨x,_,rfl⟩:=this
  rfl
 have at3:∀{ch:Ch},cs[fo.length+(dr.length+1)]? =some ch ->ch=(xW,[]):=by
  intro ch hch;rw[eM,List.getElem?_append_right oQ,List.getElem?_append_right oQ,hld,show fo.length+(dr.length+1) -fo.length -(dr.length+1)=0 by omega]at hch;exact(Option.some.inj hch).symm
 refine qP (fun z w'=>∃i:Nat,z.2.1=i/\i<=cs.length/\Fr [] w2 w'/\PkI w2 w' xs fo (dr.length+1) i z.1) (fun z _ =>cs.length -z.2.1.toNat) ⟨0,rfl,oQ,f4,.inl ⟨oQ,Grow.start h4 f4 (Nat.le_refl _)⟩⟩ ?_;rintro⟨⟨sa,sl,sc⟩,_,⟨⟩⟩ w5 ⟨i,rfl,hi,F5,hP⟩;dsimp only at hP⊢;refine qG (fun hlt'=> ?_) (fun hge=> ?_)
 ·obtain⟨ch,hch⟩:∃ch,cs[i]? =some ch:=⟨_,List.getElem?_eq_getElem oQ⟩
  refine mP h2 F5 hch fun q1 c1 r1 w6 f6 hr hq hqc hqb hrn=> ?_;have F6:=F5.trans f6;rw[show yI ⟨ch.1.toArray⟩ ⟨#[73,68,65,84]⟩=(ch.1==nIDAT)from yR _ nIDAT];have ek:wrap .i64 ((i:Int)+1)=((i+1:Nat):Int):=by rw[qA oQ oQ];omega
  rw[ek];have fin:∀(s':Sl) (w':wQ),Fr [] w2 w' ->PkI w2 w' xs fo (dr.length+1) (i+1) s' ->(∃j:Nat,((i+1:Nat):Int)=j/\j<=cs.length/\Fr [] w2 w'/\PkI w2 w' xs fo (dr.length+1) j s')/\cs.length -(((i+1:Nat):Int)).toNat<cs.length -(i:Int).toNat:=
   fun s' w' F' hP'=>⟨⟨i+1,rfl,oQ,F',hP'⟩,oQ⟩
  have hblk:∀{x:Nat},x∈xD q1 ->∀{dd:List Ch},Grow w2 w6 ⟨sa,sl,sc⟩ dd ->x<hn w6/\x∉xD sa:=fun hx' _ hG=>⟨Nat.lt_of_lt_of_le (hqb _ hx').1 F6.size,fun h'=>by have:=(hG.blk _ h').1;have:=(hqb _ hx').1;omega⟩;refine qT (fun hid=> ?_) (fun hid=> ?_)
  ·have e2:ch.1=nIDAT:=eq_of_beq hid
   rcases hP with⟨hi1,hG⟩|⟨zz,hZ,hzl,⟨hi1,hi2,hG⟩|⟨hi1,hG⟩⟩
   ·have hie:i=fo.length:=by
     rcases Nat.lt_or_ge i fo.length with h'|h'
     ·exact absurd e2 (at1 hch h').2
     ·omega
    subst hie;rw[List.take_length]at hG;have hG6:=hG.fr0 f6;obtain⟨fi,fz,hfe⟩:∃fi fz,fo=fi++[fz]:=⟨_,_,(List.dropLast_concat_getLast hf0).symm⟩;have hlast:¬fz.1=nIDAT:=by
     have:=hfn fz (by rw[hfe];simp);intro e;rw[e]at this;rcases this with h|h|h
     ·exact absurd h dQ
     ·exact absurd h dQ
     ·exact absurd h dQ
    have hG6':=hG6;rw[hfe]at hG6';have hfil:fo.length=fi.length+1:=by rw[hfe,List.length_append,List.length_singleton]
    refine Grow.last hG6' oQ ?_;rw[show yI ⟨fz.1.toArray⟩ ⟨#[73,68,65,84]⟩=(fz.1==nIDAT)from yR _ nIDAT,show(fz.1==nIDAT)=false from beq_false_of_ne hlast];refine xC (CallT.mono (c56 ((hx2.fr0 F5).fr0 f6) hl hlc oQ dQ) ?_);rintro _ w7 ⟨zz,hZ,hzl,f7,q2,c2',rfl,ho7⟩;refine⟨_,_,_,rfl,?_⟩;have F7:=F6.trans f7;obtain⟨b7,rfl,_⟩:=pW ho7 (qKz hZ);have hb7:=ho7.at rfl;refine Grow.add (nm:=nIDAT) (dd:=zz) (hG6.fr0 f7) ho7.has rfl (fun e=>by cases e) (fun x hx'=> ?_) oQ fun s8 w8 hG8 f8 hm8=> ?_
    ·simp[xD]at hx'
     subst hx';exact⟨hb7.2.2.2,fun h'=>by have h5:=(hG6.blk _ h').2;have h6:hn w6<=x:=hb7.2.2.1;omega⟩
    ·exact fin s8 w8 hG8.1 (.inr ⟨zz,hZ,by rw[<-hl];exact hzl,.inl ⟨oQ,oQ,hG8⟩⟩)
   ·have hG6:=hG.fr0 f6
    refine Grow.last hG6 oQ ?_;rw[show yI ⟨((nIDAT,zz):Ch).1.toArray⟩ ⟨#[73,68,65,84]⟩=(nIDAT==nIDAT)from yR _ nIDAT,show(nIDAT==nIDAT)=true from rfl];refine qM (fin ⟨sa,sl,sc⟩ w6 F6 (.inr ⟨zz,hZ,hzl,.inl ⟨oQ,?_,hG6⟩⟩));rcases Nat.lt_or_ge i (fo.length+(dr.length+1))with h'|h'
    ·omega
    ·obtain rfl:i=fo.length+(dr.length+1):=oQ
     rw[at3 hch]at e2;exact absurd e2 (show¬xW=nIDAT by decide)
   ·omega
  ·have e2:¬ch.1=nIDAT:=by intro e;rw[e]at hid;exact absurd hid dQ
   rcases hP with⟨hi1,hG⟩|⟨zz,hZ,hzl,⟨hi1,hi2,hG⟩|⟨hi1,hG⟩⟩
   ·rcases Nat.lt_or_ge i fo.length with h'|h'
    ·have hG6:=hG.fr0 f6
     have hlt:(fo.take i).length<=1000000000:=by rw[List.length_take];omega
     refine hG6.addAt (nm:=ch.1) (dd:=ch.2) hr hq hqc (fun x hx'=>hblk hx' hG6) hlt fun s7 w7 hG7 f7 _ =>fin s7 w7 hG7.1 (.inl ⟨oQ,?_⟩);have etk:fo.take (i+1)=fo.take i++[ch]:=by rw[List.take_add_one,(at1 hch h').1];rfl
     rw[etk];exact hG7
    ·exact absurd (at2 hch h' oQ) e2
   ·have hie:i=fo.length+(dr.length+1):=by
     rcases Nat.lt_or_ge i (fo.length+(dr.length+1))with h'|h'
     ·exact absurd (at2 hch oQ h') e2
     ·omega
    subst hie;have hce:=at3 hch;subst hce;have hG6:=hG.fr0 f6;refine hG6.addAt (nm:=xW) (dd:=[]) hr hq hqc (fun x hx'=>hblk hx' hG6) (by rw[List.length_append,List.length_singleton];omega) fun s7 w7 hG7 f7 _ =>fin s7 w7 hG7.1 (.inr ⟨zz,hZ,hzl,.inr ⟨oQ,?_⟩⟩);rw[List.append_assoc]at hG7;exact hG7
   ·omega
 ·rcases hP with⟨hi1,hG⟩|⟨zz,hZ,hzl,⟨hi1,hi2,hG⟩|⟨hi1,hG⟩⟩
  ·omega
  ·omega
  ·obtain⟨_,vs,ho,hpc,hsl⟩:=hG
   have hfo2:kA (fo++[(nIDAT,zz),(xW,[])]):=by
    intro x hx';rw[List.mem_append]at hx';rcases hx' with hx'|hx'
    ·exact hokc x (by rw[eM];simp[hx'])
    ·simp at hx'
     rcases hx' with rfl|rfl
     ·exact⟨rfl,by show zz.length<_;omega⟩
     ·exact⟨rfl,by show(0:Nat)<_;decide⟩
   have hlt:(qU (fo++[(nIDAT,zz),(xW,[])])).length<1099511627776:=by
    have e1:(qU cs).length<1000000000:=hMl;rw[eM]at e1;unfold qU at e1⊢;simp only[xU,qZ,List.length_append]at e1⊢;rw[xA (nm:=nIDAT) rfl,xA (nm:=xW) rfl];simp only[vJ,List.length_nil];omega
   refine CallT.mono (c31 ho.has hpc (fun x hx'=>hx'.1) hsl hlt hfo2) ?_;rintro v w6 ⟨f6,q6,c6,rfl,ho6⟩;exact⟨_,_,_,rfl,hR _ _ ⟨zz,hZ,hzl,(F2.trans F5).trans f6,q6,c6,by rw[hmk],by rw[hmk];exact ho6.base_le (F2.trans F5).size⟩⟩
end
section
variable{w w' w0 w1 wB:wQ}{E:Er}{k W H D C:Nat}{L:Bool}{pal:List Px}{cl:List Nat}{fl xs ys zs zz d0:bQ}{dr:List (bQ)}{p q:pQ}{l c c':Nat}{cs ds es r:List Ch}{hd dd:bQ}{nm:bQ}{s:Sl}{db rb kb crc:Nat}{d:Dec}{rs:bQ}
theorem qLm{lace:Int}{bits:Nat}(h1:GoodRows lace W H bits xs)(h2:GoodRows lace W H bits ys):xs.length=ys.length:=by
 by_cases h:lace=1
 ·rw[(h1.2 h).1,(h2.2 h).1]
 ·rw[(h1.1 h).1,(h2.1 h).1]
theorem qLd{lace:Int}{bits:Nat}(hW:1<=W)(hH:1<=H)(h:GoodRows lace W H bits xs):0<xs.length:=by
 by_cases hl:lace=1
 ·rw[(h.2 hl).1]
  have h1:=fM (W:=W) (H:=H) (bits:=bits) (show 1<=7 by decide);have hp:1<=passW W 0:=by
   show 1<=(W+8 -1 -0)/8;omega
  have hq:1<=passH H 0:=by
   show 1<=(H+8 -1 -0)/8;omega
  have h2:0<rF W H bits 0:=by
   unfold rF
   first
    |(rw[if_neg oQ];exact Nat.mul_pos hq (by unfold zF;omega))
    |exact Nat.mul_pos hq (by unfold zF;omega)
  have h3:gN W H bits 1=rF W H bits 0:=by show 0+rF W H bits 0=_;omega
  omega
 ·rw[(h.1 hl).1]
  exact Nat.mul_pos hH (by unfold zF;omega)
theorem qKr(hk:k<15)(hW:1<=W/\W<=20)(hH:1<=H/\H<=20)(hok:yW (qE k).2 (qE k).1 pal cl)(hrows:RowsOf (mH W H (qE k).2 (qE k).1 L) (gF fl) xs)(hZ:tE xs zz)(hzl:zz.length<=8*xs.length+64):Made k W H L pal cl fl xs zz zz []:=by
 have hD16:(qE k).2<=16:=by have:=(vO hk).1;omega
 have hx:=aS hrows hW.2 hH.2 hD16;refine⟨hk,hW,hH,hok,hrows,hZ,sQ,fun x hx'=> ?_,oQ,hx⟩;simp at hx';subst hx';exact List.length_pos_iff.1 (qKz hZ)
theorem qLg(hk:k<15)(hW:1<=W/\W<=20)(hH:1<=H/\H<=20)(hok:yW (qE k).2 (qE k).1 pal cl)(hZ:tE ys zz)(hzl:zz.length<4294967296)(hyl:ys.length<32768)(hbad:¬GoodRows (if L then 1 else 0) W H (chN (qE k).1*(qE k).2) ys)(hV:Env w E)
  (hx:Has w q (bv (qU (xV k W H L pal cl zz []))))(hl:l=(qU (xV k W H L pal cl zz [])).length)(hlb:l<1099511627776):CallT Pg 29 #[.slice q l c,.int .i64 1] w fun v w'=>v= .bool true/\Fr [] w w':=by
 have ef:qU (xV k W H L pal cl zz [])=sigL++(chs (zK W H (qE k).2 (qE k).1 L pal cl)++(qV nIDAT zz++chs [(xW,[])])):=by
  rw[qU,xV,List.append_assoc,xU]
  rfl
 refine gP (a:=zK W H (qE k).2 (qE k).1 L pal cl) (r:=[]) (bad:=qV nIDAT zz++chs [(xW,[])]) ef hx hl hlb hV (by rw[List.append_nil]) hk hW hH hok (fun _ _ _ =>False) (fun{w0 w1 db rb kb p d crc} hA hD hR=> ?_) (fun _ _ h=>h.elim);refine CallT.mono (qGq (t:=none) (s:=(0,jJ (nIDAT++zz),xR (jJ (nIDAT++zz))++chs [(xW,[])])) (ys:=zz) hk hW hH hok hA hR hD hzl ?_ (.inl rfl) (List.prefix_refl _) (.inl rfl) (fun _ =>rfl) hZ hyl) ?_
 ·have:=mF (d:=zz) (c:=yV 0 nIDAT) (Flow.done 0 (yV (yV 0 nIDAT) zz) (xR (jJ (nIDAT++zz))++chs [(xW,[])]))
  rw[List.append_nil,jK]at this;exact this
 ·rintro v w2 ⟨F,⟨_,dd',crc',rs',_,_,_,_,_,hG⟩|⟨_,hf,_⟩⟩
  ·exact absurd (hG rfl) hbad
  ·refine⟨F,.inl (wO (hf dQ fun crc rs hFl=> ?_) rfl)⟩
   obtain⟨rfl,rfl⟩:=lJ hFl;rw[List.length_append,xG];omega
theorem qKw(hk:k<15)(hok:yW (qE k).2 (qE k).1 pal cl)(hZ:tE ys zz)(hzl:zz.length<=2097152):(qU (xV k W H L pal cl zz [])).length<1099511627776:=by
 obtain⟨_,_,h2,_⟩:=nJ (W:=W) (H:=H) (L:=L) (ds:=[zz]) hk hok (qKz hZ) hzl sQ (fun x hx'=>by simp at hx';subst hx';exact List.length_pos_iff.1 (qKz hZ));exact h2
end
section
variable{w w' w0:wQ}
end
section
variable{w w' w0 w1 wB:wQ}{E:Er}{k W H D C:Nat}{L:Bool}{pal:List Px}{cl:List Nat}{fl xs ys zs zz d0:bQ}{dr:List (bQ)}{p q:pQ}{l c c':Nat}
end
def wp10(x0:Int)(x1:pQ)(x1l:Nat)(x1c:Nat)(x2:pQ)(x2l:Nat)(x2c:Nat)(R:vPq)(w:wQ):Prop:=xK (fun(cl:(Unit)) (Y:wQ)=>CallT Pg 22 #[.slice x1 x1l x1c] Y fun Z e=>∃j,And (Z= .bool j) (IfC (!j) (R (.bool true) e) (IfC ((x2l:Int)==0) (R (.bool true) e) (IfC (decide ((x2l:Int)>(1000:Int))) (R (.bool true) e) (CallT Pg 23 #[.int .u32 x0,.slice x1 x1l x1c] e fun aa ab=>∃k l m n o p q r s t u v y z,And (aa= .agg #[iQq k,iQq l,iQq m,iQq n,.bool o,.slice p q r,.slice s t u,.slice v y z]) (qK ab (.cells (zc Pg 31) 31) fun a ac=>qB ac ⟨a,0,none⟩ (iQq k) fun ad=>qB ad ⟨a,0+1,none⟩ (iQq l) fun ae=>qB ae ⟨a,0+2,none⟩ (iQq m) fun af=>qB af ⟨a,0+3,none⟩ (iQq n) fun ag=>qB ag ⟨a,0+4,none⟩ (.bool o) fun ah=>qB ah ⟨a,0+5,none⟩ (.slice p q r) fun ai=>qB ai ⟨a,0+6,none⟩ (.slice s t u) fun aj=>qB aj ⟨a,0+7,none⟩ (.slice v y z) fun f=>l4q f a fun ak al am ao=>LdB f ⟨a,0+4,none⟩ fun ap=>qS f ⟨a,0+5,none⟩ fun aq ar au=>CallT Pg 32 #[.agg #[iQq ak,iQq al,iQq am,iQq ao,.bool ap],.slice aq ar au,.slice none 0 0] f fun av aw=>∃g h i,And (av= .slice g h i) (qO aw fun c=>l4q c a fun ax ay az ba=>LdB c ⟨a,0+4,none⟩ fun bb=>qS c ⟨a,0+5,none⟩ fun bc bd be=>qS c ⟨a,0+6,none⟩ fun bf bg bh=>qS c ⟨a,0+7,none⟩ fun bi bj bk=>CallT Pg 33 #[.agg #[iQq ax,iQq ay,iQq az,iQq ba,.bool bb,.slice bc bd be,.slice bf bg bh,.slice bi bj bk],.slice g h i] c fun bl bm=>∃A B C,And (bl= .slice A B C) (CallT Pg 28 #[.slice A B C] bm fun bn b=>∃D,And (bn= .bool D) (IfC D (l4q b a fun E F G H=>LdB b ⟨a,0+4,none⟩ fun I=>qS b ⟨a,0+5,none⟩ fun J K L=>qS b ⟨a,0+6,none⟩ fun M N O=>qS b ⟨a,0+7,none⟩ fun P Q S=>zQ Pg b #[33,33] 33 (.slice g h i) (.slice x2 x2l x2c) fun bo bp bq d=>l4q d a fun br bs bt bu=>LdB d ⟨a,0+4,none⟩ fun bv=>qS d ⟨a,0+5,none⟩ fun bw bx bz=>qS d ⟨a,0+6,none⟩ fun ca cb cc=>qS d ⟨a,0+7,none⟩ fun cd ce cf=>And ((.agg #[iQq br,iQq bs,iQq bt,iQq bu,.bool bv,.slice bw bx bz,.slice ca cb cc,.slice cd ce cf]:Value)= .agg #[iQq E,iQq F,iQq G,iQq H,.bool I,.slice J K L,.slice M N O,.slice P Q S]) (CallT Pg 33 #[.agg #[iQq E,iQq F,iQq G,iQq H,.bool I,.slice J K L,.slice M N O,.slice P Q S],.slice bo bp bq] d fun cg ch=>∃T U V,And (cg= .slice T U V) (CallT Pg 29 #[.slice T U V,iQq 1] ch fun ci cj=>∃X,And (ci= .bool X) (R (.bool X) cj)))) (R (.bool false) b)))))))))) (fun ck=>IfC (decide ((x1l:Int)>(2147483647:Int))) (R (.bool true) w) (IfC (decide ((x2l:Int)>(2147483647:Int))) (R (.bool true) w) (ck (()) w)))
theorem eq10(x0:Int)(x1:pQ)(x1l:Nat)(x1c:Nat)(x2:pQ)(x2l:Nat)(x2c:Nat)(R:vPq)(w:wQ):preJ Pg Gg (sA [(2,[],[0,1,2])]) 5 0 (jH Tryz.f10) (fR Pg Tryz.f10.results.toList R) (fun e w=>qO w fun w=>qKq Pg Gg (qKu (fY 5 (jH Tryz.f10))) (qKu (fY 5 (jH Tryz.f10))).size (Array.replicate (qKu (fY 5 (jH Tryz.f10))).size false) [] [] e w fun e w=>vc Pg Gg (sA []) 0 (eJ (fY 5 (jH Tryz.f10))) (fR Pg Tryz.f10.results.toList R) e w) (kF 0 [.int .u32 x0,.slice x1 x1l x1c,.slice x2 x2l x2c]) w=wp10 x0 x1 x1l x1c x2 x2l x2c R w:=by kernel_rfl
theorem call10{x0:Int}{x1:pQ}{x1l:Nat}{x1c:Nat}{x2:pQ}{x2l:Nat}{x2c:Nat}{R:vPq}{w:wQ}(h:wp10 x0 x1 x1l x1c x2 x2l x2c R w):CallT Pg 10 #[.int .u32 x0,.slice x1 x1l x1c,.slice x2 x2l x2c] w R:=
 qLc (k:=5) follows bL Tryz.func10 (c:=jH Tryz.f10) (by kernel_rfl) (by kernel_rfl) (by kernel_rfl) (by kernel_rfl) (id:=7) (by kernel_rfl) (by kernel_rfl) ((eq10 x0 x1 x1l x1c x2 x2l x2c R w).mpr h)
section
variable{P:Program}{t ty e size bytes:Nat}
theorem qLr{w:wQ}{a:Addr}{vs:List Value}(h:HasW w (some a) vs):∀(j:Nat) (v:Value),vs[j]? =some v ->w.cell? (a.add j)=some v:=by
 intro j v hv;obtain⟨h0,h1⟩:=h j v hv;obtain⟨b,o,s⟩:=a;simp only at h0 h1;subst h0;rw[yP];exact h1
theorem qLx{w w':wQ}{p:pQ}{vs:List Value}(h:HasW w p vs)(f:Fr [] w w'):HasW w' p vs:=by
 cases p with
 |none=>exact h
 |some a=>
  intro j v hv;obtain⟨h0,h1⟩:=h j v hv;refine⟨h0,?_⟩;rw[yM]at h1⊢;have hlt:a.block<hn w:=by
   rw[<-yM]at h1;exact qIl h1
  first
   |rw[f.same a.block hlt sQ];exact h1
   |rw[f.keep a.block hlt sQ];exact h1
   |rw[f.hp a.block hlt sQ];exact h1
theorem qLt(hok:dO P t e size bytes=true){S:List Nat}{w0 w:wQ}(hf:Fr S w0 w){p:pQ}{l c:Nat}{xs:List Value}(hown:Own w (hn w0) e size p l c xs)
  {q:pQ}{m d:Nat}{news:List Value}(hx:HasW w q news)(hm:news.length=m*size)(h1:∀u∈news,u.oneCell'=true)(hbig:l+m<=1099511627776)(hd:q=none ->d=0)
  {K:pQ ->Nat ->Nat ->World ->Prop}(hK:∀p' c' w',Fr S w0 w' ->Fr (xD p) w w' ->Own w' (hn w0) e size p' (l+m) c' (xs++news) ->(∀x∈xD p',x∈xD p\/hn w<=x) ->K p' (l+m) c' w'):
  zQ P w #[t,t] ty (.slice p l c) (.slice q m d) K:=by
 obtain⟨ht,i,z,hi,rfl,rfl,hz,hzs,hpos,hb64⟩:=iA hok;have hnew:∀(need old:Nat) (ys:List Value),ys.length=need*i.size ->hn w0<=hn w ->need<=grownCap w need old e ->
   Own (w.drew.alloc (.cells (ys.toArray++Builtin.zeroCells z.cells (grownCap w need old e -need)) e)) (hn w0) e i.size (some ⟨w.heap.size,0,none⟩) need (grownCap w need old e) ys:=by
  intro need old ys hys hle hcap;refine⟨hys,.inr ⟨hn w,_,rfl,hle,by rw[<-hn_drew w,hp_alloc_new],hcap,?_,fun j v hj=> ?_⟩⟩
  ·rw[Array.size_append,size_zeroCells,hzs]
   simp only[List.size_toArray,hys];rw[<-Nat.add_mul];congr 1;omega
  ·rw[Array.getElem?_append_left (by simp;exact(List.getElem?_eq_some_iff.1 hj).1)]
   simpa using hj
 have hsz:=hf.size;have same:∀{w':wQ},w'=w ->m=0 ->K p (l+m) c w':=by
  intro w' e1 e2;subst e1 e2;have:news=[]:=List.length_eq_zero_iff.1 (by rw[hm];simp);subst this;exact hK p c w' hf (Fr.refl _ _) (by simpa using hown) (fun x hx=> .inl hx)
 cases q with
 |none=>
  have hnil:news=[]:=hx;subst hnil;have hm0:m=0:=by
   simp only[List.length_nil]at hm;rcases Nat.mul_eq_zero.1 hm.symm with h|h
   ·exact h
   ·omega
  have hd0:=hd rfl;subst hd0;refine⟨p,l+m,c,w,?_,same rfl hm0⟩;subst hm0;rcases hown with⟨_,⟨rfl,rfl,rfl⟩|⟨g,arr,rfl,_,_,hlc,_⟩⟩
  ·simp[Builtin.append_,run_underlying ht,sizeOf,typeInfo,hi,Builtin.lenOf,Builtin.firstCells]
  ·simp[Builtin.append_,run_underlying ht,sizeOf,typeInfo,hi,Builtin.lenOf,Builtin.firstCells,hlc,storeCells]
 |some a=>
  have hcs:=qLr hx;rcases hown with⟨hl,⟨rfl,rfl,rfl⟩|⟨g,arr,rfl,hbg,hg,hlc,hsize,hxs⟩⟩
  ·have hxs0:xs=[]:=List.length_eq_zero_iff.1 (by rw[hl];simp)
   subst hxs0;rcases Nat.eq_zero_or_pos m with rfl|hpos'
   ·have:news=[]:=List.length_eq_zero_iff.1 (by rw[hm];simp)
    subst this;refine⟨none,0+0,0,w,?_,same rfl rfl⟩;simp[Builtin.append_,run_underlying ht,sizeOf,typeInfo,hi,Builtin.lenOf,Builtin.firstCells,loadCells,loadCellsFrom]
   ·have hr:=run_append_nil (P:=P) w t ty e i z ht hi hz a m d news hm hcs hpos' oQ (by
     calc m*i.bytes<=1099511627776*64:=Nat.mul_le_mul oQ hb64
      _ <=281474976710656:=dQ)
    have hg':=hnew m 0 news hm hsz (grownCap_ge _ _ _ _);refine⟨_,_,_,_,hr,?_⟩;have:=hK (some ⟨w.heap.size,0,none⟩) (grownCap w m 0 e) _ ((hf.drewR).allocR _) ((Fr.drew _ _).allocR _) (by simpa using hg') (fun x hx=> .inr (by simp[xD]at hx;subst hx;exact Nat.le_refl _))
    simpa using this
  ·by_cases hroom:l+m<=c
   ·have hfit:l*i.size+news.length<=arr.size:=by rw[hm,hsize,<-Nat.add_mul];exact Nat.mul_le_mul_right _ hroom
    have hst:=tO (P:=P) (vs:=news) (w:=w) (i:=0) (o:=l*i.size) hg (by simpa using hfit) h1;have hfc:=run_firstCells_some (P:=P) w i.size m a m d news hm hcs;refine⟨some ⟨g,0,none⟩,l+m,c,updL w g (l*i.size) news,?_,?_⟩
    ·simp only[Nat.add_zero]at hst
     simp[Builtin.append_,run_underlying ht,sizeOf,typeInfo,hi,Builtin.lenOf,hroom,hfc,Addr.add_lit,hst]
    ·obtain⟨arr',h2,h3,h4⟩:=dX (vs:=news) (o:=l*i.size) hg hfit
     refine hK _ _ _ (hf.trans' (S':=[g]) (Fr.updL sQ) (fun x hx hlt=>by simp at hx;omega)) (Fr.updL (by simp[xD])) ⟨by rw[List.length_append,hl,hm,Nat.add_mul],.inr ⟨g,arr',rfl,hbg,h2,hroom,by rw[h3,hsize],fun j v hj=> ?_⟩⟩ (fun x hx=> .inl hx);rw[h4 j]
     by_cases hjl:j<xs.length
     ·rw[List.getElem?_append_left hjl]at hj
      rw[if_neg oQ];exact hxs j v hj
     ·rw[List.getElem?_append_right oQ]at hj
      have:=(List.getElem?_eq_some_iff.1 hj).1;rw[if_pos oQ,<-hj,hl]
   ·have holds:∀(j:Nat) (v:Value),xs[j]? =some v ->w.cell? ((⟨g,0,none⟩:Addr).add j)=some v:=by
     intro j v hj;rw[yP,yM,hg,atR_Row]
     simpa using hxs j v hj
    have hr:=run_append_grow (P:=P) w t ty e i z ht hi hz ⟨g,0,none⟩ l c xs hl holds a m d news hm hcs oQ oQ (growslice_fits oQ (by
     calc (l+m)*i.bytes<=1099511627776*64:=Nat.mul_le_mul hbig hb64
      _ <=140737488355328:=dQ))
    have hg':=hnew (l+m) c (xs++news) (by rw[List.length_append,hl,hm,Nat.add_mul]) hsz (grownCap_ge _ _ _ _);refine⟨_,_,_,_,hr,?_⟩;have:=hK (some ⟨w.heap.size,0,none⟩) (grownCap w (l+m) c e) _ ((hf.drewR).allocR _) ((Fr.drew _ _).allocR _) (by simpa using hg') (fun x hx=> .inr (by simp[xD]at hx;subst hx;exact Nat.le_refl _))
    simpa using this
end
section
variable{w w' w0 w1 wB:wQ}{E:Er}{k W H D C:Nat}{L:Bool}{pal:List Px}{cl:List Nat}{fl xs ys zs zz d0:bQ}{dr:List (bQ)}{p q:pQ}{l c c':Nat}
theorem c10{n:Nat}(hn32:n<4294967296){ss:List Nat}(hx:HasW w p (ss.map fun(s:Nat)=> .int .u16 (s:Int)))(hl:l=ss.length){qb:pQ}{mb cb:Nat}{bs:bQ}(hbs:HasW w qb (bv bs))(hlb:mb=bs.length)(hV:Env w E):CallT Pg 10 #[.int .u32 n,.slice p l c,.slice qb mb cb] w fun v w'=>v= .bool true/\Fr [] w w':=by
 apply call10;unfold wp10 l4q iQq;refine qJ (fun _ w'=>w'=w) ?_ (fun J hJ=>qG (fun _ =>⟨rfl,Fr.refl _ _⟩) (fun _ =>qG (fun _ =>⟨rfl,Fr.refl _ _⟩) (fun _ =>hJ _ _ rfl)))
 ·rintro⟨⟩ w' rfl
  refine rA (R:=fun v w0=>v= .bool true/\Fr [] w' w0) ⟨rfl,Fr.refl _ _⟩ fun hb=> ?_;refine qQ (fun _ =>⟨rfl,Fr.refl _ _⟩) (fun hm0=>qG (fun _ =>⟨rfl,Fr.refl _ _⟩) (fun hm1=> ?_));refine hU hn32 hx hl hb fun{W H L pal cl s pp cc ns r w1} hd=> ?_;have hk15:n%15<15:=Nat.mod_lt _ dQ;generalize n%15=k at*;have hsl:s.len=ns.length:=by have:=hd.os.1;simp[tJ]at this;omega
  have hcN:=(tF (qE k).1).1;have hpos:0<s.len:=by
   rw[hsl,hd.nn];exact Nat.mul_pos (Nat.mul_pos hd.hW.1 hd.hH.1) hcN
  have hrow:=hd.row;refine qC hrow rfl (qC hrow rfl (qC hrow rfl (qC hrow rfl (zM hrow rfl (qL hrow rfl ?_)))));obtain⟨b,hsa,hsc⟩:=pW hd.os hpos;have hos:=hd.os.has;rw[hsa]at hos⊢;have hW64:1<=W/\W<=64:=⟨hd.hW.1,by have:=hd.hW.2;omega⟩;have hH64:1<=H/\H<=64:=⟨hd.hH.1,by have:=hd.hH.2;omega⟩;refine CallT.mono (c32 (q:=none) (fs:=[]) (L:=L) (C:=(qE k).1) hW64 hH64 (vO hk15).1 hos hsl hd.nn hsc rfl rfl dQ) ?_;rintro _ w2 ⟨xs,hrows,f2,q2,c2,rfl,ho2⟩;refine⟨_,_,_,rfl,qH fun w3 f3 n3=> ?_⟩;have hd3:=(hd.fr0 f2).fr0 f3;have ho3:=ho2.fr0 f3;have hD16:(qE k).2<=16:=by have:=(vO hk15).1;omega
  have hxl:=aS hrows hd.hW.2 hd.hH.2 hD16;have hgood:=nM hd.hW.1 hd.hH.1 hrows;have hx0:=qLd hd.hW.1 hd.hH.1 hgood;obtain⟨b2,rfl,hc2⟩:=pW ho3 hx0;refine ldD hd3.row (CallT.mono (c33 hk15 hd3 ho3.has rfl hc2 oQ) ?_);rintro _ w4 ⟨zz,hZ,hzl,f4,q4,c4,rfl,ho4⟩;have hd4:=hd3.fr0 f4;have M:=qKr hk15 hd.hW hd.hH hd.ok hrows hZ hzl;refine⟨_,_,_,rfl,CallT.mono (M.whole (hV.fr0 hd4.fr) rfl ho4.has rfl) ?_⟩;rintro _ w5 ⟨rfl,f5⟩;have hd5:=hd4.fr0 f5;have ho5:=(ho3.fr0 f4).fr0 f5;have hq0:qb=none ->cb=0:=by
   intro e;subst e;have h0:bv bs=[]:=hbs;have h1:=bv_length bs;rw[h0]at h1;simp at h1;omega
  refine⟨_,rfl,xC (ldD hd5.row ?_)⟩;have hsum:xs.length<=22540:=by
   rw[(qCu hrows).1];exact qAe hd.hW.2 hd.hH.2 hD16
  refine qLt jE (((f2.trans f3).trans f4).trans f5) ho5 (qLx hbs hd5.fr) (by rw[bv_length];omega) (uN _) oQ hq0 fun p6 c6 w6 F6 f6 ho6 _ => ?_;have hd6:=hd.fr0 F6;refine ldD hd6.row ⟨rfl,?_⟩;obtain⟨b6,rfl,hc6⟩:=pW ho6 oQ;have hh:=ho6.has;rw[<-bv_append]at hh;have hyl:xs.length+mb=(xs++bs).length:=by rw[List.length_append,hlb]
  refine CallT.mono (c33 hk15 hd6 hh hyl hc6 oQ) ?_;rintro _ w7 ⟨zy,hZy,hzy,f7,q7,c7,rfl,ho7⟩;have hd7:=hd6.fr0 f7;refine⟨_,_,_,rfl,CallT.mono (qLg (L:=L) hk15 hd.hW hd.hH hd.ok hZy oQ oQ (fun hg=> ?_) (hV.fr0 hd7.fr) ho7.has rfl (qKw hk15 hd.ok hZy oQ)) ?_⟩
  ·have:=qLm hgood hg
   omega
  ·rintro _ w8 ⟨rfl,f8⟩
   exact⟨_,rfl,rfl,hd7.fr.trans f8⟩
end
end Go.Proofs
