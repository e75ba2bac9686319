/- Facts on the program and on what is laid -/
import Derived.ChangeMade
import Derived.Test.YtklagmhonmbdgaaGreatDoorRowKit
set_option maxRecDepth 1000000
set_option linter.unusedVariables false
set_option linter.unusedSimpArgs false
set_option maxHeartbeats 4000000
namespace Go.Proofs.YtklagmhonmbdgaaGreatDoor
open Go Go.V Go.ChangeShapes Go.WideShapes Go.ChangeAt Go.RowKit
open Go.IntKind (wrap)
theorem gEof:Tryz.prog.globalNamed "io.EOF" =some 0:=by kernel_rfl
theorem gUne:Tryz.prog.globalNamed "io.ErrUnexpectedEOF" =some 1:=by kernel_rfl
theorem gTyp:Tryz.prog.globalNamed "errors.errorType" =some 2:=by kernel_rfl
theorem gLace:Tryz.prog.globalNamed "loop.example/pub-g03440/pub/png.interlacing" =some 6:=by kernel_rfl
theorem tEof:(Tryz.prog.globals[0]?).map (·.type)=some 82:=by kernel_rfl
theorem tUne:(Tryz.prog.globals[1]?).map (·.type)=some 82:=by kernel_rfl
theorem tLace:((Tryz.prog.globals[6]?).map (·.type)).bind (Tryz.prog.underlying ·)=some (.slice 215):=by kernel_rfl
noncomputable def nmIs(e:TypeId)(s:String):Bool:=match Tryz.prog.info? e with|some i=>(match i.desc with| .named n _ =>n==s| .bool| .int _ | .float _ | .string=>i.str==s|_ =>false)|none=>false
noncomputable def nmOk(u:TypeId):Bool:=match Tryz.prog.info? u with|some i=>(match i.desc with| .pointer e=> !(nmIs e "errors.errorString")||Nat.beq u 310| .named n _ => !(n== "*errors.errorString")| .bool| .int _ | .float _ | .string=> !(i.str== "*errors.errorString")|_ =>true)|none=>true
theorem nmAll:((List.range Tryz.prog.types.size).all nmOk)=true:=by kernel_rfl
theorem star_inj{a b:String}(h: "*" ++a= "*" ++b):a=b:=by
 have:=congrArg String.toList h;rw[String.toList_append,String.toList_append]at this;exact String.toList_inj.1 (List.append_cancel_left this)
theorem star_ne{a:String}: "*" ++a≠ "errors.errorString" :=by
 intro h;have:=congrArg String.toList h;rw[String.toList_append]at this;simp at this
theorem nm2{d:Nat}{e:TypeId}(h:Tryz.prog.typeName? (d+1) e=some "errors.errorString"):nmIs e "errors.errorString" =true:=by
 unfold Program.typeName? at h;unfold nmIs
 split at h
 ·rename_i i hi
  rw[hi];simp only
  split at h
  ·rename_i n m hd
   rw[hd]
   split at h
   ·simp at h⊢;exact h
   ·cases h
  ·rename_i e' hd
   simp only[Option.map_eq_some_iff]at h;obtain⟨a,_,h⟩:=h;exact absurd h star_ne
  all_goals first
   |(cases h;done)
   |(rename_i hd;rw[hd];split at h<;>simp_all)
 ·cases h
theorem nmB:((List.range Tryz.prog.types.size).all fun e=>match Tryz.prog.info? e with|some i=>(match i.desc with| .bool| .int _ | .float _ | .string=> !(i.str== "errors.errorString")|_ =>true)|none=>true)=true:=by kernel_rfl
theorem ptr_reckon{info:TypeId ->Option TypeInfo}{d:TypeDesc}{i:TypeInfo}{e:TypeId}(h:Made.reckon info d=some i)(hd:i.desc= .pointer e):∃j,info e=some j/\∀n m,j.desc≠ .named n m:=by
 cases d with
 |pointer e'=>
  unfold Made.reckon at h;simp only[bind,Option.bind_eq_some_iff]at h;obtain⟨j,hj,h⟩:=h
  split at h
  ·cases h
  ·rename_i fs hfs
   split at h
   ·cases h
   ·simp only[Option.bind_eq_some_iff]at h
    obtain⟨s,_,h⟩:=h
    cases h
    cases hd
    exact⟨j,hj,fun n m hc=>by rw[hfs]at hc;cases hc⟩
  ·rename_i hn _
   simp only[Option.bind_eq_some_iff]at h;obtain⟨s,_,h⟩:=h
   cases h
   cases hd
   exact⟨j,hj,fun n m hc=>hn n m hc⟩
 |struct fs=>
  unfold Made.reckon at h;simp only at h;unfold Made.reckonStruct at h;simp only[bind,Option.bind_eq_some_iff,pure]at h;obtain⟨a,_,h⟩:=h
  split at h<;>(cases h;cases hd)
 |_ =>
  unfold Made.reckon at h;simp only[bind,Option.bind_eq_some_iff,pure]at h
  repeat' first
   |(obtain⟨_,_,h⟩:=h)
   |(split at h)
  all_goals first
   |(cases h;done)
   |(cases h;cases hd;done)
   |skip
  all_goals simp[Made.word]at hd
theorem nm_of{t:TypeId}(h:Tryz.prog.typeName? 3 t=some "*errors.errorString"):t=310:=by
 have inj:∀{i:TypeInfo} {e:TypeId},(Tryz.prog.typeName? 2 e).map ("*" ++·)=some "*errors.errorString" ->nmIs e "errors.errorString" =true:=by
  intro i e h;simp only[Option.map_eq_some_iff]at h;obtain⟨a,ha,h⟩:=h;have h: "*" ++a= "*" ++ "errors.errorString" :=h;obtain rfl:=star_inj h;exact nm2 ha
 rcases Nat.lt_or_ge t Tryz.prog.types.size with hlt|hge
 ·have hc:=List.all_eq_true.1 nmAll t (List.mem_range.2 hlt)
  unfold nmOk at hc;unfold Program.typeName? at h
  split at h
  ·rename_i i hi
   rw[hi]at hc;simp only at hc
   split at h
   ·rename_i n m hd
    rw[hd]at hc
    split at h
    ·simp at h hc;exact absurd h hc
    ·cases h
   ·rename_i e hd
    rw[hd]at hc;have:=inj (i:=i) h;simp only[this,Bool.not_true,Bool.false_or]at hc;exact Nat.eq_of_beq_eq_true hc
   all_goals first
    |(cases h;done)
    |(rename_i hd;rw[hd]at hc;split at h<;>simp_all)
  ·cases h
 ·exfalso
  have ht:¬t<Tryz.prog.types.size:=Nat.not_lt.2 hge;unfold Program.typeName? at h
  cases hi:Tryz.prog.info? t with
  |none=>simp[hi]at h
  |some i=>
   have hb:=Tables.info?_beyond ht hi;simp only[hi]at h
   cases hd:i.desc<;>simp only[hd,TypeDesc.tableOnly]at h hb<;>try cases hb
   all_goals try cases h
   rename_i e
   have hn:=inj (i:=i) h;have hi':Tables.info? Tryz.prog.toTables t=some i:=hi;unfold Tables.info? at hi';rw[if_neg ht]at hi';unfold Made.depth at hi';unfold Made.infoAt at hi';rw[if_neg ht]at hi';simp only[Option.bind_eq_some_iff]at hi';obtain⟨d,_,hr⟩:=hi';obtain⟨j,hj,hjn⟩:=ptr_reckon hr hd;unfold nmIs at hn
   split at hn
   ·rename_i k hk
    have hek:e<Tryz.prog.types.size:=by
     rcases Nat.lt_or_ge e Tryz.prog.types.size with h1|h1
     ·exact h1
     ·have hb2:=Tables.info?_beyond (Nat.not_lt.2 h1) hk
      split at hn<;>first|(rename_i hkd;rw[hkd]at hb2;cases hb2)|cases hn
    have hjk:j=k:=by
     have hk':Tables.info? Tryz.prog.toTables e=some k:=hk;unfold Tables.info? at hk';rw[if_pos hek]at hk';unfold Made.infoAt at hj;rw[if_pos hek,hk']at hj;exact(Option.some.inj hj).symm
    subst hjk;have hB:=List.all_eq_true.1 nmB e (List.mem_range.2 hek);rw[hk]at hB;simp only at hB
    split at hn
    ·rename_i n m hkd
     exact hjn n m hkd
    all_goals first
     |(cases hn;done)
     |(rename_i hkd;rw[hkd]at hB;simp_all)
   ·cases hn
theorem u310:Tryz.prog.underlying 310=some (.pointer 348):=by kernel_rfl
noncomputable def s348:Bool:=match Tryz.prog.underlying 348 with|some (.struct fs)=>Nat.beq fs.size 1&&(match fs[0]? with|some f=>Nat.beq f.offset 0&&(match Tryz.prog.underlying f.type with|some .string=>true|_ =>false)&&Nat.beq (Tryz.prog.cellsOf f.type) 1|none=>false)|_ =>false
theorem s348t:s348=true:=by kernel_rfl
theorem c348:Tryz.prog.cellsOf 348=1:=by kernel_rfl
end Go.Proofs.YtklagmhonmbdgaaGreatDoor
