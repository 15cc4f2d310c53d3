import PyProof.Rows.All
import Wide.All
import OpenK.AllK
import Wide.FinOn
import PyProof.EnumStmt
import PyProof.SumAny
import KE.KPop
import KE.KNest
import KE.KDictList
import KE.KSorted
import KE.KRevIter
import KE.KxFormat
import Lean
import PySem.Challenge.RW_lf0009_01
set_option compiler.extract_closed false
set_option maxRecDepth 100000
set_option genInjectivity false
set_option genSizeOf false
set_option genCtorIdx false
set_option bootstrap.genMatcherCode false
set_option autoImplicit true
set_option relaxedAutoImplicit true
set_option linter.all false
section
open PySem PySem.W PyProof.Rows
set_option Elab.async false
set_option maxHeartbeats 8000000
local macro_rules
  | `(command| set_option linter.all true in $c) =>
    let n (k : String) (i : Nat) := (`hd9).str (k ++ "_" ++ toString i)
    let g (s : String) : List Lean.Name := match s.splitOn " " with | k :: l => l.map fun i => n k i.toNat! | _ => []
    let t := c.raw[1]
    return Lean.mkNullNode (((`PySem.Challenge.pw_lf0009_01) :: ("thread 504 812 1008;sts 49 79 144 195 224 253 298 508 545 569 598 614 816 874 883 1012 1042 1122;heap 39;view 39;env 41".splitOn ";").flatMap g ++ ((List.range 1140).filter fun i => !("44 47 48 51 53 63 73 80 85 89 96 103 110 117 124 131 145 150 154 161 168 175 182 196 202 206 213 225 231 235 242 254 259 263 271 278 285 299 304 308 315 322 329 336 343 350 358 365 372 379 386 393 400 408 419 424 428 435 442 449 456 463 470 478 485 492 499 505 506 507 509 514 518 525 532 547 552 557 571 576 589 600 605 615 620 631 638 645 652 659 666 673 680 687 695 702 707 714 727 732 743 750 757 764 771 778 785 792 799 807 813 814 815 817 823 828 835 842 849 856 863 875 877 884 889 893 900 907 917 927 934 941 948 955 968 973 977 984 991 1001 1009 1010 1011 1013 1018 1022 1029 1043 1048 1052 1059 1066 1074 1081 1088 1095 1102 1109 1123 1148 1155 1160 1167 1174 1179".splitOn " ").contains (toString (i + 43))).map fun i => n "o" (i + 43)).map fun m => c.raw.setArg 1 ((t.setArg 0 (Lean.mkAtom "theorem")).setArg 1 (t[1].setArg 0 (Lean.mkIdent ((`PySem.W.Fast).str ("tw" ++ toString m.hash)))))).toArray
set_option linter.all true in theorem T : Lean.Grind.MatchCond True := trivial
open_top hd9 for PySem.Challenge.rw_lf0009_01
end
namespace Internal
def synOf (s : String) (a : Array Lean.Syntax) : Lean.Syntax :=
  ((((s.replace "~" " 1null 1%tacticSeq1Indented 1%tacticSeq").replace "%" "Lean.Parser.Tactic.").replace "^" "Lean.Parser.Term.").splitOn " ").foldl (fun (t : List Lean.Syntax) w =>
    let r := String.ofList w.toList.tail
    let c := w.toList.head!
    if c == '"' then Lean.mkAtom r :: t else if c == '\'' then (Lean.mkIdent r.toName).raw :: t else if c == '$' then a[r.toNat!]! :: t
    else let n := c.toNat - 48; Lean.mkNode r.toName (t.take n).reverse.toArray :: t.drop n) [] |>.head!
end Internal
local macro_rules
  | `($m:declModifiers $d) =>
    match d.raw.getHeadInfo? with
    | some (.original ..) =>
      let f : Lean.Syntax → Lean.Syntax := fun s => Id.run (s.rewriteBottomUp fun x => x.setInfo .none)
      let r := f m.raw
      return Lean.mkNode `Lean.Parser.Command.declaration #[if d.raw.isOfKind `Lean.Parser.Command.definition || d.raw.isOfKind `Lean.Parser.Command.abbrev then r.setArg 4 (Lean.mkNullNode #[Lean.mkNode `Lean.Parser.Command.noncomputable #[Lean.mkAtom "noncomputable"]]) else r, if d.raw.isOfKind `Lean.Parser.Command.inductive || d.raw.isOfKind `Lean.Parser.Command.structure then f d else d.raw.setArg 0 (f d.raw[0])]
    | _ => Lean.Macro.throwUnsupported
open Array renaming getElem?_eq_getElem->NT,getElem?_toList->FZ,isEmpty_iff->aq2,length_toList->ao5,mem_toList_iff->FJ,toArray_toList->wh
open ForInStep renaming yield->wt
open Iff renaming rfl->hM
open Lean renaming Syntax->Nv,mkIdent->ai9
open Prod renaming mk->kl,snd->Nw
open Prod.mk renaming inj->aj1
open PyProof.Rows renaming IntsAre->Aw,SetOf_congr->Au,add_int->ay3,floordiv_int->ay6,getItem_str->ax1,getItem_tuple->ax0,gt_int->ay1,in_str->ax8,lt_int->ay0,mod_int->ay7,mul_int->ay5,notIn_str->ax9,not_of->ay2,rshift_int->ay8,setObjOf_fresh->ap1,sub_int->ay4,subscriptTail->Ag,tail_any->Ah,truthy_int->ax4,truthy_none->ax3,truthy_tuple->ax2
open PyProof.Rows.F renaming entry_set_update_loop->ao6,plain_set_update_loop->N5
open PyProof.Rows.IntsAre renaming length->ap4
open PySem renaming Addr->bI,Arguments->AA,Around->dH,BoolOp->nE,CmpOp->q8,Comprehension->AB,DictEntry->Ny,Drawn->FD,ElemsOf->FC,ExceptHandler->tC,Expr->aS,Flow->pr,FuncData->tu,Heap->cm,Keyword->k6,Model->Af,Operator->nB,OsState->l6,Params->db,Program->dY,Result->v9,Scope->gM,Shared->aU,Stmt->bv,UnaryOp->wg,Value->au,World->dZ,annTrees->Oc,arm_eval_Attribute->aj9,assign->l8,assignEach->l9,backTo->nD,backToKw->ki,behindInMarks->Am,binaryOp->An,bindC->Gg,bindL->Ax,builtinLookup_eq_fast->an0,builtinsNs->tv,cLine->gp,call->gO,callWith->F_,call_meets->Ak,call_meetsIn->FX,cellsFrom->wo,codeAny->f0,codeAny_builtin->FO,codeAny_call_function->ap7,codeAny_forLoop_any->am5,codeAny_mono->At,compareOp->NL,delItem->Aq,eval->gN,evalAll->F6,execs->pt,fastLookup->pp,foldedSetIterable->rh,getMethod->wn,holding->wd,isSubtype->rj,isSubtype_type->we,isTrue->FE,keeperOf->ND,keywordEach->kj,letOwnedTupleGo->l_,loadGlobal->FG,mainGlobals->jK,meets_dict_get_default->an7,merged->ap6,methodCallForm->Oe,model->cw,noteFrame->Ob,pyIter->pu,pyNext->nF,rawInt->iH,recursionLimit->pj,relabel->Od,scanBound->kY,seqIndex?->NF,setItem->wj,sizeLine->eV,sizeLine_eq->hK,slot_dict_getitem->ak0,slot_list_setitem->al8,starEach->l7,stored->N9,stored->gr,strKind->bW,swappedStores->wl,swapsWith->Ao,swapsWithSole->Ar,sysModules->iI,truthy->pq,typeIs_str->NG,typeLookup_type->am9,typeNameOfCut->N8,valueAt->cQ,without->FW,without->NQ,wpAny->aF,wpAny_Assign_stores->am2,wpAny_Call_ofName->NW,wpAny_For->As,wpAny_Name->v_,wpAny_assign_Name->FR,wpAny_assign_Tuple->am1,wpAny_bind->aI,wpAny_call->wm,wpAny_callSpecial?_none->ak3,wpAny_callSpecial?_slot->NR,wpAny_call_entry->Aj,wpAny_comprehension_free->aq0,wpAny_evalAll_nil->am6,wpAny_evalPart_none->al5,wpAny_execs_cons->NP,wpAny_execs_nil->tA,wpAny_forIn_list->FP,wpAny_getItem_of->ak1,wpAny_holding->gq,wpAny_isInstance->tz,wpAny_ite_split->NV,wpAny_letTemporaryGo->aj7,wpAny_list_append_plain->an3,wpAny_loadName_local->aj5,wpAny_loadPart->al6,wpAny_mono->il,wpAny_newFunctionEnv->ap9,wpAny_nsGet->FH,wpAny_of_eq->Al,wpAny_pure->bz,wpAny_pyIter_list->FY,wpAny_pyIter_tuple->NU,wpAny_runValue->ak2,wpAny_seqItems->an2,wpAny_sequenceKey->al7,wpAny_setEntries_of->wc,wpAny_setEpoch_of->ak5,wpAny_setItem_pairs->al9,wpAny_setState_of->N4,wpAny_specialOf->Ai,wpAny_standAt->rd,wpAny_storeName_local->FS,wpAny_truthy_bool->ak4
open PySem.Around renaming frames_deeper->Az,under_plainId->NH
open PySem.BoolOp renaming casesOn->aq9
open PySem.Builtin renaming divisionGoesByPylong->al4
open PySem.Builtin.Frozenset renaming isAnySet->NK,quietEq->ax5,subsetOf->ax7,updateFrom->N6,walkUnseen->ax6
open PySem.Builtin.Int renaming intBits->al3
open PySem.Builtin.List renaming listExtendWith->az6,listLengthHint->az5,listSameRef->an1,listSubscript?->az0
open PySem.Builtin.Range renaming rangeFitsLong->az2,rangeSize->am3,small->az1
open PySem.Builtin.Str renaming occurrences->FQ,partsBetween->ao2,strKind->ao1
open PySem.Calls renaming evalArgs_plain->NX,spliced_cons->NY,spliced_nil->NZ
open PySem.Challenge renaming rw_lf0009_01->aj0
open PySem.Comprehension renaming mk->aA4
open PySem.DictEntry renaming refKey->aj6
open PySem.Env renaming blockKind->NE,kindOf->tx
open PySem.EqBoolInt renaming of_rc->al1,of_rcne->NN
open PySem.Expr.Attribute renaming elim->aq4
open PySem.Expr.Call renaming elim->Of
open PySem.Expr.ListComp renaming elim->aq7
open PySem.Expr.Name renaming elim->aq3
open PySem.Expr.Slice renaming elim->aq6
open PySem.Expr.Subscript renaming elim->aq5
open PySem.Expr.Tuple renaming elim->Og
open PySem.F renaming args_dict_get_3->an6,called_set->Av,entry_dict_get->an5,entry_list_pop->ao0,plainAttrs_dict->an4,plainAttrs_list->N0,plainAttrs_set->ap3,plainAttrs_str->Gd,slot_NoneType_eq->ak7,slot_dict_delitem->am0,slot_dict_eq_refl->ak8,slot_dict_get->N1,slot_dict_values->an8,slot_list_extend->an9,slot_list_pop->N3,slot_set_ne->ak6,slot_set_remove->ap2,slot_set_update->ao7,slot_str_split->ao3,slot_tuple_index->ap5,sub_list_frozenset->ap0,sub_list_set->ao9
open PySem.Heap renaming ExtBut->am4,SameBut->kZ,get?_eq_some->ar1,get?_push_of_some->fZ,get?_push_size->d8,get?_update_self->Ap,lt_size->d3,size_push->Gc
open PySem.Heap.DictOf renaming new->az3
open PySem.Heap.IsList renaming push->az9
open PySem.Heap.IsSliceOf renaming new->ay9
open PySem.Heap.SameBut renaming refl->aA2,update->wi
open PySem.Heap.SetOf renaming typeIs->ao8
open PySem.Heap.UpToSlots renaming of_keeps->aA3
open PySem.IsiPair renaming str_str->az4
open PySem.Keeper renaming boundFrame->NC,frame->Nz,machine->NB
open PySem.MeetsSeq renaming list_pop_at->az8,list_pop_last->az7
open PySem.NameKind renaming free->ap8
open PySem.Obj renaming mapSeq->wk,putName->FT
open PySem.PyData renaming keyHash->rf
open PySem.Sem renaming wp_bind'->ar2
open PySem.SeqAt renaming EqAt->re
open PySem.SetTable renaming eraseAt->ma,insertAt->ao4
open PySem.Stmt.Assign renaming elim->aq8
open PySem.Stmt.For renaming elim->ar0
open PySem.Stmt.If renaming elim->Oh
open PySem.Str renaming ofString->k4
open PySem.Value renaming bool->Ge,int->aq1,isStrOf->q9,isStrOf_shape->FK,none->ak9,ref->Gf,str->k7,type->ri
open PySem.W renaming Frag->cj,GrownAt->Oi,callWith_of->Ga,clsIn->ty,copiedNames->nC,emptyDict->Gb,findIn->eE,findObj->FM,handedIn->Nx,hideAll->Ay,hideAll_get->Oa,hideAll_none->wq,instObj->v8,keepIn->tw,kms_pick->NO,lookIn->wa,looks_findIn->NJ,lookup->iJ,mem_of_lookupK->ar3,of_hideAll->N_,ownOf->FN,plainOver->FL,specialIn->kh,tabObj->pi,takerIn->FU,takesIn->wb,typeIn->q_
open PySem.W.Ground renaming X->ar4
open PySem.W.Looks renaming ld->am8,now->am7
open PySem.Walks renaming list->N7
open Std.Legacy renaming Range->aA0
open Std.Legacy.Range renaming forIn_eq_forIn_range'->aA1
section
namespace Internal.LQ
noncomputable section
inductive LE where
 |k (n:Nat)
 |v (i:Nat)
 |a (x y:LE)
 |m (n:Nat) (x:LE)
set_option genCtorIdx true in
inductive LF where
 |f
 |lt (x y:LE)
 |le (x y:LE)
 |eq (x y:LE)
 |no (p:LF)
 |an (p q:LF)
 |or (p q:LF)
 |im (p q:LF)
def Oj(l:List Nat):Nat->Nat:=@List.rec Nat (λz=>Nat->Nat) (λz=>0) (λx z y i=>@Nat.rec (λz=>Nat) x (λj z=>y j) i) l
def LE.ev(c:Nat->Nat)(e:LE):Nat:=@LE.rec (λz=>Nat) (λn=>n) (λi=>c i) (λz z x y=>x+y) (λn z x=>n*x) e
def LF.den(c:Nat->Nat)(p:LF):Prop:=@LF.rec (λz=>Prop) False (λx y=>x.ev c<y.ev c) (λx y=>x.ev c<=y.ev c) (λx y=>x.ev c=y.ev c) (λz p=>¬p) (λz z p q=>p/\q) (λz z p q=>p\/q) (λz z p q=>p->q) p
abbrev LP:=Int×List Int
def eG(y:List Int):(Nat->Nat)->Int:=@List.rec Int (λz=>(Nat->Nat)->Int) (λz=>0) (λa z x c=>a*c 0+x λi=>c (i+1)) y
def LP.ev(p:LP)(c:Nat->Nat):Int:=p.1+eG p.2 c
def wu(y:List Int):List Int->List Int:=@List.rec Int (λz=>List Int->List Int) (λx=>x) (λa y w x=>@List.rec Int (λz=>List Int) (a::y) (λb x z=>Int.add a b::w x) x) y
def wv(n:Int)(y:List Int):List Int:=@List.rec Int (λz=>List Int) [] (λa z x=>Int.mul n a::x) y
def md(p q:LP):LP:=(Int.add p.1 q.1,wu p.2 q.2)
def k8(n:Int)(p:LP):LP:=(Int.mul n p.1,wv n p.2)
def ww(i:Nat):List Int:=@Nat.rec (λz=>List Int) [1] (λz y=>0::y) i
def LE.po(e:LE):LP:=@LE.rec (λz=>LP) (λn=>(.ofNat n,[])) (λi=>(0,ww i)) (λz z x y=>md x y) (λn z x=>k8 (.ofNat n) x) e
def sub(x y:LE)(d:Int):LP:=md (md y.po (k8 (-1) x.po)) (d,[])
def prod(y v:List (List LP)):List (List LP):=@List.rec (List LP) (λz=>List (List LP)) [] (λa z x=>@List.rec (List LP) (λz=>List (List LP)) x (λb z w=>(a++b)::w) v) y
def ifB{y:Type}(b:Bool)(t f:y):y:=@Bool.rec (λz=>y) f t b
def LF.nf(p:LF):Bool->List (List LP):=@LF.rec (λz=>Bool->List (List LP)) (λs=>ifB s [] [[]]) (λx y s=>ifB s [[sub x y (-1)]] [[sub y x 0]]) (λx y s=>ifB s [[sub x y 0]] [[sub y x (-1)]])
 (λx y s=>ifB s [[sub x y 0,sub y x 0]] [[sub x y<|-1],[sub y x<|-1]]) (λz p s=>p<|!s) (λz z p q s=>ifB s (prod (p s)<|q s)<|p s++q s) (λz z p q s=>ifB s (p s++q s)<|prod (p s)<|q s)
 (λz z p q s=>ifB s (p false++q true)<|prod (p true)<|q false) p
def me(i:Int):Bool:=@Int.rec (λz=>Bool) (λz=>false) (λz=>true) i
def tG(i:Int):Bool:=@Int.rec (λz=>Bool) (λn=>Nat.beq n 0) (λz=>false) i
def ja(i:Int):Int:=@Int.rec (λz=>Int) (λn=>.ofNat n) (λn=>.ofNat (n+1)) i
def dI(y:List Int):Int:=@List.rec Int (λz=>Int) 0 (λa z z=>a) y
def wx(y:List Int):List Int:=@List.rec Int (λz=>List Int) [] (λz y z=>y) y
def Gh(p q:LP):LP:=(λr s:LP=>(r.1,wx r.2) |> λr=>md r (s.1,wx s.2)) (k8 (ja (dI q.2)) p) (k8 (ja (dI p.2)) q)
def AC(S:List LP):List LP:=(λS:List LP=>S.flatMap λp=>ifB (tG (dI p.2)) [(p.1,wx p.2)] (ifB (me (dI p.2)) [] (S.flatMap λq=>ifB (me (dI q.2)) [Gh p q] []))) ((0,[1])::S)
def fm(n:Nat):List LP->Bool:=@Nat.rec (λz=>List LP->Bool) (λS=>S.any λp=>me p.1 && p.2.all tG) (λz y S=>y (AC S)) n
theorem Ol:∀(z y:List Int)(c:Nat->Nat),eG (wu z y) c=eG z c+eG y c:=by
 intro z
 induction z with|nil=>intro y c;exact(Int.zero_add _).symm|cons a z x=>
  intro y c;cases y with|nil=>exact(Int.add_zero _).symm|cons b y=>show(a+b)*_+eG (wu z y) _=(a*_+eG z _)+(b*_+eG y _);rw[x,Int.add_mul];omega
theorem Om:∀(n:Int)(z:List Int)(c:Nat->Nat),eG (wv n z) c=n*eG z c:=by
 intro n z
 induction z with|nil=>intro c;exact(Int.mul_zero _).symm|cons a z y=>intro c;show(n*a)*_+eG (wv n z) _=n*(a*_+eG z _);rw[y,Int.mul_add,Int.mul_assoc]
theorem wy(p q:LP)(c:Nat->Nat):(md p q).ev c=p.ev c+q.ev c:=by
 show(p.1+q.1)+eG (wu p.2 q.2) c=(p.1+eG p.2 c)+(q.1+eG q.2 c);rw[Ol];omega
theorem AD(n:Int)(p:LP)(c:Nat->Nat):(k8 n p).ev c=n*p.ev c:=by
 show n*p.1+eG (wv n p.2) c=n*(p.1+eG p.2 c);rw[Om,Int.mul_add]
theorem On:∀(i:Nat)(c:Nat->Nat),eG (ww i) c=c i:=by
 intro i
 induction i with|zero=>intro c;show(1:Int)*c 0+0=_;omega|succ i z=>intro c;show(0:Int)*c 0+eG (ww i) _=_;rw[z];omega
theorem Gi(c:Nat->Nat)(e:LE):e.po.ev c=e.ev c:=by
 induction e with|k n=>exact Int.add_zero _|v i=>show(0:Int)+eG (ww i) c=_;rw[On];exact Int.zero_add _|a x y z w=>show(md x.po y.po).ev c=((x.ev c+y.ev c:Nat):Int);rw[wy,z,w];rfl|m n x z=>show(k8 n x.po).ev c=((n*x.ev c:Nat):Int);rw[AD,z];rfl
theorem AE(x y:LE)(d:Int)(c:Nat->Nat):(sub x y d).ev c=y.ev c - x.ev c+d:=by
 show(md (md y.po<|k8 (-1) x.po) (d,[])).ev c=_;rw[wy,wy,AD,Gi,Gi];show _+(d+0)=_;omega
def rm(c:Nat->Nat)(S:List LP):Prop:=∀p∈S,0<=p.ev c
def iK(c:Nat->Nat)(z:List (List LP)):Prop:=∃S∈z,rm c S
theorem iK.app1{c:Nat->Nat}{y z:List (List LP)}(h:iK c y):iK c (y++z):=let⟨S,m,h⟩:=h;⟨S,List.mem_append.mpr (.inl m),h⟩
theorem iK.app2{c:Nat->Nat}{y z:List (List LP)}(h:iK c z):iK c (y++z):=let⟨S,m,h⟩:=h;⟨S,List.mem_append.mpr (.inr m),h⟩
theorem Oo{v:List (List LP)}{a b:List LP}:∀{y:List (List LP)},a∈y->b∈v->a++b∈prod y v:=by
 intro y
 induction y with|nil=>intro h;cases h|cons x y p=>
  intro h s;have t:∀(w:List (List LP))(r:List (List LP)),(a++b∈r\/(x=a/\b∈w))->a++b∈@List.rec (List LP) (λz=>List<|List LP) r (λb z u=>(x++b)::u) w:=by
   intro w r
   induction w with
   |nil=>intro h;exact h.elim id λh=>nomatch h.2
   |cons d w u=>
    intro h;rcases h with h|⟨e,h⟩
    .exact .tail _<|u<|.inl h
    .rcases List.mem_cons.mp h with q|q
     .rw[e,q];exact .head _
     .exact .tail _<|u<|.inr ⟨e,q⟩
  rcases List.mem_cons.mp h with q|q
  .exact t v _<|.inr ⟨q.symm,s⟩
  .exact t v _<|.inl<|p q s
theorem iK.prod{c:Nat->Nat}{x y:List (List LP)}(h:iK c x)(g:iK c y):iK c (prod x y):=let⟨_,m,h⟩:=h;let⟨_,n,g⟩:=g;⟨_,Oo m n,λp z=>(List.mem_append.mp z).elim (h p) (g p)⟩
theorem rn{c:Nat->Nat}{x y:LE}{d:Int}(h:0<=(y.ev c:Int) - x.ev c+d):rm c [sub x y d]:=λp z=>by rw[List.mem_singleton.mp z,AE];exact h
theorem Op(c:Nat->Nat)(p:LF):(p.den c->iK c (p.nf true))/\(¬p.den c->iK c (p.nf false)):=by
 induction p with
 |f=>exact⟨False.elim,λu=>⟨_,.head _,λu h=>nomatch h⟩⟩
 |lt x y=>exact⟨λh=>⟨_,.head _,rn<|by have:x.ev c<y.ev c:=h;omega⟩,λh=>⟨_,.head _,rn<|by have:¬x.ev c<y.ev c:=h;omega⟩⟩
 |le x y=>exact⟨λh=>⟨_,.head _,rn<|by have:x.ev c<=y.ev c:=h;omega⟩,λh=>⟨_,.head _,rn<|by have:¬x.ev c<=y.ev c:=h;omega⟩⟩
 |eq x y=>
  refine⟨λh=>⟨_,.head _,λp v=>?_⟩,λh=>?_⟩
  .have:x.ev c=y.ev c:=h;rcases List.mem_cons.mp v with q|q
   .rw[q,AE];omega
   .rw[List.mem_singleton.mp q,AE];omega
  .have:¬x.ev c=y.ev c:=h
   by_cases q:x.ev c<y.ev c
   .exact⟨_,.head _,rn<|by omega⟩
   .exact⟨_,.tail _<|.head _,rn<|by omega⟩
 |no p s=>exact⟨s.2,λh=>s.1<|Classical.not_not.mp h⟩
 |an p q v t=>
  refine⟨λh=>(v.1 h.1).prod<|t.1 h.2,λh=>?_⟩
  by_cases z:p.den c
  .exact iK.app2<|t.2 λw=>h ⟨z,w⟩
  .exact iK.app1<|v.2 z
 |or p q v t=>exact⟨λh=>h.elim (λh=>(v.1 h).app1) λh=>(t.1 h).app2,λh=>(v.2 λw=>h<|.inl w).prod<|t.2 λw=>h<|.inr w⟩
 |im p q v t=>
  refine⟨λh=>?_,λh=>?_⟩
  .by_cases z:p.den c
   .exact(t.1<|h z).app2
   .exact(v.2 z).app1
  .by_cases z:p.den c
   .exact(v.1 z).prod (t.2 λw=>h λu=>w)
   .exact absurd (λw=>absurd w z) h
theorem AF(p:LP)(c:Nat->Nat):p.ev c=dI p.2*c 0+LP.ev (p.1,wx p.2) λi=>c (i+1):=by
 obtain⟨k,z⟩:=p;cases z with|nil=>show k+0=0*_+(k+0);omega|cons a z=>show k+(a*_+eG z _)=a*_+(k+eG z _);omega
theorem Gj(i:Int):0<=ja i:=by cases i with|ofNat n=>exact Int.natCast_nonneg _|negSucc n=>exact Int.natCast_nonneg _
theorem Gk{i:Int}(h:me i=true):i=- ja i:=by cases i with|ofNat n=>cases h|negSucc n=>rfl
theorem Oq{i:Int}(h:me i=false):i=ja i:=by cases i with|ofNat n=>rfl|negSucc n=>cases h
theorem Os{p q:LP}{c:Nat->Nat}(y:0<=p.ev c)(w:0<=q.ev c)(a:me (dI p.2)=false)(b:me (dI q.2)=true):0<=(Gh p q).ev λi=>c (i+1):=by
 have e:∀(n:Int)(p:LP),dI (k8 n p).2=n*dI p.2:=λn p=>by
  obtain⟨k,x⟩:=p;cases x with|nil=>exact(Int.mul_zero _).symm|cons=>rfl
 show 0<=LP.ev (md (_,_) (_,_)) _;rw[wy];have u:=AF (k8 (ja<|dI q.2) p) c;have v:=AF (k8 (ja<|dI p.2) q) c;rw[AD,e] at u v;have z:ja (dI q.2)*dI p.2+ja (dI p.2)*dI q.2=0:=by
  have e1:=Oq a;have e2:=Gk b;have:ja (dI p.2)*dI q.2=- (ja (dI q.2)*dI p.2):=by
   rw[<-e1,Int.mul_comm]
   conv=>lhs;rw[e2]
   rw[Int.neg_mul]
  omega
 have r:ja (dI q.2)*dI p.2*(c 0:Int)+ja (dI p.2)*dI q.2*(c 0:Int)=0:=by rw[<-Int.add_mul,z,Int.zero_mul]
 have s:=Int.mul_nonneg (Gj<|dI q.2) y;have t:=Int.mul_nonneg (Gj<|dI p.2) w;omega
theorem Gl{i:Int}(h:tG i=true):i=0:=by cases i with|ofNat n=>rw[Nat.eq_of_beq_eq_true h];rfl|negSucc n=>cases h
theorem Ot{S:List LP}{c:Nat->Nat}(h:rm c S):rm (λi=>c (i+1)) (AC S):=λr v=>by
 have u:rm c ((0,[1])::S):=λp w=>by
  rcases List.mem_cons.mp w with q|q
  .rw[q];show(0:Int)<=0+(1*c 0+0);omega
  .exact h p q
 obtain⟨p,w,v⟩:=List.mem_flatMap.mp v;cases z:tG (dI p.2) with|true=>rw[z] at v;rw[List.mem_singleton.mp v];have s:=u p w;rw[AF,Gl z,Int.zero_mul,Int.zero_add] at s;exact s|false=>
  rw[z] at v;cases y:me (dI p.2) with|true=>rw[y] at v;cases v|false=>
   rw[y] at v;obtain⟨q,t,v⟩:=List.mem_flatMap.mp v;cases x:me (dI q.2) with|true=>rw[x] at v;rw[List.mem_singleton.mp v];exact Os (u p w) (u q t) y x|false=>rw[x] at v;cases v
theorem Ou:∀(z:List Int)(c:Nat->Nat),z.all tG=true->eG z c=0:=by
 intro z
 induction z with|nil=>intros;rfl|cons a z y=>intro c h;rw[List.all_cons,Bool.and_eq_true] at h;show a*_+eG z _=0;rw[y _ h.2,Gl h.1];omega
theorem Ov:∀(n:Nat)(S:List LP)(c:Nat->Nat),fm n S=true->¬rm c S:=by
 intro n
 induction n with
 |zero=>
  intro S c h s;obtain⟨p,z,e⟩:=List.any_eq_true.mp h;rw[Bool.and_eq_true] at e;have x:=s p z;have d:p.ev c=p.1:=by show p.1+eG p.2 c=p.1;rw[Ou _ _ e.2];omega
  rw[d] at x;have x:=Gk e.1;cases q:p.1 with|ofNat n=>rw[q] at e;cases e.1|negSucc n=>rw[q] at x;omega
 |succ n y=>intro S c h s;exact y (AC S) _ h<|Ot s
def Gm(n:Nat)(p:LF):Bool:=(p.nf false).all (fm n)
theorem Ow{n:Nat}{p:LF}(h:Gm n p=true)(c:Nat->Nat):p.den c:=by
 by_cases z:p.den c
 .exact z
 .obtain⟨S,m,s⟩:=(Op c p).2 z;exact absurd s<|Ov n S c<|List.all_eq_true.mp h S m
structure DS where
 es:List LE
 fs:List LF
def e1(s:DS)(g:LE->LE):DS:=@List.rec LE (λz=>DS) s (λx l z=>⟨g x::l,s.fs⟩) s.es
def e2(s:DS)(g:LE->LE->List LE->DS):DS:=@List.rec LE (λz=>DS) s (λy l z=>@List.rec LE (λz=>DS) s (λx l z=>g x y l) l) s.es
def f1(s:DS)(g:LF->LF):DS:=@List.rec LF (λz=>DS) s (λx l z=>⟨s.es,g x::l⟩) s.fs
def f2(s:DS)(g:LF->LF->LF):DS:=@List.rec LF (λz=>DS) s (λy l z=>@List.rec LF (λz=>DS) s (λx l z=>⟨s.es,g x y::l⟩) l) s.fs
def AG(s:DS)(x:LE):DS:=⟨x::s.es,s.fs⟩
def Ox(d r:Nat)(s:DS)(z:Nat->DS->DS):DS:=
 ifB (Nat.beq d 0) s<|
 ifB (Nat.blt d 8) (z r<|AG s<|.v<|Nat.pred d)<|
 ifB (Nat.beq d 8) (z (Nat.div r 256)<|AG s<|.k<|Nat.mod r 256)<|
 ifB (Nat.beq d 9) (z (Nat.div r 33554432)<|AG s<|.k<|Nat.mod r 33554432)<|
 ifB (Nat.beq d 10) (z r<|e2 s λx y l=>⟨.a x y::l,s.fs⟩)<|
 ifB (Nat.beq d 11) (z (Nat.div r 256)<|e1 s<|.m<|Nat.mod r 256)<|
 ifB (Nat.beq d 12) (z r<|e2 s λx y l=>⟨l,.lt x y::s.fs⟩)<|
 ifB (Nat.beq d 13) (z r<|e2 s λx y l=>⟨l,.le x y::s.fs⟩)<|
 ifB (Nat.beq d 14) (z r<|e2 s λx y l=>⟨l,.eq x y::s.fs⟩)<|
 ifB (Nat.beq d 15) (z r<|f1 s .no)<|
 ifB (Nat.beq d 16) (z r<|f2 s .an)<|
 ifB (Nat.beq d 17) (z r<|f2 s .or)<|
 ifB (Nat.beq d 18) (z r<|f2 s .im)<|
 ifB (Nat.beq d 19) (z r ⟨s.es,.f::s.fs⟩) s
def Oy(n:Nat):Nat->DS->DS:=@Nat.rec (λz=>Nat->DS->DS) (λz s=>s) (λz y N s=>Ox (Nat.mod N 32) (Nat.div N 32) s y) n
def Gn(N:Nat):LF:=(λs:DS=>@List.rec LF (λz=>LF) .f (λp z z=>p) s.fs) (Oy 80 N ⟨[],[]⟩)
end
end Internal.LQ
open Internal.LQ in
theorem Internal.lin(c:List Nat)(N:Nat)(h:Gm 7 (Gn N)=true:=by exact rfl):(Gn N).den (Oj c):=Ow h _
end
section
namespace Internal
open PySem (CmpOp Operator)
theorem bg{z:Prop}(h:false=true):z:=Bool.noConfusion h
theorem a6{z:Prop}(h:none=some x):z:=nomatch h
theorem Oz{z:Prop}(h:some x=none):z:=nomatch h
theorem fH{z:Prop}(g:∀P:Prop,(z->P)->P):z:=g z λh=>h
@[elab_as_elim] theorem rwG{α:Sort _}{a b:α}{P:α->Prop}(e:a=b)(h:P b):P a:=e▸h
theorem pv{P:Nat->Prop}(h:j<n+1)(z:P 0)(s:∀i,i<n->P (i+1)):P j:=by
 cases j with|zero=>exact z|succ i=>exact s i<|Nat.lt_of_succ_lt_succ h
@[elab_as_elim] theorem c2{P:Nat->Prop}{j:Nat}(h:j<2)(a:P 0)(b:P 1):P j:=pv (P:=P) h a λi h=>pv (P:=λi=>P (i+1)) h b λi h=>absurd h (Nat.not_lt_zero i)
@[elab_as_elim] theorem c3{P:Nat->Prop}{j:Nat}(h:j<3)(a:P 0)(b:P 1)(c:P 2):P j:=pv (P:=P) h a λi h=>c2 (P:=λi=>P (i+1)) h b c
@[elab_as_elim] theorem c4{P:Nat->Prop}{j:Nat}(h:j<4)(a:P 0)(b:P 1)(c:P 2)(d:P 3):P j:=pv (P:=P) h a λi h=>c3 (P:=λi=>P (i+1)) h b c d
@[elab_as_elim] theorem c7{P:Nat->Prop}{j:Nat}(h:j<7)(a:P 0)(b:P 1)(c:P 2)(d:P 3)(e:P 4)(f:P 5)(g:P 6):P j:=pv (P:=P) h a λi h=>pv (P:=λi=>P (i+1)) h b λi h=>pv (P:=λi=>P (i+2)) h c λi h=>c4 (P:=λi=>P (i+3)) h d e f g
@[elab_as_elim] theorem bk{α:Type _}{a b:α}{l:List α}(h:a∈b::l){P:α->Prop}(z:P b)(s:a∈l->P a):P a:=(List.mem_cons.mp h).elim (λe=>e▸z) s
theorem f_(h:a∈b::l){y:Prop}(z:a=b->y)(s:a∈l->y):y:=(List.mem_cons.mp h).elim z s
@[elab_as_elim] theorem dJ{α:Type _}{a b:α}(h:a∈[b]){P:α->Prop}(z:P b):P a:=List.mem_singleton.mp h▸z
@[elab_as_elim] theorem mf{α y:Type _}{f:α->y}{b:y}{l:List α}(h:b∈l.map f){P:y->Prop}(z:∀a,a∈l->P (f a)):P b:=(List.mem_map.mp h).elim λa h=>h.2▸z a h.1
theorem jL{l:List α}(h:b∈l.map f){y:Prop}(z:∀a,a∈l->f a=b->y):y:=(List.mem_map.mp h).elim λa h=>z a h.1 h.2
@[elab_as_elim] theorem gQ{α w:Type _}{x y:α}{a b:w}{l:List (α×w)}(h:(x,a)∈(y,b)::l){P:α->w->Prop}(z:P y b)(s:(x,a)∈l->P x a):P x a:=(List.mem_cons.mp h).elim (λe=>(aj1 e).1▸(aj1 e).2▸z) s
@[elab_as_elim] theorem eW{α w:Type _}{x y:α}{a b:w}(h:(x,a)∈[(y,b)]){P:α->w->Prop}(z:P y b):P x a:=gQ h z λh=>nomatch h
theorem ar5{A y z:Prop}(h:A/\y)(g:A->y->z):z:=g h.1 h.2
set_option genCtorIdx true in
inductive BI where
 |len|isinst|lst|tup|set|sorted|sum|enum|range|rev|tyStr|tyBool|tyDict
 deriving DecidableEq
set_option genCtorIdx true in
inductive AV where
 |none
 |bool (b:Bool)
 |int (i:Int)
 |str (c:Nat)
 |ref (i:Nat)
 |glo (a:Nat)
 |bi (b:BI)
 |one (cs:List Nat)
 |atm (k n:Nat)
 |unk
 |gla (k:Nat)
 deriving Inhabited
set_option genCtorIdx true in
inductive AO where
 |inst (C:Nat) (d:Nat)
 |dict (es:List (Nat×AV))
 |umap (es:List (Nat×Option AV))
 |list (xs:List AV)
 |tup (xs:List AV)
 |set (xs:List Nat)
 |cell (v:Option AV)
 |rng (n:Nat)
 |rev (src i:Nat)
 |dvals (src:Nat)
 |fn (f q ci:Nat) (caps:List (Nat×Nat))
 |tab (l c:Nat) (i:Option Nat)
 |code (q:Nat)
 |frz (xs:List AV)
 deriving Inhabited
abbrev AV.m{z:Type}(d:z)(a:AV)(none:z:=d)(bool:Bool->z:=λ_=>d)(int:Int->z:=λ_=>d)(str ref glo:Nat->z:=λ_=>d)(bi:BI->z:=λ_=>d)(one:List Nat->z:=λ_=>d)(atm:Nat->Nat->z:=λ_ _=>d)(unk:z:=d)(gla:Nat->z:=λ_=>d):z:=@AV.rec (λ_=>z) none bool int str ref glo bi one atm unk gla a
abbrev AO.m{z:Type}(d:z)(a:AO)(inst:Nat->Nat->z:=λ_ _=>d)(dict:List (Nat×AV)->z:=λ_=>d)(umap:List (Nat×Option AV)->z:=λ_=>d)(list tup:List AV->z:=λ_=>d)(set:List Nat->z:=λ_=>d)(cell:Option AV->z:=λ_=>d)(rng:Nat->z:=λ_=>d)(rev:Nat->Nat->z:=λ_ _=>d)(dvals:Nat->z:=λ_=>d)(fn:Nat->Nat->Nat->List (Nat×Nat)->z:=λ_ _ _ _=>d)(tab:Nat->Nat->Option Nat->z:=λ_ _ _=>d)(code:Nat->z:=λ_=>d)(frz:List AV->z:=λ_=>d):z:=@AO.rec (λ_=>z) inst dict umap list tup set cell rng rev dvals fn tab code frz a
abbrev J{α:Type}(b:Bool)(t f:α):α:=@Bool.rec (λz=>α) f t b
abbrev ad{α y:Type}(o:Option α)(n:y)(s:α->y):y:=@Option.rec α (λz=>y) n s o
inductive TR(α:Type) where
 |lf
 |nd (v:Option α) (l r:TR α)
namespace TR
variable {α:Type}
def get(t:TR α):Nat->Option α:=@TR.rec α (λz=>Nat->Option α) (λz=>none) (λv z z l r i=>@Nat.rec (λz=>Option α) v (λj z=>@Nat.rec (λz=>Option α) (l (Nat.div j 2)) (λz z=>r (Nat.div j 2)) (Nat.mod j 2)) i) t
def put(y:Nat):TR α->Nat->Option α->TR α:=@Nat.rec (λz=>TR α->Nat->Option α->TR α) (λt z z=>t) (λz x t i o=>@TR.rec α (λz=>TR α)
  (@Nat.rec (λz=>TR α) (.nd o .lf .lf) (λj z=>@Nat.rec (λz=>TR α) (.nd none (x .lf (Nat.div j 2) o) .lf) (λz z=>.nd none .lf<|x .lf (Nat.div j 2) o)<|Nat.mod j 2) i)
  (λv l r z z=>@Nat.rec (λz=>TR α) (.nd o l r) (λj z=>@Nat.rec (λz=>TR α) (.nd v (x l (Nat.div j 2) o) r) (λz z=>.nd v l<|x r (Nat.div j 2) o)<|Nat.mod j 2) i) t) y
abbrev N(l r:TR α):TR α:=.nd none l r
abbrev L(x:α):TR α:=.nd (some x) .lf .lf
end TR
structure AH where
 t:TR AO
 n:Nat
def AH.get(h:AH)(i:Nat):Option AO:=h.t.get i
def AH.set(h:AH)(i:Nat)(o:AO):AH:=@AH.rec (λz=>AH) (λt n=>⟨t.put (Nat.succ i) i (some o),n⟩) h
def AH.new(h:AH)(o:AO):AH:=@AH.rec (λz=>AH) (λt n=>⟨t.put (Nat.succ n) n (some o),Nat.succ n⟩) h
set_option genCtorIdx true in
inductive CA where
 |meth (f:Nat)
 |stat (f:Nat)
 |val (v:AV)
structure CI where
 mro:List Nat
 attrs:List (Nat×CA)
structure aK where
 loc:List (Nat×AV)
 cel:List (Nat×Nat)
set_option genCtorIdx true in
inductive Fl where
 |nxt|brk|cnt
 |ret (v:AV)
def ae{α:Type}(l:List (Nat×α))(x:Nat):Option α:=@List.rec (Nat×α) (λz=>Option α) none (λp z y=>J (Nat.beq p.1 x) (some p.2) y) l
def bL{α:Type}(l:List (Nat×α))(x:Nat)(a:α):List (Nat×α):=@List.rec (Nat×α) (λz=>List (Nat×α)) [(x,a)] (λp r y=>J (Nat.beq p.1 x) ((p.1,a)::r) (p::y)) l
def mh{α:Type}(l:List (Nat×α))(x:Nat):List (Nat×α):=@List.rec (Nat×α) (λz=>List (Nat×α)) [] (λp r y=>J (Nat.beq p.1 x) r (p::y)) l
def a5(l:List Nat)(x:Nat):Bool:=@List.rec Nat (λz=>Bool) false (λk z y=>J (Nat.beq k x) true y) l
def k9(f:Nat):Nat->List Nat:=@Nat.rec (λz=>Nat->List Nat) (λz=>[]) (λz y n=>@Nat.rec (λz=>List Nat) [] (λz z=>Nat.mod n 256::y (Nat.div n 256)) n) f
def OA(l:List Nat):Nat:=@List.rec Nat (λz=>Nat) 0 (λc z y=>Nat.add c (Nat.mul 256 y)) l
def cps(n:Nat):List Nat:=k9 n n
def OB(p:List Nat):List Nat->Bool:=@List.rec Nat (λz=>List Nat->Bool) (λz=>true) (λx z w l=>@List.rec Nat (λz=>Bool) false (λy l z=>J (Nat.beq x y) (w l) false) l) p
def splitOn(c:Nat)(y l:List Nat):List (List Nat):=@List.rec Nat (λz=>List Nat->List (List Nat)) (λy=>[y.reverse]) (λx z w y=>J (Nat.beq x c) (y.reverse::w []) (w (x::y))) l y
def ar6(p l:List Nat)(i:Nat):Option Nat:=@List.rec Nat (λz=>Nat->Option Nat) (λi=>@List.rec Nat (λz=>Option Nat) (some i) (λz z z=>none) p) (λx l y i=>J (OB p (x::l)) (some i) (y (Nat.succ i))) l i
def gR{α:Type}(l:List α):Nat->Option α:=@List.rec α (λz=>Nat->Option α) (λz=>none) (λx z y n=>@Nat.rec (λz=>Option α) (some x) (λm z=>y m) n) l
def len{α:Type}(l:List α):Nat:=@List.rec α (λz=>Nat) 0 (λz z y=>Nat.succ y) l
def jM(c:Nat):Bool:=J (Nat.beq c 0) false (Nat.blt c 128)
def wz(l:List Nat):Bool:=@List.rec Nat (λz=>Bool) true (λc z y=>J (jM c) y false) l
def km(a b:Int):Bool:=match a,b with
 |.ofNat m,.ofNat n=>Nat.beq m n
 |.negSucc m,.negSucc n=>Nat.beq m n
 |_,_=>false
def k_(a b:Int):Bool:=match a,b with
 |.ofNat m,.ofNat n=>Nat.blt m n
 |.negSucc m,.negSucc n=>Nat.blt n m
 |.negSucc _,.ofNat _=>true
 |.ofNat _,.negSucc _=>false
end Internal
end
local macro_rules
  | `(tactic| cases $t:elimTarget) =>
    let x := t.raw[1]
    if x.isIdent then return Internal.synOf "\"first \"| \"exact 'Internal.bg $0 1null 2^app 2%exact~ 2group \"| \"exact 'Internal.a6 $0 1null 2^app 2%exact~ 2group \"| \"exact 'Internal.Oz $0 1null 2^app 2%exact~ 2group \"| \"( \"injection $0 0null 3%injection \"; \"done 1%done 3null 1%tacticSeq1Indented 1%tacticSeq \") 3%paren~ 2group \"| \"( \"have 0null 1^letConfig 'zq 1^letId 0null \": \"_ 1^hole \"= \"_ 1^hole 3«term_=_» 2^typeSpec 1null \":= $0 5^letIdDecl 1^letDecl 3%tacticHave__ \"; \"clear $0 1null 2%clear \"; \"subst 'zq 1null 2%subst 5null 1%tacticSeq1Indented 1%tacticSeq \") 3%paren~ 2group \"| \"( \"have 0null 1^letConfig 'zq 1^letId 0null 0null \":= 'Option.some.inj $0 1null 2^app 5^letIdDecl 1^letDecl 3%tacticHave__ \"; \"subst 'zq 1null 2%subst 3null 1%tacticSeq1Indented 1%tacticSeq \") 3%paren~ 2group \"| \"( \"injection $0 \"with 'zq 'zr 2null 2null 3%injection \"; \"subst 'zq 1null 2%subst \"; \"subst 'zr 1null 2%subst 5null 1%tacticSeq1Indented 1%tacticSeq \") 3%paren~ 2group \"| \"( \"injection $0 \"with 'zq 1null 2null 3%injection \"; \"subst 'zq 1null 2%subst 3null 1%tacticSeq1Indented 1%tacticSeq \") 3%paren~ 2group \"| \"induction 0null $0 2%elimTarget 1null 0null 0null 0null 5%induction~ 2group \"| \"cases 0null \"( ' 1hygieneInfo 2^hygienicLParen $0 \") 3^paren 2%elimTarget 1null 0null 0null 4%cases~ 2group :null 2%first" #[x]
    else if x[0].getId == `List.mem_singleton.mp then return Internal.synOf "\"( \"have 0null 1^letConfig 'zz 1^letId 0null 0null \":= $0 5^letIdDecl 1^letDecl 3%tacticHave__ \"; \"cases 0null 'zz 2%elimTarget 1null 0null 0null 4%cases 3null 1%tacticSeq1Indented 1%tacticSeq \") 3%paren" #[x]
    else Lean.Macro.throwUnsupported
  | `(tactic| cases $t:elimTarget $a:inductionAlts) =>
    let n := a.raw[2][0][0][0][1][1].getId
    let p := fun s f => return Internal.synOf s #[t, a, Lean.mkIdent f]
    if t.raw[0].isNone && !t.raw[1].isIdent then Lean.Macro.throwUnsupported
    else if n == `nil || n == `cons then p "\"induction $0 1null \"using $2 2null 0null $1 1null 5%induction" `List.casesOn
    else if n == `zero || n == `succ then p "\"induction $0 1null \"using $2 2null 0null $1 1null 5%induction" `Nat.casesOn
    else p "\"induction $0 1null 0null 0null $1 1null 5%induction" `a
local macro_rules
  | `(tactic| show $t) => return Internal.synOf "\"refine \"( ' 1hygieneInfo 2^hygienicLParen \"? \"_ 2^syntheticHole \": $0 1null \") 5^typeAscription 2%refine" #[t]
local macro_rules
  | `(tactic| rw [$es,*]) =>
    let l := es.elemsAndSeps
    let e := l[0]!
    if e[0].isNone then return Internal.synOf (if l.size == 1 then "\"first \"| \"( \"refine 'Internal.rwG $0 \"? \"_ 2^syntheticHole 2null 2^app 2%refine \"; \"try \"( \"with_reducible \"rfl 1%tacticRfl~ 2%withReducible~ \") 3%paren~ 2%tacticTry_ 3null 1%tacticSeq1Indented 1%tacticSeq \") 3%paren~ 2group \"| \"rewrite 0null 1%optConfig \"[ 0null $0 2%rwRule 1null \"] 3%rwRuleSeq 0null 4%rewriteSeq \"; \"try \"( \"with_reducible \"rfl 1%tacticRfl~ 2%withReducible~ \") 3%paren~ 2%tacticTry_ 3null 1%tacticSeq1Indented 1%tacticSeq 2group 2null 2%first" else "\"( \"first \"| \"refine 'Internal.rwG $0 \"? \"_ 2^syntheticHole 2null 2^app 2%refine~ 2group \"| \"rewrite 0null 1%optConfig \"[ 0null $0 2%rwRule 1null \"] 3%rwRuleSeq 0null 4%rewriteSeq~ 2group 2null 2%first~ \") 3%paren \"; \"rw 0null 1%optConfig \"[ $1 \"] 3%rwRuleSeq 0null 4%rwSeq 3null 1%seq1") #[e[1], Lean.mkNullNode (l.extract 2 l.size)]
    else Lean.Macro.throwUnsupported
local macro_rules
  | `(tactic| intros) => return Internal.synOf "\"intro 'e 'n 'G 'W 'Y 'f 'H 'k 'M 'Z 'R 'm 'I 's 'A 'Q 'E 'V 'S 'F 'K 'B Fnull 2%intro" #[]
local macro_rules
  | `(tactic| decide) => return Internal.synOf "\"first \"| \"exact 'Nat.le_of_ble_eq_true 'rfl 1null 2^app 2%exact~ 2group \"| \"exact 'Nat.ne_of_beq_eq_false 'rfl 1null 2^app 2%exact~ 2group \"| \"exact 'of_decide_eq_true \"( ' 1hygieneInfo 2^hygienicLParen 'Eq.refl 'true 1null 2^app \") 3^paren 1null 2^app 2%exact~ 2group 3null 2%first" #[]
namespace Internal
abbrev iL:Nat:=0x5f5f74696e695f5f
abbrev rq:Nat:=0x65766f6d6572
abbrev cn:Nat:=1701667182
abbrev la:Nat:=1868983913
abbrev tH:Nat:=0x6465696669646f6d5f6b63656863
abbrev tI:Nat:=0x65746174735f746567
abbrev AI:Nat:=0x72656b63656843706d617473656d6954
abbrev wC:Nat:=0x6e6f736165725f646461
abbrev AJ:Nat:=0x737365636375735f65766173
abbrev wD:Nat:=0x737365636375735f65766f6d6572
abbrev AK:Nat:=0x737465677261745f74696e695f
abbrev AL:Nat:=0x657461646f7470755f74696e695f
abbrev AN:Nat:=0x7065645f656c69665f646e617078655f
abbrev AP:Nat:=0x736e6f6974706f5f74696e69
abbrev AQ:Nat:=0x73656d616e5f7065645f6b636568635f
abbrev AR:Nat:=0x737065645f746963696c706d695f746573
abbrev AS:Nat:=0x7065645f6b7361745f746963696c706d695f646461
abbrev AT:Nat:=0x736b7361745f646c69775f7465675f
abbrev AU:Nat:=0x7265746c69665f737365636f72705f
abbrev AW:Nat:=0x736b7361745f7265746c69665f
abbrev AX:Nat:=0x726568637461707369645f6b736174
abbrev wE:Nat:=0x7375746174735f746e65726170
abbrev wF:Nat:=0x65646f6e5f6e65675f
abbrev wG:Nat:=0x6e75725f746961775f6464615f65646f6e5f
abbrev AY:Nat:=0x65646f6e5f7478656e5f7465675f
abbrev AZ:Nat:=0x676e69746961775f6574616470755f
abbrev ay:Nat:=1718379891
abbrev hQ:Nat:=0x64695f6b736174
abbrev nG:Nat:=0x79636e65646e65706564
abbrev d9:Nat:=435761734006
abbrev cx:Nat:=495622842726
abbrev mi:Nat:=0x687461705f656c6966
abbrev pw:Nat:=0x746174735f656c6966
abbrev lb:Nat:=435744240755
abbrev tJ:Nat:=0x706d617473656d6974
abbrev ew:Nat:=7365988
abbrev wI:Nat:=0x65746174735f746e6572727563
abbrev iM:Nat:=0x676f6c5f746567
abbrev fj:Nat:=0x737574617473
abbrev A0:Nat:=0x6e6f736165725f726f727265
abbrev mj:Nat:=0x646e656b636162
abbrev gu:Nat:=0x72656b63656863
abbrev bH:Nat:=1802723700
abbrev nH:Nat:=0x7365756c6176
abbrev ip:Nat:=0x746c75736572
abbrev fq:Nat:=0x7065645f656c6966
abbrev wJ:Nat:=0x7465735f73756f6976657270
abbrev rt:Nat:=0x6465676e6168635f706564
abbrev jb:Nat:=0x657461646f747075
abbrev dK:Nat:=0x73746567726174
abbrev rx:Nat:=0x73756f6976657270
abbrev tK:Nat:=0x6465676e616863
abbrev gw:Nat:=0x646e65707061
abbrev tL:Nat:=0x736e6f69746361
abbrev gd:Nat:=0x7065645f6b736174
abbrev iq:Nat:=0x7065645f636c6163
abbrev rz:Nat:=0x666f5f6b736174627573
abbrev rA:Nat:=0x6b7361746275735f736168
abbrev lc:Nat:=0x73677261746567
abbrev rB:Nat:=0x736e6f6974706f
abbrev rC:Nat:=0x736b7361745f7075746573
abbrev A3:Nat:=0x7372657661735f65756c6176
abbrev tM:Nat:=0x7065645f646c6977
abbrev hU:Nat:=0x746567726174
abbrev nI:Nat:=495874892144
abbrev nJ:Nat:=0x7473696c5f6b736174
abbrev fI:Nat:=495723962740
abbrev pz:Nat:=0x726564726f5f6665645f
abbrev jN:Nat:=0x736b7361745f64657463656c6573
abbrev pA:Nat:=0x6e6f697463656c65735f6b736174
abbrev pB:Nat:=0x7473696c5f7265746c6966
abbrev A4:Nat:=0x6b7361745f64657265746c69665f646461
abbrev nK:Nat:=0x656d616e5f66
abbrev iN:Nat:=0x656d616e5f6b736174
abbrev wK:Nat:=0x6b7361745f64657463656c6573
abbrev tN:Nat:=0x5f7265746c6966
abbrev ml:Nat:=0x746e65726170
abbrev pC:Nat:=0x73726f747365636e61
abbrev wL:Nat:=0x7463656c65735f74696177
abbrev nL:Nat:=0x6e75725f74696177
abbrev rD:Nat:=0x636c61635f6e75725f74696177
abbrev tO:Nat:=0x656d5f676e6974696177
abbrev mn:Nat:=0x7375746174735f6e7572
abbrev rE:Nat:=0x737065645f646162
abbrev wM:Nat:=0x65646f6e5f746e65726170
abbrev tP:Nat:=0x6572756c696166
abbrev pD:Nat:=495622319982
abbrev pE:Nat:=0x676e6974696177
abbrev mo:Nat:=521375147378
abbrev pF:Nat:=0x6e75725f6f745f736b736174
abbrev bO:Nat:=1701080942
abbrev rF:Nat:=0x726f665f74696177
abbrev A5:Nat:=0x7473696c5f7065645f636c6163
abbrev A6:Nat:=0x7473696c5f7065645f6b736174
abbrev tQ:Nat:=0x6465737365636f7270
abbrev mr:Nat:=0x65646f6e5f676e6974696177
abbrev wN:Nat:=0x706574735f7478656e
abbrev mu:Nat:=0x746e65746e6f63
abbrev fJ:Nat:=495605343602
abbrev fu:Nat:=1752457584
abbrev mw:Nat:=0x64656465656e
abbrev my:Nat:=448344451191
abbrev nM:Nat:=0x65727574636970
abbrev tR:Nat:=0x726567616e616d
abbrev pG:Nat:=435711603827
abbrev tS:Nat:=0x6c6f72746e6f63
abbrev wO:Nat:=0x72656863746170736964
abbrev mz:Nat:=0x7364726f636572
abbrev iO:Nat:=461229747299
theorem aq{c:Prop}{h:Decidable c}(n:¬c){z:Sort u}{t e:z}:ite c t e=e:=_root_.if_neg n
theorem aw{c:Prop}{h:Decidable c}(n:c){z:Sort u}{t e:z}:ite c t e=t:=_root_.if_pos n
theorem br{p:Prop}[i:Decidable p](h:decide p=true):p:=_root_.of_decide_eq_true h
theorem bR{p:Prop}[i:Decidable p](h:p):decide p=true:=_root_.decide_eq_true h
theorem cA{p:Prop}[i:Decidable p](h:¬p):decide p=false:=_root_.decide_eq_false h
theorem aT{z:Sort u}{y:Sort v}{a b:z}(f:z->y)(h:a=b):f a=f b:=_root_.congrArg f h
theorem aP{a b:Prop}(h:a)(n:¬a):b:=_root_.absurd h n
abbrev aa0:Nat:=0x4a6c03428050a014280501
abbrev aj0:Nat:=0x12949a313a00000091b84168000fa121
abbrev aB0:Nat:=2004515192
abbrev aC0:Nat:=0x49c3139430a841
abbrev aD0:Nat:=0x2e747369786520746f6e2073656f6420277d7b2720656c696620746e65646e65706544
abbrev aE0:Nat:=0x1267f21410f4301101
abbrev aF0:Nat:=0x129b0090a014280501
abbrev aG0:Nat:=0x4a6d004280501
abbrev aH0:Nat:=0x1267f2141044301d01
abbrev aI0:Nat:=0x129b0110a01428050a014280501
abbrev aJ0:Nat:=0x1268004e212168000fa121
abbrev aK0:Nat:=0x1267f21412b4301101
abbrev aL0:Nat:=0x9499fc8509404b08ba180481301101
abbrev aM0:Nat:=0x498088138110a1280501
abbrev aN0:Nat:=0x68746977737472617473
abbrev aO0:Nat:=0x1267f2141134301101
abbrev aP0:Nat:=0x4a526086cfe40d820b43fc8
abbrev aQ0:Nat:=0x6b7361745f64657265746c69665f6464612e3e736c61636f6c3c2e7265746c69665f737365636f72705f2e6c6f72746e6f436b736154
abbrev aR0:Nat:=0x6b7361745f64657265746c69665f646461
abbrev aS0:Nat:=0x4a4f7282268146307b8ed02688bd10615a04d10fa181e81301101
abbrev aT0:Nat:=0x4a4f7282568146307b8ed02688bd10615a04d10fa181e81301101
abbrev aU0:Nat:=0x949ee5012c22e8146307b8ed02688bd10615a04d10fa181e81301101
abbrev aV0:Nat:=0x2527b940285012c22e8146307b8ed02688bd10615a04d10fa181e81301101
abbrev aW0:Nat:=0x499fe80c6318c6318c5c6280b8c101717a02e2a405c4a80b88d01706202e0b405c0680b80501
theorem mT2{z:α}(H:z∈l):z∈a::b::l:=.tail _<|.tail _<|H
theorem mT3{z:α}(H:z∈l):z∈a::b::c::l:=.tail _<|.tail _<|.tail _<|H
theorem mT4{z:α}(H:z∈l):z∈a::b::c::d::l:=.tail _<|.tail _<|.tail _<|.tail _<|H
theorem mT5{z:α}(H:z∈l):z∈a::b::c::d::e::l:=.tail _<|.tail _<|.tail _<|.tail _<|.tail _<|H
theorem mT6{z:α}(H:z∈l):z∈a::b::c::d::e::f::l:=.tail _<|.tail _<|.tail _<|.tail _<|.tail _<|.tail _<|H
theorem mT7{z:α}(H:z∈l):z∈a::b::c::d::e::f::g::l:=.tail _<|.tail _<|.tail _<|.tail _<|.tail _<|.tail _<|.tail _<|H
theorem mT8{z:α}(H:z∈l):z∈a::b::c::d::e::f::g::h::l:=.tail _<|.tail _<|.tail _<|.tail _<|.tail _<|.tail _<|.tail _<|.tail _<|H
theorem mT9{z:α}(H:z∈l):z∈a::b::c::d::e::f::g::h::i::l:=.tail _<|.tail _<|.tail _<|.tail _<|.tail _<|.tail _<|.tail _<|.tail _<|.tail _<|H
abbrev iJ:=List (Nat×AV)
abbrev ld:=List (Nat×AO)
abbrev on:=List (Nat×Nat)
abbrev wg:=Nat->Option AV
abbrev Nv:=Nat->Nat->Int
abbrev tY0:=List AV
def ar7:CI:=⟨[31],[]⟩
def Go:CI:=⟨[100],[(iL,.meth 55),(1886221668,.meth 62),(7628147,.meth 69),(7628135,.meth 76),(6254185,.meth 83),(rq,.meth 90),(0x6c6c615f65766f6d6572,.meth 97)]⟩
def Gp:CI:=⟨[149],[(cn,.val (.str 0x72656b636568436465676e616843656c6946)),(iL,.meth 118),(0x737473697865,.meth 125),(la,.meth 132),(tH,.meth 139),(tI,.meth 146)]⟩
def Gq:CI:=⟨[177,149],[(cn,.val (.str 0x72656b6365684335444d)),(tH,.meth 167),(tI,.meth 174),(iL,.meth 118),(0x737473697865,.meth 125),(la,.meth 132)]⟩
def Gr:CI:=⟨[203,149],[(cn,.val (.str AI)),(tH,.meth 193),(tI,.meth 200),(iL,.meth 118),(0x737473697865,.meth 125),(la,.meth 132)]⟩
def Gs:CI:=⟨[244],[(iL,.meth 219),(wC,.meth 227),(0x6e6f736165725f746573,.meth 234),(0x6567617373656d5f726f7272655f746567,.meth 241)]⟩
def Gu:CI:=⟨[363],[(iL,.meth 262),(1952805727,.meth 269),(1952802655,.meth 276),(rq,.meth 283),(0x6c6c615f65766f6d6572,.meth 290),(7235935,.meth 297),(435728378979,.meth 304),(AJ,.meth 312),(0x7365756c61765f746567,.meth 319),(0x65756c61765f746567,.meth 326),(0x746c757365725f746567,.meth 333),(wD,.meth 340),(0x65726f6e6769,.meth 347),(0x65726f6e67695f73695f737574617473,.meth 354),(0x7375746174735f746567,.meth 360)]⟩
def Gv:CI:=⟨[398],[(iL,.meth 381),(483006899571,.meth 388),(0x6c61765f746567,.meth 395)]⟩
def ar8:CI:=⟨[420],[(iL,.meth 417)]⟩
def ar9:CI:=⟨[433],[]⟩
def as0:CI:=⟨[446],[]⟩
def as1:CI:=⟨[459],[]⟩
def Gw:CI:=⟨[569],[(iL,.meth 483),(0x737065645f74696e695f,.meth 490),(AK,.meth 497),(AL,.meth 504),(AN,.meth 511),(0x7065645f6b7361745f646e617078655f,.meth 518),(0x7065645f636c61635f646e617078655f,.meth 525),(0x657461646f7470755f646e657478655f,.meth 532),(0x737065645f657461647075,.meth 539),(AP,.meth 547),(0x736772617465675f74696e695f,.meth 552),(0x7365756c61765f61727478655f65766173,.meth 559),(0x65747563657865,.meth 566)]⟩
def Gx:CI:=⟨[626,398],[(iL,.meth 588),(0x6b7361745f6572756769666e6f63,.meth 595),(0x656c676e69735f746c757365725f,.meth 602),(0x70756f72675f746c757365725f,.meth 609),(0x746c757365725f7065645f7465675f,.meth 616),(1819043188,.meth 623),(483006899571,.meth 388),(0x6c61765f746567,.meth 395)]⟩
def Gy:CI:=⟨[714],[(iL,.meth 649),(AQ,.meth 656),(AR,.stat 663),(AS,.stat 673),(AT,.meth 683),(AU,.meth 690),(AW,.meth 697),(0x737365636f7270,.meth 704),(AX,.meth 711)]⟩
def Gz:CI:=⟨[742],[(iL,.meth 732),(wE,.meth 739)]⟩
def GA:CI:=⟨[820],[(iL,.meth 760),(wF,.meth 767),(0x79646165725f6464615f,.meth 774),(wG,.meth 782),(0x6b7361745f6464615f,.meth 789),(AY,.meth 796),(AZ,.meth 803),(0x73746c757365725f7065645f636c61635f737365636f72705f,.meth 810),(1684956531,.meth 817)]⟩
def eI:TR CI:=(.N (.N (.N .lf (.N .lf (.N (.N (.N .lf (.L Gr)) (.N .lf (.N (.L Gu) .lf))) .lf))) (.N (.N (.N .lf (.N .lf (.N (.L Gq) .lf))) (.N .lf (.N .lf (.N (.N (.N (.L Gw) .lf) .lf) .lf)))) (.N (.N .lf (.N (.N (.L Gp) .lf) .lf)) .lf))) (.N (.N .lf (.N (.N (.N .lf (.L Go)) (.N .lf (.N (.N (.N .lf (.L GA)) .lf) (.L Gs)))) .lf)) (.N (.N (.N .lf (.N .lf (.N .lf (.N (.N (.L Gx) .lf) .lf)))) (.N (.N (.N .lf (.N .lf (.N (.L Gy) .lf))) .lf) .lf)) (.N (.N (.N .lf (.N .lf (.N .lf (.N (.L Gz) .lf)))) .lf) (.N (.N (.N (.N .lf (.L Gv)) .lf) .lf) .lf)))))
def as2:List (Nat×CI):=[(100,Go),(149,Gp),(177,Gq),(203,Gr),(244,Gs),(363,Gu),(398,Gv),(569,Gw),(626,Gx),(714,Gy),(742,Gz),(820,GA)]
def as3:ld:=[(470,.tup []),(471,.tup []),(472,.tup []),(473,.tup []),(474,.tup []),(475,.tup []),(825,.tup [.str 12612,.str 12868,.str 13124,.str 13380]),(826,.tup [.str 25185,.str 25442,.str 31096,.str 31329]),(827,.tup [.int 0,.int 1,.int 2,.int 3]),(828,.tup [.none,.glo 827]),(829,.tup [.str 122]),(830,.tup [.int 2]),(831,.tup [.glo 829,.glo 830]),(832,.tup [.str 13380]),(833,.tup [.int 3]),(834,.tup [.glo 832,.glo 833]),(835,.tup [.str 12868,.str 120]),(836,.tup [.int 1,.int 0]),(837,.tup [.glo 835,.glo 836]),(838,.tup [.str 10820]),(839,.tup [.int 0,.int 1,.int 2,.int 3]),(840,.tup [.glo 838,.glo 839]),(841,.tup [.str 121,.str 12612]),(842,.tup [.int 1,.int 0]),(843,.tup [.glo 841,.glo 842]),(844,.tup [.str 13098,.str 12868]),(845,.tup [.int 2,.int 1]),(846,.tup [.glo 844,.glo 845]),(847,.tup [.glo 828,.glo 831,.glo 834,.glo 837,.glo 840,.glo 843,.glo 846])]
def iP:TR AO:=(.N (.N (.N (.N (.N (.N (.N .lf (.N (.N .lf (.L (.tup [.glo 829,.glo 830]))) .lf)) .lf) (.N (.N .lf (.N (.N .lf (.L (.tup [.glo 828,.glo 831,.glo 834,.glo 837,.glo 840,.glo 843,.glo 846]))) .lf)) .lf)) (.N (.N (.N .lf (.N (.N .lf (.L (.tup [.int 0,.int 1,.int 2,.int 3]))) .lf)) .lf) (.N (.N .lf (.N .lf (.L (.tup [])))) .lf))) (.N (.N (.N (.N .lf (.N (.N .lf (.L (.tup [.str 12868,.str 120]))) .lf)) .lf) .lf) (.N (.N (.N .lf (.N (.N .lf (.L (.tup [.glo 841,.glo 842]))) .lf)) .lf) (.N (.N .lf (.N .lf (.L (.tup [])))) (.N (.N (.N .lf (.L (.tup [.int 0,.int 1,.int 2,.int 3]))) .lf) .lf))))) (.N (.N (.N (.N (.N .lf (.N (.N .lf (.L (.tup [.int 3]))) .lf)) .lf) .lf) (.N (.N (.N .lf (.N (.N .lf (.L (.tup [.str 121,.str 12612]))) .lf)) .lf) (.N (.N .lf (.N .lf (.L (.tup [])))) (.N (.N (.N .lf (.L (.tup [.str 12612,.str 12868,.str 13124,.str 13380]))) .lf) .lf)))) (.N (.N (.N (.N .lf (.N (.N .lf (.L (.tup [.glo 835,.glo 836]))) .lf)) .lf) .lf) (.N (.N (.N .lf (.N (.N .lf (.L (.tup [.int 2,.int 1]))) .lf)) .lf) (.N .lf (.N (.N (.N .lf (.L (.tup [.str 122]))) .lf) .lf)))))) (.N (.N (.N (.N (.N (.N .lf (.N (.N .lf (.L (.tup [.str 13380]))) .lf)) .lf) .lf) (.N (.N (.N .lf (.N (.N .lf (.L (.tup [.glo 838,.glo 839]))) .lf)) .lf) (.N (.N .lf (.N .lf (.L (.tup [])))) .lf))) (.N (.N (.N (.N .lf (.N (.N .lf (.L (.tup [.int 1,.int 0]))) .lf)) .lf) .lf) (.N (.N (.N .lf (.N (.N .lf (.L (.tup [.str 13098,.str 12868]))) .lf)) .lf) (.N .lf (.N (.N (.N .lf (.L (.tup [.none,.glo 827]))) .lf) .lf))))) (.N (.N (.N (.N (.N .lf (.N (.N .lf (.L (.tup [.glo 832,.glo 833]))) .lf)) .lf) .lf) (.N (.N (.N .lf (.N (.N .lf (.L (.tup [.int 1,.int 0]))) .lf)) .lf) (.N (.N .lf (.N .lf (.L (.tup [])))) (.N (.N (.N .lf (.L (.tup [.str 25185,.str 25442,.str 31096,.str 31329]))) .lf) .lf)))) (.N (.N (.N (.N .lf (.N (.N .lf (.L (.tup [.str 10820]))) .lf)) .lf) (.N (.N .lf (.N .lf (.L (.tup [])))) .lf)) (.N (.N (.N .lf (.N (.N .lf (.L (.tup [.glo 844,.glo 845]))) .lf)) .lf) (.N .lf (.N (.N (.N .lf (.L (.tup [.int 2]))) .lf) .lf)))))))
section
open PySem (CmpOp Operator)
def jc(h:AH)(v:AV):Option AO:=AV.m none v (ref:=λi=>h.get i) (glo:=λa=>iP.get a)
inductive KV where
 |n
 |b (x:Bool)
 |i (x:Int)
 |s (x:Nat)
 |a (k n:Nat)
def A7(a:AV):Option KV:=AV.m none a (none:=some .n) (bool:=λx=>some (.b x)) (int:=λx=>some (.i x)) (str:=λx=>some (.s x)) (atm:=λk x=>some (.a k x))
def GB(a b:KV):Option Bool:=match a with
 |.n=>match b with
  |.n=>some true
  |.a _ _=>none
  |_=>some false
 |.b x=>match b with
  |.b y=>some<|x == y
  |.n=>some false
  |_=>none
 |.i x=>match b with
  |.i y=>some<|km x y
  |.n=>some false
  |.s _=>some false
  |_=>none
 |.s x=>match b with
  |.s y=>some<|Nat.beq x y
  |.n=>some false
  |.i _=>some false
  |_=>none
 |.a k x=>match b with
  |.a l y=>J (Nat.beq k l) (some<|Nat.beq x y) none
  |.n=>some false
  |_=>none
def tT(a b:AV):Option Bool:=ad (A7 a) none λx=>ad (A7 b) none λy=>GB x y
def pH(a b:AV):Option Bool:=AV.m (tT a b) a (one:=λz=>AV.m none b (str:=λy=>J (a5 z y) none (some false)) (none:=some false))
def A8(l:tY0)(x:AV):Option Bool:=@List.rec AV (λz=>Option Bool) (some false) (λy z w=>ad (pH x y) none λb=>ad w none λr=>some (J b true r)) l
def dk{z:Type}(l:List z):Bool:=match l with
 | []=>false
 |_::_=>true
def ir(h:AH)(d:Nat):Option (iJ):=ad (h.get d) none λo=>AO.m none o (dict:=λes=>some es)
def wP(h:AH)(o:AO):Option Bool:=AO.m none o (inst:=λz d=>ad (ir h d) none λz=>some true) (dict:=λes=>some (dk es)) (list:=λy=>some (dk y)) (tup:=λy=>some (dk y)) (set:=λy=>some (dk y))
def nN(h:AH)(v:AV):Option Bool:=AV.m none v (none:=some false) (bool:=λb=>some b) (int:=λi=>some (!(km i 0))) (str:=λc=>J (Nat.ble (len (cps c)) 1000) (some (!(Nat.beq c 0))) none) (ref:=λi=>ad (h.get i) none (wP h)) (glo:=λa=>ad (iP.get a) none (wP h))
def A9(l:tY0):tY0->Option Bool:=@List.rec AV (λz=>tY0->Option Bool) (λz=>some true) (λx z v m=>@List.rec AV (λz=>Option Bool) none (λy w z=>ad (tT x y) none λb=>ad (v w) none λr=>some (J b r false)) m) l
def GC(l m:tY0):Option Bool:=J (Nat.beq (len l) (len m)) (A9 l m) (some false)
def hV(r l:List Nat):Bool:=@List.rec Nat (λz=>Bool) true (λx z y=>J (a5 l x) y false) r
def wQ(l r:iJ):Option Bool:=@List.rec (Nat×AV) (λz=>Option Bool) (some true) (λp z y=>ad (ae l p.1) (some false) λw=>ad (tT p.2 w) none λb=>ad y none λr=>some (J b r false)) r
def GD(a b:AO):Option Bool:=AO.m none a (dict:=λz=>AO.m none b (dict:=λy=>J (Nat.beq (len z) (len y)) (wQ y z) (some false)))
def GE(a b:AO):Option Bool:=AO.m none a (list:=λz=>AO.m none b (list:=λy=>GC z y)) (set:=λz=>AO.m none b (set:=λy=>some (J (Nat.beq (len z) (len y)) (hV z y) false)))
def A_(f:AO->AO->Option Bool)(h:AH)(a b:AV):Option Bool:=ad (jc h a) none λx=>ad (jc h b) none λy=>f x y
def GF(h:AH)(b:AV):Option Bool:=ad (jc h b) none λo=>AO.m none o (dict:=λz=>some false)
def isNone(a:AV):Bool:=AV.m false a (none:=true)
def rG(a:AV):Bool:=AV.m false a (ref:=λz=>true)
def nO(x:AV):Option Nat:=AV.m none x (str:=λk=>some k)
def lg(x:AV):Option Int:=AV.m none x (int:=λk=>some k)
def Ba(h:AH)(a b:AV):Option Bool:=J (rG a) (A_ GD h a b) (J (isNone a) (J (rG b) (GF h b) (pH a b)) (pH a b))
def Bb(h:AH)(a b:AV):Option Bool:=J (rG a) (A_ GE h a b) (pH a b)
def wR(a b:AV):Option Bool:=AV.m none b (none:=AV.m (some (isNone a)) a (bi:=λz=>none) (unk:=none))
def OC(es:iJ)(x:AV):Option Bool:=ad (nO x) none λk=>some (ad (ae es k) false λz=>true)
def OD(es:List (Nat×Option AV))(x:AV):Option Bool:=ad (nO x) none λk=>some (ad (ae es k) false λo=>ad o false λz=>true)
def rH(x:AV)(o:AO):Option Bool:=AO.m none o (dict:=λes=>OC es x) (umap:=λes=>OD es x) (list:=λz=>A8 z x) (tup:=λz=>A8 z x) (set:=λz=>ad (nO x) none λk=>some (a5 z k))
def Bc(p s:List Nat):Option Bool:=match p with
 | []=>none
 |c::r=>J (dk r) none<|some<|a5 s c
def Bd(h:AH)(x c:AV):Option Bool:=AV.m none c (str:=λs=>ad (nO x) none λp=>Bc (cps p) (cps s)) (ref:=λi=>ad (h.get i) none (rH x)) (glo:=λa=>ad (iP.get a) none (rH x))
def wT(o:Option Bool):Option Bool:=ad o none λb=>some (!b)
def wU(f:Int->Int->Bool)(a b:AV):Option Bool:=ad (lg a) none λx=>ad (lg b) none λy=>some (f x y)
def rI(w:q8):AH->AV->AV->Option Bool:=match w with
 |.Eq=>Ba
 |.NotEq=>λh a b=>wT<|Bb h a b
 |.Is=>λz=>wR
 |.IsNot=>λz a b=>wT<|wR a b
 |.In=>Bd
 |.NotIn=>λh a b=>wT<|Bd h a b
 |.Lt=>λz=>wU k_
 |.Gt=>λz=>wU λx y=>k_ y x
 |.GtE=>λz=>wU λx y=>!(k_ x y)
 |.LtE=>λz z z=>none
def wV{y:Type}(z:List y)(i:Int):Option y:=match i with
 |.ofNat m=>J (Nat.ble m 1000000) (gR z m) none
 |.negSucc _=>none
def wW(z:tY0)(i:AV):Option AV:=ad (lg i) none λn=>wV z n
def key(es:iJ)(i:AV):Option AV:=ad (nO i) none λk=>ae es k
def OE(es:List (Nat×Option AV))(i:AV):Option AV:=ad (nO i) none λk=>ad (ae es k) none λo=>o
def rJ(i:AV)(o:AO):Option AV:=AO.m none o (list:=λz=>wW z i) (tup:=λz=>wW z i) (dict:=λes=>key es i) (umap:=λes=>OE es i)
def sub(h:AH)(o i:AV):Option AV:=AV.m none o (str:=λs=>ad (lg i) none λn=>ad (wV (cps s) n) none λc=>J (jM c) (some (.str c)) none) (ref:=λa=>ad (h.get a) none (rJ i)) (glo:=λa=>ad (iP.get a) none (rJ i))
def cu{y:Type}(l:List y):Nat->List y:=@List.rec y (λz=>Nat->List y) (λz=>[]) (λx z w n=>@Nat.rec (λz=>List y) [] (λm z=>x::w m) n) l
def rK{y:Type}(l:List y)(n:Nat):List y:=@Nat.rec (λz=>List y->List y) (λl=>l) (λz x l=>@List.rec y (λz=>List y) [] (λz r z=>x r) l) n l
def ax{y:Type}(l m:List y):List y:=@List.rec y (λz=>List y) m (λx z w=>x::w) l
def lh{y:Type}(l:List y):List y:=@List.rec y (λz=>List y->List y) (λa=>a) (λx z w a=>w (x::a)) l []
def bX{w y:Type}(f:w->y)(l:List w):List y:=@List.rec w (λz=>List y) [] (λx z v=>f x::v) l
def wX{y:Type}(l:List y)(v:y):Nat->List y:=@List.rec y (λz=>Nat->List y) (λz=>[]) (λx r w n=>@Nat.rec (λz=>List y) (v::r) (λm z=>x::w m) n) l
def mA(i:Int):Option Nat:=match i with
 |.ofNat n=>some n
 |.negSucc _=>none
def cut(z:tY0)(y x:Option Int):Option (tY0):=match y with
 |none=>match x with
  |none=>some z
  |some b=>ad (mA b) none λb=>some<|cu z b
 |some a=>ad (mA a) none λa=>match x with
  |none=>some<|rK z a
  |some b=>ad (mA b) none λb=>some<|rK (cu z b) a
def OF(C n:Nat):Option AV:=ad (eI.get C) none λz=>ad (ae z.attrs n) none λa=>match a with
 |.val w=>some w
 |_=>none
def GG(h:AH)(n:Nat)(o:AO):Option AV:=AO.m none o (inst:=λC d=>ad (ir h d) none λes=>ad (ae es n) (OF C n) some)
def rL(h:AH)(n:Nat)(v:AV):Option AV:=AV.m none v (ref:=λi=>ad (h.get i) none (GG h n))
def OG(a b:Int):Option Int:=match b with
 |.ofNat n=>@Nat.rec (λz=>Option Int) none (λm z=>J (Nat.ble m 1000) (some<|Int.fdiv a<|.ofNat<|Nat.succ m) none) n
 |_=>none
def OH(a b:Int):Option Int:=match b with
 |.ofNat n=>@Nat.rec (λz=>Option Int) none (λm z=>some<|Int.fmod a<|.ofNat<|Nat.succ m) n
 |_=>none
def OI(a b:Int):Option Int:=ad (mA a) none λm=>ad (mA b) none λn=>some (.ofNat (Nat.shiftRight m n))
def mB(y:nB):Int->Int->Option Int:=match y with
 |.Add=>λa b=>some<|Int.add a b
 |.Sub=>λa b=>some<|Int.sub a b
 |.Mult=>λa b=>some<|Int.mul a b
 |.FloorDiv=>OG
 |.Mod=>OH
 |.RShift=>OI
 |_=>λz z=>none
def tU(x:Int)(l:List Int):List Int:=@List.rec Int (λz=>List Int) [x] (λy r w=>J (k_ x y) (x::y::r) (y::w)) l
def rM(l:List Int):List Int:=@List.rec Int (λz=>List Int) [] (λx z y=>tU x y) l
def nP(l:tY0):Option (List Int):=@List.rec AV (λz=>Option (List Int)) (some []) (λv z y=>AV.m none v (int:=λi=>ad y none λl=>some (i::l))) l
def wY(l:tY0):Option (List Nat):=@List.rec AV (λz=>Option (List Nat)) (some []) (λv z y=>AV.m none v (str:=λi=>ad y none λl=>some (i::l))) l
def jO(z:List Nat)(x:Nat):List Nat:=J (a5 z x) z (ax z [x])
def Be(x l:List Nat):List Nat:=@List.rec Nat (λz=>List Nat->List Nat) (λx=>x) (λy z w x=>w (jO x y)) l x
def gT(l:List Nat)(x:Nat):List Nat:=@List.rec Nat (λz=>List Nat) [] (λk r y=>J (Nat.beq k x) r (k::y)) l
def vals(l:iJ):tY0:=bX Nw l
def eA(h:AH)(i:Nat):Option (tY0):=ad (h.get i) none λo=>AO.m none o (list:=λz=>some z)
def wZ(h:AH)(v:AV):Option (tY0):=ad (jc h v) none λo=>AO.m none o (tup:=λz=>some z)
def gx(h:AH)(v:AV):Option (tY0):=AV.m none v (ref:=λi=>eA h i)
def tV(h:AH)(v:AV):Option (tY0):=AV.m none v (ref:=λi=>ad (h.get i) none λo=>AO.m none o (list:=λz=>some z) (frz:=λz=>some z))
def OJ(h:AH)(o:AO):Option (tY0):=AO.m none o (list:=λz=>some z) (tup:=λz=>some z) (rev:=λs i=>ad (eA h s) none λz=>J (Nat.beq i (len z)) (some (lh z)) none) (dvals:=λs=>ad (ir h s) none λes=>some (vals es))
def as4(h:AH)(v:AV):Option (tY0):=ad (jc h v) none (OJ h)
def OK(C:Nat)(o:AO):Option Bool:=AO.m none o (inst:=λy z=>ad (eI.get y) none λx=>J (a5 x.mro C) (some true) none)
def OL(h:AH)(v:AV)(C:Nat):Option Bool:=AV.m none v (ref:=λi=>ad (h.get i) none (OK C))
def OM(v:AV):Option Bool:=AV.m none v (str:=λz=>some true)
def GH(h:AH)(v c:AV):Option Bool:=match c with
 |.bi b=>match b with
  |.tyStr=>OM v
  |_=>none
 |.glo C=>OL h v C
 |_=>none
set_option genCtorIdx true in
inductive gU where
 |lst (i:Nat)
 |tup (v:AV)
 |rng (n:Nat)
 |str (l:List Nat)
def rN(v:AV)(i:Nat)(o:AO):Option gU:=AO.m none o (list:=λz=>some (.lst i)) (tup:=λz=>some (.tup v)) (rng:=λn=>some (.rng n))
def mC(h:AH)(v:AV):Option gU:=AV.m none v (str:=λs=>J (wz (cps s)) (some (.str (cps s))) none) (ref:=λi=>ad (h.get i) none (rN v i)) (glo:=λa=>ad (iP.get a) none λo=>AO.m none o (tup:=λz=>some (.tup v)))
def li(h:AH)(s:gU)(i:Nat):Option (Option AV):=match s with
 |.lst j=>ad (eA h j) none λz=>some<|gR z i
 |.tup v=>ad (wZ h v) none λz=>some<|gR z i
 |.rng n=>some<|J (Nat.blt i n) (some<|.int<|.ofNat i) none
 |.str l=>some<|ad (gR l i) none λc=>some<|.str c
section
variable (R:Type)
abbrev K:=AV->AH->R
abbrev KB:=Bool->AH->R
abbrev KL:=tY0->AH->R
abbrev KS:=Fl->aK->AH->R
abbrev KF:=aK->AH->R
abbrev KE:=Nat->AH->R
structure EV where
 stop:R
 chk:Int->R->R
 fuel:Nat
 hd:Bool
 call:Bool->Nat->on->tY0->iJ->AH->K R->KE R->R
 lvl:Nat
abbrev XE:=EV R->aK->AH->K R->KE R->R
abbrev XB:=EV R->aK->AH->KB R->KE R->R
abbrev XL:=EV R->aK->AH->KL R->KE R->R
abbrev XK:=EV R->aK->AH->(iJ->AH->R)->KE R->R
abbrev XO:=EV R->aK->AH->(Option Int->AH->R)->KE R->R
abbrev XP:=EV R->AV->aK->AH->KF R->KE R->R
abbrev jP:=EV R->tY0->aK->AH->KF R->KE R->R
abbrev XS:=EV R->aK->AH->KS R->KE R->R
abbrev XM:=EV R->AV->tY0->AH->K R->R
structure FI where
 params:List Nat
 dfl:iJ
 cells:List Nat
 body:XS R
def Bf(x:List Nat):tY0->Option (iJ):=@List.rec Nat (λz=>tY0->Option (iJ)) (λy=>J (dk y) none (some [])) (λp z w y=>@List.rec AV (λz=>Option (iJ)) (some []) (λa y z=>ad (w y) none λl=>some ((p,a)::l)) y) x
def w4(x:List Nat)(y dfl:iJ):Option (iJ):=@List.rec Nat (λz=>Option (iJ)) (some []) (λp z w=>ad (ad (ae y p) (ae dfl p) some) none λa=>ad w none λl=>some ((p,a)::l)) x
def GI(v:List Nat)(y:iJ):AH->on->(on->AH->R)->R:=@List.rec Nat (λz=>AH->on->(on->AH->R)->R) (λh x k=>k x h) (λc z w h x k=>w (h.new (.cell (ae y c))) ((c,h.n)::x) k) v
def w5(l:iJ)(x:List Nat):iJ:=@List.rec (Nat×AV) (λz=>iJ) [] (λp z y=>J (a5 x p.1) y (p::y)) l
def w6(r:List Nat)(l:on):Option (on):=@List.rec Nat (λz=>Option (on)) (some []) (λx z y=>ad (ae l x) none λi=>ad y none λm=>some ((x,i)::m)) r
variable {R}
abbrev fK{z:Type}(e:EV R)(l:List z)(r:R):R:=J (Nat.ble (len l) 1000) r e.stop
def ko(e:EV R)(k:K R)(z:Fl)(_:aK)(h:AH):R:=match z with
 |.ret v=>k v h
 |.nxt=>k .none h
 |_=>e.stop
def w7(x:List Nat)(y v:iJ):Bool:=@List.rec (Nat×AV) (λz=>iJ->Bool) (λz=>true) (λp z w y=>J (a5 x p.1) (ad (ae y p.1) (w (ax y [p])) λz=>false) false) v y
def enter(e:EV R)(v:FI R)(u:on)(z:tY0)(t:iJ)(h:AH)(k:K R)(s:KE R):R:=
 ad (Bf v.params z) e.stop λx=>J (w7 v.params x t) (ad (w4 v.params (ax x t) v.dfl) e.stop λw=>
  GI R v.cells w h u λy h=>v.body e ⟨w5 w v.cells,y⟩ h (ko e k) s) e.stop
def ON(e:EV R)(x:Nat)(k:K R)(v:AV)(h:AH):R:=AV.m e.stop v (none:=k (.ref x) h)
def nQ:Nat:=0x5f5f74696e695f5f
def OO(e:EV R)(a:Nat)(f:Nat)(z:tY0)(x:iJ)(h:AH)(k:K R)(y:KE R):R:=
 J (Nat.blt f 1000000) (e.call e.hd f [] (.ref (Nat.succ h.n)::z) x ((h.new<|.dict []).new<|.inst a h.n) (ON e (Nat.succ h.n) k) y) e.stop
def Bg(e:EV R)(a:Nat)(w:CI)(z:tY0)(x:iJ)(h:AH)(k:K R)(y:KE R):R:=
 ad (ae w.attrs nQ) e.stop λm=>match m with
  |.meth f=>OO e a f z x h k y
  |_=>e.stop
def w8(e:EV R)(a:Nat)(z:tY0)(x:iJ)(h:AH)(k:K R)(y:KE R):R:=
 ad (eI.get a) (J (Nat.blt a 1000000) (e.call e.hd a [] z x h k y) e.stop) λw=>Bg e a w z x h k y
def Bh(h:AH)(z q:Nat):Bool:=ad (h.get z) false λo=>match o with
 |.code q'=>Nat.beq q' q
 |_=>false
def OP(e:EV R)(o:AO)(z:tY0)(w:iJ)(h:AH)(k:K R)(x:KE R):R:=AO.m e.stop o (fn:=λg q v y=>J (Bh h v q) (e.call e.hd g y z w h k x) e.stop)
def GJ(e:EV R)(h:AH)(k:K R)(o:AO):R:=AO.m e.stop o (list:=λz=>k (.int (.ofNat (len z))) h) (dict:=λz=>k (.int (.ofNat (len z))) h)
def OQ(e:EV R)(v:AV)(h:AH)(k:K R):R:=AV.m (ad (jc h v) e.stop (GJ e h k)) v (str:=λs=>J (Nat.ble (len (cps s)) 1000) (k (.int (.ofNat (len (cps s)))) h) e.stop)
def OR(e:EV R)(z:tY0)(h:AH)(k:K R):R:=ad (wY z) e.stop λl=>fK e l (k (.ref h.n) (h.new (.set (Be [] l))))
def OS(e:EV R)(z:tY0)(h:AH)(k:K R):R:=ad (nP z) e.stop λl=>J (Nat.blt (len l) 64) (k (.ref h.n) (h.new (.list (bX .int (rM l))))) e.stop
def mD(l:List Int):Int:=@List.rec Int (λz=>Int->Int) (λa=>a) (λx z y a=>y (Int.add a x)) l 0
def OT(e:EV R)(z:tY0)(h:AH)(k:K R):R:=ad (nP z) e.stop λl=>J e.hd e.stop (k (.int (mD l)) h)
def OU(e:EV R)(v:AV)(h:AH)(k:K R):R:=AV.m e.stop v (int:=λi=>ad (mA i) e.stop λn=>J (Nat.ble n 1000) (k (.ref h.n) (h.new (.rng n))) e.stop)
def pI(e:EV R)(h:AH)(k:K R)(z:tY0):R:=fK e z (k (.ref h.n) (h.new (.list z)))
def OV(e:EV R)(h:AH)(k:K R)(o:AO):R:=AO.m e.stop o (list:=λz=>pI e h k z) (tup:=λz=>pI e h k z) (dvals:=λs=>ad (ir h s) e.stop λes=>J e.hd e.stop (pI e h k (vals es)))
def GK(h:AH)(v:AV):Option (tY0):=ad (jc h v) none λo=>AO.m none o (list:=λz=>some z) (tup:=λz=>some z)
def Bi(e:EV R)(b:BI)(v:AV)(h:AH)(k:K R):R:=match b with
 |.len=>OQ e v h k
 |.lst=>ad (jc h v) e.stop<|OV e h k
 |.tup=>ad (gx h v) e.stop λz=>fK e z<|k (.ref h.n)<|h.new<|.tup z
 |.set=>ad (GK h v) e.stop λz=>J e.hd e.stop<|OR e z h k
 |.sorted=>ad (gx h v) e.stop λz=>OS e z h k
 |.sum=>ad (gx h v) e.stop λz=>OT e z h k
 |.range=>OU e v h k
 |_=>e.stop
def Bj(e:EV R)(b:BI)(v c:AV)(h:AH)(k:K R):R:=match b with
 |.isinst=>ad (GH h v c) e.stop λb=>k (.bool b) h
 |_=>e.stop
def Bk(e:EV R)(b:BI)(h:AH)(k:K R):R:=match b with
 |.set=>k (.ref h.n)<|h.new<|.set []
 |_=>e.stop
def GL(e:EV R)(b:BI)(z:tY0)(h:AH)(k:K R):R:=match z with
 | []=>Bk e b h k
 |v::r=>match r with
  | []=>Bi e b v h k
  |c::r=>J (dk r) e.stop<|Bj e b v c h k
def w9(e:EV R)(g:AV)(z:tY0)(y:iJ)(h:AH)(k:K R)(x:KE R):R:=AV.m e.stop g (bi:=λb=>J (dk y) e.stop (GL e b z h k)) (glo:=λa=>w8 e a z y h k x) (ref:=λi=>ad (h.get i) e.stop λo=>OP e o z y h k x)
def jQ(e:EV R)(z:tY0)(k:AV->R):R:=match z with
 |a::r=>J (dk r) e.stop<|k a
 | []=>e.stop
def hW(e:EV R)(a:AV)(k:Nat->R):R:=AV.m e.stop a (str:=λc=>k c)
def ge:XM R:=λe o y h k=>AV.m e.stop o (ref:=λi=>ad (eA h i) e.stop λz=>fK e z (jQ e y λa=>k .none (h.set i (.list (ax z [a])))))
def Bl:XM R:=λe o x h k=>AV.m e.stop o (ref:=λi=>ad (eA h i) e.stop λy=>jQ e x λa=>ad (gx h a) e.stop λz=>fK e y (fK e z (k .none (h.set i (.list (ax y z))))))
def GM(e:EV R)(i:Nat)(l:tY0)(h:AH)(k:K R):R:=match l with
 |v::r=>k v<|h.set i<|.list<|lh r
 | []=>e.stop
def GN(a:AV):Bool:=AV.m false a (int:=λi=>km i 0)
def OW(e:EV R)(i:Nat)(l:tY0)(h:AH)(k:K R):R:=match l with
 |v::r=>k v<|h.set i<|.list r
 | []=>e.stop
def OX(e:EV R)(i:Nat)(z:tY0)(h:AH)(k:K R)(y:tY0):R:=match y with
 | []=>GM e i (lh z) h k
 |a::r=>J (dk r) e.stop<|J (GN a) (OW e i z h k) e.stop
def tW:XM R:=λe o y h k=>AV.m e.stop o (ref:=λi=>ad (eA h i) e.stop λz=>fK e z (OX e i z h k y))
def tX(l:List Nat)(x:Nat):Nat->Option Nat:=@List.rec Nat (λz=>Nat->Option Nat) (λz=>none) (λy z w i=>J (Nat.beq y x) (some i) (w (Nat.succ i))) l
def Bm:XM R:=λe o z h k=>ad (wZ h o) e.stop λy=>jQ e z λa=>hW e a λc=>ad (wY y) e.stop λl=>ad (tX l c 0) e.stop λi=>k (.int (.ofNat i)) h
def OY(e:EV R)(c:Nat)(d:AV)(k:AV->R)(o:AO):R:=AO.m e.stop o (dict:=λes=>k (ad (ae es c) d λv=>v)) (umap:=λes=>k (ad (ad (ae es c) none λo=>o) d λv=>v))
def tY:XM R:=λe o z h k=>AV.m e.stop o (ref:=λi=>match z with|a::r=>hW e a λc=>jQ e r λd=>ad (h.get i) e.stop (OY e c d λv=>k v h)| []=>e.stop)
def tZ:XM R:=λe o y h k=>AV.m e.stop o (ref:=λi=>ad (ir h i) e.stop λz=>J (dk y) e.stop (k (.ref h.n) (h.new (.dvals i))))
def Bn(h:AH)(i:Nat):Option (List Nat):=ad (h.get i) none λo=>AO.m none o (set:=λz=>some z)
def w_:XM R:=λe o x h k=>AV.m e.stop o (ref:=λi=>ad (Bn h i) e.stop λz=>jQ e x λa=>ad (gx h a) e.stop λy=>ad (wY y) e.stop λl=>fK e z (fK e l (J e.hd e.stop (k .none (h.set i (.set (Be z l)))))))
def t0:XM R:=λe o y h k=>AV.m e.stop o (ref:=λi=>ad (Bn h i) e.stop λz=>jQ e y λa=>hW e a λc=>J (a5 z c) (k .none (h.set i (.set (gT z c)))) e.stop)
def rO{y:Type}(s p:Nat)(l:List (Nat×Nat×y)):Option y:=@List.rec (Nat×Nat×y) (λz=>Option y) none (λe z x=>J (Nat.beq e.1 s) (J (Nat.beq e.2.1 p) (some e.2.2) x) x) l
def GO:List (Nat×Nat×List Nat):=[(10820,42,[68,0]),(13098,42,[0,51])]
def GP:List (Nat×Nat×Bool):=[(12612,68,true),(12612,0,true),(12868,68,true),(12868,0,true),(13124,68,true),(13124,0,true),(13380,68,true),(13380,0,true)]
def GQ:List (Nat×Nat×Bool):=[(12612,0,true),(12868,0,true),(13124,0,true),(13380,0,true),(12612,51,false),(12868,51,false),(13124,51,true),(13380,51,false)]
def GR:List (Nat×Nat×Nat):=[(aD0,97,0x2e747369786520746f6e2073656f642027612720656c696620746e65646e65706544),(aD0,98,0x2e747369786520746f6e2073656f642027622720656c696620746e65646e65706544),(aD0,99,0x2e747369786520746f6e2073656f642027632720656c696620746e65646e65706544),(aD0,120,0x2e747369786520746f6e2073656f642027782720656c696620746e65646e65706544),(aD0,121,0x2e747369786520746f6e2073656f642027792720656c696620746e65646e65706544),(aD0,122,0x2e747369786520746f6e2073656f6420277a2720656c696620746e65646e65706544),(aD0,119,0x2e747369786520746f6e2073656f642027772720656c696620746e65646e65706544)]
def Bo:XM R:=λe o z h k=>hW e o λs=>jQ e z λa=>hW e a λp=>ad (rO s p GO) e.stop λl=>k (.ref h.n) (h.new (.list (bX .str l)))
def Bp:XM R:=λe o z h k=>hW e o λs=>jQ e z λa=>hW e a λp=>ad (rO s p GP) e.stop λb=>k (.bool b) h
def Bq:XM R:=λe o z h k=>hW e o λs=>jQ e z λa=>hW e a λp=>ad (rO s p GQ) e.stop λb=>k (.bool b) h
def Br:XM R:=λe o z h k=>hW e o λs=>jQ e z λa=>hW e a λp=>ad (rO s p GR) e.stop λb=>k (.str b) h
def bP:XM R:=λe z z z z=>e.stop
set_option genCtorIdx true in
inductive MT where
 |fn (f:Nat) (self:tY0)
 |bm (kd:Nat)
def pJ(o:AO):Option Nat:=AO.m none o (list:=λz=>some 0) (tup:=λz=>some 1) (dict:=λz=>some 2) (umap:=λz=>some 2) (set:=λz=>some 3)
def xa(h:AH)(v:AV):Option Nat:=AV.m none v (str:=λz=>some 4) (ref:=λi=>ad (h.get i) none pJ) (glo:=λa=>ad (iP.get a) none pJ)
def OZ(v:AV)(C n:Nat):Option MT:=ad (eI.get C) none λz=>ad (ae z.attrs n) none λa=>match a with
 |.meth f=>some<|.fn f [v]
 |.stat f=>some<|.fn f []
 |_=>none
def t3(o:AO):Option MT:=ad (pJ o) none λz=>some (.bm z)
def GS(h:AH)(v:AV)(n:Nat)(o:AO):Option MT:=match o with
 |.inst C d=>ad (ir h d) none λes=>ad (ae es n) (OZ v C n) λz=>none
 |o=>t3 o
def O0(a n:Nat):Option MT:=ad (eI.get a) (ad (iP.get a) none t3) λz=>ad (ae z.attrs n) none λc=>match c with
 |.stat f=>some<|.fn f []
 |_=>none
def xb(h:AH)(n:Nat)(v:AV):Option MT:=AV.m none v (ref:=λi=>ad (h.get i) none (GS h v n)) (glo:=λa=>O0 a n) (str:=λz=>some (.bm 4))
def ah(v:AV):XE R:=λz z h k z=>k v h
def aa(x:Nat):XE R:=λe f h k z=>ad (ae f.loc x) e.stop λv=>k v h
def O6(e:EV R)(h:AH)(k:K R)(o:AO):R:=AO.m e.stop o (cell:=λc=>ad c e.stop λv=>k v h)
def bT(x:Nat):XE R:=λe f h k z=>ad (ae f.cel x) e.stop λi=>ad (h.get i) e.stop (O6 e h k)
def aN(p:XE R)(n:Nat):XE R:=λe f h k z=>p e f h (λv h=>ad (rL h n v) e.stop λw=>k w h) z
def bf(p q:XE R):XE R:=λe f h k z=>p e f h (λo h=>q e f h (λi h=>ad (sub h o i) e.stop λw=>k w h) z) z
def iQ:XO R:=λz z h k z=>k none h
def xc(e:EV R)(a:AV)(k:Int->R):R:=ad (lg a) e.stop k
def nR(p:XE R):XO R:=λe f h k z=>p e f h (λv h=>xc e v λi=>k (some i) h) z
def kq(p:XE R)(z v:XO R):XE R:=λe f h k w=>p e f h (λo h=>z e f h (λz h=>v e f h (λv h=>ad (tV h o) e.stop λx=>ad (cut x z v) e.stop λy=>fK e y (k (.ref h.n) (h.new (.list y)))) w) w) w
def az:XL R:=λz z h k z=>k [] h
def ao(p:XE R)(r:XL R):XL R:=λe f h k y=>p e f h (λv h=>r e f h (λz h=>k (v::z) h) y) y
def aC:XK R:=λz z h k z=>k [] h
def rP(n:Nat)(p:XE R)(r:XK R):XK R:=λe f h k y=>p e f h (λv h=>r e f h (λz h=>k ((n,v)::z) h) y) y
def t4(p q:XE R)(r:XK R):XK R:=λe f h k v=>p e f h (λx h=>q e f h (λy h=>hW e x λc=>r e f h (λw h=>ad (ae w c) (k ((c,y)::w) h) λz=>e.stop) v) v) v
def bB(g:XE R)(z:XL R)(x:XK R):XE R:=λe f h k y=>g e f h (λg h=>z e f h (λz h=>x e f h (λx h=>w9 e g z x h k y) y) y) y
def GT(y:Nat)(bm:XM R)(e:EV R)(o:AV)(k:K R)(z:tY0)(x:iJ)(h:AH):R:=J (dk x) e.stop (ad (xa h o) e.stop λj=>J (Nat.beq j y) (bm e o z h k) e.stop)
def t5(y:Nat)(bm:XM R)(z:XL R)(x:XK R)(e:EV R)(f:aK)(o:AV)(h:AH)(k:K R)(w:KE R)(m:MT):R:=match m with
 |.fn g self=>z e f h (λz h=>x e f h (λx h=>w8 e g (ax self z) x h k w) w) w
 |.bm j=>J (Nat.beq j y) (z e f h (λz h=>x e f h (λx h=>GT y bm e o k z x h) w) w) e.stop
def bb(p:XE R)(n:Nat)(z:Nat)(bm:XM R)(y:XL R)(w:XK R):XE R:=λe f h k x=>p e f h (λo h=>ad (xb h n o) e.stop (t5 z bm y w e f o h k x)) x
def a8(y:q8)(p q:XE R):XE R:=λe f h k z=>p e f h (λa h=>q e f h (λb h=>ad (rI y h a b) e.stop λr=>k (.bool r) h) z) z
def t6(p q:XE R):XE R:=λe f h k z=>p e f h (λv h=>ad (nN h v) e.stop λb=>J b (q e f h k z) (k v h)) z
def xd(p q:XE R):XE R:=λe f h k z=>p e f h (λv h=>ad (nN h v) e.stop λb=>J b (k v h) (q e f h k z)) z
def t8(p:XE R):XE R:=λe f h k z=>p e f h (λv h=>ad (nN h v) e.stop λb=>k (.bool (!b)) h) z
def lj(c:XB R)(p q:XE R):XE R:=λe f h k z=>c e f h (λt h=>J t (p e f h k z) (q e f h k z)) z
def Bs(e:EV R)(h:AH)(k:K R)(a b:AV):R:=ad (gx h a) e.stop λz=>ad (gx h b) e.stop λy=>fK e (ax z y) (k (.ref h.n) (h.new (.list (ax z y))))
def mE(z:nB)(e:EV R)(x:Int)(r:R):R:=match z with
 |.Mult=>e.chk x r
 |_=>r
def Bt(z:nB)(e:EV R)(h:AH)(k:K R)(a b:AV):R:=match z with
 |.Add=>Bs e h k a b
 |_=>e.stop
def Bu(w:nB)(e:EV R)(h:AH)(k:K R)(a b:AV):R:=ad (lg a) (Bt w e h k a b) λx=>xc e b λy=>ad (mB w x y) e.stop λz=>mE w e x (k (.int z) h)
def bQ(y:nB)(p q:XE R):XE R:=λe f h k z=>p e f h (λa h=>q e f h (λb h=>Bu y e h k a b) z) z
def dL(r:XL R):XE R:=λe f h k y=>r e f h (λz h=>fK e z (k (.ref h.n) (h.new (.list z)))) y
def hX(r:XL R):XE R:=λe f h k y=>r e f h (λz h=>fK e z (k (.ref h.n) (h.new (.tup z)))) y
def GU(e:EV R)(i:Nat)(k:K R)(es:iJ)(h:AH):R:=ad (ir h i) e.stop λo=>J (dk o) e.stop (J (Nat.ble (len es) 15) (k (.ref i) (h.set i (.dict es))) e.stop)
def gj(r:XK R):XE R:=λe f h k z=>r e f (h.new (.dict [])) (GU e h.n k) z
def Bv(p:XE R):XE R:=λe f h k y=>p e f h (λv h=>ad (gx h v) e.stop λz=>J e.hd e.stop (pI e h k (lh z))) y
def du:XE R:=λe z z z z=>e.stop
def bc:XS R:=λe z z z z=>e.stop
def aO(p:XE R):XB R:=λe f h k z=>p e f h (λv h=>ad (nN h v) e.stop λb=>k b h) z
def iu(t:XB R):XB R:=λe f h k z=>t e f h (λb h=>k (!b) h) z
def d4:XB R:=λz z h k z=>k true h
def nS:XB R:=λz z h k z=>k false h
def dQ(t r:XB R):XB R:=λe f h k z=>t e f h (λb h=>J b (r e f h k z) (k false h)) z
def iR(t r:XB R):XB R:=λe f h k z=>t e f h (λb h=>J b (k true h) (r e f h k z)) z
def GV(c t r:XB R):XB R:=λe f h k z=>c e f h (λb h=>J b (t e f h k z) (r e f h k z)) z
def aQ(x:Nat):XP R:=λz v f h k z=>k ⟨bL f.loc x v,f.cel⟩ h
def Bw(e:EV R)(i:Nat)(v:AV)(f:aK)(h:AH)(k:KF R)(o:AO):R:=AO.m e.stop o (cell:=λz=>k f (h.set i (.cell (some v))))
def kr(x:Nat):XP R:=λe v f h k z=>ad (ae f.cel x) e.stop λi=>ad (h.get i) e.stop (Bw e i v f h k)
def O7(h:AH)(n:Nat)(w:AV)(o:AO):Option AH:=AO.m none o (inst:=λz d=>ad (ir h d) none λes=>J (Nat.ble (len es) 900) (some (h.set d (.dict (bL es n w)))) none)
def GW(h:AH)(n:Nat)(w v:AV):Option AH:=AV.m none v (ref:=λi=>ad (h.get i) none (O7 h n w))
def bC(p:XE R)(n:Nat):XP R:=λe v f h k z=>p e f h (λo h=>ad (GW h n v o) e.stop λh=>k f h) z
def Bx(v:AV):Option Nat:=AV.m none v (str:=λc=>some c)
def O8(v:AV):Option Int:=AV.m none v (int:=λc=>some c)
def xe(h:AH)(i:Nat)(key v:AV)(o:AO):Option AH:=AO.m none o (dict:=λes=>ad (Bx key) none λc=>J (Nat.ble (len es) 900) (some (h.set i (.dict (bL es c v)))) none) (umap:=λes=>ad (Bx key) none λc=>J (Nat.ble (len es) 900) (some (h.set i (.umap (bL es c (some v))))) none) (list:=λz=>ad (O8 key) none λj=>ad (mA j) none λm=>J (Nat.blt m (len z)) (some (h.set i (.list (wX z v m)))) none)
def rQ(h:AH)(o key v:AV):Option AH:=AV.m none o (ref:=λi=>ad (h.get i) none (xe h i key v))
def xf(h:AH)(i:Nat)(c:Nat)(o:AO):Option AH:=AO.m none o (dict:=λes=>ad (ae es c) none λz=>some (h.set i (.dict (mh es c)))) (umap:=λes=>ad (ae es c) none λo=>ad o none λz=>J (Nat.ble (len es) 900) (some (h.set i (.umap (bL es c none)))) none)
def drop(h:AH)(o key:AV):Option AH:=AV.m none o (ref:=λi=>ad (Bx key) none λc=>ad (h.get i) none (xf h i c))
def dC(p q:XE R):XP R:=λe v f h k z=>p e f h (λo h=>q e f h (λi h=>ad (rQ h o i v) e.stop λh=>k f h) z) z
def xg:jP R:=λe y f h k z=>J (dk y) e.stop (k f h)
def nT(p:XP R)(r:jP R):jP R:=λe y f h k x=>@List.rec AV (λz=>R) e.stop (λv y z=>p e v f h (λf h=>r e y f h k x) x) y
def By(n:Nat)(r:jP R):XP R:=λe v f h k y=>J e.hd e.stop<|ad (wZ h v) e.stop λz=>J (Nat.beq (len z) n) (r e z f h k y) e.stop
def eB(e:EV R):KE R:=λz z=>e.stop
def pK(e:EV R)(p:XE R)(x:XP R)(s:XB R)(t:gU)(u:Nat)(k:AH->R)(n:Nat):Nat->aK->AH->R:=@Nat.rec (λz=>Nat->aK->AH->R) (λz z z=>e.stop)
 (λz q i f h=>ad (li h t i) e.stop λr=>ad r (k h) λv=>
  x e v f h (λf h=>s e f h (λb h=>J b (p e f h (λw h=>ad (eA h u) e.stop λy=>fK e y<|q (Nat.succ i) f<|h.set u<|.list<|ax y [w])<|eB e)<|q (Nat.succ i) f h)<|eB e) (eB e)) n
def iS(s:XE R)(x:XP R)(p:XE R)(u:XB R)(y:List Nat):XE R:=λe f h k r=>ad (w6 y f.cel) e.stop λz=>p e f h (λv h=>J e.hd e.stop<|ad (mC h v) e.stop λw=>
 pK e s x u w h.n (λt=>k (.ref h.n) t) e.fuel 0 ⟨[],z⟩ (h.new<|.list [])) r
def bZ(p:XE R):XS R:=λe f h k y=>p e f h (λz h=>k .nxt f h) y
def b_(p:XE R):XS R:=λe f h k z=>p e f h (λv h=>k (.ret v) f h) z
def aA(x:XP R)(p:XE R):XS R:=λe f h k z=>p e f h (λv h=>x e v f h (λf h=>k .nxt f h) z) z
def nU(p q:XE R):XS R:=λe f h k z=>p e f h (λo h=>q e f h (λi h=>ad (drop h o i) e.stop λh=>k .nxt f h) z) z
def aY(c:XB R)(a b:XS R):XS R:=λe f h k z=>c e f h (λt h=>J t (a e f h k z) (b e f h k z)) z
def Bz:XS R:=λz f h k z=>k .brk f h
def rR:XS R:=λz f h k z=>k .cnt f h
def GX:XS R:=λz f h k z=>k .nxt f h
def xh(c:XB R):XS R:=λe f h k z=>c e f h (λt h=>J t (k .nxt f h) e.stop) z
def BA(C:Nat)(y:XL R):XS R:=λe f h z x=>J e.hd e.stop (y e f h (λy h=>fK e y (x C h)) x)
def d5(o:XS R)(e:EV R)(k:KS R)(y:KE R)(z:Fl)(f:aK)(h:AH):R:=match z with
 |.nxt=>o e f h k y
 |_=>k z f h
def inH(e:EV R):EV R:=⟨e.stop,e.chk,e.fuel,true,e.call,e.lvl⟩
def BB(c:Nat)(p:XE R)(z:Nat)(x o:XS R):XS R:=λe f h k y=>p e f h (λv h=>o e ⟨bL f.loc c v,f.cel⟩ h k y) λC h=>J (Nat.beq C z) (J e.hd e.stop (x (inH e) f h k (eB e))) e.stop
def GY(e:EV R)(g q l c:Nat)(z:on)(k:Nat->AH->R)(h:AH)(y:Option Nat):R:=match y with
 |none=>k (Nat.succ h.n)<|((h.new<|.code q).set 0<|.tab l c<|some h.n).new<|.fn g q h.n z
 |some i=>J (Bh h i q) (k h.n<|h.new<|.fn g q i z) e.stop
def GZ(e:EV R)(g q l c:Nat)(z:on)(k:Nat->AH->R)(h:AH)(o:AO):R:=match o with
 |.tab l' c' ci=>J (Nat.beq l' l) (J (Nat.beq c' c) (GY e g q l c z k h ci) e.stop) e.stop
 |_=>e.stop
def xi(x:XP R)(g q l c:Nat)(z:List Nat):XS R:=λe f h k w=>ad (w6 z f.cel) e.stop λy=>ad (h.get 0) e.stop (GZ e g q l c y (λi h=>x e (.ref i) f h (λf h=>k .nxt f h) w) h)
def ak:XS R:=λz f h k z=>k .nxt f h
def ac(s r:XS R):XS R:=λe f h k z=>s e f h (d5 r e k z) z
def kt(z:aK->AH->R)(k:KS R)(y:Fl)(f:aK)(h:AH):R:=match y with
 |.nxt=>z f h
 |.cnt=>z f h
 |.brk=>k .nxt f h
 |.ret _=>k y f h
def iv(e:EV R)(x:XP R)(b:XS R)(y:gU)(k:KS R)(n:Nat):Nat->aK->AH->R:=@Nat.rec (λz=>Nat->aK->AH->R) (λz z z=>e.stop)
 (λz w i f h=>ad (li h y i) e.stop λr=>ad r (k .nxt f h) λv=>
  x e v f h (λf h=>b e f h (kt (w<|Nat.succ i) k)<|eB e) (eB e)) n
def cR(x:XP R)(p:XE R)(b:XS R):XS R:=λe f h k y=>p e f h (λv h=>J e.hd e.stop<|ad (mC h v) e.stop λz=>iv e x b z k e.fuel 0 f h) y
def t_(p:XE R):XS R:=λe f h k y=>p e f h (λv h=>J e.hd e.stop<|ad (gx h v) e.stop λz=>J (dk z) e.stop (k .nxt f h)) y
def G0(h:AH)(v:AV)(y:List Nat):Bool:=@List.rec Nat (λz=>Bool) true (λa z u=>ad (rL h a v) false λw=>ad (gx h w) false λx=>J (dk x) false u) y
def G6(h:AH)(y:List Nat)(es:iJ):Bool:=@List.rec (Nat×AV) (λz=>Bool) true (λp z x=>J (G0 h p.2 y) x false) es
def ua(x:Nat)(es:iJ)(l:iJ):iJ:=@List.rec (Nat×AV) (λz=>iJ->iJ) (λl=>l) (λp z y l=>y (bL l x p.2)) es l
def G7(h:AH)(v:AV):Option (iJ):=AV.m none v (ref:=λi=>ad (h.get i) none λo=>AO.m none o (dvals:=λs=>ir h s))
def xj(x:Nat)(p:XE R)(z:List Nat):XS R:=λe f h k y=>p e f h (λv h=>J e.hd e.stop<|ad (G7 h v) e.stop λes=>J (G6 h z es) (k .nxt ⟨ua x es f.loc,f.cel⟩ h) e.stop) y
def jd(e:EV R)(x:jP R)(b:XS R)(y:gU)(k:KS R)(n:Nat):Nat->aK->AH->R:=@Nat.rec (λz=>Nat->aK->AH->R) (λz z z=>e.stop)
 (λz w i f h=>ad (li h y i) e.stop λr=>ad r (k .nxt f h) λv=>
  x e [.int<|.ofNat i,v] f h (λf h=>b e f h (kt (w<|Nat.succ i) k)<|eB e) (eB e)) n
def ku(x:jP R)(p:XE R)(b:XS R):XS R:=λe f h k w=>p e f h (λv h=>J e.hd e.stop<|ad (gx h v) e.stop λz=>ad (mC h v) e.stop λy=>jd e x b y k e.fuel 0 f h) w
def rS(e:EV R)(c:XB R)(b:XS R)(k:KS R)(n:Nat):aK->AH->R:=@Nat.rec (λz=>aK->AH->R) (λz z=>e.stop)
 (λz y f h=>c e f h (λt h=>J t (b e f h (kt y k)<|eB e)<|k .nxt f h)<|eB e) n
def rT(c:XB R)(b:XS R):XS R:=λe f h k z=>rS e c b k e.fuel f h
def ev(stop:R)(chk:Int->R->R)(tab:TR (FI R))(fuel n:Nat):EV R:=@Nat.rec (λz=>EV R) ⟨stop,chk,fuel,false,λz z z z z z z z=>stop,0⟩ (λm w=>⟨stop,chk,fuel,false,λb g x y u h k v=>ad (tab.get g) stop λt=>enter ⟨stop,chk,fuel,b,w.call,m⟩ t x y u h k v,Nat.succ m⟩) n
end
end
section
open PySem PySem.W PySem.Calls PyProof.Rows
abbrev tY2:=Bool->Nat->on->tY0->iJ->AH->K Prop->KE Prop->Prop
abbrev tY1:=au->aU->Prop
theorem as5(n:Nat):k9 0 n=[]:=rfl
theorem as6(f:Nat):k9 (f+1) 0=[]:=rfl
theorem pL(f n:Nat):k9 (f+1) (n+1)=(n+1) % 256::k9 f ((n+1) / 256):=rfl
theorem as7:∀n f g,n<=f->n<=g->k9 f n=k9 g n:=by
 intro n
 induction n using Nat.strongRecOn with|_ n ih=>
  intro f g z y;cases n with
  |zero=>clear z;cases f<;>cases g<;>rfl
  |succ n=>
   cases f with|zero=>exact((lin [n] aG0) z).elim|succ f=>
    cases g with|zero=>exact((lin [n] aG0) y).elim|succ g=>rw[pL,pL];have x:(n+1) / 256<n+1:=Nat.div_lt_self (lin [n] 846119051272) (by decide);rw[ih _ x f g ((lin [n,f,(n+1) / 256] 0x129344362805011b540281280501) z x)<|(lin [n,g,(n+1) / 256] 0x129344362805011b540281280501) y x]
theorem O9:∀n m f g,n<=f->m<=g->k9 f n=k9 g m->n=m:=by
 intro n
 induction n using Nat.strongRecOn with|_ n ih=>
  intro m f g y z e;cases n with
  |zero=>
   cases m with|zero=>rfl|succ m=>
    cases g with|zero=>exact((lin [m] aG0) z).elim|succ g=>rw[pL] at e;clear y;cases f<;>cases e
  |succ n=>
   cases f with|zero=>exact((lin [n] aG0) y).elim|succ f=>
    rw[pL] at e;cases m with
    |zero=>clear z;cases g<;>cases e
    |succ m=>
     cases g with|zero=>exact((lin [m] aG0) z).elim|succ g=>
      rw[pL] at e;injection e with e1 e2
      have x:(n+1) / 256<n+1:=Nat.div_lt_self ((lin [(n+1) % 256,(m+1) % 256,n] 0x1262805030043841) e1) (by decide);have:=ih _ x _ f g ((lin [n,f,(n+1) % 256,(m+1) % 256,(n+1) / 256] 0x12949a22b14028095c41b540281280501) y e1 x) (Nat.le_of_lt_succ (Nat.lt_of_lt_of_le (Nat.div_lt_self (by exact lin [m] 846119051272)<|by decide) z)) e2;omega
def am(n:Nat):Str:=⟨(cps n).toArray⟩
theorem iT(e:am n=am m):n=m:=by
 delta am at e;injection e with e
 have z:cps n=cps m:=aT Array.toList e;exact O9 n m n m (Nat.le_refl _) (Nat.le_refl _) z
theorem mF(e:n≠m):am n≠am m:=λh=>e (iT h)
theorem d6(n m:Nat):Nat.beq n m=decide (n=m):=by
 cases h:Nat.beq n m with|true=>rw[Nat.eq_of_beq_eq_true h];exact(bR rfl).symm|false=>exact(cA<|Nat.ne_of_beq_eq_false h).symm
def aD{α z:Type}(R:α->z->Prop):List α->List z->Prop
 | [],[]=>True
 |a::as,b::bs=>R a b/\aD R as bs
 |_,_=>False
theorem aD.mono{R S:α->w->Prop}(h:∀a b,R a b->S a b):∀{z:List α}{y:List w},aD R z y->aD S z y
 | [],[],_=>trivial
 |_::_,_::_,x=>⟨h _ _ x.1,x.2.mono h⟩
theorem aD.length:∀{z:List α}{y:List w},aD R z y->z.length=y.length
 | [],[],_=>rfl
 |_::_,_::_,x=>aT (· + 1) x.2.length
theorem aD.app:∀{z w:List α}{v u:List t},aD R z v->aD R w u->aD R (z++w) (v++u)
 | [],_,[],_,_,y=>y
 |_::_,_,_::_,_,x,y=>⟨x.1,x.2.app y⟩
theorem aD.nth:∀{z:List α}{y:List w},aD R z y->∀{i:Nat}{a:α},z[i]?=some a->∃b,y[i]?=some b/\R a b
 | [],[],_,_,_,e=>a6 e
 |_::_,b::_,x,0,_,e=>by have e:=Option.some.inj e;subst e;exact⟨b,rfl,x.1⟩
 |_::_,_::_,x,i+1,_,e=>x.2.nth e
theorem aD.nth_none(x:aD R z y){i:Nat}(e:z[i]?=none):y[i]?=none:=by
 rw[List.getElem?_eq_none_iff] at e ⊢;rw[x.length.symm];exact e
theorem pM:∀(l:List α)(n:Nat),gR l n=l[n]?
 | [],_=>rfl
 |_::_,0=>rfl
 |_::l,n+1=>by show gR l n=_;rw[pM l n];rfl
theorem eX(l m:List α):ax l m=l++m:=by induction l with
 |nil=>rfl
 |cons x l z=>show x::ax l m=_;rw[z];rfl
theorem BC(f:α->y)(l:List α):bX f l=l.map f:=by induction l with
 |nil=>rfl
 |cons x l z=>show f x::bX f l=_;rw[z];rfl
theorem fL(l:List α):len l=l.length:=by induction l with
 |nil=>rfl
 |cons x l z=>show Nat.succ (len l)=_;rw[z];rfl
theorem b3(p:Nat×α)(l:List (Nat×α))(x:Nat):ae (p::l) x=if p.1=x then some p.2 else ae l x:=by
 show J (Nat.beq p.1 x) (some p.2) (ae l x)=_;rw[d6]
 by_cases h:p.1=x
 .rw[aw h,bR h]
 .rw[aq h,cA h]
namespace TR
variable {α:Type}
theorem G8(i:Nat):(lf:TR α).get i=none:=rfl
theorem as8(v:Option α)(l r:TR α):(nd v l r).get 0=v:=rfl
theorem ub(v:Option α)(l r:TR α)(j:Nat):(nd v l r).get (j+1)=if j % 2=0 then l.get (j / 2) else r.get (j / 2):=by
 show@Nat.rec (λz=>Option α) (l.get<|j / 2) (λz z=>r.get<|j / 2) (j % 2)=_;rcases Nat.mod_two_eq_zero_or_one j with h|h<;>rw[h]<;>rfl
theorem as9(f:Nat)(o:Option α):put (f+1) (lf:TR α) 0 o=nd o lf lf:=rfl
theorem O_(f j:Nat)(o:Option α):put (f+1) (lf:TR α) (j+1) o=if j % 2=0 then nd none (put f lf (j / 2) o) lf else nd none lf (put f lf (j / 2) o):=by
 show@Nat.rec (λz=>TR α) (nd none (put f lf (j / 2) o) lf) (λz z=>nd none lf<|put f lf (j / 2) o) (j % 2)=_;rcases Nat.mod_two_eq_zero_or_one j with h|h<;>rw[h]<;>rfl
theorem at0(f:Nat)(v:Option α)(l r:TR α)(o:Option α):put (f+1) (nd v l r) 0 o=nd o l r:=rfl
theorem G9(f j:Nat)(v:Option α)(l r:TR α)(o:Option α):put (f+1) (nd v l r) (j+1) o=if j % 2=0 then nd v (put f l (j / 2) o) r else nd v l (put f r (j / 2) o):=by
 show@Nat.rec (λz=>TR α) (nd v (put f l (j / 2) o) r) (λz z=>nd v l<|put f r (j / 2) o) (j % 2)=_;rcases Nat.mod_two_eq_zero_or_one j with h|h<;>rw[h]<;>rfl
theorem get_put:∀(f:Nat)(t:TR α)(i:Nat)(o:Option α)(j:Nat),i<f->(put f t i o).get j=if j=i then o else t.get j:=by
 intro f
 induction f with|zero=>intro t i o j h;exact((lin [i] 4994367745) h).elim|succ f w=>
  intro t i o j x;have K:∀v l r,(put (f+1) (nd v l r) i o).get j=if j=i then o else(nd v l r).get j:=by
   intro v l r;cases i with
   |zero=>
    cases j with|zero=>rfl|succ j=>exact(aq<|Nat.succ_ne_zero j).symm
   |succ i=>
    rw[G9];have y:i / 2<f:=by omega
    by_cases z:i % 2=0
    .rw[aw z];cases j with
     |zero=>exact(aq λe=>nomatch e).symm
     |succ j=>
      rw[ub,ub,w _ _ _ _ y]
      by_cases e:j=i
      .clear x y;subst e;rw[aw z,aw rfl,aw rfl]
      .rw[aq λq=>e<|Nat.succ.inj q]
       by_cases q:j % 2=0
       .rw[aw q,aq (by omega),aw q]
       .rw[aq q,aq q]
    .rw[aq z];cases j with
     |zero=>exact(aq λe=>nomatch e).symm
     |succ j=>
      rw[ub,ub,w _ _ _ _ y]
      by_cases e:j=i
      .clear x y;subst e;rw[aq z,aw rfl,aw rfl]
      .rw[aq λq=>e<|Nat.succ.inj q]
       by_cases q:j % 2=0
       .rw[aw q,aw q]
       .rw[aq q,aq (by omega),aq q]
  cases t with|nd v l r=>exact K v l r|lf=>
   have e1:put (f+1) lf i o=put (f+1) (nd none lf lf) i o:=by
    cases i with|zero=>rfl|succ i=>rw[O_,G9]
   have e2:(lf:TR α).get j=(nd none lf lf).get j:=by
    cases j with|zero=>rfl|succ j=>rw[ub,G8,G8];exact(ite_self _).symm
   rw[e1,e2];exact K none lf lf
end TR
theorem AH.get_set(h:AH)(i:Nat)(o:AO)(j:Nat):(h.set i o).get j=if j=i then some o else h.get j:=TR.get_put _ _ _ _ _ (Nat.lt_succ_self _)
theorem AH.get_new(h:AH)(o:AO)(j:Nat):(h.new o).get j=if j=h.n then some o else h.get j:=TR.get_put _ _ _ _ _ (Nat.lt_succ_self _)
theorem AH.n_set(h:AH)(i:Nat)(o:AO):(h.set i o).n=h.n:=rfl
theorem AH.n_new(h:AH)(o:AO):(h.new o).n=h.n+1:=rfl
end
section
open PySem PySem.W PySem.Calls PyProof.Rows
def mG:BI->au
 |.len=>.builtin "len"
 |.isinst=>.builtin "isinstance"
 |.lst=>.type "list"
 |.tup=>.type "tuple"
 |.set=>.type "set"
 |.sorted=>.builtin "sorted"
 |.sum=>.builtin "sum"
 |.enum=>.type "enumerate"
 |.range=>.type "range"
 |.rev=>.type "reversed"
 |.tyStr=>.type "str"
 |.tyBool=>.type "bool"
 |.tyDict=>.type "dict"
abbrev bu:=Nat->Option bI
structure de where
 va:Nat->Nat->Int
 nf:Nat->Nat->tu->Prop
 tp:bI
 so:Obj
 fr:Nat->Option bI
def aE(ρ:bu)(σ:de)(a:AV)(v:au):Prop:=match a with
 |.none=>v=.none
 |.bool b=>v=.bool b
 |.int i=>∃t,v=.int i t
 |.str c=>∃t,v=.str (am c) t
 |.ref i=>∃x,ρ i=some x/\v=.ref x
 |.glo a=>v=.ref a
 |.bi b=>v=mG b
 |.one cs=>∃c,c∈cs/\∃t,v=.str (am c) t
 |.atm k n=>∃t,v=.int (σ.va k n) t
 |.unk=>Nx v=true
 |.gla k=>v=.ref (σ.va 1000 k).toNat
def bU(ρ z:bu):Prop:=∀i a,ρ i=some a->z i=some a
theorem bU.refl(ρ:bu):bU ρ ρ:=λz z e=>e
theorem bU.trans(x:bU a b)(y:bU b c):bU a c:=λi z e=>y i z (x i z e)
theorem aE.ext(x:bU ρ z)(h:aE ρ σ a v):aE z σ a v:=by
 cases a<;>try exact h
 obtain⟨y,e,rfl⟩:=h;exact⟨y,x _ _ e,rfl⟩
def dD(ρ:bu)(σ:de):Option AV->Option au->Prop
 |some a,some v=>aE ρ σ a v
 |none,none=>True
 |_,_=>False
theorem dD.ext(x:bU ρ z)(h:dD ρ σ a v):dD z σ a v:=by
 cases a<;>cases v<;>first|exact h|exact aE.ext x h
def d_:List (Nat×Option AV)->Nat
 | []=>0
 |p::es=>(if p.2.isSome then 1 else 0)+d_ es
variable (prog:dY) (w:dZ)
def fx(ρ:bu)(σ:de)(p:Nat×AV)(z:Str×au):Prop:=z.1=am p.1/\aE ρ σ p.2 z.2
def xk(h:cm)(a:bI)(z:Array au):Prop:=∃n,h.get? a=some { cls:=.type "tuple",data:=.seq z n }
theorem xk.isTup(x:xk h a z):IsTup h a z:=x.elim λn e=>⟨_,e,rfl,n,rfl⟩
def uc(ρ:bu)(p:Nat×Nat)(q:Str×bI):Prop:=q.1=am p.1/\ρ p.2=some q.2
theorem at2(x:bU ρ v)(h:aD (uc ρ) l m):aD (uc v) l m:=h.mono λz z y=>⟨y.1,x _ _ y.2⟩
def lk(ρ:bu)(y:on)(z:List (Str×bI)):Prop:=∀x i,ae y x=some i->∃a,ρ i=some a/\z.lookup (am x)=some a
theorem lk.ext(x:bU ρ u)(h:lk ρ v z):lk u v z:=λy i e=>(h y i e).elim λa t=>t.elim λp q=>⟨a,x _ _ p,q⟩
inductive G_(ρ:bu)(h:cm)(a:bI)(C d:Nat):Prop
 |mk (x:bI) (e:ρ d=some x) (r:h.get? a=some (v8 C x)/\∃ci,eI.get C=some ci):G_ ρ h a C d
inductive Ha(ρ:bu)(σ:de)(h:cm)(a:bI)(es:iJ):Prop
 |mk (kvs:List (Str×au)) (D:h.DictOf (bW prog w) a kvs) (r:aD (fx ρ σ) es kvs/\es.length<=5000):Ha ρ σ h a es
inductive Hb(ρ:bu)(σ:de)(h:cm)(a:bI)(es:List (Nat×Option AV)):Prop
 |mk (kvs:List (Str×au)) (D:h.DictOf (bW prog w) a kvs) (r:kvs.length<=d_ es/\(∀c ov,ae es c=some ov->dD ρ σ ov (cQ kvs<|am c))/\∀p∈kvs,∃c ov,ae es c=some ov/\p.1=am c):Hb ρ σ h a es
inductive Hc(ρ:bu)(σ:de)(h:cm)(a:bI)(xs:tY0):Prop
 |mk (vs:List au) (L:h.PlainList a vs.toArray) (r:aD (aE ρ σ) xs vs/\xs.length<=5000):Hc ρ σ h a xs
inductive Hd(ρ:bu)(σ:de)(h:cm)(a:bI)(xs:tY0):Prop
 |mk (vs:List au) (L:xk h a vs.toArray) (r:aD (aE ρ σ) xs vs/\xs.length<=5000):Hd ρ σ h a xs
inductive He(ρ:bu)(σ:de)(h:cm)(a:bI)(g q ci:Nat)(caps:on):Prop
 |mk (fd:tu) (x:bI) (e:h.get? a=some { cls:=.type "function",data:=.func fd }) (n:σ.nf g q fd) (c:ρ ci=some x) (r:fd.code=.ref x/\lk ρ caps fd.closure):He ρ σ h a g q ci caps
inductive Hf(h:cm)(a:bI)(q:Nat):Prop
 |mk (o:Obj) (vs:Array au) (t:Nat) (e:h.get? a=some o) (r:o.data=.fields vs/\vs[1]?=some (.str (am q) t)):Hf h a q
def cb(ρ:bu)(σ:de)(h:cm)(a:bI)(o:AO):Prop:=match o with
 |.inst C d=>G_ ρ h a C d
 |.dict es=>Ha prog w ρ σ h a es
 |.umap es=>Hb prog w ρ σ h a es
 |.list xs=>Hc ρ σ h a xs
 |.tup xs=>Hd ρ σ h a xs
 |.set xs=>h.SetOf (bW prog w) a (λx=>decide (∃c,c∈xs/\x=am c)) xs.length/\xs.Nodup/\xs.length<=3000
 |.cell v=>∃x,h.IsCell a x/\dD ρ σ v x
 |.rng n=>n<=1000/\∃t u v,IsRange h a 0 n 1 t u v
 |.rev s i=>∃l,ρ s=some l/\h.IsRevIter a l ((i:Int) - 1)
 |.dvals s=>∃d,ρ s=some d/\h.IsValuesView a d
 |.fn g q ci caps=>He ρ σ h a g q ci caps
 |.tab l c i=>a=σ.tp/\match i with
  |none=>h.get? a=some (pi #[])
  |some i=>∃x,ρ i=some x/\h.get? a=some (pi #[iH l,iH c,.ref x])
 |.frz xs=>h.get? a=some σ.so/\∃z n,σ.so.cls=.type "list"/\σ.so.data=.seq z n/\aD (aE ρ σ) xs z.toList/\xs.length<=5000
 |.code q=>Hf h a q
variable {prog:dY}{w:dZ}
theorem aD.relE_ext(x:bU ρ u)(h:aD (fx ρ σ) es v):aD (fx u σ) es v:=h.mono λz z y=>⟨y.1,y.2.ext x⟩
theorem aD.rel_ext(x:bU ρ u)(h:aD (aE ρ σ) es v):aD (aE u σ) es v:=h.mono λz z y=>y.ext x
theorem cb.ext(x:bU ρ f)(r:cb prog w ρ σ h a o):cb prog w f σ h a o:=by
 cases o with
 |inst C d=>obtain⟨y,e,g⟩:=r;exact⟨y,x _ _ e,g⟩
 |dict es=>obtain⟨j,d,l,z⟩:=r;exact⟨j,d,l.relE_ext x,z⟩
 |umap es=>obtain⟨j,d,z,l,m⟩:=r;exact⟨j,d,z,λc Z e=>(l c Z e).ext x,m⟩
 |list p=>obtain⟨u,d,l,z⟩:=r;exact⟨u,d,l.rel_ext x,z⟩
 |tup p=>obtain⟨u,d,l,z⟩:=r;exact⟨u,d,l.rel_ext x,z⟩
 |set p=>exact r
 |cell v=>obtain⟨y,g,l⟩:=r;exact⟨y,g,l.ext x⟩
 |rng n=>exact r
 |rev s i=>obtain⟨l,e,g⟩:=r;exact⟨l,x _ _ e,g⟩
 |dvals s=>obtain⟨d,e,g⟩:=r;exact⟨d,x _ _ e,g⟩
 |fn g q X c=>obtain⟨b,y,g,n,e,k,t⟩:=r;exact⟨b,y,g,n,x _ _ e,k,t.ext x⟩
 |tab l c i=>cases i with|none=>exact r|some i=>obtain⟨z,y,e,g⟩:=r;exact⟨z,y,x _ _ e,g⟩
 |code q=>exact r
 |frz p=>obtain⟨g,u,n,c,d,t,z⟩:=r;exact⟨g,u,n,c,d,t.rel_ext x,z⟩
theorem cb.at(k:∀ob,h.get? a=some ob->S.get? a=some ob)(r:cb prog w ρ σ h a o):cb prog w ρ σ S a o:=by
 cases o with
 |inst C d=>obtain⟨y,e,g,c⟩:=r;exact⟨y,e,k _ g,c⟩
 |dict es=>obtain⟨f,⟨o,b,Z,d,q⟩,l⟩:=r;exact⟨f,⟨o,b,Z,k _ d,q⟩,l⟩
 |umap es=>obtain⟨f,⟨o,b,Z,d,q⟩,l⟩:=r;exact⟨f,⟨o,b,Z,k _ d,q⟩,l⟩
 |list p=>obtain⟨x,⟨n,d⟩,l⟩:=r;exact⟨x,⟨n,k _ d⟩,l⟩
 |tup p=>obtain⟨x,⟨n,d⟩,l⟩:=r;exact⟨x,⟨n,k _ d⟩,l⟩
 |set p=>obtain⟨⟨o,es,Z,t,d,q⟩,l⟩:=r;exact⟨⟨o,es,Z,t,k _ d,q⟩,l⟩
 |cell v=>obtain⟨y,⟨o,g,q⟩,l⟩:=r;exact⟨y,⟨o,k _ g,q⟩,l⟩
 |rng n=>obtain⟨z,t,u,v,g⟩:=r;exact⟨z,t,u,v,k _ g⟩
 |rev s i=>obtain⟨l,e,⟨o,g,q⟩⟩:=r;exact⟨l,e,⟨o,k _ g,q⟩⟩
 |dvals s=>obtain⟨d,e,⟨o,g,q⟩⟩:=r;exact⟨d,e,⟨o,k _ g,q⟩⟩
 |fn g q R c=>obtain⟨X,y,g,n,e,m,j⟩:=r;exact⟨X,y,k _ g,n,e,m,j⟩
 |tab l c i=>cases i with|none=>exact⟨r.1,k _ r.2⟩|some i=>obtain⟨z,y,e,g⟩:=r;exact⟨z,y,e,k _ g⟩
 |code q=>obtain⟨o,x,t,g,r⟩:=r;exact⟨o,x,t,k _ g,r⟩
 |frz p=>exact⟨k _ r.1,r.2⟩
theorem cb.there(r:cb prog w ρ σ h a o):∃ob,h.get? a=some ob:=by
 cases o with
 |inst C d=>obtain⟨y,e,g,c⟩:=r;exact⟨_,g⟩
 |dict es=>obtain⟨m,⟨o,k,j,d,q⟩,l⟩:=r;exact⟨_,d⟩
 |umap es=>obtain⟨m,⟨o,k,j,d,q⟩,l⟩:=r;exact⟨_,d⟩
 |list x=>obtain⟨p,⟨n,d⟩,l⟩:=r;exact⟨_,d⟩
 |tup x=>obtain⟨p,⟨n,d⟩,l⟩:=r;exact⟨_,d⟩
 |set x=>obtain⟨⟨o,es,j,t,d,q⟩,l⟩:=r;exact⟨_,d⟩
 |cell v=>obtain⟨y,⟨o,g,q⟩,l⟩:=r;exact⟨_,g⟩
 |rng n=>obtain⟨z,t,u,v,g⟩:=r;exact⟨_,g⟩
 |rev s i=>obtain⟨l,e,⟨o,g,q⟩⟩:=r;exact⟨_,g⟩
 |dvals s=>obtain⟨d,e,⟨o,g,q⟩⟩:=r;exact⟨_,g⟩
 |fn g q b c=>obtain⟨f,y,g,_⟩:=r;exact⟨_,g⟩
 |tab l c i=>cases i with|none=>exact⟨_,r.2⟩|some i=>obtain⟨z,y,e,g⟩:=r;exact⟨_,g⟩
 |code q=>obtain⟨o,p,t,g,r⟩:=r;exact⟨_,g⟩
 |frz x=>exact⟨_,r.1⟩
inductive ll{prog:dY}{w:dZ}{K:Type}[DecidableEq K](knd:KeyKind prog w K)(h:cm)(a:bI)(S:K->Bool)(n:Nat):Prop
 |mk (o:Obj) (es:Array (Int×au)) (ep:Nat) (t:SetTable) (ho:h.get? a=some o) (hx:o.ExactSet) (hd:o.data=.set es ep t) (he:FC knd es.toList) (hm:∀k,S k=true↔∃e∈es.toList,knd.is k e.2=true) (hb:es.size<kY) (hf:t.fits es.size=true) (hn:es.size=n):ll knd h a S n
theorem ll.of{prog:dY}{w:dZ}{K:Type}[DecidableEq K]{z:KeyKind prog w K}{S:K->Bool}(x:h.SetOf z a S n):ll z h a S n:=by
 obtain⟨o,es,y,t,a,b,c,d,e,f,g,h⟩:=x;exact⟨o,es,y,t,a,b,c,d,e,f,g,h⟩
inductive pN{prog:dY}{w:dZ}{K:Type}[DecidableEq K](knd:KeyKind prog w K)(h:cm)(a:bI)(kvs:List (K×au)):Prop
 |mk (o:Obj) (es:Array Ny) (ep:Nat) (ho:h.get? a=some o) (hx:o.ExactDict) (hd:o.data=.dict es ep) (hk:KeysOf knd es) (hp:Pairs knd es.toList kvs) (hn:(kvs.map (·.1)).Nodup):pN knd h a kvs
theorem pN.of{prog:dY}{w:dZ}{K:Type}[DecidableEq K]{y:KeyKind prog w K}{z:List (K×au)}(x:h.DictOf y a z):pN y h a z:=by
 obtain⟨o,es,v,a,b,c,d,e,f⟩:=x;exact⟨o,es,v,a,b,c,d,e,f⟩
set_option genCtorIdx true in
inductive Pt where
 |ns (m:Str->Option au)
 |ob (o:Obj)
def Pt.at(h:cm)(a:bI):Pt->Prop
 |.ns m=>h.Ns a m
 |.ob o=>h.get? a=some o
theorem Pt.at.keeps{p:Pt}(x:p.at h a)(k:∀o,h.get? a=some o->h'.get? a=some o):p.at h' a:=by
 cases p with|ob o=>exact k _ x|ns m=>obtain⟨o,es,z,g,r⟩:=x;exact⟨o,es,z,k _ g,r⟩
theorem Pt.at.lt{p:Pt}(x:p.at h a):a<h.objs.size:=by
 cases p with|ob o=>exact d3 x|ns m=>obtain⟨o,es,z,g,r⟩:=x;exact d3 g
abbrev Lo:=List (bI×Pt)
variable (prog w)
structure St(h₀:cm)(os₀:l6)(ρ:bu)(σ:de)(H:AH)(ls:Lo)(s:aU):Prop where
 keep:∀b o,h₀.get? b=some o->s.heap.get? b=some o
 cell:∀i o,H.get i=some o->∃a,ρ i=some a/\cb prog w ρ σ s.heap a o
 new:∀i a,ρ i=some a->((h₀.get? a=none\/σ.fr i=some a)/\∀o,H.get i=some o->h₀.get? a=none)/\∃o,s.heap.get? a=some o
 inj:∀i j a,ρ i=some a->ρ j=some a->i=j
 top:∀i,H.n<=i->ρ i=none
 loc:∀p∈ls,p.2.at s.heap p.1/\h₀.get? p.1=none/\∀i,ρ i≠some p.1
 apart:(ls.map (·.1)).Nodup
 gens:s.gens=#[]
 os:s.os=os₀
variable {prog w}
namespace St
variable {h₀:cm}{os₀:l6}{ρ:bu}{σ:de}{H:AH}{ls:Lo}{s:aU}
theorem keeps(S:St prog w h₀ os₀ ρ σ H ls s){d:FD}(k:∀b o,s.heap.get? b=some o->h'.get? b=some o):St prog w h₀ os₀ ρ σ H ls ⟨h',s.gens,d,tk,s.os⟩ where
 keep:=λb o e=>k b o<|S.keep b o e
 cell:=λi o e=>let⟨a,x,r⟩:=S.cell i o e;⟨a,x,r.at λob g=>k a ob g⟩
 new:=λi a e=>⟨(S.new i a e).1,let⟨o,g⟩:=(S.new i a e).2;⟨o,k _ _ g⟩⟩
 inj:=S.inj
 top:=S.top
 loc:=λp hp=>⟨(S.loc p hp).1.keeps<|k _,(S.loc p hp).2⟩
 apart:=S.apart
 gens:=S.gens
 os:=S.os
theorem toks(S:St prog w h₀ os₀ ρ σ H ls s)(y:Nat):St prog w h₀ os₀ ρ σ H ls { s with toks:=y }:=S.keeps λz z e=>e
theorem push(S:St prog w h₀ os₀ ρ σ H ls s)(o:Obj):St prog w h₀ os₀ ρ σ H ls { s with heap:=s.heap.push o }:=
 S.keeps λz z e=>fZ o e
theorem Pa(S:St prog w h₀ os₀ ρ σ H ls s):h₀.get? s.heap.objs.size=none:=by
 cases q:h₀.get? s.heap.objs.size with|none=>rfl|some o=>exact aP (d3<|S.keep _ _ q)<|Nat.lt_irrefl _
theorem at3(S:St prog w h₀ os₀ ρ σ H ls s)(i:Nat):ρ i≠some s.heap.objs.size:=λe=>((S.new i _ e).2).elim λ_ g=>aP (d3 g) (Nat.lt_irrefl _)
theorem at4(S:St prog w h₀ os₀ ρ σ H ls s):∀p∈ls,p.1≠s.heap.objs.size:=λp z e=>by
 have y:=(S.loc p z).1.lt;rw[e] at y;exact aP y<|Nat.lt_irrefl _
def put(ρ:bu)(n:Nat)(a:bI):bu:=λi=>if i=n then some a else ρ i
theorem put_ext(e:ρ n=none):bU ρ (put ρ n a):=λi b h=>by
 delta put
 by_cases q:i=n
 .subst q;rw[e] at h;cases h
 .rw[aq q];exact h
theorem put_self(ρ:bu)(n:Nat)(a:bI):put ρ n a n=some a:=aw rfl
theorem newAt(S:St prog w h₀ os₀ ρ σ H ls s){d:FD}(k:∀b ob,s.heap.get? b=some ob->h'.get? b=some ob)(m:s.heap.objs.size<=a)(r:cb prog w (put ρ H.n a) σ h' a o):St prog w h₀ os₀ (put ρ H.n a) σ (H.new o) ls ⟨h',s.gens,d,tk,s.os⟩:=by
 have X:bU ρ (put ρ H.n a):=put_ext<|S.top _<|Nat.le_refl _;have u:∀i,ρ i≠some a:=λi e=>((S.new i _ e).2).elim λ_ g=>aP (d3 g)<|Nat.not_lt.mpr m;have f:h₀.get? a=none:=by
  cases q:h₀.get? a with|none=>rfl|some o=>exact aP (d3<|S.keep _ _ q)<|Nat.not_lt.mpr m
 refine⟨λb o e=>k b o<|S.keep b o e,λi h e=>?_,λi b e=>?_,λi j b e1 e2=>?_,λi l=>?_,λp v=>⟨(S.loc p v).1.keeps<|k _,(S.loc p v).2.1,λi e=>?_⟩,S.apart,S.gens,S.os⟩
 .rw[AH.get_new] at e
  by_cases q:i=H.n
  .subst q;rw[aw rfl] at e;cases e;exact⟨a,put_self ..,r⟩
  .rw[aq q] at e;obtain⟨b,x,y⟩:=S.cell i h e;exact⟨b,X _ _ x,(y.at λob g=>k b ob g).ext X⟩
 .unfold put at e
  by_cases q:i=H.n
  .rw[aw q] at e;cases e;exact⟨⟨.inl f,λz z=>f⟩,r.there⟩
  .rw[aq q] at e;exact⟨⟨(S.new i b e).1.1,λh g=>(S.new i b e).1.2 h<|by rw[AH.get_new,aq q] at g;exact g⟩,((S.new i b e).2).elim λo g=>⟨o,k _ _ g⟩⟩
 .unfold put at e1 e2
  by_cases t:i=H.n<;>by_cases q2:j=H.n
  .rw[t,q2]
  .rw[aw t] at e1;rw[aq q2] at e2;cases e1;exact aP e2<|u j
  .rw[aq t] at e1;rw[aw q2] at e2;cases e2;exact aP e1<|u i
  .rw[aq t] at e1;rw[aq q2] at e2;exact S.inj i j b e1 e2
 .rw[AH.n_new] at l;delta put;rw[aq<|(lin [H.n,i] 0x24f7044d1280501) l];exact S.top i<|(lin [H.n,i] 5181460644889857) l
 .unfold put at e
  by_cases q:i=H.n
  .rw[aw q] at e;injection e with e
   have c:=(S.loc p v).1.lt;rw[<-e] at c;exact aP c<|Nat.not_lt.mpr m
  .rw[aq q] at e;exact(S.loc p v).2.2 i e
theorem new1(S:St prog w h₀ os₀ ρ σ H ls s)(r:cb prog w (put ρ H.n s.heap.objs.size) σ (s.heap.push ob) s.heap.objs.size o):St prog w h₀ os₀ (put ρ H.n s.heap.objs.size) σ (H.new o) ls { s with heap:=s.heap.push ob }:=
 S.newAt (λz z e=>fZ ob e) (Nat.le_refl _) r
theorem upd(S:St prog w h₀ os₀ ρ σ H ls s){d:FD}(hc:H.get i=some o0)(e:ρ i=some a)(k:∀b ob,b≠a->s.heap.get? b=some ob->h'.get? b=some ob)(r:cb prog w ρ σ h' a o):St prog w h₀ os₀ ρ σ (H.set i o) ls ⟨h',s.gens,d,tk,s.os⟩ where
 keep:=λb ob g=>k b ob (λq=>by subst q;rw[(S.new i b e).1.2 _ hc] at g;cases g)<|S.keep b ob g
 cell:=λj o' g=>by
  rw[AH.get_set] at g
  by_cases q:j=i
  .clear hc;subst q;rw[aw rfl] at g;cases g;exact⟨a,e,r⟩
  .rw[aq q] at g;obtain⟨b,x,y⟩:=S.cell j o' g;exact⟨b,x,y.at λob z=>k b ob (λq2=>q<|S.inj _ _ _ x<|q2▸e) z⟩
 new:=λj b g=>⟨⟨(S.new j b g).1.1,λo' g'=>by
  rw[AH.get_set] at g'
  by_cases q:j=i
  .clear e g';subst q;exact(S.new j b g).1.2 _ hc
  .rw[aq q] at g';exact(S.new j b g).1.2 _ g'⟩,by
  by_cases q:b=a
  .clear e k;subst q;exact r.there
  .obtain⟨o,g⟩:=(S.new j b g).2;exact⟨o,k _ _ q g⟩⟩
 inj:=S.inj
 top:=λj hj=>S.top j (by rw[AH.n_set] at hj;exact hj)
 loc:=λp hp=>⟨(S.loc p hp).1.keeps λo g=>k _ _ (λq=>(S.loc p hp).2.2 i<|q▸e) g,(S.loc p hp).2⟩
 apart:=S.apart
 gens:=S.gens
 os:=S.os
theorem updS(S:St prog w h₀ os₀ ρ σ H ls s)(y:H.get i=some x)(e:ρ i=some a)(k:kZ a s.heap h')(r:cb prog w ρ σ h' a o):St prog w h₀ os₀ ρ σ (H.set i o) ls ⟨h',s.gens,d,tk,s.os⟩:=S.upd y e (λb z n g=>(k.2 b n).trans g) r
theorem locS(S:St prog w h₀ os₀ ρ σ H ((L,m)::ls) s){r:cm}(k:kZ L s.heap r)(n:m'.at r L):St prog w h₀ os₀ ρ σ H ((L,m')::ls) ⟨r,s.gens,d,tk,s.os⟩:=by
 have l:=S.loc (L,m)<|.head _;have u:=S.apart;rw[List.map_cons,List.nodup_cons] at u;refine⟨λb o g=>?_,λi o g=>?_,λi b g=>⟨(S.new i b g).1,((S.new i b g).2).elim λo e=>⟨o,(k.2 b (λq=>l.2.2 i<|q▸g)).trans e⟩⟩,S.inj,S.top,λp v=>?_,?_,S.gens,S.os⟩
 .show r.get? b=some o;rw[k.2 b (λq=>by subst q;have j:=l.2.1;rw[j] at g;cases g)];exact S.keep b o g
 .obtain⟨b,x,y⟩:=S.cell i o g;exact⟨b,x,y.at λob z=>(k.2 b (λq=>l.2.2 i<|q▸x)).trans z⟩
 .refine bk v (⟨n,l.2⟩) λv=>?_
  .have t:=S.loc p<|.tail _ v;exact⟨t.1.keeps λo g=>(k.2 p.1 (λq=>u.1<|List.mem_map.mpr ⟨p,v,q⟩)).trans g,t.2⟩
 .rw[List.map_cons,List.nodup_cons];exact u
theorem drop(S:St prog w h₀ os₀ ρ σ H (p::ls) s):St prog w h₀ os₀ ρ σ H ls s:=
 ⟨S.keep,S.cell,S.new,S.inj,S.top,λq z=>S.loc q<|.tail _ z,by have y:=S.apart;rw[List.map_cons,List.nodup_cons] at y;exact y.2,S.gens,S.os⟩
theorem enter(S:St prog w h₀ os₀ ρ σ H ls s){d:FD}(k:∀b o,s.heap.get? b=some o->v.get? b=some o)(x:s.heap.objs.size<=a)(n:m.at v a):St prog w h₀ os₀ ρ σ H ((a,m)::ls) ⟨v,s.gens,d,tk,s.os⟩:=by
 have y:=S.keeps (tk:=tk) (d:=d) k;refine⟨y.keep,y.cell,y.new,y.inj,y.top,λp z=>?_,?_,y.gens,y.os⟩
 .refine bk z ?_ λz=>?_
  .refine⟨n,?_,λi e=>?_⟩
   .cases q:h₀.get? a with|none=>rfl|some o=>exact aP (d3<|S.keep _ _ q)<|Nat.not_lt.mpr x
   .obtain⟨o,g⟩:=(S.new i _ e).2;exact aP (d3 g)<|Nat.not_lt.mpr x
  .exact y.loc p z
 .rw[List.map_cons,List.nodup_cons];refine⟨λq=>?_,S.apart⟩;refine jL q λp z e=>?_;have u:=(S.loc p z).1.lt;rw[e] at u;exact aP u<|Nat.not_lt.mpr x
theorem drop2(S:St prog w h₀ os₀ ρ σ H (p::q::ls) s){tk:Nat}(k:∀b o,b≠q.1->s.heap.get? b=some o->h'.get? b=some o):St prog w h₀ os₀ ρ σ H (p::ls) ⟨h',s.gens,d,tk,s.os⟩:=by
 have u:=S.loc q<|.tail _<|.head _;have v:=S.apart;rw[List.map_cons,List.map_cons,List.nodup_cons,List.nodup_cons] at v;have n:∀r∈p::ls,r.1≠q.1:=λr hr e=>by
  clear S;rcases List.mem_cons.mp hr with rfl|hr
  .exact v.1 (by rw[e];exact .head _)
  .exact v.2.1<|List.mem_map.mpr ⟨r,hr,e⟩
 refine⟨λb o g=>k b o (λe=>by subst e;rw[u.2.1] at g;cases g)<|S.keep b o g,λi o g=>?_,λi b g=>⟨(S.new i b g).1,((S.new i b g).2).elim λo e=>⟨o,k b o (λz=>u.2.2 i<|z▸g) e⟩⟩,S.inj,S.top,λr hr=>?_,?_,S.gens,S.os⟩
 .obtain⟨b,x,y⟩:=S.cell i o g;exact⟨b,x,y.at λob z=>k b ob (λe=>u.2.2 i<|e▸x) z⟩
 .have t:r∈p::q::ls:=by
   clear S v n;refine bk hr ?_ λhr=>?_
   .exact .head _
   .exact .tail _<|.tail _ hr
  have m:=S.loc r t;exact⟨m.1.keeps λo g=>k _ _ (n r hr) g,m.2⟩
 .rw[List.map_cons,List.nodup_cons];exact⟨λe=>v.1<|.tail _ e,v.2.2⟩
theorem loc2{m m':Pt}(S:St prog w h₀ os₀ ρ σ H (p::(L,m)::ls) s)(k:∀b o,b≠L->s.heap.get? b=some o->t.get? b=some o)(n:m'.at t L):St prog w h₀ os₀ ρ σ H (p::(L,m')::ls) ⟨t,s.gens,d,tk,s.os⟩:=by
 have u:=S.loc (L,m)<|.tail _<|.head _;have v:=S.apart;rw[List.map_cons,List.map_cons,List.nodup_cons,List.nodup_cons] at v;refine⟨λb o g=>k b o (λe=>by subst e;have q:=u.2.1;rw[q] at g;cases g)<|S.keep b o g,λi o g=>?_,λi b g=>⟨(S.new i b g).1,((S.new i b g).2).elim λo e=>⟨o,k b o (λz=>u.2.2 i<|z▸g) e⟩⟩,S.inj,S.top,λr hr=>?_,S.apart,S.gens,S.os⟩
 .obtain⟨b,x,y⟩:=S.cell i o g;exact⟨b,x,y.at λob z=>k b ob (λe=>u.2.2 i<|e▸x) z⟩
 .rcases List.mem_cons.mp hr with rfl|hr
  .have q:=S.loc r<|.head _;exact⟨q.1.keeps λo g=>k _ _ (λe=>v.1<|by rw[e];exact .head _) g,q.2⟩
  .refine bk hr (⟨n,u.2⟩) λhr=>?_
   .have q:=S.loc r<|.tail _<|.tail _ hr;exact⟨q.1.keeps λo g=>k _ _ (λe=>v.2.1<|List.mem_map.mpr ⟨r,hr,e⟩) g,q.2⟩
theorem enter2(S:St prog w h₀ os₀ ρ σ H (p::ls) s)(k:∀b o,s.heap.get? b=some o->v.get? b=some o)(u:s.heap.objs.size<=a)(n:m.at v a):St prog w h₀ os₀ ρ σ H (p::(a,m)::ls) ⟨v,s.gens,d,tk,s.os⟩:=by
 have y:=S.enter (tk:=tk) (d:=d) k u n;have z:=y.apart;rw[List.map_cons,List.map_cons,List.nodup_cons,List.nodup_cons] at z;refine⟨y.keep,y.cell,y.new,y.inj,y.top,λq x=>y.loc q ?_,?_,y.gens,y.os⟩
 .clear S y z;refine bk x ?_ λx=>?_
  .exact .tail _<|.head _
  .exact bk x (.head _) λx=>(.tail _<|.tail _ x)
 .rw[List.map_cons,List.map_cons,List.nodup_cons,List.nodup_cons];exact⟨λe=>(List.mem_cons.mp e).elim (λe=>z.1<|by rw[e];exact .head _) z.2.1,λe=>z.1<|.tail _ e,z.2.2⟩
end St
theorem St.locs{prog:dY}{w:dZ}(S:St prog w h₀ os₀ ρ σ H ls s)(u:List bI)(m:∀b∈u,b∈ls.map (·.1))(k:∀b o,b∉u->s.heap.get? b=some o->l.get? b=some o)(j:∀p∈r,p.2.at l p.1/\p.1∈ls.map (·.1))(nd:(r.map (·.1)).Nodup):St prog w h₀ os₀ ρ σ H r ⟨l,s.gens,d,h,s.os⟩:=by
 have t:∀b∈ls.map (·.1),h₀.get? b=none/\∀i,ρ i≠some b:=λb q=>by refine mf q λp v=>?_;exact(S.loc p v).2
 have n:=λi b e q=>(t b<|m b q).2 i e;refine⟨λb o g=>k b o (λq=>by rw[(t b<|m b q).1] at g;cases g)<|S.keep b o g,λi o g=>?_,λi b g=>⟨(S.new i b g).1,((S.new i b g).2).elim λo e=>⟨o,k b o (n i b g) e⟩⟩,S.inj,S.top,λp v=>⟨(j p v).1,t _ (j p v).2⟩,nd,S.gens,S.os⟩;obtain⟨b,x,y⟩:=S.cell i o g;exact⟨b,x,y.at λob z=>k b ob (n i b x) z⟩
theorem St.fresh_at{prog:dY}{w:dZ}{ρ:bu}(S:St prog w h₀ os₀ ρ σ H ls s)(y:s.heap.objs.size<=a):h₀.get? a=none/\(∀i,ρ i≠some a)/\a∉ls.map (·.1):=by
 refine⟨?_,λi e=>?_,λx=>?_⟩
 .cases q:h₀.get? a with|none=>rfl|some o=>exact aP (d3<|S.keep _ _ q)<|Nat.not_lt.mpr y
 .obtain⟨o,g⟩:=(S.new i _ e).2;exact aP (d3 g)<|Nat.not_lt.mpr y
 .refine jL x λp z e=>?_;have v:=(S.loc p z).1.lt;rw[e] at v;exact aP v<|Nat.not_lt.mpr y
theorem St.mark{prog:dY}{w:dZ}(S:St prog w h₀ os₀ ρ σ H ls s)(n:m.at s.heap a)(f:h₀.get? a=none/\(∀i,ρ i≠some a)/\a∉ls.map (·.1)):St prog w h₀ os₀ ρ σ H ((a,m)::ls) s:=by
 refine⟨S.keep,S.cell,S.new,S.inj,S.top,λp z=>?_,?_,S.gens,S.os⟩
 .exact bk z (⟨n,f.1,f.2.1⟩) λz=>(S.loc p z)
 .rw[List.map_cons,List.nodup_cons];exact⟨f.2.2,S.apart⟩
end
section
open PySem PySem.W PySem.Calls PyProof.Rows
structure Fx where
 R:Type
 holds:R->Prop
 prog:dY
 w:dZ
 h₀:cm
 os₀:l6
 σ:de
 K:cj
 mg:Str->Option au
 mb:Str->Option au
structure Fx.Ok(X:Fx):Prop where
 inK:X.K.In X.h₀
 nolimit:X.h₀.NoLimit
 hmg:X.h₀.Ns jK X.mg
 hmb:X.h₀.Ns tv X.mb
 sys:∃o,X.h₀.get? iI=some o
 inj:∀k x y,X.σ.va k x=X.σ.va k y->x=y
 stat:∀a o,iP.get a=some o->a≠iI/\cb X.prog X.w (λz=>none) X.σ X.h₀ a o
abbrev Fx.St(X:Fx)(z:bu)(H:AH)(y:Lo)(s:aU):Prop:=Internal.St X.prog X.w X.h₀ X.os₀ z X.σ H y s
abbrev Fx.M(X:Fx):Af:=cw X.prog X.w
def pO(X:Fx)(y:bu)(x:Lo)(z h:cm):Prop:=∀b o,h.get? b=some o->((X.h₀.get? b=some o)\/(∃i,y i=some b)\/∃ob,(b,Pt.ob ob)∈x)->z.get? b=some o
def Pb(X:Fx)(A:dH)(w:bu)(v:Lo)(s:aU)(C:Nat)(x:au):Prop:=∃e y z l,x=.ref e/\A.frames=some l/\cm.FlyingW z l e (.ref C) y s.heap/\pO X w v z s.heap
def df:Lo->List bI
 | []=>[]
 |(a,.ns _)::r=>a::df r
 |(_,.ob _)::r=>df r
def pP(A:dH)(fs:List bI):Prop:=∃l,A.frames=some l/\∀v∈l,v.scope.kind≠.module/\∃L∈fs,v.frame=some L
def Pc(A:dH)(fr:Option bI):Prop:=∃v r,A.frames=some (v::r)/\v.frame=fr
def rU(A:dH)(fs:List bI)(n:Nat)(hd:Bool):Prop:=A.depth+4*n+8<pj/\A.units+32*n+64<gp/\(hd=false->A.handled=none)/\pP A fs
def cC(A:dH)(fs:Option bI×List bI)(n:Nat)(hd:Bool):Prop:=A.depth+4*n+10<pj/\A.units+32*n+88<gp/\(hd=false->A.handled=none)/\pP A fs.2/\Pc A fs.1
variable (X:Fx)
def gk(k:K X.R)(u:Lo)(w:bu)(Q:tY1):Prop:=∀z x y a v,bU w z->X.St z x u y->aE z X.σ a v->X.holds (k a x)->Q v y
def BD(k:KB X.R)(v:Lo)(w:bu)(Q:Bool->aU->Prop):Prop:=∀z x y b,bU w z->X.St z x v y->X.holds (k b x)->Q b y
def Pd(k:KL X.R)(u:Lo)(w:bu)(Q:List au->aU->Prop):Prop:=∀z x y a v,bU w z->X.St z x u y->aD (aE z X.σ) a v->X.holds (k a x)->Q v y
def fy(q:KE X.R)(v:Lo)(A:dH)(u:bu)(E:tY1):Prop:=∀z w y C x,bU u z->X.St z w v y->Pb X A z v y C x->X.holds (q C w)->E x y
theorem fy.ext{X:Fx}{v:KE X.R}(x:bU u w)(p:fy X v q A u E):fy X v q A w E:=λz z z z z y S F h=>p _ _ _ _ _ (x.trans y) S F h
theorem gk.ext{X:Fx}{k:K X.R}(x:bU v w)(p:gk X k u v Q):gk X k u w Q:=λz z z z z y S F h=>p _ _ _ _ _ (x.trans y) S F h
structure bJ extends gM where
 cd:au
 ql:Str
structure cU(sc:bJ)(env:Env):Prop where
 scope:env.scope=sc.toScope
 cd:env.code=sc.cd
 ql:env.qual=sc.ql
 kind:sc.kind=.function
 glob:env.globals=jK
 blt:env.builtins=tv
structure dg(ρ:bu)(f:aK)(env:Env)(m:Str->Option au):Prop where
 loc:∀x a,ae f.loc x=some a->env.kindOf (am x)=some .local/\∃v,m (am x)=some v/\aE ρ X.σ a v
 cel:∀x i,ae f.cel x=some i->∃a,ρ i=some a/\env.cells.lookup (am x)=some a
variable {X}
theorem dg.ext(x:bU n u)(F:dg X n f w m):dg X u f w m:=
 ⟨λy a e=>(F.loc y a e).elim λp z=>z.elim λv o=>o.elim λq r=>⟨p,v,q,r.ext x⟩,λy i e=>(F.cel y i e).elim λa z=>z.elim λp q=>⟨a,x _ _ p,q⟩⟩
variable (X)
def fM(y:bu)(x:de)(p:Nat×AV)(z:Str×au):Prop:=z.1=am p.1/\aE y x p.2 z.2
def pQ(Q E:tY1):v9->aU->Prop:=λr z=>match r with
 |.ok (.ret v)=>Q v z
 |.ok _=>False
 |.error e=>E e z
structure bD(e:EV X.R)(n:Nat):Prop where
 stop:¬X.holds e.stop
 chk:∀i r,X.holds (e.chk i r)->i.natAbs<2 ^ 62/\X.holds r
 call:∀hd g pos kw H k ke,g<1000000->X.holds (e.call hd g [] pos kw H k ke)->tw X.K (.ref g)=true/\∀ρ ls s A Q E pos' kw',rU A (df ls) n hd->X.St ρ H ls s->aD (aE ρ X.σ) pos pos'->aD (fM ρ X.σ) kw kw'->
  gk X k ls ρ Q->fy X ke ls A ρ E->f0 X.M A (.call (.ref g) ⟨pos',kw'⟩) (pQ Q E) s
 clos:∀hd H i g q ci caps pos kw k ke,H.get i=some (.fn g q ci caps)->H.get ci=some (.code q)->X.holds (e.call hd g caps pos kw H k ke)->∀ρ ls s A Q E a pos' kw',ρ i=some a->rU A (df ls) n hd->X.St ρ H ls s->aD (aE ρ X.σ) pos pos'->aD (fM ρ X.σ) kw kw'->
  gk X k ls ρ Q->fy X ke ls A ρ E->(∃k,(k=Nz\/k=NB\/k=NC)/\Looks X.M s.heap (ND<|.ref a) k)/\f0 X.M A (.call (.ref a) ⟨pos',kw'⟩) (pQ Q E) s
 lvl:e.lvl<=n
def SE(u:bJ)(x:aS)(p:XE X.R):Prop:=∀(e:EV X.R)n,bD X e n->∀z,cU u z->∀f H k v,X.holds (p e f H k v)->∀y m w s A Q E,cC A (z.frame,z.locals::df w) n e.hd->X.St y H ((z.locals,.ns m)::w) s->dg X y f z m->
 gk X k ((z.locals,.ns m)::w) y Q->fy X v ((z.locals,.ns m)::w) A y E->aF X.M A (gN x z) Q E s
def ST(u:bJ)(x:aS)(p:XB X.R):Prop:=∀(e:EV X.R)n,bD X e n->∀z,cU u z->∀f H k v,X.holds (p e f H k v)->∀y m w s A Q E,cC A (z.frame,z.locals::df w) n e.hd->X.St y H ((z.locals,.ns m)::w) s->dg X y f z m->
 BD X k ((z.locals,.ns m)::w) y Q->fy X v ((z.locals,.ns m)::w) A y E->aF X.M A (FE x z<|gN x z) Q E s
variable {X}
section
variable {R:Type}{b:Bool}{r t:R}
theorem at5:J true r t=r:=rfl
theorem at6:J false r t=t:=rfl
end
theorem BE(g:∀y:α->aU->Prop,(∀v s,Q v s->y v s)->aF M A c y E s):aF M A c Q E s:=g Q λz z h=>h
section
variable {α:Type}{M:Af}{A:dH}{E:tY1}{s:aU}{Q:α->aU->Prop}{c:Prop} [Decidable c] {t e:Sem α}
theorem Hg(h:c)(k:aF M A t Q E s):aF M A (if c then t else e) Q E s:=by rw[aw h];exact k
theorem pR(h:¬c)(k:aF M A e Q E s):aF M A (if c then t else e) Q E s:=by rw[aq h];exact k
end
theorem iw(h:aF M A (f x) Q E s):aF M A (pure x >>= f) Q E s:=aI (bz h)
theorem at7(h:bD X e n)(x:X.holds (ad o e.stop k)):∃a,o=some a/\X.holds (k a):=by
 refine fH λz y=>?_;cases o with|none=>exact aP x h.stop|some a=>exact y<|⟨a,rfl,x⟩
theorem Hh(h:bD X e n)(x:X.holds (fK e l r)):l.length<=1000/\X.holds r:=by
 delta fK at x;cases q:Nat.ble (len l) 1000 with|true=>rw[q] at x;rw[<-fL];exact⟨Nat.le_of_ble_eq_true q,x⟩|false=>rw[q] at x;exact aP x h.stop
theorem at8(h:bD X e n)(x:X.holds (J b r e.stop)):b=true/\X.holds r:=by
 cases b with|true=>exact⟨rfl,x⟩|false=>exact aP x h.stop
theorem at9(h:bD X e n)(x:X.holds (J b e.stop r)):b=false/\X.holds r:=by
 cases b with|false=>exact⟨rfl,x⟩|true=>exact aP x h.stop
theorem bw(h:bD X e n)(x:X.holds (ad o e.stop k)){z:Prop}(g:∀a,o=some a->X.holds (k a)->z):z:=by
 cases o with|none=>exact aP x h.stop|some a=>exact g a rfl x
theorem eY(h:bD X e n)(x:X.holds (J b r e.stop)){z:Prop}(g:b=true->X.holds r->z):z:=by
 cases b with|true=>exact g rfl x|false=>exact aP x h.stop
theorem ee(h:bD X e n)(x:X.holds (J b e.stop r)){z:Prop}(g:b=false->X.holds r->z):z:=by
 cases b with|false=>exact g rfl x|true=>exact aP x h.stop
theorem gV(h:bD X e n)(x:X.holds (fK e l r)){z:Prop}(g:l.length<=1000->X.holds r->z):z:=g (Hh h x).1 (Hh h x).2
theorem ba(h:ad o none f=some b){z:Prop}(g:∀a,o=some a->f a=some b->z):z:=by
 cases o with|none=>exact a6 h|some a=>exact g a rfl h
theorem bx(h:J b c false=true){z:Prop}(g:b=true->c=true->z):z:=by
 cases b with|true=>exact g rfl h|false=>exact bg h
@[elab_as_elim] theorem dR{α:Type}{a b:α}(h:some a=some b){P:α->Prop}(g:P a):P b:=Option.some.inj h▸g
@[elab_as_elim] theorem au0{b:Bool}{P:Bool->Prop}(t:b=true->P true)(f:b=false->P false):P b:=by cases b with|true=>exact t rfl|false=>exact f rfl
@[elab_as_elim] theorem gW{z:bu}{y:de}{a:AV}{v:au}{k:Nat}(r:aE z y a v)(h:nO a=some k){P:au->Prop}(g:∀t,P (.str (am k) t)):P v:=by
 cases a with|str c=>exact dR h (λg=>r.elim λt e=>e▸g t) g|_=>exact a6 h
@[elab_as_elim] theorem mH{z:bu}{y:de}{a:AV}{v:au}{k:Int}(r:aE z y a v)(h:lg a=some k){P:au->Prop}(g:∀t,P (.int k t)):P v:=by
 cases a with|int c=>exact dR h (λg=>r.elim λt e=>e▸g t) g|_=>exact a6 h
@[elab_as_elim] theorem kv{z:bu}{y:de}{i:Nat}{P:au->Prop}{v:au}(r:aE z y (.ref i) v)(g:∀x,z i=some x->P (.ref x)):P v:=let⟨x,h,e⟩:=r;e▸g x h
theorem lm(h:J b x none=some c){z:Prop}(g:b=true->x=some c->z):z:=by
 cases b with|true=>exact g rfl h|false=>exact a6 h
theorem fz(S:X.St z H q s)(u:H.get i=some o)(x:z i=some y):cb X.prog X.w z X.σ s.heap y o:=let⟨_,v,r⟩:=S.cell i o u;Option.some.inj (v.symm.trans x)▸r
@[elab_as_elim] theorem au1{z:bu}{y:de}{a:AV}{o:Option au}(h:dD z y (some a) o){P:Option au->Prop}(g:∀v,aE z y a v->P (some v)):P o:=by
 cases o with|none=>exact h.elim|some v=>exact g v h
theorem Pe:SE X y (.Constant (.int i) x z) (ah (.int i)):=by
 intros
 exact wpAny_mkInt<|K R H _ (.int i) _ (.refl _) (S.toks _) ⟨_,rfl⟩ Z
theorem Pf(y:x=am c):SE X v (.Constant (.str x) w z) (ah (.str c)):=by
 intros
 exact wpAny_mkText (K R H _ (.str c) _ (.refl _) (S.toks _) ⟨_,by rw[y]⟩ Z)
theorem Pg:SE X y (.Constant .none x z) (ah .none):=by
 intros
 exact bz<|K R H _ .none _ (.refl _) S rfl Z
theorem Ph:SE X y (.Constant (.bool b) x z) (ah (.bool b)):=by
 intros
 exact bz<|K R H _ (.bool b) _ (.refl _) S rfl Z
theorem Pi(p:x=am c)(hd:(x == ("__debug__" : Str))=false):SE X l (.Name x y) (aa c):=by
 intros
 refine fH λz o=>?_;refine bw G Z λa q Z=>?_;obtain⟨u,v,w,r⟩:=F.loc c a q;rw[<-p] at u w;refine o ?_;exact v_ (aj5 (by rw[Y.scope];exact Y.kind) u (S.loc _<|.head _).1 w<|K R H _ _ _ (.refl _) S r Z) hd
theorem Hi(y:X.Ok)(l:d.names.lookup x=some .globalImplicit)(hd:(x == ("__debug__" : Str))=false)(u:X.mg x=some v\/(X.mg x=none/\X.mb x=some v))(P:∀h,aE h X.σ a v):SE X d (.Name x z) (ah a):=by
 intros
 have i:=y.hmg.keeps S.keep;have j:=y.hmb.keeps S.keep;have q:=K R H _ _ _ (.refl _) S (P R) Z;refine v_ ?_ hd;have w:W.blockKind=.function:=by delta NE;rw[Y.scope,Y.kind];rfl
 have p:W.scope.kind.isAnnotationScope=false:=by rw[Y.scope,Y.kind];rfl
 have o:W.kindOf x=some .globalImplicit:=by delta tx;rw[Y.scope];exact l
 have g:aF X.M A (FG W x) Q E s:=by
  delta FG;rw[Y.glob,Y.blt];refine aI<|FH i ?_;rcases u with u|⟨u,N⟩
  .rw[u];exact bz q
  .rw[u];refine aI<|FH j ?_;rw[N];exact bz q
 delta loadName;rw[p,w,o];exact g
theorem Pj(C:x=am c)(hk:P.names.lookup x=some .cell\/P.names.lookup x=some .free)(hn:(x == ("__classdict__" : Str))=false)(hd:(x == ("__debug__" : Str))=false):SE X P (.Name x u) (bT c):=by
 intros
 refine fH λz oo=>?_;refine bw G Z λi hi Z=>?_;refine bw G Z λo w Z=>?_;obtain⟨a,ha,j⟩:=F.cel c i hi;obtain⟨a',l,r⟩:=S.cell i o w;rw[ha] at l;cases l;cases o with
 |cell v=>
  refine bw G Z λb N Z=>?_;subst N;obtain⟨y,g,d⟩:=r;cases y with|none=>exact d.elim|some y=>
   have q:=K R H _ b _ (.refl _) S d Z;have p:W.scope.kind=.function:=by rw[Y.scope];exact Y.kind
   have h:=g;rw[<-C] at j;refine oo ?_;rcases hk with hk|hk
   .exact v_ (wpAny_loadName_cell p (by delta tx;rw[Y.scope];exact hk) j h q) hd
   .exact v_ (wpAny_loadName_free p (by delta tx;rw[Y.scope];exact hk) j h q hn) hd
 |_=>exact aP Z G.stop
theorem mI(p:Str×au)(z:List (Str×au))(x:Str):cQ (p::z) x=if p.1=x then some p.2 else cQ z x:=by
 delta cQ;rw[List.find?_cons]
 by_cases h:p.1=x<;>simp[h]
theorem nV(n:Nat):∀{es:iJ}{y:List (Str×au)},aD (fx w m) es y->dD w m (ae es n) (cQ y (am n))
 | [],[],_=>trivial
 |p::es,q::y,h=>by
  rw[b3,mI];refine fH λz o=>?_;obtain⟨⟨x,v⟩,u⟩:=h;refine o ?_
  by_cases e:p.1=n
  .rw[aw e,aw<|by rw[x,e]];exact v
  .rw[aq e,aq<|by rw[x];exact mF e];exact nV n u
theorem Hj(v:au)(x:Str):v.isStr x=q9 x v:=by cases v<;>rfl
theorem BF{h:cm}(u:h.DictOf (bW X.prog X.w) a p)(x:Str):∃o,h.get? a=some o/\wa x o=some (cQ p x):=by
 refine fH λz g=>?_;obtain⟨o,es,d,v,Z,hd,l,y,S⟩:=pN.of u;refine g ?_;refine⟨o,v,?_⟩;have f:=y.find x;have n:(es.toList.find? λe=>e.key.isStr x).map (·.val)=cQ p x:=by
  rw[<-f];have s:(λe:Ny=>e.key.isStr x)=λe=>(bW X.prog X.w).is x e.key:=by funext e;exact Hj _ _
  rw[s]
 delta wa;rw[hd]
 dsimp only
 cases q:es.toList.find? λe=>e.key.isStr x with|some e=>rw[q] at n;rw[<-n];rfl|none=>
  rw[q] at n;have s:es.toList.any (·.refKey)=false:=by rw[List.any_eq_false];intro e j;obtain⟨k,m,_⟩:=l e<|FJ.mp j;obtain⟨t,i⟩:=FK m;simp[aj6,i]
  simp only[s,Bool.false_eq_true,if_false];rw[<-n];rfl
variable (X) in
structure Hk(C:Nat):Prop where
 cd:∃cd,ty X.K C=some cd/\cd.hasDict=true
 ga:eE X.K (.ref C) "__getattribute__" = some (some (.builtin "object.__getattribute__"))
 gt:eE X.K (.ref C) "__getattr__" = some none
 sa:eE X.K (.ref C) "__setattr__" = some (some (.builtin "object.__setattr__"))
 over:FL X.K C=true
 reads:readsIn X.K C (.type "type")=true
 ga2:kh X.K (.ref C) "__getattribute__" = some (some (.builtin "type.__getattribute__"))
 makes:makesIn X.K C=true
 keep:tw X.K (.ref C)=true
 bool:eE X.K (.ref C) "__bool__" = some none
 len:eE X.K (.ref C) "__len__" = some none
def xl(K:cj)(C n:Nat)(a:Option CA):Prop:=match a with
 |none=>eE K (.ref C) (am n)=some none
 |some (.meth f)=>eE K (.ref C) (am n)=some (some (.ref f))/\q_ K (.ref f)=some (.type "function")
 |some (.stat f)=>∃z,eE K (.ref C) (am n)=some (some (.ref z))/\q_ K (.ref z)=some (.type "staticmethod")/\kh K (.ref z) "__get__" = some (some (.builtin "staticmethod.__get__"))/\wb K (.ref z)=some false/\
   (∃y,recIn K z "staticmethod" = some (.ref f::y))/\∃x,findCls K (.ref C) (.type "type") (am n)=some (.get (.builtin "staticmethod.__get__") (.ref z) x (.ref C))
 |some (.val<|.str c)=>∃t,eE K (.ref C) (am n)=some (some<|.str (am c) t)
 |some (.val _)=>False
variable (X) in
structure ef:Prop where
 isi:∀C ci D,eI.get C=some ci->a5 ci.mro D=true->isIn X.K (.ref C) D=true
 cls:∀C ci,eI.get C=some ci->Hk X C
variable (X) in
def iU(n:Nat):Prop:=∀C z,eI.get C=some z->xl X.K C n (ae z.attrs n)
theorem Pk(r:aE z X.σ a v):Nx v=true:=by
 cases a with
 |none=>cases r;rfl
 |bool b=>cases r;rfl
 |int i=>obtain⟨t,rfl⟩:=r;rfl
 |str c=>obtain⟨t,rfl⟩:=r;rfl
 |ref i=>obtain⟨y,_,rfl⟩:=r;rfl
 |glo a=>cases r;rfl
 |bi b=>cases r;cases b<;>first|rfl|decide +kernel
 |one x=>obtain⟨c,_,t,rfl⟩:=r;rfl
 |atm k n=>obtain⟨t,rfl⟩:=r;rfl
 |unk=>exact r
 |gla k=>cases r;rfl
theorem gy(e:ir H d=some es):H.get d=some (.dict es):=by
 delta ir at e;cases q:H.get d with|none=>rw[q] at e;exact a6 e|some o=>rw[q] at e;clear q;cases o<;>first|(cases e;rfl)|cases e
theorem gX(e:eA H d=some es):H.get d=some (.list es):=by
 delta eA at e;cases q:H.get d with|none=>rw[q] at e;exact a6 e|some o=>rw[q] at e;clear q;cases o<;>first|(cases e;rfl)|cases e
theorem Hl(S:X.St q H h s)(m:H.get i=some (.inst C d))(hd:H.get d=some (.dict es)):∃a u x,q i=some a/\q d=some u/\(∃o,eI.get C=some o)/\s.heap.get? a=some (v8 C u)/\s.heap.DictOf (bW X.prog X.w) u x/\aD (fx q X.σ) es x:=by
 refine fH λz n=>?_;obtain⟨a,k,u,v,g,j⟩:=S.cell i _ m;obtain⟨b,p,x,y,l,_⟩:=S.cell d _ hd;rw[v] at p;cases p;exact n<|⟨a,u,x,k,v,j,g,y,l⟩
theorem au2(h:ad o none f=some b):∃a,o=some a/\f a=some b:=by
 refine fH λz y=>?_;cases o with|none=>exact a6 h|some a=>exact y<|⟨a,rfl,h⟩
def CA.plain(K:cj)(a:au):Prop:=∃g,kh K a "__get__" = some g/\(g.isSome=true->wb K a=some false)
theorem Pl{K:cj}(u:ty K C=some cd)(hd:cd.hasDict=true)(p:eE K (.ref C) z=some w)(x:∀a,w=some a->CA.plain K a)(o:wa z q=some (some v)):FM K C (some q) z=some (.value v):=by
 have y:FN cd (some q) z=some (some v):=by delta FN;rw[hd,aw rfl];exact o
 delta FM;rw[u,Option.bind_some,p,Option.bind_some];rw[y];cases w with|none=>rfl|some a=>
  obtain⟨g,m,n⟩:=x a rfl;show Option.bind (kh K a "__get__") _=_;rw[m];cases g with|none=>rfl|some g=>show Option.bind (wb K a) _=_;rw[n rfl];rfl
theorem Pm{K:cj}(w:ty K C=some cd)(hd:cd.hasDict=true)(u:eE K (.ref C) z=some (some a))(x:kh K a "__get__" = some none)(q:wa z v=some none)(o:nC.contains z=false)(p:Nx a=true):FM K C (some v) z=some (.value a):=by
 have y:FN cd (some v) z=some none:=by delta FN;rw[hd,aw rfl];exact q
 delta FM;rw[w,Option.bind_some,u,Option.bind_some];rw[y,o];show Option.bind (kh K a "__get__") _=_;rw[x];exact aw p
theorem Hm(K:cj)(x:Str)(t:Tok):kh K (.str x t) "__get__" = some none:=by
 have z:q_ K (.str x t)=some (.type "str"):=by delta q_;rfl
 rw[z];show pp "str" "__get__" = some none;decide +kernel
theorem Pn{K:cj}(h:q_ K (.ref f)=some (.type "function")):CA.plain K (.ref f):=by
 have e:∀n,kh K (.ref f) n=pp "function" n:=λn=>by delta kh;rw[h];rfl
 refine⟨_,(e _).trans (show pp "function" "__get__" = some (some (.builtin "function.__get__")) by decide +kernel),λz=>?_⟩;delta wb;rw[e,show pp "function" "__set__" = some none by decide +kernel]
 dsimp only
 rw[e,show pp "function" "__delete__" = some none by decide +kernel];rfl
theorem Po{K:cj}(h:q_ K (.ref f)=some (.type "staticmethod")):CA.plain K (.ref f):=by
 have e:∀n,kh K (.ref f) n=pp "staticmethod" n:=λn=>by delta kh;rw[h];rfl
 refine⟨_,(e _).trans (show pp "staticmethod" "__get__" = some (some (.builtin "staticmethod.__get__")) by decide +kernel),λz=>?_⟩;delta wb;rw[e,show pp "staticmethod" "__set__" = some none by decide +kernel]
 dsimp only
 rw[e,show pp "staticmethod" "__delete__" = some none by decide +kernel];rfl
theorem Pp{K:cj}(h:xl K C n c):∃y,eE K (.ref C) (am n)=some y/\∀a,y=some a->CA.plain K a:=by
 cases c with
 |none=>exact⟨none,h,λz e=>nomatch e⟩
 |some c=>
  refine fH λz x=>?_;cases c with
  |meth f=>refine x ?_;exact⟨_,h.1,λa e=>by cases e;exact Pn h.2⟩
  |stat f=>refine x ?_;obtain⟨p,u,v,_⟩:=h;exact⟨_,u,λa e=>by cases e;exact Po v⟩
  |val w=>
   cases w with
   |str c=>refine x ?_;obtain⟨t,h⟩:=h;exact⟨_,h,λa e=>by cases e;exact⟨none,Hm ..,λq=>by cases q⟩⟩
   |_=>exact h.elim
theorem Hn(P:X.Ok)(j:ef X){n:Nat}(k:iU X n)(hcp:nC.contains (am n)=false){s:aU}(S:X.St ρ H ls s)(r:aE ρ X.σ a v)(h:rL H n a=some w)(q:∀v' tk,aE ρ X.σ w v'->Q v' { s with toks:=tk }):aF X.M A (getAttr v (am n) f) Q E s:=by
 refine fH λz oo=>?_;cases a with
 |ref i=>
  obtain⟨y,hy,rfl⟩:=r;refine ba h λo m h=>?_;cases o with
  |inst C d=>
   refine ba h λes hd h=>?_;obtain⟨a',dx,kvs,ha,hdx,⟨ci,hci⟩,g,Z,l⟩:=Hl S m<|gy hd;rw[hy] at ha;cases ha;obtain⟨od,hod,F⟩:=BF Z<|am n;have rl:=nV n l;have N:InstAt s.heap y (v8 C dx) C (some od):=⟨g,rfl,rfl,hod⟩;have x:=P.inK.keeps S.keep;have CO:=j.cls C ci hci;obtain⟨cd,hcd,hdct⟩:=CO.cd;have ai:=k C ci hci;obtain⟨at',hf,p⟩:=Pp ai;cases hl:ae es n with
   |some u=>
    rw[hl] at h rl;have h':=h;cases h';cases hv:cQ kvs (am n) with
    |none=>rw[hv] at rl;exact oo<|rl.elim
    |some v'=>rw[hv] at rl F;exact oo<|get_value x N CO.ga (Pl hcd hdct hf p F) (Pk rl)<|q _ _ rl
   |none=>
    rw[hl] at h rl;have h':=h;refine ba h' λci' hci' h'=>?_;rw[hci] at hci';cases hci';refine ba h' λc hc h'=>?_;rw[hc] at ai;cases hv:cQ kvs (am n) with
    |some v'=>rw[hv] at rl;exact oo<|rl.elim
    |none=>
     rw[hv] at F;cases c with
     |val u=>
      refine oo ?_;cases(h');cases w with
      |str c=>obtain⟨t,hf'⟩:=ai;exact get_value x N CO.ga (Pm hcd hdct hf' (Hm ..) F hcp rfl) rfl<|q _ _ ⟨t,rfl⟩
      |_=>exact ai.elim
     |_=>exact a6 h'
  |_=>exact a6 h
 |_=>exact a6 h
def nW(x:aS):Prop:=∀(y:Str)(z:Env),attributeBase x y z (gN x z)=gN x z
theorem Ho(q:Q () s):aF X.M A (letTemporaryGo x o r) Q E s:=aj7 q
theorem Pq(h:X.Ok)(j:ef X){z:Pos}(hn:u=am n)(o:iU X n)(g:nC.contains (am n)=false)(hb:nW x)(l:SE X sc x p):SE X sc (.Attribute x u z) (aN p n):=by
 intro e N y Z q f H k ke hh ρ m ls s A Q E i S F PV PE;subst hn;rw[aj9,hb];refine aI<|l e N y Z q f H _ ke hh ρ m ls s A _ E i S F (λρ' H' s' a v x P r d=>?_) PE;refine bw y d λw hw d=>?_;refine aI<|rd<|aI<|gq<|Hn h j o g P r hw λv' tk C=>aI<|Ho<|bz<|PV _ _ _ _ _ x (P.toks tk) C d
end
section
open PySem PySem.W PySem.Calls PyProof.Rows
variable {X:Fx}
theorem Hp(y:X.Ok)(S:X.St ρ H ls s)(x:H.get i=some v)(e:ρ i=some a):(a == iI)=false:=by
 cases q:a == iI with|false=>rfl|true=>have w:a=iI:=br q;subst w;obtain⟨o,z⟩:=y.sys;rw[(S.new i _ e).1.2 _ x] at z;cases z
theorem rV(z:X.Ok)(S:X.St ρ H ls s)(h:jc H v=some o)(r:aE ρ X.σ v q):∃a,q=.ref a/\(a == iI)=false/\cb X.prog X.w ρ X.σ s.heap a o:=by
 cases v with
 |ref i=>obtain⟨y,t,rfl⟩:=r;obtain⟨a,u,x⟩:=S.cell i o h;rw[t] at u;cases u;exact⟨y,rfl,Hp z S (by assumption) t,x⟩
 |glo a=>cases r;obtain⟨n,x⟩:=z.stat a o h;exact⟨a,rfl,by simpa using n,(x.at λob g=>S.keep _ _ g).ext<|by intro i a e;cases e⟩
 |_=>cases h
@[elab_as_elim] theorem je(z:X.Ok){ρ:bu}{H:AH}{ls:Lo}{s:aU}(S:X.St ρ H ls s){v:AV}{o:AO}{v':au}(h:jc H v=some o)(r:aE ρ X.σ v v'){P:au->Prop}(g:∀a,(a == iI)=false->cb X.prog X.w ρ X.σ s.heap a o->P (.ref a)):P v':=(rV z S h r).elim λa x=>x.elim λe y=>y.elim λt u=>e▸g a t u
theorem Hq(h:jM c=true):0<c/\c<128:=by
 delta jM at h;cases q:Nat.beq c 0 with|true=>rw[q] at h;cases h|false=>
  rw[q] at h;have x:=Nat.ne_of_beq_eq_false q;have z:c<128:=by have y:=h;exact Nat.le_of_ble_eq_true y
  exact(lin [c] 0x94a0c80405810043201017b80101) x z
theorem Pr(h:jM c=true):cps c=[c]:=by
 obtain⟨y,z⟩:=Hq h;obtain⟨d,rfl⟩:∃d,c=d+1:=⟨c - 1,by omega⟩;show k9 (d+1) (d+1)=_;rw[pL];have e1:(d+1) % 256=d+1:=by omega
 have e2:(d+1) / 256=0:=by omega
 rw[e1,e2];clear h y z e1 e2;cases d<;>rfl
theorem Hr(h:jM c=true):am c=⟨#[c]⟩:=by delta am;rw[Pr h]
theorem Ht c t:(bW X.prog X.w).is (am c) (.str (am c) t)=true:=beq_self_eq_true _
theorem mJ(h:dD ρ z (some a) o):∃v,o=some v/\aE ρ z a v:=by
 cases o with|none=>exact h.elim|some v=>exact⟨v,rfl,h⟩
theorem BG(h:wV l i=some a):0<=i/\i<2 ^ 62/\l[i.toNat]?=some a:=by
 cases i with|negSucc m=>cases h|ofNat m=>
  have z:J (Nat.ble m 1000000) (gR l m) none=some a:=h;cases q:Nat.ble m 1000000 with|false=>rw[q] at z;cases z|true=>
   rw[q] at z;have:=Nat.le_of_ble_eq_true q;refine⟨Int.natCast_nonneg m,?_,?_⟩
   .show(m:Int)<2 ^ 62;omega
   .rw[<-pM];exact z
theorem Hu(z:0<=i)(h:i.toNat<n):NF i n=some i.toNat:=by
 unfold NF;simp only[aq<|Int.not_lt.mpr z];rw[aw<|by simp;omega]
theorem BH{l:List z}(h:l[n]?=some a):n<l.length:=(List.getElem?_eq_some_iff.mp h).1
def nX(x:aS):Prop:=∀o i,subscripted x false o i=operate [o,i] (getItem o i)
section
variable {ρ:bu}{H:AH}{ls:Lo}{s:aU}{A:dH}{E:tY1}{i w:AV}{vi:au}{Q:tY1}{ev sl:aS}
theorem Ps(m:nX sl)(L:s.heap.IsList y z.toArray)(l:aD (aE ρ X.σ) x z)(u:aE ρ X.σ i vi)(h:wW x i=some w)(q:∀v,aE ρ X.σ w v->Q v s):aF X.M A (Ag ev sl (.ref y) vi) Q E s:=
 ba h λn j h=>mH u j λt=>by obtain⟨o,g,p⟩:=BG h;obtain⟨v,r,k⟩:=l.nth p;exact Ah L.typeIs slot_list_getitem.lookup (wpAny_getItem_list L o (by omega) (List.getElem?_toArray.trans r)<|q v k)<|m _ _
theorem Pu(m:nX sl){z:tY0}(L:s.heap.IsTuple y x.toArray)(l:aD (aE ρ X.σ) z x)(r:aE ρ X.σ i vi)(h:wW z i=some w)(q:∀v,aE ρ X.σ w v->Q v s):aF X.M A (Ag ev sl (.ref y) vi) Q E s:=
 ba h λn j h=>mH r j λt=>by obtain⟨o,g,p⟩:=BG h;obtain⟨v,u,k⟩:=l.nth p;exact Ah L.typeIs slot_tuple_getitem.lookup (ax0 L (by omega) (by omega) (Hu o<|BH u) (List.getElem?_toArray.trans u)<|q v k)<|m _ _
theorem Pv(m:nX sl){t:Tok}(r:aE ρ X.σ i vi)(h:(ad (lg i) none λn=>ad (wV (cps c) n) none λc=>J (jM c) (some (.str c)) none)=some w)(S:X.St ρ H ls s)(q:∀x y,X.St ρ H ls y->aE ρ X.σ w x->Q x y):aF X.M A (Ag ev sl (.str (am c) t) vi) Q E s:=
 ba h λn l h=>mH r l λu=>ba h λd hd z=>by
  cases hk:jM d with|false=>rw[hk] at z;exact a6 z|true=>rw[hk] at z;have z:=Option.some.inj z;obtain⟨o,k,v⟩:=BG hd;have p:=BH v;refine Ah (NG s _ _) F.slot_str_getitem.lookup (ax1 (by simp;omega) (c:=d) ?_ (q _ _ (S.toks _) (z▸⟨s.toks,by rw[Hr hk]⟩)))<|m _ _;rw[Hu o<|by exact p];exact List.getElem?_toArray.trans v
theorem Hv(n:nX sl)(S:X.St ρ H ls s)(m:aE ρ X.σ i vi)(r:cb X.prog X.w ρ X.σ s.heap y o)(h:rJ i o=some w)(q:∀b d,X.St ρ H ls d->aE ρ X.σ w b->Q b d):aF X.M A (Ag ev sl (.ref y) vi) Q E s:=by
 cases o with
 |list x=>obtain⟨z,L,l,_⟩:=r;exact Ps n L.isList l m h λv=>q v s S
 |tup x=>obtain⟨z,L,l,_⟩:=r;exact Pu n L.isTup l m h λv=>q v s S
 |dict es=>refine ba h λc e h=>gW m e λt=>?_;obtain⟨k,u,l,_⟩:=r;have p:=nV c l;rw[h] at p;obtain⟨v,f,g⟩:=mJ p;exact Ah u.typeIs ak0.lookup (ak1 (Ht c t) u.mapOf f<|q v _ (S.toks _) g)<|n _ _
 |umap es=>refine ba h λc e h=>gW m e λt=>ba h λZ j a=>?_;obtain⟨k,u,_,l,_⟩:=r;have p:=l c _ j;rw[show Z=some w from a] at p;obtain⟨v,f,g⟩:=mJ p;exact Ah u.typeIs ak0.lookup (ak1 (Ht c t) u.mapOf f<|q v _ (S.toks _) g)<|n _ _
 |_=>exact a6 h
theorem Pw(v:X.Ok)(m:nX sl)(S:X.St ρ H ls s)(n:aE ρ X.σ a va)(p:aE ρ X.σ i vi)(h:sub H a i=some w)(q:∀k l,X.St ρ H ls l->aE ρ X.σ w k->Q k l):aF X.M A (Ag ev sl va vi) Q E s:=by
 cases a with|str c=>exact gW n rfl λt=>Pv m p h S q|ref j=>exact ba h λo x u=>je v S x n λy z r=>Hv m S p r u q|glo j=>exact ba h λo x u=>je v S x n λy z r=>Hv m S p r u q|_=>exact a6 h
end
end
section
open PySem PySem.W PySem.Calls PyProof.Rows
variable {X:Fx}
theorem BJ(l:List z):dk l = !l.isEmpty:=by cases l<;>rfl
theorem xm(a b):km a b=decide (a=b):=by
 cases a with
 |ofNat m=>cases b with|ofNat n=>exact(d6 m n).trans (decide_eq_decide.mpr ⟨aT _,Int.ofNat.inj⟩)|negSucc n=>exact(cA (λe=>nomatch e)).symm
 |negSucc m=>cases b with|negSucc n=>exact(d6 m n).trans (decide_eq_decide.mpr ⟨aT _,Int.negSucc.inj⟩)|ofNat n=>exact(cA (λe=>nomatch e)).symm
theorem aD.isEmpty(h:aD R z y):z.isEmpty=y.isEmpty:=by
 cases z<;>cases y<;>first|rfl|exact h.elim
theorem Px{n:Nat}(f:s.heap.SetOf (bW prog w) d S n)(j:(n:Int)<2 ^ 63)(h:Q (decide (n≠0)) { s with toks:=s.toks+1+1 }):aF (cw prog w) A (pq (.ref d)) Q E s:=by
 obtain⟨o,es,c,t,y,l,hd,_,_,_,i,g⟩:=ll.of f;have k:s.TypeIs (.ref d) "set":=⟨o,y,l.1⟩;have u:((es.size:Int) != 0)=decide (n≠0):=by rw[g];by_cases q:n=0<;>simp[q]
 have key:aF (cw prog w) A (runValue (.builtin "len" ⟨[.ref d],[]⟩)) (λr v=>r=.int es.size (s.toks+1)/\Q (decide (n≠0)) v) E s:=by
  refine ak2<|FO entry_len ?_;rw[NH plain_len _];exact il (wpAny_len_body_set (Q:=λr v=>r=.int es.size (s.toks+1)/\Q (decide<|n≠0) v) y l hd i (by omega) ⟨rfl,h⟩)
   (λx v p=>by obtain⟨r,rfl,m⟩:=p;exact m) λz z e=>e
 delta pq
 first
  |refine aI<|ak3 k noBool_set ?_
  |refine iw<|aI<|ak3 k noBool_set ?_
 first
  |refine aI<|Ai k F.slot_set_len.lookup ?_
  |refine iw<|aI<|Ai k F.slot_set_len.lookup ?_
 first
  |exact aI (il key (λr v p=>by obtain⟨rfl,m⟩:=p;exact bz<|u▸m) λz z e=>e)
  |exact iw (aI (il key (λr v p=>by obtain⟨rfl,m⟩:=p;exact bz<|u▸m) λz z e=>e))
theorem Py{K:cj}(z:K.In h.heap)(y:InstAt h.heap x u C t)(v:eE K (.ref C) "__bool__" = some none)(w:eE K (.ref C) "__len__" = some none)(q:Q true h):aF M A (pq (.ref x)) Q E h:=by
 delta pq;refine aI (m:=callSpecial? (.ref x) (k4 "__bool__")) (aI (aI (y.type.here ((NJ z v).here (bz ?_)))));refine aI (aI (y.type.here ((NJ z w).here ?_)));exact bz q
theorem xn c:(am c).length=(cps c).length:=rfl
theorem Pz c:(cps c).length=0↔c=0:=by
 cases c with|zero=>exact⟨λz=>rfl,λz=>rfl⟩|succ c=>delta cps;rw[pL];simp
section
variable {ρ:bu}{H:AH}{ls:Lo}{s:aU}{A:dH}{E:tY1}{Q:Bool->aU->Prop}
theorem PB(u:X.Ok)(z:ef X)(S:X.St ρ H ls s)(hd:H.get d=some (.dict es))(m:cb X.prog X.w ρ X.σ s.heap y (.inst C d))(q:Q true s):aF X.M A (pq (.ref y)) Q E s:=by
 obtain⟨x,v,g,l,t⟩:=m;have p:=z.cls C l t;obtain⟨o,⟨n,_,_,r,_⟩,_⟩:=fz S hd v;exact Py (u.inK.keeps S.keep) (⟨g,rfl,rfl,r⟩:InstAt s.heap y (v8 C x) C (some n)) p.bool p.len q
theorem Hw(l:aD (aE ρ X.σ) z y):(!y.toArray.isEmpty)=dk z:=by rw[BJ,l.isEmpty];simp
theorem Hx(v:X.Ok)(z:ef X)(S:X.St ρ H ls s)(p:(y == iI)=false)(t:cb X.prog X.w ρ X.σ s.heap y o)(h:wP H o=some b)(q:∀r,X.St ρ H ls r->Q b r):aF X.M A (pq (.ref y)) Q E s:=by
 cases o with
 |inst C d=>exact ba h λes hd h=>PB v z S (gy hd) t<|Option.some.inj h▸q _ S
 |dict es=>obtain⟨u,x,l,n⟩:=t;have:=l.length;exact wpAny_truthy_dict p x (by omega) (by rw[<-l.isEmpty,<-BJ,Option.some.inj h];exact q _<|S.toks _)
 |list es=>obtain⟨u,x,l,n⟩:=t;have:=l.length;exact wpAny_truthy_list x.isList (by simp;omega) (by rw[Hw l,Option.some.inj h];exact q _<|S.toks _)
 |tup es=>obtain⟨u,x,l,n⟩:=t;have:=l.length;exact ax2 x.isTup (by simp;omega) (by rw[Hw l,Option.some.inj h];exact q _<|S.toks _)
 |set es=>obtain⟨x,nd,n⟩:=t;refine Px x (by omega) ?_;rw[show decide (es.length≠0)=b by rw[<-Option.some.inj h,BJ];clear h x nd n;cases es<;>simp];exact q _<|S.toks _
 |_=>exact a6 h
theorem PC(h:J (Nat.ble (len (cps c)) 1000) (some (!(Nat.beq c 0))) none=some b)(q:Q b { s with toks:=s.toks+1+1 }):aF X.M A (pq (.str (am c) t)) Q E s:=
 lm h λy h=>by
  have x:=Nat.le_of_ble_eq_true y;rw[fL] at x;refine PySem.P.truthy_str (by rw[xn];omega) ?_;have e:(((am c).length:Int) != 0)=b:=by
   rw[<-Option.some.inj h,d6,xn];have w:=Pz c
   by_cases z:c=0
   .rw[z];rfl
   .have w:(cps c).length≠0:=λq=>z<|w.mp q;simp[z,w]
  rw[e];exact q
theorem xo(w:X.Ok)(x:ef X)(S:X.St ρ H ls s)(r:aE ρ X.σ a v)(h:nN H a=some b)(q:∀m,X.St ρ H ls m->Q b m):aF X.M A (pq v) Q E s:=by
 cases a with
 |none=>rw[show v=.none from r];exact ax3<|Option.some.inj h▸q _ S
 |bool c=>rw[show v=.bool c from r];exact ak4<|Option.some.inj h▸q _ S
 |int i=>refine mH r rfl λt=>ax4 ?_;rw[show(i != 0)=b by rw[<-Option.some.inj h,xm];by_cases e:i=0<;>simp[e]];exact q _ S
 |str c=>exact gW r rfl λt=>PC h<|q _<|S.toks _
 |ref j=>exact ba h λo z u=>je w S z r λy p n=>Hx w x S p n u q
 |glo j=>exact ba h λo z u=>je w S z r λy p n=>Hx w x S p n u q
 |_=>exact a6 h
end
end
open PySem PySem.W PySem.Calls PyProof.Rows PySem.SeqAt
section
variable {X:Fx}
def hY:au->au->Bool
 |.none,.none=>true
 |.bool a,.bool b=>a == b
 |.int a _,.int b _=>a == b
 |.str a _,.str b _=>a == b
 |_,_=>false
def BK:au->Bool
 |.none=>true
 |.bool _=>true
 |.int _ _=>true
 |.str _ _=>true
 |_=>false
def Hy:au->Bool
 |.bool _=>true
 |_=>false
def Hz:au->Bool
 |.int _ _=>true
 |_=>false
def rW(a b:au):Bool:=BK a && (BK b && (!(Hy a && Hz b) && !(Hz a && Hy b)))
@[elab_as_elim] theorem ud{v:au}(h:BK v=true){P:au->Prop}(n:P .none)(b:∀x,P (.bool x))(i:∀x t,P (.int x t))(s:∀x t,P (.str x t)):P v:=by
 cases v with|none=>exact n|bool x=>exact b x|int x t=>exact i x t|str x t=>exact s x t|_=>exact bg h
theorem BL(h:(a && b)=true):a=true/\b=true:=by
 cases a with|true=>exact⟨rfl,h⟩|false=>exact bg h
def Rc4(A:dH)(s:aU)(a b:au):Prop:=rW a b=true->RcAt A s a b (hY a b)/\re A s a b (hY a b)/\re A s b a (hY a b)/\RcNeAt A s a b (!(hY a b))
theorem PD:re A s (.bool y) (.bool x) (x == y):=Bool.beq_comm (a:=x)▸re.bool_bool _ _
theorem PF:re A s (.int y u) (.int x t) (x == y):=Bool.beq_comm (a:=x)▸re.int_int _ _ _ _
theorem PG:re A s (.str y u) (.str x t) (x == y):=Bool.beq_comm (a:=x)▸re.str_str _ _ _ _
theorem nY(h:rW a b=true):RcAt A s a b (hY a b)/\re A s a b (hY a b)/\re A s b a (hY a b)/\RcNeAt A s a b (!(hY a b)):=
 have y:=(BL (BL h).2).1
 ud (BL h).1
  (ud y (λz=>⟨.none_none,.same _,.same _,.none_none⟩) (λz z=>⟨.none_bool _,.none_bool _,.bool_none _,.none_bool _⟩)
   (λz z z=>⟨.none_int _ _,.none_int _ _,.int_none _ _,.none_int _ _⟩) λz z z=>⟨.none_str _ _,.none_str _ _,.str_none _ _,.none_str _ _⟩)
  (λx=>ud y (λz=>⟨.bool_none _,.bool_none _,.none_bool _,.bool_none _⟩) (λz z=>⟨.bool_bool _ _,.bool_bool _ _,PD,.bool_bool _ _⟩)
   (λz z h=>bg h) λz z z=>⟨.bool_str _ _ _,.bool_str _ _ _,.str_bool _ _ _,.bool_str _ _ _⟩)
  (λx t=>ud y (λz=>⟨.int_none _ _,.int_none _ _,.none_int _ _,.int_none _ _⟩) (λz h=>bg h)
   (λz z z=>⟨.int_int _ _ _ _,.int_int _ _ _ _,PF,.int_int _ _ _ _⟩) λz z z=>⟨.int_str _ _ _ _,.int_str _ _ _ _,.str_int _ _ _ _,.int_str _ _ _ _⟩)
  (λx t=>ud y (λz=>⟨.str_none _ _,.str_none _ _,.none_str _ _,.str_none _ _⟩) (λz z=>⟨.str_bool _ _ _,.str_bool _ _ _,.bool_str _ _ _,.str_bool _ _ _⟩)
   (λz z z=>⟨.str_int _ _ _ _,.str_int _ _ _ _,.int_str _ _ _ _,.str_int _ _ _ _⟩) λz z z=>⟨.str_str _ _ _ _,.str_str _ _ _ _,PG,.str_str _ _ _ _⟩) h
theorem dh l x:a5 l x=decide (x∈l):=by
 induction l with|nil=>rfl|cons k l z=>
  show J (Nat.beq k x) true (a5 l x)=_;rw[d6,z]
  by_cases h:k=x
  .rw[bR h];exact(bR<|List.mem_cons.mpr<|.inl h.symm).symm
  .rw[cA h];exact decide_eq_decide.mpr ⟨.tail _,λq=>(List.mem_cons.mp q).elim (λe=>aP e.symm h) id⟩
theorem HA(x y):(am x == am y)=Nat.beq x y:=by
 rw[d6]
 by_cases h:x=y
 .subst h;rw[bR rfl];exact beq_self_eq_true _
 .rw[cA h];exact beq_eq_false_iff_ne.mpr<|mF h
theorem rX(r:aE z X.σ a v)(h:A7 a=some k){P:KV->au->Prop}(n:P .n .none)(b:∀x,P (.b x) (.bool x))(i:∀x t,P (.i x) (.int x t))(s:∀x t,P (.s x) (.str (am x) t))(m:∀j x t,P (.a j x) (.int (X.σ.va j x) t)):P k v:=by
 cases a with
 |none=>cases h;cases r;exact n
 |bool x=>cases h;cases r;exact b x
 |int x=>cases h;obtain⟨t,rfl⟩:=r;exact i x t
 |str x=>cases h;obtain⟨t,rfl⟩:=r;exact s x t
 |atm j x=>cases h;obtain⟨t,rfl⟩:=r;exact m j x t
 |_=>exact a6 h
theorem PH(z:X.Ok)(h:J (Nat.beq k l) (some (Nat.beq x y)) none=some c):(X.σ.va k x == X.σ.va l y)=c:=by
 rw[d6] at h
 by_cases e:k=l
 .subst e;rw[bR rfl] at h;have h:=Option.some.inj h;rw[h.symm,d6]
  by_cases e:x=y
  .subst e;rw[bR rfl];exact beq_self_eq_true _
  .rw[cA e];exact beq_eq_false_iff_ne.mpr λq=>e<|z.inj k x y q
 .rw[cA e] at h;exact a6 h
def rY(c:Bool)(x y:KV)(va z:au):Prop:=GB x y=some c->rW va z=true/\hY va z=c
theorem jR(v:X.Ok)(h:tT a b=some c)(m:aE o X.σ a va)(p:aE o X.σ b r):rW va r=true/\hY va r=c:=by
 refine ba h λx w h=>?_;refine ba h λy q h=>?_;exact rX m w (P:=λx va=>rY c x y va r)
  (rX p q (P:=λy r=>rY c .n y .none r) (λh=>⟨rfl,Option.some.inj h⟩) (λz h=>⟨rfl,Option.some.inj h⟩) (λz z h=>⟨rfl,Option.some.inj h⟩) (λz z h=>⟨rfl,Option.some.inj h⟩) λz z z h=>a6 h)
  (λu=>rX p q (P:=λy r=>rY c (.b u) y (.bool u) r) (λh=>⟨rfl,Option.some.inj h⟩) (λz h=>⟨rfl,Option.some.inj h⟩) (λz z h=>a6 h) (λz z h=>a6 h) λz z z h=>a6 h)
  (λu t=>rX p q (P:=λy r=>rY c (.i u) y (.int u t) r) (λh=>⟨rfl,Option.some.inj h⟩) (λz h=>a6 h) (λz z h=>⟨rfl,(xm _ _).symm.trans<|Option.some.inj h⟩) (λz z h=>⟨rfl,Option.some.inj h⟩) λz z z h=>a6 h)
  (λu t=>rX p q (P:=λy r=>rY c (.s u) y (.str (am u) t) r) (λh=>⟨rfl,Option.some.inj h⟩) (λz h=>a6 h) (λz z h=>⟨rfl,Option.some.inj h⟩) (λz z h=>⟨rfl,(HA _ _).trans<|Option.some.inj h⟩) λz z z h=>a6 h)
  (λk n t=>rX p q (P:=λy r=>rY c (.a k n) y (.int (X.σ.va k n) t) r) (λh=>⟨rfl,Option.some.inj h⟩) (λz h=>a6 h) (λz z h=>a6 h) (λz z h=>a6 h) λz z z h=>⟨rfl,PH v h⟩) h
theorem BM(z:X.Ok)(h:pH a b=some c)(v:aE o X.σ a va)(w:aE o X.σ b r):rW va r=true/\hY va r=c:=by
 cases a with|none=>exact jR (a:=.none) z h v w|bool x=>exact jR (a:=.bool x) z h v w|int x=>exact jR (a:=.int x) (b:=b) z h v w|str x=>exact jR (a:=.str x) (b:=b) z h v w|ref x=>exact jR (a:=.ref x) (b:=b) z h v w|glo x=>exact jR (a:=.glo x) (b:=b) z h v w|bi x=>exact jR (a:=.bi x) (b:=b) z h v w|atm x y=>exact jR (a:=.atm x y) (b:=b) z h v w|unk=>exact jR (a:=.unk) (b:=b) z h v w|gla k=>exact jR (a:=.gla k) (b:=b) z h v w|one p=>
  obtain⟨d,hd,t,rfl⟩:=v;cases b with
  |none=>cases w;injection h with h;subst h;exact⟨rfl,rfl⟩
  |str y=>
   obtain⟨u,rfl⟩:=w;have s:J (a5 p y) none (some false)=some c:=h;rw[dh] at s
   by_cases e:y∈p
   .rw[bR e] at s;exact a6 s
   .rw[cA e] at s;have s:some false=some c:=s;injection s with s
    clear h;subst s;refine⟨rfl,?_⟩;show(am d == am y)=false;rw[HA,d6];exact cA λq=>e<|q▸hd
  |_=>cases h
end
section
theorem PI:entryFor table "set.__ne__" = some Builtin.«frozenset.__ne__»:=
 entryFor_alias (id':="frozenset.__ne__") (by kernel_rfl) rfl (by decide +kernel) (by kernel_rfl)
section
variable {prog:dY}{w:dZ}{A:dH}{E:tY1}{s:aU}{a b:bI}{S T:Str->Bool}{n m:Nat}
theorem PJ(z:s.TypeIs (.ref a) "set")(h:Q true s):aF (cw prog w) A (NK (.ref a)) Q E s:=by
 refine aI<|tz z sub_set_self ?_;exact bz h
theorem PK(y:∃k,q9 k e=true)(h:Q true s):aF (cw prog w) A (ax5 e) Q E s:=by
 obtain⟨k,z⟩:=y;obtain⟨t,rfl⟩:=FK z;exact bz h
theorem PL(q:s.heap.get? a=some d)(p:d.data=.set es R t)(f:t.fits es.size=true)(u:s.heap.get? b=some ob)(o:ob.data=.set y g i)(r:i.fits y.size=true)(z:∀e∈es.toList++y.toList,∃k,q9 k e.2=true)(h:Q es.toList s):aF (cw prog w) A (ax6 a b) Q E s:=by
 refine aI<|wc q p f<|aI<|wc u o r ?_;refine aI<|FP _ (λl c v=>c=(none,())/\v=s/\∀e∈l,∃k,q9 k e.2=true) _ ?_ ?_ _ _ ⟨rfl,rfl,z⟩
 .rintro x j c v ⟨e1,e2,z⟩;rw[e2];exact aI<|PK (z _<|.head _)<|bz ⟨rfl,rfl,λe Z=>z e<|.tail _ Z⟩
 .rintro c v ⟨e1,e2,-⟩;rw[e1,e2];exact bz h
theorem PM{j:List (Int×au)}(P:∀x c,f x c=(wd [x.2] (setFind b x.2 x.1) >>= λq=>if q.isNone=true then pure (.done (some false,())) else u >>= λ_=>pure (.yield (none,()))))(H:∀Q:Unit->aU->Prop,Q () s->aF (cw prog w) A u Q E s)(Z:s.heap.SetOf (bW prog w) b T m)(y:∀e∈j,∃k,q9 k e.2=true/\e.1=hashStr w k)(v:r=true↔∀e∈j,∀k,q9 k e.2=true->T k=true)(h:Q (J r none (some false),()) s):aF (cw prog w) A (forIn j (none,()) f) Q E s:=by
 refine FP _ (λl c z=>c=(none,())/\z=s/\(∀e∈l,∃k,q9 k e.2=true/\e.1=hashStr w k)/\(r=true↔∀e∈l,∀k,q9 k e.2=true->T k=true)) _ ?_ ?_ _ _ ⟨rfl,rfl,y,v⟩
 .rintro x g c d ⟨e1,e2,y,v⟩;obtain⟨k,o,N⟩:=y _<|.head _;rw[P,e2,N];refine aI (gq (wpAny_setFind_of (knd:=bW prog w) o (by obtain⟨t,e⟩:=FK o;rw[e];rfl) Z λq i=>?_));cases q with
  |none=>
   refine bz ?_;have n:r=false:=by
    cases r with|false=>rfl|true=>exact bg<|i.trans<|v.mp rfl _ (.head _) k o
   rw[n] at h;exact h
  |some q=>
   refine aI<|H _<|bz ⟨rfl,rfl,λe he=>y e<|.tail _ he,v.trans ⟨λq e he=>q e<|.tail _ he,λq e he R p=>?_⟩⟩;rcases List.mem_cons.mp he with rfl|he
   .rw[au.isStrOf_inj _ _ _ p o];exact i.symm
   .exact q e he R p
 .rintro c d ⟨e1,e2,-,v⟩;rw[e1,e2];have n:r=true:=v.mpr λe he=>nomatch he
  rw[n] at h;exact h
theorem PN{id:String}(ha:s.heap.SetOf (bW prog w) a S n)(c:s.heap.SetOf (bW prog w) b T m)(hn:n<=m)(hr:r=true↔∀k,S k=true->T k=true)(h:Q r s):aF (cw prog w) A (ax7 id a b) Q E s:=by
 have F:=c;obtain⟨oa,es,ep,t,y,Z,x,z,u,P,d,H⟩:=ll.of ha;obtain⟨ob,N,ep',t',l,C,f,i,p,g,j,o⟩:=ll.of c;clear ha c Z C P g p;refine aI<|aI<|wc y x d<|bz<|aI<|aI<|wc l f j<|bz<|pR ((lin [n,m,es.size,N.size] 0x94a4f60c8e111c11b441) hn H o) ?_;refine aI (ak5 y x d (aI (PL y x d l f j (λe v=>?_) (aI (PM (r:=r) (λ_ _=>rfl) (λQ h=>aI (ak5 y x d (pR (by rw[bne_self_eq_false];exact Bool.noConfusion)<|bz h))) F (λe v=>?_) ?_ ?_)))))
 .exact(List.mem_append.mp v).elim (λv=>(z e v).1.imp λ_ h=>h.1) λv=>(i e v).1.imp λ_ h=>h.1
 .exact(z e v).1
 .rw[hr];exact⟨λq e v k R=>q k<|(u k).mpr ⟨e,v,R⟩,λq k R=>((u k).mp R).elim λe h=>q e h.1 k h.2⟩
 .cases r<;>exact bz h
theorem PO(H:s.heap.SetOf (bW prog w) a S n)(R:s.heap.SetOf (bW prog w) b T m)(hu:A.units<gp)(hr:n=m->(r=true↔∀k,S k=true->T k=true))(h:Q (.bool (!(decide (n=m) && r))) s):aF (cw prog w) A (NL .NotEq (.ref a) (.ref b)) Q E s:=by
 obtain⟨oa,es,ep,t,j,i,d,z,C,hsb,hf,l⟩:=ll.of H;obtain⟨ob,o,ep',t',p,c,Z,P,f,N,g,y⟩:=ll.of R;have v:s.TypeIs (.ref a) "set":=⟨oa,j,i.1⟩;have u:s.TypeIs (.ref b) "set":=⟨ob,p,c.1⟩;refine wpAny_richCompare_same_room (op:=.NotEq) v u ak6 (Aj ak6 v PI ?_ (PySem.F.args_set_ne_2 _ _)) hu;show aF _ _ (NK (.ref b) >>= _) _ _ s;refine aI (PJ u ?_);show aF _ _ ((setEntries a >>= _) >>= _) _ _ s;refine aI (aI (wc j d hf (bz ?_)));refine aI (aI (wc p Z g (bz ?_)))
 by_cases e:n=m
 .rw[aq (λq=>(bne_iff_ne.mp q)<|(lin [es.size,n,o.size,m] 0x4a5270c2e209c41b841) l y e)];refine aI ?_;refine aI<|aI<|tz v PySem.F.sub_set_frozenset<|bz ?_;refine PN H R ((lin [n,m] 19765704769) e) (hr e) ?_;exact bz ⟨_,rfl,⟨(λx=>nomatch x),by simpa [e] using h⟩⟩
 .rw[aw<|bne_iff_ne.mpr<|(lin [es.size,n,o.size,m] 0x12949ee185ee209c41b841) l y e];exact iw (bz ⟨_,rfl,⟨(λx=>nomatch x),by simpa [e] using h⟩⟩)
end
section
theorem PP l es n u y:Meets (Builtin.«dict.__eq__» ⟨[.ref l,.none],[]⟩) (λz R s=>s.heap.get? l=some { cls:=.type "dict",dict:=u,data:=.dict es n,slots:=y }/\R (.ok (.ret .notImplemented)) s):=
 .of_wp λprog w A R s h=>by obtain⟨x,h⟩:=h;have v:s.TypeIs (.ref l) "dict":=⟨_,x,rfl⟩;refine aI ?_;refine aI (wpAny_notOrdered_dict v ?_);refine bz ?_;refine aI (tz rfl (b:=false) (by rw[we];kernel_rfl) ?_);exact aI (wpAny_rule (bz ⟨_,rfl,h⟩))
theorem PQ(v:s.heap.DictOf (bW prog w) l o)(g:A.units<gp):RcAt A s .none (.ref l) false:=λprog w E Q h=>by
 obtain⟨⟨cls,i,t,j⟩,es,k,y,x,hd,_⟩:=v;obtain⟨p,r,q⟩:=x;have p:cls=_:=p;have hd:t=_:=hd;clear r q;subst p hd;exact rc_eq_decline_or rfl ⟨_,y,rfl⟩ (by decide) (by rw[we];kernel_rfl) ak7 ak8
  (λz u=>call_gives ak7 rfl PySem.F.entry_NoneType_eq (PySem.F.args_NoneType_eq_2 _ _) (NoneType___eq___none_ref_0 l) u)
  (λz u=>Ak ak8 ⟨_,y,rfl⟩ PySem.F.entry_dict_eq (PySem.F.args_dict_eq_2 _ _) (PP l es k i j) ⟨y,u⟩)
  (λz u=>Al rfl u) (.inr g) h
end
variable {X:Fx}
theorem PR(l r:List Nat):hV r l=true↔∀x∈r,x∈l:=by
 induction r with
 |nil=>exact⟨λz z h=>(nomatch h),λz=>rfl⟩
 |cons k r v=>
  show J (a5 l k) (hV r l) false=true↔_;rw[dh]
  by_cases h:k∈l
  .rw[bR h];rw[v];exact⟨λq x y=>(List.mem_cons.mp y).elim (λe=>e▸h)<|q x,λq x y=>q x<|.tail _ y⟩
  .rw[cA h];exact⟨λq=>(nomatch q),λq=>aP (q k<|.head _) h⟩
theorem PS(k:X.Ok):∀{o:tY0}{t i:List au}{c:Bool},A9 l o=some c->aD (aE Q X.σ) l t->aD (aE Q X.σ) o i->l.length=o.length->
  ∃e:Nat->Bool,(∀j g(f:j<i.length),re A s t[j] i[j] (e j))/\(List.range t.length).all e=c:=by
 induction l with
 |nil=>
  intro o t i c h g f Z;cases t with|cons _ _=>exact g.elim|nil=>exact⟨λz=>true,λj h=>aP h<|Nat.not_lt_zero j,Option.some.inj h⟩
 |cons x l C=>
  intro o t i c h g f Z;cases o with|nil=>exact a6 h|cons y o=>
   cases t with|nil=>exact g.elim|cons v t=>
    cases i with|nil=>exact f.elim|cons u i=>
     refine ba h λb d h=>ba h λr P h=>?_;obtain⟨p,q⟩:=jR k d g.1 f.1;obtain⟨e,H,F⟩:=C P g.2 f.2<|Nat.succ.inj Z;refine⟨λj=>match j with|0=>b|j+1=>e j,λj R N=>?_,?_⟩
     .cases j with|zero=>exact q▸(nY p).2.1|succ j=>exact H j (Nat.lt_of_succ_lt_succ R)<|Nat.lt_of_succ_lt_succ N
     .rw[List.length_cons,List.range_succ_eq_map,List.all_cons,List.all_map];have w:(List.range t.length).all ((λj=>match j with|0=>b|j+1=>e j)∘Nat.succ)=r:=F
      rw[w,<-Option.some.inj h];clear d q;cases b<;>rfl
theorem PT(x:X.Ok)(g:aD (fx e X.σ) es j):∀{u:List (Str×au)}{c:Bool},wQ es z=some c->aD (fx e X.σ) z u->KeqHits A s j u c:=by
 induction z with
 |nil=>
  intro u c h l;cases u with|cons _ _=>exact l.elim|nil=>exact Option.some.inj h▸.nil
 |cons p z P=>
  intro u c h l;cases u with|nil=>exact l.elim|cons q u=>
   obtain⟨k,v⟩:=q;obtain⟨⟨f,Q⟩,i⟩:=l;rw[show k=am p.1 from f];have o:=nV p.1 g;have h:ad (ae es p.1) (some false) (λw=>ad (tT p.2 w) none λb=>ad (wQ es z) none λr=>some<|J b r false)=some c:=h;cases hl:ae es p.1 with
   |none=>
    rw[hl] at h o;exact Option.some.inj h▸.miss (Option.not_isSome_iff_eq_none.mp λq=>by
     cases hq:cQ j (am p.1) with|none=>rw[hq] at q;exact bg q|some y=>rw[hq] at o;exact o.elim)
   |some w=>rw[hl] at h o;obtain⟨y,d,R⟩:=mJ o;refine ba h λb t h=>ba h λr Z h=>?_;obtain⟨N,q⟩:=jR x t Q R;rw[show c=(b && r) by rw[(Option.some.inj h).symm];clear t q;cases b<;>rfl];exact .hit d (q▸(nY N).2.1)<|P Z i
theorem HB(k:X.Ok)(R:aE d X.σ x g):∀{t:List au}{c:Bool},A8 l x=some c->aD (aE d X.σ) l t->(∀y∈t,rW g y=true)/\t.any (λy=>hY g y)=c:=by
 induction l with
 |nil=>
  intro t c h j;cases t with|cons _ _=>exact j.elim|nil=>exact⟨λu h=>(nomatch h),Option.some.inj h⟩
 |cons y l Q=>
  intro t c h j;cases t with|nil=>exact j.elim|cons v t=>refine ba h λb i h=>ba h λr Z h=>?_;obtain⟨p,q⟩:=BM k i R j.1;obtain⟨o,P⟩:=Q Z j.2;refine⟨λz f=>(List.mem_cons.mp f).elim (λe=>e▸p)<|o z,?_⟩;rw[List.any_cons,q,P,<-Option.some.inj h];clear i q;cases b<;>rfl
end
section
variable {X:Fx}
theorem au3(r:aE ρ X.σ .none v):v=.none:=r
theorem HC(l:aD (fx ρ y) es z):z.length=len es:=by rw[fL];exact l.length.symm
theorem HD(c:Nat)(l:aD (fx ρ x) es y):(cQ y (am c)).isSome=ad (ae es c) false (λz=>true):=by
 have w:=nV c l;cases h:ae es c<;>cases h':cQ y (am c)<;>rw[h,h'] at w<;>first|rfl|exact w.elim
theorem mK(c:Nat)(t:Tok):(bW X.prog X.w).is (am c) (.str (am c) t)=true:=beq_self_eq_true _
theorem HE(l:∀c x,ae es c=some x->dD ρ q x (cQ y (am c)))(m:∀p∈y,∃c x,ae es c=some x/\p.1=am c)(k:Nat):dD ρ q (ad (ae es k) none λo=>o) (cQ y (am k)):=by
 cases hl:ae es k with|some x=>exact l k x hl|none=>
  cases hv:cQ y (am k) with|none=>trivial|some v=>delta cQ at hv;obtain⟨p,z,_⟩:=Option.map_eq_some_iff.mp hv;have r:=List.mem_of_find?_eq_some z;have t:=List.find?_some z;obtain⟨n,x,w,u⟩:=m p r;have s:p.1=am k:=br t;rw[u] at s;rw[iT s,hl] at w;cases w
theorem BN(h:dD ρ z a v):v.isSome=a.isSome:=by
 cases a with
 |none=>cases v with|none=>rfl|some _=>exact h.elim
 |some _=>cases v with|none=>exact h.elim|some _=>rfl
theorem PU(l:∀c x,ae es c=some x->dD ρ w x (cQ y (am c)))(m:∀p∈y,∃c x,ae es c=some x/\p.1=am c)(k:Nat):(cQ y (am k)).isSome=ad (ae es k) false λo=>ad o false λz=>true:=by
 rw[BN<|HE l m k];cases ae es k with|none=>rfl|some o=>cases o<;>rfl
def ix(X:Fx)(A:dH)(ρ:bu)(H:AH)(ls:Lo)(s:aU)(y:q8)(va x:au)(c:Bool):Prop:=∀(E Q:tY1),(∀z,X.St ρ H ls z->Q (.bool c) z)->aF X.M A (NL y va x) Q E s
def xp(X:Fx)(A:dH)(ρ:bu)(H:AH)(ls:Lo)(s:aU)(va z:au)(c:Bool):Prop:=ix X A ρ H ls s .In va z c/\ix X A ρ H ls s .NotIn va z (!c)
section
variable {ρ:bu}{H:AH}{ls:Lo}{s:aU}{A:dH}
theorem HF(S:X.St ρ H ls s)(u:(y == iI)=false)(x:s.heap.MapOf (bW X.prog X.w) y (cQ v)):xp X A ρ H ls s (.str (am k) t) (.ref y) (cQ v (am k)).isSome:=
 ⟨λz z q=>wpAny_in_of (mK k t) u x<|q _<|S.toks _,λz z q=>wpAny_notIn_of (mK k t) u x<|q _<|S.toks _⟩
theorem HG(n:X.Ok)(S:X.St ρ H ls s)(i:aE ρ X.σ a va)(j:(y == iI)=false)(r:cb X.prog X.w ρ X.σ s.heap y o)(h:rH a o=some c):xp X A ρ H ls s va (.ref y) c:=by
 cases o with
 |dict es=>obtain⟨f,u,l,_⟩:=r;exact ba h λk g h=>gW i g λt=>(HD k l).trans (Option.some.inj h)▸HF S j u.mapOf
 |umap es=>obtain⟨f,u,_,l,m⟩:=r;exact ba h λk g h=>gW i g λt=>(PU l m k).trans (Option.some.inj h)▸HF S j u.mapOf
 |list x=>obtain⟨v,L,l,_⟩:=r;obtain⟨p,q⟩:=HB n i h l;rw[q.symm,<-List.any_toArray];exact⟨λz z q=>in_listAt (λy=>hY va y) L.isList (λy j=>(nY<|p y<|List.mem_toArray.mp j).2.2.1)<|q _ S,λz z q=>notIn_listAt (λy=>hY va y) L.isList (λy j=>(nY<|p y<|List.mem_toArray.mp j).2.2.1)<|q _ S⟩
 |tup x=>obtain⟨v,L,l,_⟩:=r;obtain⟨p,q⟩:=HB n i h l;rw[q.symm,<-List.any_toArray];exact⟨λz z q=>in_tupleAt (λy=>hY va y) L.isTup (λy j=>(nY<|p y<|List.mem_toArray.mp j).2.2.1)<|q _ S,λz z q=>notIn_tupleAt (λy=>hY va y) L.isTup (λy j=>(nY<|p y<|List.mem_toArray.mp j).2.2.1)<|q _ S⟩
 |set x=>
  refine ba h λk g h=>gW i g λt=>?_;obtain⟨u,nd,_⟩:=r;have e:decide (∃c,c∈x/\am k=am c)=c:=by rw[(Option.some.inj h).symm,dh,decide_eq_decide];exact⟨λ⟨c,d,e⟩=>iT e▸d,λh=>⟨k,h,rfl⟩⟩
  rw[e.symm];exact⟨λz z q=>wpAny_inSet_of (mK k t) rfl u<|q _<|S.toks _,λz z q=>wpAny_notInSet_of (mK k t) rfl u<|q _<|S.toks _⟩
 |_=>exact a6 h
theorem PW(S:X.St ρ H ls s)(h:Bc (cps p) (cps k)=some c):xp X A ρ H ls s (.str (am p) u) (.str (am k) t) c:=by
 have x:∀l,cps p=l->Bc l (cps k)=some c->(!(FQ (am k) (am p) 0 (am k).length 1).isEmpty)=c:=by
  intro l y h;cases l with|nil=>exact a6 h|cons d r=>
   cases r with|cons _ _=>exact a6 h|nil=>rw[show am p=⟨#[d]⟩ by delta am;rw[y],StrLaws.found_one,<-Option.some.inj h,dh];rfl
 rw[(x _ rfl h).symm];exact⟨λz z q=>ax8<|q _ S,λz z q=>ax9<|q _ S⟩
theorem HH(w:X.Ok)(S:X.St ρ H ls s)(i:aE ρ X.σ a va)(l:aE ρ X.σ b n)(h:Bd H a b=some c):xp X A ρ H ls s va n c:=by
 cases b with|str k=>exact ba h λp x h=>gW i x λu=>gW l rfl λt=>PW S h|ref j=>exact ba h λo z q=>je (v:=.ref j) (v':=n) w S z l λy m r=>HG w S i m r q|glo j=>exact ba h λo z q=>je (v:=.glo j) (v':=n) w S z l λy m r=>HG w S i m r q|_=>exact a6 h
end
theorem au4(h:wT o=some c):o=some (!c):=by
 cases o with|none=>cases h|some b=>injection h with h;subst h;rw[Bool.not_not]
theorem HI(m n:Nat):Nat.blt m n=decide (m<n):=by
 cases q:Nat.blt m n with
 |true=>exact(bR<|Nat.le_of_ble_eq_true q).symm
 |false=>exact(cA λh=>Bool.false_ne_true<|q.symm.trans<|Nat.ble_eq_true_of_le h).symm
theorem BP(a b:Int):k_ a b=decide (a<b):=by
 cases a with
 |ofNat m=>cases b with|ofNat n=>exact(HI m n).trans (decide_eq_decide.mpr Int.ofNat_lt.symm)|negSucc n=>exact(cA λh=>Int.lt_irrefl _<|Int.lt_of_lt_of_le (Int.lt_trans h<|Int.negSucc_lt_zero n)<|Int.ofNat_nonneg m).symm
 |negSucc m=>cases b with
  |ofNat n=>exact(bR<|Int.lt_of_lt_of_le (Int.negSucc_lt_zero m)<|Int.ofNat_nonneg n).symm
  |negSucc n=>exact(HI n m).trans (decide_eq_decide.mpr<|by omega)
@[elab_as_elim] theorem BQ{ρ:bu}{f:Int->Int->Bool}{a b:AV}{P:au->au->Bool->Prop}{va w:au}{c:Bool}(h:wU f a b=some c)(q:aE ρ X.σ a va)(r:aE ρ X.σ b w)(g:∀x t y u,P (.int x t) (.int y u) (f x y)):P va w c:=
 ba h λx z h=>ba h λy v h=>Option.some.inj h▸mH q z λt=>mH r v λu=>g x t y u
theorem HJ(h:wR a b=some c)(z:aE ρ X.σ a va)(w:aE ρ X.σ b y):y=.none/\plainIs va .none=true/\(va == ak9)=c:=by
 have x:∀o,o=some c->o=wR a .none->plainIs va .none=true/\(va == ak9)=c:=by
  intro o h e;subst e;cases a with
  |none=>cases z;exact⟨rfl,Option.some.inj h⟩
  |bool b=>cases z;exact⟨rfl,Option.some.inj h⟩
  |int b=>obtain⟨t,rfl⟩:=z;exact⟨rfl,Option.some.inj h⟩
  |str b=>obtain⟨t,rfl⟩:=z;exact⟨rfl,Option.some.inj h⟩
  |ref b=>obtain⟨t,_,rfl⟩:=z;exact⟨rfl,Option.some.inj h⟩
  |glo b=>cases z;exact⟨rfl,Option.some.inj h⟩
  |bi b=>exact a6 h
  |one b=>obtain⟨c,_,t,rfl⟩:=z;exact⟨rfl,Option.some.inj h⟩
  |atm k n=>obtain⟨t,rfl⟩:=z;exact⟨rfl,Option.some.inj h⟩
  |unk=>exact a6 h
  |gla k=>cases z;exact⟨rfl,Option.some.inj h⟩
 cases b with|none=>exact⟨w,x _ h rfl⟩|_=>exact a6 h
section
variable {ρ:bu}{H:AH}{ls:Lo}{s:aU}{A:dH}
theorem PY(p:X.Ok)(m:A.units<gp)(S:X.St ρ H ls s)(i:(v == iI)=false)(n:(w == iI)=false)(d:cb X.prog X.w ρ X.σ s.heap v x)(b:cb X.prog X.w ρ X.σ s.heap w y)(h:GD x y=some c):ix X A ρ H ls s .Eq (.ref v) (.ref w) c:=by
 have a:∀{u t:iJ},J (Nat.beq (len u)<|len t) (wQ t u) (some false)=some c->cb X.prog X.w ρ X.σ s.heap v (.dict u)->cb X.prog X.w ρ X.σ s.heap w (.dict t)->ix X A ρ H ls s .Eq (.ref v) (.ref w) c:=by
  rintro u t h ⟨Z,j,l,_⟩ ⟨R,o,k,_⟩ E Q q;have g:=HC l;have f:=HC k;rw[d6] at h
  by_cases e:len u=len t
  .rw[bR e] at h;refine keq_eq (r:=c) i n j o m (λz=>PT p k h l) ?_;rw[g,f,e,beq_self_eq_true,Bool.true_and];exact q _ S
  .rw[cA e] at h;refine keq_eq (r:=false) i n j o m (λq=>aP q<|by rw[g,f];exact e) ?_;rw[Bool.and_false,Option.some.inj h];exact q _ S
 cases x with
 |dict u=>
  cases y with|dict t=>exact a h d b|_=>exact a6 h
 |_=>exact a6 h
theorem PZ(x:X.Ok)(p:A.units<gp)(S:X.St ρ H ls s)(b:cb X.prog X.w ρ X.σ s.heap v (.list z))(a:cb X.prog X.w ρ X.σ s.heap w (.list y))(h:GC z y=some c):ix X A ρ H ls s .NotEq (.ref v) (.ref w) (!c):=by
 obtain⟨u,r,o,_⟩:=b;obtain⟨k,t,n,_⟩:=a;have r:=r.isList;have t:=t.isList;have h:J (Nat.beq (len z)<|len y) (A9 z y) (some false)=some c:=h;have m:=o.length;have l:=n.length;rw[d6,fL,fL] at h;intro E Q q
 by_cases e:z.length=y.length
 .rw[bR e] at h;obtain⟨f,d,Z⟩:=PS x (A:=A.in1) (s:=s) h o n e;refine NN (RcNeAt.lists (e:=f) r t (by simp;exact(lin [z.length,u.length,y.length,k.length] 0x4a527104e185c41b841) m l e) p λj g i=>by simpa using d j (by simpa using g) (by simpa using i)) ?_;rw[show u.toArray.size=u.length by simp,Z];exact q _ S
 .rw[cA e] at h;refine NN (RcNeAt.lists_lengths r t (by simp;exact(lin [z.length,u.length,y.length,k.length] 0x12949ee209ee185c41b841) m l e) p) ?_;have h:false=c:=Option.some.inj h;rw[<-h] at q;exact q _ S
theorem P0(n:A.units<gp)(S:X.St ρ H ls s)(m:cb X.prog X.w ρ X.σ s.heap v (.set y))(l:cb X.prog X.w ρ X.σ s.heap w (.set u)):ix X A ρ H ls s .NotEq (.ref v) (.ref w) (!(J (Nat.beq (len y) (len u)) (hV y u) false)):=by
 obtain⟨i,j,_⟩:=m;obtain⟨p,h,_⟩:=l;intro E Q q;rw[d6,fL,fL] at q;refine PO i p (r:=hV y u) n (λz=>?_) ?_
 .rw[PR];refine⟨λq k o=>?_,λq x t=>?_⟩
  .obtain⟨d,hd,rfl⟩:=br o;exact bR ⟨d,q d hd,rfl⟩
  .obtain⟨d,hd,e⟩:=br<|q (am x)<|bR ⟨x,t,rfl⟩;exact iT e▸hd
 .rw[show(decide (y.length=u.length) && hV y u)=J (decide<|y.length=u.length) (hV y u) false by cases decide (y.length=u.length)<;>rfl];exact q _ S
theorem P1(t:X.Ok)(r:A.units<gp)(S:X.St ρ H ls s)(q:cb X.prog X.w ρ X.σ s.heap v x)(p:cb X.prog X.w ρ X.σ s.heap w y)(h:GE x y=some c):ix X A ρ H ls s .NotEq (.ref v) (.ref w) (!c):=by
 cases x with
 |list u=>
  cases y with|list z=>exact PZ t r S q p h|_=>exact a6 h
 |set u=>
  cases y with|set z=>exact Option.some.inj h▸P0 r S q p|_=>exact a6 h
 |_=>exact a6 h
theorem HK(u:X.Ok)(S:X.St ρ H ls s){P:au->au->Prop}(n:aE ρ X.σ a va)(o:aE ρ X.σ b p)(h:A_ f H a b=some c)(g:∀v w x y,(v == iI)=false->(w == iI)=false->cb X.prog X.w ρ X.σ s.heap v x->cb X.prog X.w ρ X.σ s.heap w y->f x y=some c->P (.ref v) (.ref w)):P va p:=
 ba h λx z h=>ba h λy q h=>je u S z n λv r m=>je u S q o λw t l=>g v w x y r t m l h
theorem P2(v:X.Ok)(r:A.units<gp)(S:X.St ρ H ls s)(t:aE ρ X.σ b u)(h:GF H b=some c):ix X A ρ H ls s .Eq .none u c:=
 ba h λo y h=>je v S y t λw z n=>by
  cases o with
  |dict x=>obtain⟨m,p,l,_⟩:=n;exact λz z q=>al1 (PQ p r) (by rw[Option.some.inj h];exact q _ S)
  |_=>exact a6 h
theorem HL(y:X.Ok)(S:X.St ρ H ls s)(v:aE ρ X.σ a va)(w:aE ρ X.σ b x)(h:pH a b=some c):ix X A ρ H ls s .Eq va x c:=λz z q=>(BM y h v w).elim λp e=>al1 (nY p).1 (by rw[e];exact q _ S)
theorem P3(y:X.Ok)(S:X.St ρ H ls s)(v:aE ρ X.σ a va)(w:aE ρ X.σ b x)(h:pH a b=some c):ix X A ρ H ls s .NotEq va x (!c):=λz z q=>(BM y h v w).elim λp e=>NN (nY p).2.2.2 (by rw[e];exact q _ S)
theorem P4(z:aE ρ X.σ a va)(h:isNone a=true):va=.none:=by
 cases a with|none=>exact z|_=>exact bg h
theorem P5(z:X.Ok)(n:A.units<gp)(S:X.St ρ H ls s)(t:aE ρ X.σ a va)(u:aE ρ X.σ b o)(h:Ba H a b=some c):ix X A ρ H ls s .Eq va o c:=by
 delta Ba at h;generalize rG a=p at h;cases p with|true=>exact HK (P:=λva o=>ix X A ρ H ls s .Eq va o c) z S t u h λv w x y l m k j h=>PY z n S l m k j h|false=>
  cases q:isNone a with|false=>rw[q] at h;exact HL z S t u h|true=>
   rw[q] at h;generalize rG b=r at h;cases r with|false=>exact HL z S t u h|true=>rw[P4 t q];exact P2 z n S u h
theorem P6(u:X.Ok)(o:A.units<gp)(S:X.St ρ H ls s)(q:aE ρ X.σ a va)(r:aE ρ X.σ b t)(h:Bb H a b=some c):ix X A ρ H ls s .NotEq va t (!c):=by
 delta Bb at h;generalize rG a=p at h;cases p with|false=>exact P3 u S q r h|true=>exact HK (P:=λva t=>ix X A ρ H ls s .NotEq va t<|!c) u S q r h λv w x y z z n m h=>P1 u o S n m h
theorem P7(v:X.Ok)(l:A.units<gp)(S:X.St ρ H ls s)(p:aE ρ X.σ a va)(r:aE ρ X.σ b k)(h:rI m H a b=some c):ix X A ρ H ls s m va k c:=by
 cases m with
 |In=>exact(HH v S p r h).1
 |NotIn=>exact ba h λb o h=>Option.some.inj h▸(HH v S p r o).2
 |Is=>obtain⟨e,w,n⟩:=HJ h p r;exact λz z q=>by rw[e];exact wpAny_is_plain w (by rw[n];exact q _ S)
 |IsNot=>refine ba h λb o h=>?_;obtain⟨e,w,n⟩:=HJ o p r;exact λz z q=>by rw[e];exact wpAny_isNot_plain w (by rw[n,Option.some.inj h];exact q _ S)
 |Lt=>exact BQ h p r λx t y u z z q=>ay0 (by rw[<-BP];exact q _ S)
 |Gt=>exact BQ h p r λx t y u z z q=>ay1 (by rw[<-BP];exact q _ S)
 |GtE=>refine BQ h p r λx t y u z z q=>PySem.P.ge_int ?_;rw[show decide (x>=y) = !(k_ x y) by rw[BP,<-decide_not];exact decide_eq_decide.mpr Int.not_lt.symm];exact q _ S
 |LtE=>exact a6 h
 |Eq=>exact P5 v l S p r h
 |NotEq=>exact ba h λb o h=>Option.some.inj h▸P6 v l S p r o
theorem HM(z:X.Ok)(t:A.units<gp)(S:X.St ρ H ls s)(u:aE ρ X.σ a va)(v:aE ρ X.σ b w)(h:rI x H a b=some c)(q:∀y,X.St ρ H ls y->Q (.bool c) y):aF X.M A (NL x va w) Q E s:=P7 z t S u v h E Q q
end
def SL(X:Fx)(u:bJ)(es:List aS)(p:XL X.R):Prop:=∀e n,bD X e n->∀y,cU u y->∀f H k v,X.holds (p e f H k v)->∀x m w s A Q E,cC A (y.frame,y.locals::df w) n e.hd->X.St x H ((y.locals,.ns m)::w) s->dg X x f y m->
 Pd X k ((y.locals,.ns m)::w) x Q->fy X v ((y.locals,.ns m)::w) A x E->∀z,aF X.M A (spliced<|nD z<|l7 es y) Q E s
theorem HN(h:cC A fs n hd):A.units<gp:=by have z:=h.2.1;exact(lin [A.units,n,gp] 0x9306160d4b085102c41) z
theorem ky:SE X t x du:=by
 intro e n z v w f H k u y;exact aP y z.stop
theorem P8(l:X.Ok)(hs:nX y)(t:SE X d x p)(hy:SE X d y q):SE X d (.Subscript x y r) (bf p q):=by
 intros
 refine Subscript_<|t e n G W Y f H _ M Z R m I s A _ E V S F (λi H1 s1 a v h o z N=>?_) B;refine hy e n G W Y f H1 _ M N i m I s1 A _ E V o (F.ext h) (λP H2 s2 b u g C r2 j=>?_)<|B.ext h;refine bw G j λw hw j=>?_;exact Pw l hs C (z.ext g) r2 hw λv' s' S' c=>K _ _ _ _ _ (h.trans g) S' c j
theorem P9(l:X.Ok)(hm:Am d y=false)(t:SE X c x p)(hy:SE X c y q):SE X c (.Compare x [d] [y] r) (a8 d p q):=by
 intros
 refine wpAny_Compare1 (t e n G W Y f H _ M Z R m I s A _ E V S F (λi H1 s1 a v h o z N=>?_) B) hm;refine hy e n G W Y f H1 _ M N i m I s1 A _ E V o (F.ext h) (λP H2 s2 b u g C r2 j=>?_)<|B.ext h;refine bw G j λw hw j=>?_;exact HM l (HN V) C (z.ext g) r2 hw λs' S'=>K _ _ _ (.bool w) _ (h.trans g) S' rfl j
theorem P_(l:X.Ok)(hm:Am d y=false)(t:SE X c x p)(hy:SE X c y q):ST X c (.Compare x [d] [y] r) (aO (a8 d p q)):=by
 intros
 refine wpAny_isTrue_Compare1 (t e n G W Y f H _ M Z R m I s A _ E V S F (λi H1 s1 a v h o z N=>?_) B) hm;refine hy e n G W Y f H1 _ M N i m I s1 A _ E V o (F.ext h) (λP H2 s2 b u g C r2 j=>?_)<|B.ext h;refine bw G j λw hw j=>?_;exact HM l (HN V) C (z.ext g) r2 hw λs' S'=>ak4<|K _ _ _ w (h.trans g) S' j
def BR(x:aS):Prop:=∀y z,FE x y z=(do let v <-z;standAt x.pos;wd [v] (pq v))
theorem Qa(r:X.Ok)(u:ef X)(z:BR x)(t:SE X l x p):ST X l x (aO p):=by
 intros
 refine wpAny_isTrue_value (t e n G W Y f H _ M Z R m I s A _ E V S F (λj d c a v i y w q=>?_) B)<|z _ _;refine bw G q λb h q=>?_;exact xo r u y w h λg o=>K _ _ _ _ i o q
theorem Qb(w:ST X v x t):ST X v (.UnaryOp .Not x z) (iu t):=by
 intros
 exact wpAny_isTrue_Not<|w e n G W Y f H _ M Z R m I s A _ E V S F (λu p o b q y r=>K _ _ _ _ q y r) B
theorem Qc(hc:ST X i c a)(w:ST X i x t)(N:ST X i y r):ST X i (.IfExp c x y v) (GV a t r):=by
 intros
 rw[arm_isTrue_IfExp];refine aI<|hc e n G W Y f H _ M Z R m I s A _ E V S F (λq g d b u z h=>?_) B;cases b with
 |true=>rw[aw rfl];exact w e n G W Y f g _ M h q m I d A _ E V z (F.ext u) (λo C P b j l p=>K _ _ _ _ (u.trans j) l p)<|B.ext u
 |false=>rw[aq Bool.false_ne_true];exact N e n G W Y f g _ M h q m I d A _ E V z (F.ext u) (λo C P b j l p=>K _ _ _ _ (u.trans j) l p)<|B.ext u
def SA(X:Fx)(u:nE)(t:bJ)(z:List aS)(p:XB X.R):Prop:=∀(e:EV X.R)n,bD X e n->∀y,cU t y->∀f H k v,X.holds (p e f H k v)->∀x m w s A Q E,cC A (y.frame,y.locals::df w) n e.hd->X.St x H ((y.locals,.ns m)::w) s->dg X x f y m->
 BD X k ((y.locals,.ns m)::w) x Q->fy X v ((y.locals,.ns m)::w) A x E->aF X.M A (allTrue u z y) Q E s
theorem Qd:SA X .And z [] d4:=by
 intros
 exact wpAny_allTrue_And_nil<|K _ _ _ _ (.refl _) S Z
theorem Qe:SA X .Or z [] nS:=by
 intros
 rw[arm_allTrue_nil];exact bz<|K _ _ _ _ (.refl _) S Z
theorem Qf(w:ST X q x t)(i:SA X .And q y r):SA X .And q (x::y) (dQ t r):=by
 intros
 refine wpAny_allTrue_And_cons<|w e n G W Y f H _ M Z R m I s A _ E V S F (λu l h b v z p=>?_) B;cases b with|false=>rw[aq Bool.false_ne_true];exact K _ _ _ _ v z p|true=>rw[aw rfl];exact i e n G W Y f l _ M p u m I h A _ E V z (F.ext v) (λg c a b d o j=>K _ _ _ _ (v.trans d) o j)<|B.ext v
theorem Qg(w:ST X q x t)(i:SA X .Or q y r):SA X .Or q (x::y) (iR t r):=by
 intros
 refine wpAny_allTrue_Or_cons<|w e n G W Y f H _ M Z R m I s A _ E V S F (λu l h b v z p=>?_) B;cases b with|true=>rw[aw rfl];exact K _ _ _ _ v z p|false=>rw[aq Bool.false_ne_true];exact i e n G W Y f l _ M p u m I h A _ E V z (F.ext v) (λg c a b d o j=>K _ _ _ _ (v.trans d) o j)<|B.ext v
theorem HO(h:SA X x w y t):ST X w (.BoolOp x y z) t:=by
 intros
 exact wpAny_isTrue_BoolOp<|h e n G W Y f H _ M Z R m I s A _ E V S F K B
theorem Qh(l:X.Ok)(o:ef X)(w:SE X d x p)(hy:SE X d y q):SE X d (.BoolOp .And [x,y] t) (t6 p q):=by
 intros
 refine wpAny_And2<|w e n G W Y f H _ M Z R m I s A _ E V S F (λh H1 s1 a v i r z j=>?_) B;refine bw G j λb N j=>?_;refine xo l o r z N λc g=>?_;cases b with|false=>rw[aq Bool.false_ne_true];exact K _ _ _ _ _ i g z j|true=>rw[aw rfl];exact hy e n G W Y f H1 _ M j h m I c A _ E V g (F.ext i) (λC H2 s2 b u x2 S2 r2 P=>K _ _ _ _ _ (i.trans x2) S2 r2 P)<|B.ext i
theorem Qi(l:X.Ok)(o:ef X)(w:SE X d x p)(hy:SE X d y q):SE X d (.BoolOp .Or [x,y] t) (xd p q):=by
 intros
 refine wpAny_Or2<|w e n G W Y f H _ M Z R m I s A _ E V S F (λh H1 s1 a v i r z j=>?_) B;refine bw G j λb N j=>?_;refine xo l o r z N λc g=>?_;cases b with|true=>rw[aw rfl];exact K _ _ _ _ _ i g z j|false=>rw[aq Bool.false_ne_true];exact hy e n G W Y f H1 _ M j h m I c A _ E V g (F.ext i) (λC H2 s2 b u x2 S2 r2 P=>K _ _ _ _ _ (i.trans x2) S2 r2 P)<|B.ext i
theorem Qj(r:X.Ok)(u:ef X)(t:SE X l x p):SE X l (.UnaryOp .Not x z) (t8 p):=by
 intros
 refine wpAny_UnaryOp<|t e n G W Y f H _ M Z R m I s A _ E V S F (λj d c a v i y w q=>?_) B;refine bw G q λb h q=>?_;exact ay2<|xo r u y w h λg o=>K _ _ _ (.bool<|!b) _ i o rfl q
theorem Qk(hc:ST X d c t)(w:SE X d x p)(hy:SE X d y q):SE X d (.IfExp c x y v) (lj t p q):=by
 intros
 refine wpAny_IfExp<|hc e n G W Y f H _ M Z R m I s A _ E V S F (λo P N b r z a=>?_) B;cases b with
 |true=>rw[aw rfl];exact w e n G W Y f P _ M a o m I N A _ E V z (F.ext r) (λj H2 C b u h i g l=>K _ _ _ _ _ (r.trans h) i g l)<|B.ext r
 |false=>rw[aq Bool.false_ne_true];exact hy e n G W Y f P _ M a o m I N A _ E V z (F.ext r) (λj H2 C b u h i g l=>K _ _ _ _ _ (r.trans h) i g l)<|B.ext r
theorem Ql:SL X y [] az:=by
 intros;intro z
 exact wpAny_items_nil<|K _ _ _ [] [] (.refl _) S trivial Z
def ue(x:aS):Prop:=∀z y,l7 (x::z) y=(false,gN x y)::l7 z y
theorem Qm(w:ue x)(q:SE X h x p)(C:SL X h t r):SL X h (x::t) (ao p r):=by
 intros;intro z
 refine wpAny_items_cons (q e n G W Y f H _ M Z R m I s A _ E V S F (λl N s1 a v j o y c=>?_) B)<|w _ _;exact C e n G W Y f N _ M c l m I s1 A _ E V o (F.ext j) (λd H2 s2 b u i P r2 g=>K _ _ _ (a::b) (v::u) (j.trans i) P ⟨y.ext i,r2⟩ g) (B.ext j) z
theorem Qo(j:SL X p w r):SE X p (.List w z) (dL r):=by
 intros
 refine wpAny_List<|j e n G W Y f H _ M Z R m I s A _ E V S F (λl q h a v i y x u=>?_) B z;refine gV G u λt u=>?_;refine⟨?_,K _ _ _ (.ref q.n) _ (i.trans<|St.put_ext<|y.top _<|Nat.le_refl _) (y.new1 (o:=.list a) ⟨v,⟨_,d8 _ rfl⟩,x.rel_ext<|St.put_ext<|y.top _<|Nat.le_refl _,(lin [a.length] aJ0) t⟩) ⟨_,St.put_self ..,rfl⟩ u⟩;have:=x.length;have:=hK;exact(lin [a.length,v.length,eV] aj0) t ‹_› this
theorem Qp(i:SL X l w r):SE X l (.Tuple w u z) (hX r):=by
 intros
 refine wpAny_Tuple<|i e n G W Y f H _ M Z R m I s A _ E V S F (λj p g a v h y x t=>?_) B z;refine gV G t λq t=>?_;refine⟨?_,K _ _ _ (.ref p.n) _ (h.trans<|St.put_ext<|y.top _<|Nat.le_refl _) (y.new1 (o:=.tup a) ⟨v,⟨_,d8 _ rfl⟩,x.rel_ext<|St.put_ext<|y.top _<|Nat.le_refl _,(lin [a.length] aJ0) q⟩) ⟨_,St.put_self ..,rfl⟩ t⟩;have:=x.length;have:=hK;exact(lin [a.length,v.length,eV] aj0) q ‹_› this
@[elab_as_elim] theorem HP{e:EV X.R}{n:Nat}(EV:bD X e n){x:bu}{b:AV}{P:au->Prop}{z:au}{k:Int->X.R}(h:X.holds (xc e b k))(v:aE x X.σ b z)(g:∀y t,X.holds (k y)->P (.int y t)):P z:=
 bw EV h λy w h=>mH v w λt=>g y t h
theorem pT(h:mA i=some n):i=n:=by
 cases i with|negSucc m=>cases h|ofNat m=>injection h with h;subst h;rfl
theorem Qq(h:a.natAbs<2 ^ 62):al3 a<=64:=by
 delta al3
 split
 .decide
 .rename_i h0
  have z:a.natAbs≠0:=by simpa using h0
  have:=(Nat.log2_lt z).mpr h;exact(lin [a.natAbs.log2] 0x126a02140280b0f901) this
theorem jS(h:gx H v=some z):∃i,v=.ref i/\H.get i=some (.list z):=by
 cases v with|ref i=>exact⟨i,rfl,gX h⟩|_=>cases h
theorem Qr(h:tV H v=some x):∃i,v=.ref i/\(H.get i=some (.list x)\/H.get i=some (.frz x)):=by
 refine fH λz u=>?_;cases v with
 |ref i=>
  refine ba h λo y h=>?_;cases o with
  |list w=>exact u ⟨i,rfl,.inl<|Option.some.inj h▸y⟩
  |frz w=>exact u ⟨i,rfl,.inr<|Option.some.inj h▸y⟩
  |_=>exact a6 h
 |_=>exact a6 h
theorem Qs(z:bD X e n)(h:X.holds (Bt y e H k a b)){P:nB->Prop}(g:X.holds (Bs e H k a b)->P .Add):P y:=by
 cases y with|Add=>exact g h|_=>exact aP h z.stop
theorem Qt(z:bD X e n)(h:X.holds (mE y e x r)):X.holds r:=by
 cases y with|Mult=>exact(z.chk _ _ h).2|_=>exact h
theorem Qu{z u:List au}(L:s.heap.IsList x z.toArray)(i:s.heap.IsList y u.toArray)(k:(z++u).length<=1000)(q:Q (.ref s.heap.objs.size) { s with heap:=s.heap.push { cls:=.type "list",data:=.seq (z++u).toArray } }):aF X.M A (An .Add (.ref x) (.ref y)) Q E s:=by
 obtain⟨⟨cls,f,data,h⟩,w,j,g,hd⟩:=L;obtain⟨⟨l,o,m,n⟩,p,r,v,t⟩:=i;simp only at j hd r t;subst j hd r t;rw[List.length_append] at k;have e:=hK;refine concat_meets ⟨_,w,rfl⟩ ⟨_,p,rfl⟩ noFill_list_add seq_list_add PySem.F.slot_list_add PySem.F.entry_list_add (PySem.F.args_list_add_2 _ _) (list_addW _ _ z.toArray u.toArray g v f o h n<|by simp;exact(lin [z.length,u.length,eV] 0x129346a105d00000048da0003e84a841) k e) ⟨w,p,?_⟩;rw[show z.toArray++u.toArray=(z++u).toArray by simp];exact q
theorem Qv(z:bD X e n)(S:X.St g H C s)(c:aE g X.σ a va)(R:aE g X.σ b vb)(h:X.holds (Bs e H k a b))(q:gk X k C g Q):aF X.M A (An .Add va vb) Q E s:=by
 refine bw z h λu w h=>bw z h λt m h=>?_;refine gV z h λp h=>?_;obtain⟨i,ei,hi⟩:=jS w;obtain⟨j,ej,hj⟩:=jS m;rw[ei] at c;rw[ej] at R;obtain⟨x,w,r⟩:=c;obtain⟨y,m,ey⟩:=R;obtain⟨ai,d,v,L,l,_⟩:=S.cell i _ hi;obtain⟨aj,f,P,F,N,_⟩:=S.cell j _ hj;rw[r,ey,Option.some.inj<|w.symm.trans d,Option.some.inj<|m.symm.trans f];rw[eX] at p;have sz:(v++P).length<=1000:=by rw[((l.app N).length).symm];exact p
 have Z:=St.put_ext (a:=s.heap.objs.size)<|S.top _<|Nat.le_refl _;exact Qu L.isList F.isList sz (q _ _ _ (.ref H.n) _ Z (S.new1 (o:=.list<|ax u t) ⟨v++P,⟨0,d8 _ rfl⟩,by rw[eX];exact(l.app N).rel_ext Z,by rw[eX];exact(lin [(u++t).length] aJ0) p⟩) ⟨_,St.put_self ..,rfl⟩ h)
theorem Qw(h:Nat.ble m 1000=true):al4 x (Int.ofNat (m+1))=false:=by
 have z:=Nat.le_of_ble_eq_true h;have y:(m+1).log2<20:=(Nat.log2_lt<|by exact(lin [m] 0x49ee00428050168000fa121) z).mpr (by omega);have e1:((Int.ofNat<|m+1) == 0)=false:=by simp;omega
 have e2:(Int.ofNat<|m+1).natAbs=m+1:=rfl;delta al4;simp only[e1,e2,Bool.false_eq_true,if_false,Bool.and_eq_false_iff,decide_eq_false_iff_not]
 left;omega
theorem Qx(h:mB v x y=some z)(l:v=.Mult->x.natAbs<2 ^ 62)(q:∀o,Q (.int z s.toks) { s with toks:=o }):aF X.M A (An v (.int x t) (.int y u)) Q E s:=by
 cases v with
 |Add=>exact dR h (λq=>ay3<|q _) q
 |Sub=>exact dR h (λq=>ay4<|q _) q
 |Mult=>exact dR h (λq=>ay5 (q _)<|.of_left<|Qq<|l rfl) q
 |FloorDiv=>
  cases y with|negSucc _=>exact a6 h|ofNat m=>
   cases m with|zero=>exact a6 h|succ m=>
    have h:J (Nat.ble m 1000) (some<|Int.fdiv x<|.ofNat<|Nat.succ m) none=some z:=h;cases hm:Nat.ble m 1000 with|false=>rw[hm] at h;exact a6 h|true=>rw[hm] at h;rw[(Option.some.inj h).symm] at q;exact ay6 (by show((m+1:Nat):Int)≠0;omega) (q _)<|.inl<|Qw hm
 |Mod=>
  cases y with|negSucc _=>exact a6 h|ofNat m=>
   cases m with|zero=>exact a6 h|succ m=>exact dR h (λq=>ay7 (by show((m+1:Nat):Int)≠0;omega)<|q _) q
 |RShift=>
  refine ba h λp w h=>ba h λr n h=>?_;have h:=Option.some.inj h;have e:(p:Int).fdiv ((2:Int) ^ r)=z:=by rw[h.symm,show(2:Int) ^ r=((2 ^ r:Nat):Int) by rw[Int.natCast_pow];rfl,<-Int.ofNat_fdiv,<-Nat.shiftRight_eq_div_pow];rfl
  rw[pT w,pT n];refine ay8 (by omega) ?_;rw[e];exact q _
 |_=>exact a6 h
theorem Qy(_O:X.Ok)(w:bD X e n)(S:X.St r H l s)(p:aE r X.σ a va)(m:aE r X.σ b o)(h:X.holds (Bu v e H k a b))(q:gk X k l r Q):aF X.M A (An v va o) Q E s:=by
 have h:X.holds (ad (lg a) (Bt v e H k a b) λx=>xc e b λy=>ad (mB v x y) e.stop λz=>mE v e x<|k (.int z) H):=h;cases ha:lg a with|none=>rw[ha] at h;exact Qs w h (P:=λv=>aF X.M A (An v va o) Q E s) λh=>Qv w S p m h q|some x=>rw[ha] at h;exact mH p ha λt=>HP w h m λy u h=>bw w h λz j h=>Qx j (λe=>by rw[e] at h;exact(w.chk _ _ h).1) λi=>q r H _ (.int _) _ (.refl _) (S.toks _) ⟨_,rfl⟩<|Qt w h
theorem Qz(o:X.Ok)(w:SE X h x p)(C:SE X h y q):SE X h (.BinOp x op y t) (bQ op p q):=by
 intros
 refine wpAny_BinOp<|w e n G W Y f H _ M Z R m I s A _ E V S F (λl N s1 a v j r z c=>?_) B;refine C e n G W Y f N _ M c l m I s1 A _ E V r (F.ext j) (λd H2 s2 b u i P r2 g=>?_)<|B.ext j;exact Qy o G P (z.ext i) r2 g<|K.ext<|j.trans i
def SO(X:Fx)(o:bJ)(x:Option aS)(p:XO X.R):Prop:=∀(e:EV X.R)n,bD X e n->∀z,cU o z->∀f H k r,X.holds (p e f H k r)->∀w m u s A Q E,cC A (z.frame,z.locals::df u) n e.hd->X.St w H ((z.locals,.ns m)::u) s->dg X w f z m->
 (∀y q t a v,bU w y->X.St y q ((z.locals,.ns m)::u) t->IsPart v a->X.holds (k a q)->Q v t)->fy X r ((z.locals,.ns m)::u) A w E->aF X.M A (evalPart x z) Q E s
theorem QA:SO X z none iQ:=by
 intros
 exact al5<|K _ _ _ _ _ (.refl _) S .none Z
theorem QB(t:SE X r x p):SO X r (some x) (nR p):=by
 intros
 refine wpAny_evalPart_some<|t e n G W Y f H _ M Z R m I s A _ E V S F (λq j i a v l z w o=>?_) B;exact HP G o w λy u h=>K _ _ _ _ _ l z (.int _ _) h
theorem BS:∀(l:List z)(n:Nat),cu l n=l.take n
 | [],n=>by cases n<;>rfl
 |_::_,0=>rfl
 |x::l,n+1=>by show x::cu l n=_;rw[BS l n];rfl
theorem BT:∀(n:Nat)(l:List z),rK l n=l.drop n
 |0,l=>rfl
 |n+1,[]=>rfl
 |n+1,x::l=>by rw[BT n l];rfl
theorem aD.take:∀{z:List v}{y:List w}(n:Nat),aD R z y->aD R (z.take n) (y.take n)
 | [],[],n,_=>by rw[List.take_nil,List.take_nil];trivial
 |_::_,_::_,0,_=>trivial
 |_::_,_::_,n+1,x=>⟨x.1,x.2.take n⟩
theorem aD.drop:∀{z:List v}{y:List w}(n:Nat),aD R z y->aD R (z.drop n) (y.drop n)
 | [],[],n,_=>by rw[List.drop_nil,List.drop_nil];trivial
 |_::_,_::_,0,x=>x
 |_::_,_::_,n+1,x=>x.2.drop n
theorem QC{y t:Option Int}(l:aD (aE q p) w z)(h:cut w y t=some x):aD (aE q p) x (NO z y t):=by
 delta NO;cases y with
 |none=>
  cases t with
  |none=>
   have v:=h;injection v with v;clear h;subst v
   show aD _ _ ((z.drop 0).take<|z.length - 0);rw[List.drop_zero,Nat.sub_zero,List.take_length];exact l
  |some b=>
   refine ba (h) λn u v=>?_;have e:=pT u;injection v with v;clear h u;subst v e
   show aD _ _ ((z.drop 0).take ((if(n:Int)<0 then z.length - (-(n:Int)).toNat else min n z.length) - 0));rw[aq (by omega),List.drop_zero,Nat.sub_zero,BS,kmk_take_min];exact l.take n
 |some a=>
  refine ba (h) λd hd h=>?_;have e:=pT hd;clear hd;subst e;have e1:kms_lo (some d) z.length=min d z.length:=by show(if(d:Int)<0 then z.length - (-(d:Int)).toNat else min d z.length)=_;rw[aq<|by omega]
  rw[e1];cases t with
  |none=>
   have v:=h;injection v with v;subst v
   show aD _ _ ((z.drop _).take<|z.length - _);rw[BT,kmk_drop_min,List.take_of_length_le<|by rw[List.length_drop];omega];exact l.drop d
  |some b=>
   refine ba (h) λn u v=>?_;have e:=pT u;injection v with v;clear u;subst v e
   show aD _ _ ((z.drop _).take ((if(n:Int)<0 then z.length - (-(n:Int)).toNat else min n z.length) - _));rw[aq (by omega),BT,BS,kmk_drop_min];have o:=(l.take n).drop d;rw[List.drop_take] at o ⊢;have e2:(z.drop d).take (min n z.length - min d z.length)=(z.drop d).take (n - d):=by
    by_cases s:d<=z.length
    .by_cases r:n<=z.length
     .rw[Nat.min_eq_left s,Nat.min_eq_left r]
     .rw[Nat.min_eq_left s,Nat.min_eq_right (by exact(lin [n,z.length] 632470090817) r),List.take_of_length_le (by simp),List.take_of_length_le<|by simp;omega]
    .rw[List.drop_of_length_le<|(lin [d,z.length] 632470090817) s];simp
   rw[e2];rw[List.drop_take] at o;exact o
theorem QD{v id:String}(e:typeLookup (.type v) "__getitem__" = pure (some (.builtin id)))(h:aF (cw prog w) A (gN n g) (λo q=>aF (cw prog w) A (gN (.Slice m l none p) g) (λi t=>t.TypeIs o v/\aF (cw prog w) A (getItem o i) Q E t) E q) E s):aF (cw prog w) A (gN (.Subscript n (.Slice m l none p) y) g) Q E s:=by
 rw[eval_Subscript];refine aI<|il h (λo q k=>aI<|gq<|il k (λi t u=>aI<|rd ?_) λz z x=>x) λz z x=>x;refine aI ?_;rw[getitemInPython_of_ne u.1.not_modules];refine aI<|Ai u.1 e ?_;refine bz<|aI ?_;exact wpAny_operating<|il u.2 (λr f j=>aI<|aj7<|bz j) λz z x=>x
theorem QE{P hi:Option aS}{plo phi:XO X.R}(C:SE X sc x p)(hlo:SO X sc P plo)(hhi:SO X sc hi phi):SE X sc (.Subscript x (.Slice P hi none sp) pos) (kq p plo phi):=by
 intros
 refine QD list_getitem_lookup<|C e n G W Y f H _ M Z R m I s A _ E V S F (λρ1 H1 s1 a v x1 S1 t h1=>?_) B;refine wpAny_Slice<|hlo e n G W Y f H1 _ M h1 ρ1 m I s1 A _ E V S1 (F.ext x1) (λρ2 H2 s2 b u x2 S2 r2 h2=>?_)<|B.ext x1;refine hhi e n G W Y f H2 _ M h2 ρ2 m I s2 A _ E V S2 (F.ext<|x1.trans x2) (λρ3 H3 s3 c u' x3 q r3 h3=>?_)<|B.ext<|x1.trans x2;refine al5 ?_;refine bw G h3 λr hxs h4=>?_;refine bw G h4 λh hys h5=>?_;refine gV G h5 λhl h6=>?_;obtain⟨i,ei,hi⟩:=Qr hxs;rw[ei] at t;have hall:∃y,ρ3 i=some y/\∃w:List au,s3.heap.IsList y w.toArray/\aD (aE ρ3 X.σ) r w/\r.length<=5000:=by
  rcases hi with hi|hi
  .obtain⟨y,hy,w,L,l,hsz⟩:=q.cell i _ hi;exact⟨y,hy,w,L.isList,l,hsz⟩
  .obtain⟨y,hy,g,w,n,c,d,N,z⟩:=q.cell i _ hi;exact⟨y,hy,w.toList,⟨_,g,c,n,by rw[wh];exact d⟩,N,z⟩
 obtain⟨y,hy,w,L,l,hsz⟩:=hall;have r1':=t.ext (x2.trans x3);obtain⟨y',hy',rfl⟩:=r1';rw[hy] at hy';clear t;cases hy';have S4:=q.push { cls:=.type "slice",data:=.fields #[u,u',.none] };have j:({ s3 with heap:=s3.heap.push { cls:=.type "slice",data:=.fields #[u,u',.none] } }:aU).heap.IsList y w.toArray:=L.push _;have:=l.length;have:=hK;refine⟨j.typeIs,wpAny_getItem_list_slice j (ay9 ..) r2 r3 .none (by simp) ?_ (by simp;exact(lin [r.length,w.length,eV] 0x12949a313a00000091b84168004e2121) hsz ‹_› this)⟩;have PX:=St.put_ext (a:=({ s3 with heap:=s3.heap.push { cls:=.type "slice",data:=.fields #[u,u',.none] } }:aU).heap.objs.size) (S4.top _ (Nat.le_refl _));have cp:=QC l hys;refine K _ _ _ (.ref H3.n) _ (x1.trans (x2.trans (x3.trans PX))) (S4.new1 (o:=.list h) ⟨NO w b c,⟨0,?_⟩,cp.rel_ext PX,(lin [h.length] aJ0) hl⟩) ⟨_,St.put_self ..,rfl⟩ h6;have e:=kms_pick_eq w.toArray b c;simp only[] at e;rw[e];exact d8 _ rfl
def BU(y:bu)(w:de)(x:Fl)(z:pr):Prop:=match x with
 |.nxt=>z=.next
 |.brk=>z=.brk
 |.cnt=>z=.cont
 |.ret a=>∃v,z=.ret v/\aE y w a v
def jT(X:Fx)(k:KS X.R)(x:Env)(q:Lo)(r:bu)(Q:pr->aU->Prop):Prop:=∀y t v u s w z,bU r y->X.St y u ((x.locals,.ns s)::q) w->dg X y v x s->BU y X.σ t z->X.holds (k t v u)->Q z w
def HQ(X:Fx)(k:KF X.R)(y:Env)(s:Lo)(t:bu)(Q:Unit->aU->Prop):Prop:=∀z w v u x,bU t z->X.St z v ((y.locals,.ns u)::s) x->dg X z w y u->X.holds (k w v)->Q () x
def QF(X:Fx)(t:KE X.R)(s:Lo)(u:bu)(E:tY1):Prop:=∀z v x w C e y,bU u z->X.St z v s x->cm.MadeExcOf x.heap w e (.ref C) y->X.holds (t C v)->E (.ref e) { x with heap:=w }
def mL(X:Fx)(x:KE X.R)(z:Env)(w:Lo)(A:dH)(y:bu)(E:tY1):Prop:=(∀m,fy X x ((z.locals,.ns m)::w) A y E)/\∀m,QF X x ((z.locals,.ns m)::w) y E
def SS(X:Fx)(u:bJ)(x:bv)(p:XS X.R):Prop:=∀(e:EV X.R)n,bD X e n->∀z,cU u z->∀f H k v,X.holds (p e f H k v)->∀y m w s A Q E,cC A (z.frame,z.locals::df w) n e.hd->X.St y H ((z.locals,.ns m)::w) s->dg X y f z m->
 jT X k z w y Q->mL X v z w A y E->aF X.M A (exec x z) Q E s
def SB(X:Fx)(u:bJ)(x:List bv)(p:XS X.R):Prop:=∀(e:EV X.R)n,bD X e n->∀z,cU u z->∀f H k v,X.holds (p e f H k v)->∀y m w s A Q E,cC A (z.frame,z.locals::df w) n e.hd->X.St y H ((z.locals,.ns m)::w) s->dg X y f z m->
 jT X k z w y Q->mL X v z w A y E->aF X.M A (pt x z) Q E s
def SP(X:Fx)(r:bJ)(t:aS)(p:XP X.R):Prop:=∀(e:EV X.R)n,bD X e n->∀z,cU r z->∀v f H k u,X.holds (p e v f H k u)->∀y m x s A Q E w,cC A (z.frame,z.locals::df x) n e.hd->X.St y H ((z.locals,.ns m)::x) s->dg X y f z m->aE y X.σ v w->
 HQ X k z x y Q->mL X u z x A y E->aF X.M A (l8 t z w) Q E s
theorem mL.ext(x:bU u v)(p:mL X t w s A u E):mL X t w s A v E:=⟨λm=>(p.1 m).ext x,λm z z z z z z z y=>p.2 m _ _ _ _ _ _ _ (x.trans y)⟩
theorem uf:SS X t x bc:=by
 intro e n z v w f H k u y;exact aP y z.stop
theorem jg:SB X z [] ak:=by
 intros
 exact tA<|K _ .nxt _ _ _ _ _ (.refl _) S F rfl Z
theorem cV{g:bJ}{x:bv}{u:List bv}{p r:XS X.R}(t:SS X g x p)(hr:SB X g u r):SB X g (x::u) (ac p r):=by
 intros
 refine NP<|t e n G W Y f H _ M Z R m I s A _ E V S F (λh fl f1 C m1 s1 q l y i z j=>?_) B;cases fl with
 |nxt=>have o:=z;clear z;subst o;exact hr e n G W Y f1 C k M j h m1 I s1 A Q E V y i (λc b f2 H2 m2 s2 N x2 P a o d=>K _ _ _ _ _ _ _ (l.trans x2) P a o d)<|B.ext l
 |brk=>have o:=z;clear z;subst o;exact K _ .brk _ _ _ _ _ l y i rfl j
 |cnt=>have o:=z;clear z;subst o;exact K _ .cnt _ _ _ _ _ l y i rfl j
 |ret v=>obtain⟨w,rfl,o⟩:=z;exact K _ (.ret v) _ _ _ _ _ l y i ⟨w,rfl,o⟩ j
theorem QG:SS X y (.Pass z) GX:=by
 intros
 exact wpAny_Pass<|K _ .nxt _ _ _ _ _ (.refl _) S F rfl Z
theorem QH:SS X y (.Break z) Bz:=by
 intros
 exact wpAny_Break<|K _ .brk _ _ _ _ _ (.refl _) S F rfl Z
theorem QI:SS X y (.Continue z) rR:=by
 intros
 exact wpAny_Continue<|K _ .cnt _ _ _ _ _ (.refl _) S F rfl Z
theorem QJ(u:SE X r x p):SS X r (.Return (some x) z) (b_ p):=by
 intros
 exact wpAny_Return_some<|u e n G W Y f H _ M Z R m I s A _ E V S F (λq l j a v t y w o=>K _ (.ret a) _ _ _ _ _ t y (F.ext t) ⟨v,rfl,w⟩ o)<|B.1 m
theorem QK:SS X y (.Return none z) (b_ (ah .none)):=by
 intros
 exact wpAny_Return_none<|K _ (.ret .none) _ _ _ _ _ (.refl _) S F ⟨_,rfl,rfl⟩ Z
theorem QL(z:cU x y):interactive y=false:=by
 delta interactive;rw[z.scope,z.kind];rfl
theorem QM(R:∀o,Ao x none z.line o=pure false)(u:SE X P x p):SS X P (.Expr x z) (bZ p):=by
 intro e n w o y f H k j c d m i s A Q E r S F b Z;exact wpAny_Expr_any (u e n w o y f H _ j c d m i s A _ E r S F (λh N C a v l t q g=>b _ .nxt _ _ _ _ _ l t (F.ext l) rfl g)<|Z.1 m) (QL y)<|R o
theorem HR(hc:ST X g c t)(ha:SB X g a p)(hb:SB X g b q):SS X g (.If c a b y) (aY t p q):=by
 intros
 refine wpAny_If<|hc e n G W Y f H _ M Z R m I s A _ E V S F (λw P N b x z d=>?_)<|B.1 m;cases b with
 |true=>rw[aw rfl];exact ha e n G W Y f P k M d w m I N A Q E V z (F.ext x) (λu r f2 H2 C s2 j i l o h v=>K _ _ _ _ _ _ _ (x.trans i) l o h v)<|B.ext x
 |false=>rw[aq Bool.false_ne_true];exact hb e n G W Y f P k M d w m I N A Q E V z (F.ext x) (λu r f2 H2 C s2 j i l o h v=>K _ _ _ _ _ _ _ (x.trans i) l o h v)<|B.ext x
theorem QN(q:ST X v c t):SS X v (.Assert c p z) (xh t):=by
 intros
 refine wpAny_Assert_holds<|q e n G W Y f H _ M Z R m I s A _ E V S F (λu o l b w y x=>?_)<|B.1 m;refine eY G x λr x=>?_;exact⟨r,K _ .nxt _ _ _ _ _ w y (F.ext w) rfl x⟩
theorem xq[DecidableEq w]{q k x:w}{a b c:v}(y:¬q=k):(if q=x then a else if x=k then b else c)=if x=k then b else if q=x then a else c:=by
 by_cases z:x=k
 .rw[aw z,aw z];exact aq λe=>y<|e.trans z
 .rw[aq z,aq z]
theorem rZ{a b:Nat}{x y:z}:J (Nat.beq a b) x y=if a=b then x else y:=by
 rw[d6]
 by_cases h:a=b
 .rw[aw h,bR h]
 .rw[aq h,cA h]
@[elab_as_elim] theorem HS{c:Prop}[Decidable c]{x y:z}{P:z->Prop}(a:P x)(b:P y):P (if c then x else y):=by
 by_cases h:c
 .rw[aw h];exact a
 .rw[aq h];exact b
theorem kz{w:Type}(l:List (Nat×w))(x:Nat)(a:w)(y:Nat):ae (bL l x a) y=if y=x then some a else ae l y:=by
 induction l with
 |nil=>
  show ae [(x,a)] y=_;rw[b3]
  by_cases h:y=x
  .rw[aw h,aw h.symm]
  .rw[aq h,aq λe=>h e.symm]
 |cons p l v=>
  rw[show bL (p::l) x a=if p.1=x then(p.1,a)::l else p::bL l x a from rZ]
  by_cases h:p.1=x
  .rw[aw h,b3,b3]
   by_cases z:y=x
   .rw[aw z,aw<|h.trans z.symm]
   .have n:¬p.1=y:=λq=>z (by rw[<-q,h]);rw[aq n,aq z,aq n]
  .rw[aq h,b3,b3,v];exact xq h
theorem dg.put(F:dg X s f u m)(o:u.kindOf (am c)=some .local)(r:aE s X.σ a v):dg X s ⟨bL f.loc c a,f.cel⟩ u (λx=>if x=am c then some v else m x):=by
 refine⟨λy b e=>?_,F.cel⟩;have z:=e;rw[kz] at z
 by_cases h:y=c
 .subst h;rw[aw rfl] at z;injection z with z
  clear e;subst z;exact⟨o,v,aw rfl,r⟩
 .rw[aq h] at z;obtain⟨p,w,q,t⟩:=F.loc y b z;exact⟨p,w,by rw[aq<|mF h];exact q,t⟩
theorem xr(z:cU x y):(y.scope.kind == .class || (y.scope.kind == .module && y.locals != y.globals))=false:=by
 rw[z.scope,z.kind];rfl
theorem pU(z:cU w y)(x:Str):y.kindOf x=w.names.lookup x:=by delta tx;rw[z.scope]
theorem HT(d:x=am c)(o:g.names.lookup x=some .local):SP X g (.Name x y) (aQ c):=by
 intro e n u r z v f H k a i j m Z s A Q E b t S F l h P;subst d;have q:r.kindOf (am c)=some .local:=by rw[pU z];exact o
 refine FR<|FS q (S.loc _<|.head _).1 (λR p w=>?_)<|xr z;exact h j _ H _ _ (.refl _) (S.locS w p) (F.put q l) i
theorem QO(P:x=am c)(R:sc.names.lookup x=some .cell):SP X sc (.Name x q) (kr c):=by
 intro e n u C z v f H k ke j ρ m ls s A Q E Z l S F N PV PE;subst P;refine bw u j λi hi j=>?_;refine bw u j λo t j=>?_;obtain⟨a,d,hl⟩:=F.cel c i hi;obtain⟨a',h,r⟩:=S.cell i o t;rw[d] at h;cases h;cases o with
 |cell w=>obtain⟨y,g,ry⟩:=r;refine FR (wpAny_storeName_cell (by rw[z.scope];exact z.kind) (by rw[pU z];exact R) hl g λh' b p=>?_);have L:=(S.loc _<|.head _).2.2 i;exact PV ρ f (H.set i<|.cell<|some v) m _ (.refl _) (S.updS (by first|assumption|exact gX (by assumption)|exact setAt_some (by assumption)|exact gy (by assumption)|exact(by rw[AH.get_new,aw rfl])) d p ⟨some Z,b,N⟩) F j
 |_=>exact aP j u.stop
section
variable {prog:dY}{w:dZ}{A:dH}{E:tY1}{s:aU}
theorem QP{h:cm}(u:h.get? dx=some o)(r:o.ExactDict)(hd:o.data=.dict es ep)(hk:KeysOf (bW prog w) es)(y:Pairs (bW prog w) es.toList n)(hn:(n.map (·.1)).Nodup)(z:Str)(t:Tok)(v:au):∃Q n',FT z (rf w.params z) (.str z t) v o=dictOf Q n'/\Q.length<=es.size+1/\(h.update dx (FT z (rf w.params z) (.str z t) v)).DictOf (bW prog w) dx (gr n z v):=by
 obtain⟨c,d,dt,sl⟩:=o;obtain⟨hc,g,f⟩:=r;have hc:c=_:=hc;have g:d=_:=g;have f:sl=_:=f;have hd:dt=_:=hd;subst hc g f hd;have N:FT z (rf w.params z) (.str z t) v { cls:=.type "dict",dict:=none,data:=.dict es ep,slots:=#[] }=dictOf (putL z (rf w.params z) (.str z t) v es.toList) (putN z es.toList ep):=by have s:=putName_dict z (rf w.params z) (.str z t) v es.toList ep;rw[<-s]
 have e1:=putL_find z (rf w.params z) (.str z t) v es.toList;have fe:(λx:Ny=>x.key.isStr z)=λe=>(bW prog w).is z e.key:=by funext e;exact Hj _ _
 rw[fe] at e1;refine⟨_,_,N,?_,_,(putL z (rf w.params z) (.str z t) v es.toList).toArray,_,Ap _ u (by rw[N];rfl),by rw[N];exact⟨rfl,rfl,rfl⟩,by rw[N],?_,?_,?_⟩
 all_goals try rw[<-e1]
 .cases es.toList.findIdx? (λe=>(bW prog w).is z e.key) with|none=>exact Nat.le_of_eq List.length_append|some i=>exact Nat.le_trans (Nat.le_of_eq<|List.length_modify ..)<|Nat.le_succ _
 .cases hi:es.toList.findIdx? (λe=>(bW prog w).is z e.key) with
  |none=>
   intro e he;rw[List.mem_toArray,List.mem_append] at he;rcases he with he|he
   .exact hk e<|FJ.mp he
   .rw[List.mem_singleton] at he;subst he;exact⟨z,isStrOf_self z t,rfl⟩
  |some i=>
   intro e he;rw[List.mem_toArray] at he;obtain⟨j,S,P⟩:=List.mem_iff_getElem.mp he;rw[List.getElem_modify] at P;have hj':j<es.toList.length:=by rw[List.length_modify] at S;exact S
   obtain⟨k,F,H⟩:=hk (es.toList[j])<|FJ.mp<|List.getElem_mem hj';clear he;subst P;refine HS ?_ ?_<;>exact⟨k,F,H⟩
 .cases hi:es.toList.findIdx? (λe=>(bW prog w).is z e.key) with
  |none=>
   have R:=hi;rw[y.findIdx z] at R;have q:¬(n.any λp=>decide<|p.1=z)=true:=by rw[List.any_eq_true];rintro⟨p,m,he⟩;have s:=List.findIdx?_eq_none_iff.mp R p m;rw[he] at s;cases s
   rw[gr,aq q];exact y.append (k:=z) (key:=.str z t) (isStrOf_self z t) _ v
  |some i=>
   have R:=hi;rw[y.findIdx z] at R;have q:(n.any λp=>decide<|p.1=z)=true:=by obtain⟨S,Z,_⟩:=List.findIdx?_eq_some_iff_getElem.mp R;exact List.any_eq_true.mpr ⟨_,List.getElem_mem S,Z⟩
   rw[gr,aw q];exact y.modify hn hi v
 .cases hi:n.findIdx? (λp=>decide<|p.1=z) with
  |none=>
   have l:z∉n.map (·.1):=by intro hm;refine jL hm λp m he=>?_;have s:=List.findIdx?_eq_none_iff.mp hi p m;rw[bR he] at s;cases s
   have q:¬(n.any λp=>decide<|p.1=z)=true:=by rw[List.any_eq_true];rintro⟨p,m,he⟩;exact l<|List.mem_map.mpr ⟨p,m,br he⟩
   rw[gr,aq q,List.map_append,List.nodup_append];refine⟨hn,List.nodup_cons.mpr ⟨λh=>(List.not_mem_nil h).elim,List.nodup_nil⟩,?_⟩;intro a ha b C;have C:b=z:=List.mem_singleton.mp C;clear q;subst C;exact λe=>l<|e▸ha
  |some i=>
   have q:(n.any λp=>decide<|p.1=z)=true:=by obtain⟨S,Z,_⟩:=List.findIdx?_eq_some_iff_getElem.mp hi;exact List.any_eq_true.mpr ⟨_,List.getElem_mem S,Z⟩
   rw[gr,aw q];have s:(n.map λp=>if p.1=z then(p.1,v) else p).map (·.1)=n.map (·.1):=by rw[List.map_map];apply List.map_congr_left;intro p _;show(if p.1=z then(p.1,v) else p).1=p.1;refine HS ?_ ?_<;>rfl
   rw[s];exact hn
theorem QQ{R:v9->aU->Prop}{K:cj}(u:K.In s.heap)(n:InstAt s.heap x F C (some od))(l:F.dict=some P)(p:s.heap.DictOf (bW prog w) P m)(r:FL K C=true)(d:FU K C z=some none)(hh:(ty K C).any (·.hasDict)=true)(hz:m.length<=1000)(h:∀a H,a.DictOf (bW prog w) P (gr m z v)->kZ P s.heap a->R (.ok (.ret .none)) { s with heap:=a,toks:=H }):f0 (cw prog w) A (.call (.builtin "object.__setattr__") ⟨[.ref x,.str z H,v],[]⟩) R s:=by
 obtain⟨o,es,ep,y,Z,hd,N,j,hn⟩:=pN.of p;refine osa_open u n r d λb=>?_;obtain⟨cd,hc,S⟩:=any_some hh;obtain⟨q,g,Q,-⟩:=n;obtain⟨oc,odi,oda,osl⟩:=F
 dsimp only at g l
 clear Q;subst g l;refine iw<|aI<|aI<|al6 q<|aI<|(looks_clsIn u hc).here ?_;rw[S];refine bz<|iw<|aI ?_;delta nsSet;refine aI<|aI<|wpAny_askSetting<|bz<|aI<|wpAny_mkText<|aI<|al6 y ?_;rw[hd]
 dsimp only
 have c:(!es.any (·.key.isStr z) && es.any (·.refKey))=false:=by
  have Y:es.any (·.refKey)=false:=by rw[<-Array.any_toList,List.any_eq_false];intro e he;obtain⟨k,f,_⟩:=N e<|FJ.mp he;obtain⟨t,d⟩:=FK f;delta aj6;rw[d];exact Bool.false_ne_true
  rw[Y,Bool.and_false]
 rw[aRefKeyMayBeTheName_at,c];obtain⟨i,n',e1,hl,D'⟩:=QP y Z hd N j hn z s.toks v;refine wpAny_updatePart y ?_;have g':=Ap (FT z (rf w.params z) (.str z s.toks) v) y (by rw[e1];rfl);have e3:=j.length;have e2:es.toList.length=es.size:=rfl;have e4:i.toArray.size<=eV+1:=by rw[List.size_toArray,hK];exact(lin [m.length,i.length,es.size,es.toList.length] 0x1294a4d500a20000009138647048d500a06268000fa121) hz hl e3 e2
 refine aI (wpAny_lookBehind g' (by rw[e1];exact pastItsLine_dict e4) ?_);exact bz<|h _ _ D'<|wi ..
theorem QR{K:cj}(y:K.In s.heap)(r:InstAt s.heap x j C (some f))(o:j.dict=some m)(t:s.heap.DictOf (bW prog w) m q)(g:eE K (.ref C) "__setattr__" = some (some (.builtin "object.__setattr__")))(u:FL K C=true)(l:FU K C z=some none)(i:(ty K C).any (·.hasDict)=true)(k:q.length<=1000)(h:∀p n,p.DictOf (bW prog w) m (gr q z v)->kZ m s.heap p->Q () { s with heap:=p,toks:=n }):aF (cw prog w) A (setAttr (.ref x) z v) Q E s:=
 set_plain y r g (QQ y r o t u l i k λp n a b=>h p n a b)
end
theorem aD.put(r:aE k i a v):∀{es:iJ}{y:List (Str×au)},aD (fx k i) es y->(y.map (·.1)).Nodup->aD (fx k i) (bL es c a) (gr y (am c) v):=by
 intro es
 induction es with
 |nil=>
  intro y h _;cases y with|nil=>exact⟨⟨rfl,r⟩,trivial⟩|cons _ _=>exact h.elim
 |cons p es d=>
  intro y h l;cases y with|nil=>exact h.elim|cons q y=>
    obtain⟨⟨n,g⟩,j⟩:=h;rw[List.map_cons,List.nodup_cons] at l;rw[show bL (p::es) c a=if p.1=c then(p.1,a)::es else p::bL es c a from rZ]
    by_cases m:p.1=c
    .rw[aw m];have o:q.1=am c:=by rw[n,m]
     have u:∀x∈y,¬x.1=am c:=λx t f=>l.1 (List.mem_map.mpr ⟨x,t,by rw[f,o]⟩);have w:gr (q::y) (am c) v=(q.1,v)::y:=by
      delta gr;rw[aw (by rw[List.any_cons,bR o];rfl),List.map_cons,aw o]
      congr 1
      have w:y.map (λx=>if x.1=am c then(x.1,v) else x)=y.map id:=List.map_congr_left λx t=>aq<|u x t;rw[w,List.map_id]
     rw[w];exact⟨⟨n,r⟩,j⟩
    .rw[aq m];have o:¬q.1=am c:=λe=>m (iT<|by rw[<-n,e]);have w:gr (q::y) (am c) v=q::gr y (am c) v:=by
      delta gr;rw[List.any_cons,cA o,Bool.false_or,List.map_cons,aq o]
      by_cases z:(y.any λx=>decide<|x.1=am c)=true
      .rw[aw z,aw z]
      .rw[aq z,aq z];rfl
     rw[w];exact⟨⟨n,g⟩,d j l.2⟩
theorem DictOf.nodup{h:cm}(z:h.DictOf (bW prog w) a y):(y.map (·.1)).Nodup:=by
 obtain⟨_,_,_,_,_,_,_,_,x⟩:=z;exact x
theorem BV{q:Str×au}{k:Str}(h:q.1=k):(q::l).filter (λz=>decide (z.1≠k))=l.filter λz=>decide (z.1≠k):=List.filter_cons_of_neg λe=>br e h
theorem BW{q:Str×au}{k:Str}(h:¬q.1=k):(q::l).filter (λz=>decide (z.1≠k))=q::l.filter λz=>decide (z.1≠k):=List.filter_cons_of_pos (bR h)
theorem QS(k:Str)(v:au)(x:Str):cQ (gr r k v) x=if x=k then some v else cQ r x:=by
 have y:∀l:List (Str×au),(l.any λw=>decide<|w.1=k)=true->cQ (l.map λw=>if w.1=k then(w.1,v) else w) x=if x=k then some v else cQ l x:=by
  intro l
  induction l with|nil=>intro h;exact bg h|cons q l o=>
   intro h;rw[List.map_cons,mI,mI]
   by_cases p:q.1=k
   .rw[aw p]
    by_cases z:x=k
    .rw[aw<|p.trans z.symm,aw z]
    .have j:¬q.1=x:=λe=>z (by rw[<-e,p]);rw[aq j,aq z,aq j]
     by_cases m:(l.any λw=>decide<|w.1=k)=true
     .rw[o m,aq z]
     .rw[List.map_congr_left (g:=id) λw u=>aq λn=>m<|List.any_eq_true.mpr ⟨w,u,bR n⟩,List.map_id]
   .rw[aq p];rw[List.any_cons,cA p,Bool.false_or] at h;rw[o h];exact xq p
 delta gr
 by_cases h:(r.any λw=>decide<|w.1=k)=true
 .rw[aw h];exact y r h
 .rw[aq h];have t:=λw u n=>h<|List.any_eq_true.mpr ⟨w,u,bR n⟩;clear y h
  induction r with
  |nil=>
   show cQ [(k,v)] x=_;rw[mI]
   by_cases z:x=k
   .rw[aw z,aw z.symm]
   .rw[aq z,aq λe=>z e.symm]
  |cons q l o=>rw[List.cons_append,mI,mI,o λw u=>t w<|.tail _ u];exact xq<|t q<|.head _
theorem QT(k:Str)(x:Str):cQ (FW y k) x=if x=k then none else cQ y x:=by
 delta NQ
 induction y with|nil=>exact(ite_self _).symm|cons q l u=>
  by_cases w:q.1=k
  .rw[BV w,u,mI]
   by_cases z:x=k
   .rw[aw z,aw z]
   .rw[aq z,aq z,aq λe=>z<|by rw[<-e,w]]
  .rw[BW w,mI,mI,u];exact xq w
theorem QU{p:Str×au}(h:p∈gr z k v):p.1=k\/∃q∈z,q.1=p.1:=by
 delta gr at h
 by_cases c:(z.any λx=>decide<|x.1=k)=true
 .rw[aw c] at h;refine jL h λq w e=>?_
  by_cases y:q.1=k
  .rw[aw y] at e;clear h;subst e;exact .inl y
  .rw[aq y] at e;clear h;subst e;exact .inr ⟨q,w,rfl⟩
 .rw[aq c] at h;rcases List.mem_append.mp h with h|h
  .exact .inr ⟨p,h,rfl⟩
  .rw[List.mem_singleton] at h;subst h;exact .inl rfl
theorem HU{z:List (Str×au)}{k:Str}:(cQ z k).isSome=z.any λy=>decide (y.1=k):=by
 delta cQ;rw[Option.isSome_map,List.isSome_find?]
theorem QV(k:Str)(v:au):(gr z k v).length=if(cQ z k).isSome then z.length else z.length+1:=by
 rw[HU];delta gr
 by_cases c:(z.any λy=>decide<|y.1=k)=true
 .rw[aw c,aw c];exact List.length_map _
 .rw[aq c,aq c];exact List.length_append
theorem QW{k:Str}(h:(cQ z k).isSome=true):(FW z k).length+1<=z.length:=by
 delta NQ;rw[HU] at h
 induction z with|nil=>exact bg h|cons q l x=>
  by_cases y:q.1=k
  .rw[BV y];exact Nat.succ_le_succ<|List.length_filter_le _ l
  .rw[BW y];rw[List.any_cons,cA y,Bool.false_or] at h;exact Nat.succ_le_succ<|x h
abbrev BX(a:Option AV):Nat:=if a.isSome then 1 else 0
theorem QX(a):BX a<=1:=by
 cases a with|none=>exact Nat.zero_le _|some _=>exact Nat.le_refl _
theorem HV(l:List (Nat×Option AV))(x:Nat)(a:Option AV):d_ (bL l x a)+ad (ae l x) 0 BX=d_ l+BX a:=by
 induction l with|nil=>exact(Nat.zero_add _).symm|cons p l z=>
  rw[show bL (p::l) x a=if p.1=x then(p.1,a)::l else p::bL l x a from rZ,b3]
  by_cases h:p.1=x
  .rw[aw h,aw h];exact(Nat.add_comm _ _).trans ((aT _<|Nat.add_comm _ _).trans (Nat.add_assoc _ _ _).symm)
  .rw[aq h,aq h];exact(Nat.add_assoc _ _ _).trans ((aT _ z).trans (Nat.add_assoc _ _ _).symm)
theorem HW(l:List (Nat×Option AV)):d_ l<=l.length:=by
 induction l with|nil=>exact Nat.le_refl _|cons p l z=>exact Nat.le_trans (Nat.le_of_eq<|Nat.add_comm _ _)<|Nat.add_le_add z<|QX p.2
theorem aD.del:∀{es:iJ}{z:List (Str×au)},aD (fx ρ m) es z->(z.map (·.1)).Nodup->aD (fx ρ m) (mh es c) (FW z (am c))
 | [],[],_,_=>trivial
 |p::es,q::z,h,r=>by
  obtain⟨⟨t,n⟩,o⟩:=h;rw[List.map_cons,List.nodup_cons] at r;rw[show mh (p::es) c=if p.1=c then es else p::mh es c from rZ];delta NQ
  by_cases x:p.1=c
  .have y:q.1=am c:=by rw[t,x]
   rw[aw x,BV y];have v:z.filter (λw=>decide<|w.1≠am c)=z:=List.filter_eq_self.mpr λw u=>bR λe=>r.1 (List.mem_map.mpr ⟨w,u,by rw[e,y]⟩);rw[v];exact o
  .have y:¬q.1=am c:=λe=>x (iT<|by rw[<-t,e]);rw[aq x,BW y];exact⟨⟨t,n⟩,aD.del o r.2⟩
theorem QY(es:iJ)(c:Nat):(mh es c).length<=es.length:=by
 induction es with|nil=>exact Nat.le_refl _|cons p es z=>
  rw[show mh (p::es) c=if p.1=c then es else p::mh es c from rZ]
  by_cases h:p.1=c
  .rw[aw h];exact Nat.le_succ _
  .rw[aq h];exact Nat.succ_le_succ z
theorem HX(es:List (Nat×y))(c:Nat)(v:y):(bL es c v).length<=es.length+1:=by
 induction es with|nil=>exact Nat.le_refl _|cons p es z=>
  rw[show bL (p::es) c v=if p.1=c then(p.1,v)::es else p::bL es c v from rZ]
  by_cases h:p.1=c
  .rw[aw h];exact Nat.le_succ _
  .rw[aq h];exact Nat.succ_le_succ z
theorem BY(v:z):∀(l:List z)(n:Nat),wX l v n=l.set n v
 | [],_=>rfl
 |_::_,0=>rfl
 |x::l,n+1=>by show x::wX l v n=_;rw[BY v l n];rfl
theorem aD.set{a:u}{b:w}(r:R a b):∀{z:List u}{y:List w}(n:Nat),aD R z y->aD R (z.set n a) (y.set n b)
 | [],[],_,_=>trivial
 |_::_,_::_,0,x=>⟨r,x.2⟩
 |_::_,_::_,n+1,x=>⟨x.1,x.2.set r n⟩
theorem QZ(y:s.heap.PlainList l x)(n:0<=k)(u:k<2 ^ 63)(e:k<x.size)(m:∀p,p.PlainList l (x.setIfInBounds k.toNat v)->kZ l s.heap p->Q () { s with heap:=p }):aF (cw prog w) A (wj (.ref l) (.int k t) v) Q E s:=by
 have o:=y.isList;obtain⟨f,z⟩:=y;delta wj
 try with_reducible refine gq ?_
 first|refine iw ?_|skip
 refine aI (al7 o.typeIs (by decide) ?_);refine aI (NR o.typeIs al8
  (Aj al8 o.typeIs entry_list_setitem ?_<|args_list_setitem _ _ _))
 show aF _ _ (az0 (.int k t) >>= _) _ _ s;refine aI<|wpAny_listSubscript_int (fitsIndex_of n u) ?_;clear u;obtain⟨j,rfl⟩:=Int.eq_ofNat_of_zero_le n;have h:j<x.size:=by omega
 have q:=NT h;refine aI<|aI<|wpAny_seqItemAt z rfl<|bz ?_;rw[q];have r:(s.heap.update l<|wk (·.setIfInBounds j v)).PlainList l (x.setIfInBounds j v):=by have g:=Ap (wk (·.setIfInBounds j v)) z rfl;exact⟨_,g⟩
 refine aI<|wpAny_setSeqItemAt z rfl ?_
 first
  |exact iw<|bz ⟨.none,rfl,bz<|m _ r<|wi ..⟩
  |exact bz ⟨.none,rfl,bz<|m _ r<|wi ..⟩
theorem BZ{c:Prop}[Decidable c]{a:Nat}:(if c then a else a+1)<=a+1:=by
 by_cases h:c
 .rw[aw h];exact Nat.le_succ _
 .rw[aq h];exact Nat.le_refl _
theorem Q0(l:∀c x,ae es c=some x->dD ρ r x (cQ y (am c)))(z:y.length<=d_ es)(k:Nat)(v:AV)(vv:au):(gr y (am k) vv).length<=d_ (bL es k (some v)):=by
 have e2:=HV es k<|some v;rw[QV];cases hl:ae es k with
 |none=>rw[hl] at e2;have e2:d_ (bL es k<|some v)=d_ es+1:=e2;rw[e2];exact Nat.le_trans BZ<|Nat.succ_le_succ z
 |some x=>
  have s:=l k x hl;rw[hl] at e2;cases x with
  |none=>have e2:d_ (bL es k<|some v)=d_ es+1:=e2;rw[e2];exact Nat.le_trans BZ<|Nat.succ_le_succ z
  |some u=>obtain⟨w,t,_⟩:=mJ s;have e2:=Nat.succ.inj e2;rw[t,e2];exact z
section
variable {ρ:bu}{H H':AH}{ls:Lo}{s:aU}{A:dH}{E:tY1}{i v:AV}{vi vv:au}{Q:Unit->aU->Prop}
theorem Q1(S:X.St ρ H ls s)(n:ρ j=some y)(o:H.get j=some (.dict es))(g:aE ρ X.σ v vv)(h:Nat.ble (len es) 900=true)(q:∀p,X.St ρ (H.set j (.dict (bL es k v))) ls p->Q () p):aF X.M A (wj (.ref y) (.str (am k) t) vv) Q E s:=by
 obtain⟨r,w,l,z⟩:=fz S o n;have u:=Nat.le_of_ble_eq_true h;rw[fL] at u;have i:=hK;have e1:=l.length;have e2:=HX es k v;exact al9 (mK k t) w (λf m x=>q _<|S.updS o n x ⟨_,m,aD.put g l<|DictOf.nodup w,(lin [es.length,r.length,(bL es k v).length] 0x94a5268004e21236a805011b84168000e112168004e2121) z u e1 e2⟩)<|(lin [es.length,eV,r.length] 0x252949a21b861740000012268000e112168004e2121) z u i e1
theorem Q2(S:X.St ρ H ls s)(d:ρ j=some y)(a:H.get j=some (.umap es)){k:Nat}(P:aE ρ X.σ v vv)(R:Nat.ble (len es) 900=true)(q:∀f,X.St ρ (H.set j (.umap (bL es k (some v)))) ls f->Q () f):aF X.M A (wj (.ref y) (.str (am k) t) vv) Q E s:=by
 obtain⟨n,u,z,l,m⟩:=fz S a d;have o:=Nat.le_of_ble_eq_true R;rw[fL] at o;have i:=hK;have e1:=HW es;refine al9 (mK k t) u (λC N w=>q _<|S.updS a d w ⟨_,N,Q0 l z k v vv,λc h r=>?_,λp x=>?_⟩)<|(lin [n.length,d_ es,es.length,eV] 0x1294a4d205a313a000000923400070891b441) z o i e1
 .rw[kz] at r;rw[QS]
  by_cases e:c=k
  .rw[aw e] at r;rw[aw<|aT am e,<-Option.some.inj r];exact P
  .rw[aq e] at r;rw[aq<|mF e];exact l c h r
 .rcases QU x with e|⟨F,g,e⟩
  .exact⟨k,some v,by rw[kz,aw rfl],e⟩
  .obtain⟨c,h,r,Z⟩:=m F g
   by_cases b:c=k
   .exact⟨k,some v,by rw[kz,aw rfl],by rw[<-e,Z,b]⟩
   .exact⟨c,h,by rw[kz,aq b];exact r,by rw[<-e,Z]⟩
theorem Q3(S:X.St ρ H ls s)(n:ρ j=some y){x:tY0}(o:H.get j=some (.list x)){d:Nat}(h:aE ρ X.σ v vv)(k:Nat.blt d (len x)=true)(q:∀p,X.St ρ (H.set j (.list (wX x v d))) ls p->Q () p):aF X.M A (wj (.ref y) (.int d t) vv) Q E s:=by
 obtain⟨w,L,l,z⟩:=fz S o n;have r:d<x.length:=by rw[<-fL];exact Nat.le_of_ble_eq_true k
 have e1:=l.length;have:=hK;refine QZ L (by omega) (by omega) (by simp;exact(lin [d,x.length,w.length] 0x4a4c185c313041) r e1) λg m u=>q _<|S.updS o n u ⟨w.set d vv,?_,?_,?_⟩
 .rw[show(w.set d vv).toArray=w.toArray.setIfInBounds (d:Int).toNat vv by simp];exact m
 .rw[BY];exact l.set h d
 .rw[BY,List.length_set];exact z
theorem Q4(_O:X.Ok)(S:X.St ρ H ls s)(g:aE ρ X.σ o f)(n:aE ρ X.σ i vi)(l:aE ρ X.σ v vv)(h:rQ H o i v=some H')(q:∀x,X.St ρ H' ls x->Q () x):aF X.M A (wj f vi vv) Q E s:=by
 cases o with
 |ref j=>
  refine ba h λob w h=>kv g λy m=>?_;cases ob with
  |dict es=>exact ba h λk r h=>gW n r λt=>lm h λp h=>Q1 S m w l p λx u=>q x<|Option.some.inj h▸u
  |umap es=>exact ba h λk r h=>gW n r λt=>lm h λp h=>Q2 S m w l p λx u=>q x<|Option.some.inj h▸u
  |list z=>exact ba h λk r h=>ba h λd hd h=>mH n r λt=>lm h λp h=>by rw[pT hd];exact Q3 S m w l p λx u=>q x<|Option.some.inj h▸u
  |_=>exact a6 h
 |_=>exact a6 h
theorem HY(z:s.heap.DictOf (bW X.prog X.w) d y)(o:y.length<=100000)(q:(cQ y (am k)).isSome=true)(r:∀x,x.DictOf (bW X.prog X.w) d (FW y (am k))->kZ d s.heap x->Q () { s with heap:=x,toks:=s.toks+1 }):aF X.M A (Aq (.ref d) (.str (am k) t)) Q E s:=by
 have v:=hK;delta Aq;refine gq ?_;refine aI (al7 z.typeIs (by decide) ?_);refine aI (NR z.typeIs am0
  (FX am0 z.typeIs PySem.F.entry_dict_delitem (PySem.F.args_dict_delitem_2 _ _) (meets_dict_delitem_pairs (bW X.prog X.w) d<|mK k t) ⟨y,z,(lin [y.length,eV] 0x1293441740000012268061a8121) o v,q,λx u p=>bz<|r x u p⟩))
theorem Q5(S:X.St ρ H ls s)(m:ρ j=some y)(n:H.get j=some (.dict es))(g:ae es k=some u)(q:∀o,X.St ρ (H.set j (.dict (mh es k))) ls o->Q () o):aF X.M A (Aq (.ref y) (.str (am k) t)) Q E s:=by
 refine fH λw f=>?_;obtain⟨p,r,l,z⟩:=fz S n m;have e:=HD k l;rw[g] at e;have e1:=l.length;have e2:=QY es k;exact f<|HY r ((lin [es.length,p.length] 0x12934030d4091384168004e2121) z e1) e λd h x=>q _<|S.updS n m x ⟨_,h,aD.del l<|DictOf.nodup r,(lin [es.length,p.length,(mh es k).length] 0x12949a00138848da11b84168004e2121) z e1 e2⟩
theorem Q6(S:X.St ρ H ls s){y:bI}(R:ρ j=some y)(N:H.get j=some (.umap es))(Z:ae es k=some (some u))(C:Nat.ble (len es) 900=true)(q:∀a,X.St ρ (H.set j (.umap (bL es k none))) ls a->Q () a):aF X.M A (Aq (.ref y) (.str (am k) t)) Q E s:=by
 obtain⟨f,o,z,l,m⟩:=fz S N R;have g:=Nat.le_of_ble_eq_true C;rw[fL] at g;have e1:=HW es;have P:=BN<|l k _ Z;refine HY o ((lin [f.length,d_ es,es.length] 0x12949a0186a0485a313400070891b441) z g e1) P λh2 D' r=>q _<|S.updS N R r ⟨_,D',?_,λc b n=>?_,λp x=>?_⟩
 .have e2:=HV es k none;rw[Z] at e2;have e2:=e2;exact Nat.le_of_succ_le_succ<|Nat.le_trans (QW P)<|Nat.le_trans z<|Nat.le_of_eq e2.symm
 .rw[kz] at n;rw[QT]
  by_cases e:c=k
  .rw[aw e] at n;rw[aw<|aT am e,<-Option.some.inj n]
   trivial
  .rw[aq e] at n;rw[aq<|mF e];exact l c b n
 .have h:=List.mem_filter.mp x;refine fH λw oo=>?_;obtain⟨c,b,hc,F⟩:=m p h.1;have d:=br h.2;refine oo ?_;exact⟨c,b,by rw[kz,aq (λe=>d<|by rw[F,e])];exact hc,F⟩
theorem Q7(_O:X.Ok)(S:X.St ρ H ls s)(n:aE ρ X.σ o f)(e:aE ρ X.σ i vi)(h:drop H o i=some H')(q:∀z,X.St ρ H' ls z->Q () z):aF X.M A (Aq f vi) Q E s:=by
 cases o with
 |ref j=>
  refine ba h λk l h=>ba h λob x h=>kv n λy p=>gW e l λt=>?_;cases ob with
  |dict es=>exact ba h λu w h=>Q5 S p x w λz r=>q z<|Option.some.inj h▸r
  |umap es=>exact ba h λd g h=>ba h λu w h=>lm h λm h=>Q6 S p x (w▸g) m λz r=>q z<|Option.some.inj h▸r
  |_=>exact a6 h
 |_=>exact a6 h
end
variable (X) in
def xt(n:Nat):Prop:=∀C z,eI.get C=some z->FU X.K C (am n)=some none
theorem Q8(r:X.Ok)(u:ef X)(z:xt X n)(S:X.St Z H ls s)(ro:aE Z X.σ o vo)(rv:aE Z X.σ v vv)(h:GW H n v o=some H')(q:∀N,X.St Z H' ls N->Q () N):aF X.M A (setAttr vo (am n) vv) Q E s:=by
 cases o with
 |ref i=>
  obtain⟨y,hy,rfl⟩:=ro;refine ba (h) λob b h=>?_;cases ob with
  |inst C d=>
   refine ba (h) λes hd h=>?_;obtain⟨a',dx,k,ha,c,⟨F,f⟩,g,t,l⟩:=Hl S b<|gy hd;rw[hy] at ha;cases ha;obtain⟨od,P,hlk⟩:=BF t<|am n;have p:InstAt s.heap y (v8 C dx) C (some od):=⟨g,rfl,rfl,P⟩;have x:=r.inK.keeps S.keep;have a:=u.cls C F f;obtain⟨cd,R,j⟩:=a.cd;cases hb:Nat.ble (len es) 900 with|false=>rw[hb] at h;cases h|true=>
    rw[hb] at h;have m:=Nat.le_of_ble_eq_true hb;rw[fL] at m;have e:=h;injection e with e;subst e
    have e1:=l.length;have e2:=HX es n v;refine QR x p rfl t a.sa a.over (z C F f) (by rw[R];exact j) ((lin [es.length,k.length] 0x129340007d091384168000e1121) m e1) λe tk D' w=>q _ ?_;exact S.updS (by first|assumption|exact gX (by assumption)|exact setAt_some (by assumption)|exact gy (by assumption)|exact(by rw[AH.get_new,aw rfl])) c w ⟨_,D',aD.put rv l<|DictOf.nodup t,(lin [es.length,k.length,(bL es n v).length] 0x4a5268004e21236a805011b84168000e1121) m e1 e2⟩
  |_=>cases h
 |_=>cases h
theorem Q9(h:X.Ok)(j:ef X)(hc:y=am c)(r:xt X c)(q:SE X sc x p):SP X sc (.Attribute x y o) (bC p c):=by
 intro e n z d t v f H k Z hh ρ m R s A Q E v' i S F N PV PE;subst hc;rw[arm_assign_Attribute];refine aI<|gq<|q e n z d t f H _ Z hh ρ m R s A _ E i S F (λP H1 s1 a u b l w g=>?_)<|PE.1 m;refine bw z g λH2 hH g=>?_;exact aI<|rd<|aI<|gq<|Q8 h j r l w (N.ext b) hH λs2 C=>wpAny_release<|PV _ _ _ _ _ b C (F.ext b) g
theorem Q_(g:X.Ok)(l:SE X sc x p)(hy:SE X sc y q):SP X sc (.Subscript x y i) (dC p q):=by
 intro e n z d t v f H k N hh ρ m C s A Q E v' r S F rv PV PE;rw[arm_assign_Subscript];refine aI<|gq<|l e n z d t f H _ N hh ρ m C s A _ E r S F (λP H1 s1 a u c h o h1=>?_)<|PE.1 m;refine aI<|gq<|hy e n z d t f H1 _ N h1 P m C s1 A _ E r h (F.ext c) (λρ2 H2 s2 b w Z S2 r2 R=>?_)<|(PE.1 m).ext c;refine bw z R λH3 hH R=>?_;exact aI<|rd<|aI<|gq<|Q4 g S2 (o.ext Z) r2 (rv.ext<|c.trans Z) hH λs3 j=>wpAny_release<|PV _ _ _ _ _ (c.trans Z) j (F.ext<|c.trans Z) R
def mM(X:Fx)(r:bJ)(z:List aS)(p:jP X.R):Prop:=(∀x:Env,(l9 z x).length=z.length/\(l9 z x).findIdx? (·.1)=none)/\∀(e:EV X.R)n,bD X e n->∀x,cU r x->∀y f H k t,X.holds (p e y f H k t)->∀v m u s A Q E w,cC A (x.frame,x.locals::df u) n e.hd->X.St v H ((x.locals,.ns m)::u) s->dg X v f x m->aD (aE v X.σ) y w->
 HQ X k x u v Q->mL X t x u A v E->w.length=z.length->aF X.M A (assignInOrder ((l9 z x).map (·.2)) w) Q E s
theorem Ra:mM X d [] xg:=by
 refine⟨λz=>⟨rfl,rfl⟩,?_⟩;intro e n x p w y f H k l u i m j s A Q E t v S F q o g h;refine ee x u λr u=>?_;cases y with|cons _ _=>cases r|nil=>
  cases t with|cons _ _=>exact q.elim|nil=>exact wpAny_assignInOrder_none<|o _ _ _ _ _ (.refl _) S F u
theorem Rb(C:∀(l:Env)(j:List aS),l9 (t::j) l=(false,l8 t l)::l9 j l)(u:SP X sc t p)(P:mM X sc q r):mM X sc (t::q) (nT p r):=by
 refine⟨λl=>?_,?_⟩
 .obtain⟨d,h⟩:=P.1 l;rw[C];refine⟨by rw[List.length_cons,d];rfl,?_⟩;rw[List.findIdx?_cons,h];rfl
 intro e n y l x z f H k a R ρ m Z s A Q E i w S F c PV N hl;rw[C];cases z with|nil=>exact aP R y.stop|cons v z=>
  cases i with|nil=>exact c.elim|cons v' i=>refine wpAny_assignInOrder_more<|u e n y l x v f H _ a R ρ m Z s A _ E v' w S F c.1 (λg f1 H1 m1 s1 b o F1 d=>?_) N;exact P.2 e n y l x z f1 H1 k a d g m1 Z s1 A Q E i w o F1 (c.2.rel_ext b) (λρ2 f2 H2 m2 s2 x2 S2 F2 h=>PV _ _ _ _ _ (b.trans x2) S2 F2 h) (N.ext b) (by simpa using hl)
theorem HZ(h:wZ H v=some y):jc H v=some (.tup y):=by
 refine ba (h) λo z h=>?_;cases o with
 |tup x=>injection h with h;subst h;exact z
 |_=>cases h
theorem Rc(a:X.Ok)(N:mM X sc x r):SP X sc (.Tuple x c h) (By x.length r):=by
 intro e n w R j v f H k ke Z ρ m ls s A Q E v' p S F rv PV PE;refine ee w Z λhd Z=>?_;refine bw w Z λu i Z=>?_;refine eY w Z λhl Z=>?_;obtain⟨y,rfl,hy,t,L,l,z⟩:=rV a S (HZ i) rv;have L:=L.isTup;have P:u.length=x.length:=by rw[<-fL];exact Nat.eq_of_beq_eq_true hl
 have e1:=l.length;obtain⟨h1,C⟩:=N.1 R;refine am1 (p.2.2.1 hd) L (by rw[h1];simp;exact(lin [u.length,x.length,t.length] 0x4a4e189c30b841) P e1) C λh' hb=>?_;have S':=S.keeps (tk:=s.toks) (d:=s.drawn) λb o g=>hb b o (λq=>by subst q;exact aP (d3 g)<|Nat.lt_irrefl _) g;exact N.2 e n w R j u f H k ke Z ρ m ls _ A Q E t p S' F l PV PE<|(lin [u.length,x.length,t.length] 0x4a4e10dc30b841) P e1
theorem Rd(hs:∀j,Ar [t] x z.line j=pure false)(hw:∀j,wl [t] x j=pure none)(hn:∀j:Env,l9 [t] j=[(false,l8 t j)])(R:SP X b t p)(o:SE X b x q):SS X b (.Assign [t] x z) (aA p q):=by
 intro e n w j y f H k g hh ρ m d s A Q E u S F PV c;refine am2 (o e n w j y f H _ g hh ρ m d s A _ E u S F (λi H1 s1 a v h l r C=>?_)<|c.1 m) (hs j)<|hw j;rw[hn];exact R e n w j y a f H1 _ g C i m d s1 A _ E v u l (F.ext h) r (λP f2 H2 m2 s2 x2 S2 N Z=>PV _ .nxt _ _ _ _ _ (h.trans x2) S2 N rfl Z)<|c.ext h
theorem Re(l:X.Ok)(w:SE X d x p)(hy:SE X d y q):SS X d (.Delete [.Subscript x y sp] r) (nU p q):=by
 intros
 refine wpAny_Delete<|wpAny_deleteEach_cons<|wpAny_delete_Subscript<|w e n G W Y f H _ M Z R m I s A _ E V S F (λh C s1 a v j o z P=>?_)<|B.1 m;refine hy e n G W Y f C _ M P h m I s1 A _ E V o (F.ext j) (λc H2 s2 b u g N r2 i=>?_)<|(B.1 m).ext j;refine bw G i λH3 hH i=>?_;exact Q7 l N (z.ext g) r2 hH λs3 t=>wpAny_deleteEach_nil<|K _ .nxt _ _ _ _ _ (j.trans g) t (F.ext<|j.trans g) rfl i
def iV(ρ:bu)(z:de)(src:gU)(i:Nat)(o:Obj):Prop:=match src with
 |.lst j=>∃l,ρ j=some l/\o.cls=.type "list_iterator"/\o.data=.fields #[.ref l,.int i 0]
 |.tup v=>∃l,aE ρ z v (.ref l)/\o.cls=.type "tuple_iterator"/\o.data=.fields #[.ref l,.int i 0]
 |.rng n=>i<=n/\o = { cls:=.type "range_iterator",dict:=none,data:=.fields #[iH (i:Int),iH ((n:Int) - i),iH 1],slots:=#[] }
 |.str l=>∃x t,o.cls=.type "str_ascii_iterator"/\o.data=.fields #[.str x t,.int i 0]/\x.cps.toList=l/\∀c∈l,jM c=true
theorem iV.ext(x:bU ρ z)(h:iV ρ y src i o):iV z y src i o:=by
 cases src with
 |lst j=>obtain⟨l,e,r⟩:=h;exact⟨l,x _ _ e,r⟩
 |tup v=>obtain⟨l,e,r⟩:=h;exact⟨l,e.ext x,r⟩
 |rng n=>exact h
 |str l=>exact h
theorem H0(h:wz l=true):∀c∈l,jM c=true:=by
 induction l with|nil=>intro c z;cases z|cons d l x=>
  have y:J (jM d) (wz l) false=true:=h;cases hd:jM d with|false=>rw[hd] at y;cases y|true=>
   rw[hd] at y;intro c z;clear h;refine bk z ?_ λz=>?_
   .exact hd
   .exact x y c z
section
variable {ρ:bu}{H:AH}{ls:Lo}{s:aU}{A:dH}{E:tY1}
def xu(X:Fx)(ρ:bu)(s:aU)(Q:tY1)(src:gU):Prop:=∀o,iV ρ X.σ src 0 o->o.isFreed=false->Q (.ref s.heap.objs.size) { s with heap:=s.heap.push o }
theorem Rf(z:wz (cps c)=true)(q:xu X ρ s Q (.str (cps c))):aF X.M A (pu (.str (am c) t)) Q E s:=by
 refine wpAny_pyIter_ascii ?_ (q _ ⟨am c,t,rfl,rfl,by rfl,H0 z⟩ rfl);delta am;rw[Array.all_toList.symm,List.all_eq_true];intro d hd;exact bR (Hq (H0 z d<|by simpa using hd)).2
theorem Rg(r:cb X.prog X.w ρ X.σ s.heap y (.rng n))(q:xu X ρ s Q (.rng n)):aF X.M A (pu (.ref y)) Q E s:=by
 obtain⟨z,t,u,w,g⟩:=r;have v:am3 0 n 1=n:=by
  delta am3;rw[aw<|by decide]
  by_cases x:(0:Int)<n
  .rw[aw x,Int.ediv_one];omega
  .rw[aq x];omega
 refine wpAny_pyIter_range g ?_ ?_
 .delta az1;rw[v];delta az2;simp;omega
 .rw[v];exact q { cls:=.type "range_iterator",data:=.fields #[iH 0,iH n,iH 1] } ⟨Nat.zero_le _,.refl _⟩ rfl
theorem Rh(v:ρ j=some y)(r:cb X.prog X.w ρ X.σ s.heap y o)(h:rN (.ref j) j o=some src)(q:xu X ρ s Q src):aF X.M A (pu (.ref y)) Q E s:=by
 cases o with
 |list x=>rw[<-Option.some.inj h] at q;obtain⟨z,L,_⟩:=r;exact FY L.isList<|q _ ⟨y,v,rfl,rfl⟩ rfl
 |tup x=>rw[<-Option.some.inj h] at q;obtain⟨z,L,_⟩:=r;exact NU L.isTup<|q _ ⟨y,⟨y,v,rfl⟩,rfl,rfl⟩ rfl
 |rng n=>rw[<-Option.some.inj h] at q;exact Rg r q
 |_=>exact a6 h
theorem B0(u:X.Ok)(S:X.St ρ H ls s)(p:aE ρ X.σ v l)(h:mC H v=some src)(q:∀o,iV ρ X.σ src 0 o->o.isFreed=false->Q (.ref s.heap.objs.size) { s with heap:=s.heap.push o }):aF X.M A (pu l) Q E s:=by
 have q:xu X ρ s Q src:=q;cases v with
 |str c=>exact lm h λk h=>gW p rfl λt=>Rf k<|Option.some.inj h▸q
 |ref j=>exact ba h λo z h=>kv p λy m=>Rh m (fz S z m) h q
 |glo a=>
  refine ba h λo z h=>?_;obtain⟨n,r⟩:=u.stat a o z;have e:l=.ref a:=p;rw[e];cases o with
  |tup w=>rw[<-Option.some.inj h] at q;obtain⟨x,L,_⟩:=r.at λob g=>S.keep _ _ g;exact NU L.isTup<|q _ ⟨a,rfl,rfl,rfl⟩ rfl
  |_=>exact a6 h
 |_=>exact a6 h
def ug(X:Fx)(ρ:bu)(s:aU)(I:bI)(src:gU)(i:Nat)(Q:Option au->aU->Prop)(r:Option AV):Prop:=
 (∀a,r=some a->∀z x v y,kZ I s.heap z->z.get? I=some y->iV ρ X.σ src (i+1) y->aE ρ X.σ a v->Q (some v) { s with heap:=z,toks:=x })/\(r=none->∀z,am4 I s.heap z->Q none { s with heap:=z })
section
variable {src:gU}{i:Nat}{o:Obj}{I:bI}{r:Option AV}{Q:Option au->aU->Prop}
theorem Ri(h:A.handled=none)(g:s.heap.get? I=some o)(L:s.heap.IsList l w.toArray)(z:aD (aE ρ X.σ) y w)(k:o.cls=.type "list_iterator")(hd:o.data=.fields #[.ref l,.int i 0])(x:∀t:Obj,t.cls=.type "list_iterator"->t.data=.fields #[.ref l,.int (i+1:Nat) 0]->iV ρ X.σ src (i+1) t)(q:ug X ρ s I src i Q (gR y i)):aF X.M A (nF (.ref I)) Q E s:=by
 rw[pM] at q;cases hx:y[i]? with
 |none=>exact wpAny_pyNext_list_end h ⟨o,g,k,hd⟩ L (List.getElem?_toArray.trans<|z.nth_none hx) λp f=>q.2 hx p f
 |some a=>obtain⟨v,j,d⟩:=z.nth hx;exact wpAny_pyNext_list_item ⟨o,g,k,hd⟩ L (List.getElem?_toArray.trans j) λp ⟨t,e,n,m⟩ u=>q.1 a hx p s.toks v t u e (x t n m) d
theorem Rj(h:A.handled=none)(g:s.heap.get? I=some o)(L:IsTup s.heap l w.toArray)(z:aD (aE ρ X.σ) y w)(k:o.cls=.type "tuple_iterator")(hd:o.data=.fields #[.ref l,.int i 0])(x:∀t:Obj,t.cls=.type "tuple_iterator"->t.data=.fields #[.ref l,.int (i+1:Nat) 0]->iV ρ X.σ src (i+1) t)(q:ug X ρ s I src i Q (gR y i)):aF X.M A (nF (.ref I)) Q E s:=by
 rw[pM] at q;cases hx:y[i]? with
 |none=>exact wpAny_pyNext_tuple_end h ⟨o,g,k,hd⟩ L (List.getElem?_toArray.trans<|z.nth_none hx) λp f=>q.2 hx p f
 |some a=>obtain⟨v,j,d⟩:=z.nth hx;exact wpAny_pyNext_tuple_item ⟨o,g,k,hd⟩ L (List.getElem?_toArray.trans j) λp ⟨t,e,n,m⟩ u=>q.1 a hx p s.toks v t u e (x t n m) d
theorem Rk(t:A.handled=none){n:Nat}(g:s.heap.get? I=some { cls:=.type "range_iterator",dict:=none,data:=.fields #[iH (i:Int),iH ((n:Int) - i),iH 1],slots:=#[] })(p:i<=n)(q:ug X ρ s I (.rng n) i Q (J (Nat.blt i n) (some (AV.int (.ofNat i))) none)):aF X.M A (nF (.ref I)) Q E s:=by
 cases hb:Nat.blt i n with|true=>rw[hb] at q;have y:=Nat.le_of_ble_eq_true hb;refine wpAny_pyNext_range_item g (by omega) λx u z=>q.1 _ rfl x (s.toks+1) _ _ z u ⟨y,?_⟩ ⟨_,rfl⟩;rw[show(i+1)=((i+1:Nat):Int) by omega,show(n - i - 1)=n - ((i+1:Nat):Int) by omega]|false=>rw[hb] at q;have v:=Nat.not_lt.mp λh=>bg<|hb.symm.trans<|Nat.ble_eq_true_of_le h;exact wpAny_pyNext_range_end t g (by omega) λx w=>q.2 rfl x w
theorem Rl(k:A.handled=none)(g:s.heap.get? I=some o)(h:iV ρ X.σ (.str l) i o)(q:ug X ρ s I (.str l) i Q (ad (gR l i) none λc=>some (AV.str c))):aF X.M A (nF (.ref I)) Q E s:=by
 obtain⟨x,t,m,hd,z,w⟩:=h;rw[pM] at q;cases hn:l[i]? with|none=>rw[hn] at q;exact wpAny_pyNext_ascii_end k ⟨o,g,m,hd⟩ (by rw[(FZ).symm,z];exact hn) λv n=>q.2 rfl v n|some c=>rw[hn] at q;refine wpAny_pyNext_ascii_item ⟨o,g,m,hd⟩ (by rw[(FZ).symm,z];exact hn) λv ⟨f,j,u,p⟩ y=>q.1 _ rfl v (s.toks+1) _ f y j ⟨x,t,u,p,z,w⟩ ⟨s.toks,?_⟩;rw[Hr<|w c<|List.mem_of_getElem? hn]
theorem B4(p:X.Ok)(d:A.handled=none)(S:X.St ρ H ls s)(g:s.heap.get? I=some o)(f:iV ρ X.σ src i o)(h:li H src i=some r)(R:∀a,r=some a->∀m N v c,kZ I s.heap m->m.get? I=some c->iV ρ X.σ src (i+1) c->aE ρ X.σ a v->Q (some v) { s with heap:=m,toks:=N })(P:r=none->∀m,am4 I s.heap m->Q none { s with heap:=m }):aF X.M A (nF (.ref I)) Q E s:=by
 have q:ug X ρ s I src i Q r:=⟨R,P⟩;clear R P;cases src with
 |lst j=>refine ba h λt x h=>?_;obtain⟨l,k,Z,hd⟩:=f;obtain⟨u,L,z,_⟩:=fz S (gX x) k;exact Ri (src:=.lst j) d g L.isList z Z hd (λc a b=>⟨l,k,a,b⟩)<|Option.some.inj h▸q
 |tup w=>
  refine ba h λt x h=>?_;obtain⟨l,k,Z,hd⟩:=f;obtain⟨y,e,F,u,L,z,_⟩:=rV p S (HZ x) k;injection e with e
  exact Rj (src:=.tup w) d g (e▸L.isTup) z Z hd (λc a b=>⟨l,k,a,b⟩)<|Option.some.inj h▸q
 |rng n=>exact Rk d (g.trans<|aT some f.2) f.1<|Option.some.inj h▸q
 |str l=>exact Rl d g f<|Option.some.inj h▸q
end
end
theorem xv(y:bD X e n):fy X (eB e) ls A ρ E:=λz z z z z z z z h=>aP h y.stop
theorem nZ(y:bD X e n):mL X (eB e) x ls A ρ E:=⟨λz=>xv y,λz z z z z z z z z z z h=>aP h y.stop⟩
theorem St.same(S:St prog w h₀ os₀ y v H (p::q::x) s):St prog w h₀ os₀ y v H (p::x) s:=
 S.drop2 λz z z g=>g
theorem St.perm(S:X.St w H v s)(p:List.Perm y v):X.St w H y s:=
 S.locs [] (λz h=>nomatch h) (λz z z g=>g) (λq x=>⟨(S.loc q<|p.mem_iff.mp x).1,List.mem_map.mpr ⟨q,p.mem_iff.mp x,rfl⟩⟩) ((p.map _).nodup_iff.mpr S.apart)
@[elab_as_elim] theorem B7{x:aK->AH->X.R}{k:KS X.R}{v:Fl}{f:aK}{H:AH}(h:X.holds (kt x k v f H)){t:bu}{y:pr->Prop}{z:pr}(r:BU t X.σ v z)(n:X.holds (x f H)->y .next)(c:X.holds (x f H)->y .cont)(b:X.holds (k .nxt f H)->y .brk)(s:∀u w,aE t X.σ u w->X.holds (k (.ret u) f H)->y (.ret w)):y z:=by
 cases v with|nxt=>exact r▸n h|cnt=>exact r▸c h|brk=>exact r▸b h|ret u=>exact let⟨w,e,r⟩:=r;e▸s u w r h
def xw(z:Nat->aU->Prop)(R:v9->aU->Prop)(n:Nat)(f:pr)(s:aU):Prop:=match f with
 |.next=>∃m,m<n/\z m s
 |.cont=>∃m,m<n/\z m s
 |.brk=>R (.ok .next) s
 |.ret v=>R (.ok<|.ret v) s
theorem H_(u:Nat->aU->Prop)(l:∀v,l_ y w v=pure ())(x:∀n s(p:tY1)(o:Option au->aU->Prop),u n s->(∀t,R (.ok .next) t->o none t)->(∀v t,aF X.M A (l8 y q v) (λz r=>aF X.M A (pt body q) (xw u R n) p r) p t->o (some v) t)->aF X.M A (nF w) o p s)(n:Nat)(h:u n s):f0 X.M A (.forLoop y w body [] q) R s:=
 codeAny_forLoop u (λn s m=>x n s _ _ m (λz h=>tA h) λz z h=>il h (λz z h=>il h (λf z h=>by cases f<;>exact h) λz z h=>h) λz z h=>h) n h l
inductive uh(X:Fx)(ρ₁:bu)(env:Env)(ls:Lo)(I:bI)(src:gU)(L:Nat->Nat->aK->AH->X.R)(c:Nat)(s:aU):Prop
 |mk (i:Nat) (f:aK) (H:AH) (ρ:bu) (m:Str->Option au) (o:Obj) (x:bU ρ₁ ρ) (S:X.St ρ H ((env.locals,.ns m)::(I,.ob o)::ls) s) (F:dg X ρ f env m) (io:iV ρ X.σ src i o) (h:X.holds (L c i f H)):uh X ρ₁ env ls I src L c s
def Ia(e:EV X.R)(p:XP X.R)(b:XS X.R)(z:gU)(k:KS X.R)(c i:Nat)(f:aK)(H:AH)(v:AV):X.R:=p e v f H (λf h=>b e f h (kt (iv e p b z k c (i+1)) k) (eB e)) (eB e)
theorem Rm(z:bD X e n)(h:X.holds (iv e p b x k c i f H)){y:Prop}(g:∀w r,c=w+1->li H x i=some r->(r=none->X.holds (k .nxt f H))->(∀a,r=some a->X.holds (Ia e p b x k w i f H a))->y):y:=by
 cases c with|zero=>exact aP h z.stop|succ c=>exact bw z (show X.holds (ad (li H x i) e.stop λr=>ad r (k .nxt f H)<|Ia e p b x k c i f H) from h) λr v h=>g c r rfl v (λq=>by rw[q] at h;exact h) λa q=>by rw[q] at h;exact h
theorem Rn(Q:X.Ok)(l:SP X sc t p)(hb:SB X sc body b)(y:bD X e n)(x:cU sc P){F:Lo}(q:cC A (P.frame,P.locals::df F) n e.hd)(hh:A.handled=none)(PV:jT X k P F N λf s=>R (.ok f) s)(c:Nat)(s:aU)(E':tY1)(Qn:Option au->aU->Prop)(hI:uh X N P F S H (iv e p b H k) c s)(q1:∀C,R (.ok .next) C->Qn none C)(q2:∀v C,aF X.M A (l8 t P v) (λz E=>aF X.M A (pt body P) (xw (uh X N P F S H (iv e p b H k)) R c) E' E) E' C->Qn (some v) C):aF X.M A (nF (.ref S)) Qn E' s:=by
 obtain⟨i,f2,H2,ρ2,m2,d,x2,S2,F2,io2,hc⟩:=hI;refine Rm y hc λc' r ec hr hc1 hc2=>B4 Q hh S2 (S2.loc _<|.tail _<|.head _).1 io2 hr (λa ha h' tk v' o' j g' io' rv=>q2 _ _ ?_) λhn h' hb'=>q1 _<|PV _ .nxt _ _ _ _ _ x2 (S2.drop2 λb ob nb g=>hb' b ob nb g) F2 rfl<|hc1 hn;refine l e n y P x a f2 H2 _ _ (hc2 a ha) ρ2 m2 ((S,.ob o')::F) _ A _ _ v' q (S2.loc2 (λb ob nb g=>(j.2 b nb).trans g) g') F2 rv (λρ3 f3 H3 m3 s3 x3 S3' F3 h3'=>?_)<|nZ y;refine hb e n y P x f3 H3 _ _ h3' ρ3 m3 ((S,.ob o')::F) s3 A _ _ q S3' F3 (λρ4 fl f4 H4 o s4 Z x4 S4 F4 r4 h4=>?_)<|nZ y;have x5:=(x2.trans x3).trans x4;have go:X.holds (iv e p b H k c' (i+1) f4 H4)->∃m,m<c/\uh X N P F S H (iv e p b H k) m s4:=λh=>⟨c',ec▸Nat.lt_succ_self _,i+1,f4,H4,ρ4,o,o',x5,S4,F4,io'.ext<|x3.trans x4,h⟩;exact B7 h4 r4 go go (λh=>PV _ .nxt _ _ _ _ _ x5 S4.same F4 rfl h) λu w r h=>PV _ (.ret u) _ _ _ _ _ x5 S4.same F4 ⟨w,rfl,r⟩ h
theorem Ro(r:X.Ok)(w:∀i v,l_ t i v=pure ())(x:SP X g t p)(d:SB X g body b)(y:bD X e n)(z:cU g o)(u:cC A (o.frame,o.locals::df j) n e.hd)(Z:A.handled=none)(a:jT X k o j m λf s=>R (.ok f) s)(c:Nat)(h:uh X m o j q l (iv e p b l k) c s):f0 X.M A (.forLoop t (.ref q) body [] o) R s:=
 H_ _ (w _) (Rn r x d y z u Z a) c h
theorem jT.ext(x:bU u v)(p:jT X k w t u Q):jT X k w t v Q:=λz z z z z z z y=>p _ _ _ _ _ _ _ (x.trans y)
theorem Ib(Z:X.Ok)(hfs:∀N x,rh r N x=pure x)(d:∀i v,l_ t i v=pure ())(h:SP X sc t p)(hi:SE X sc r q)(hb:SB X sc body b):SS X sc (.For t r body [] c) (cR p q b):=by
 intro e n y N u f H k ke hh ρ m ls s A Q E w S F PV PE;refine As (hi e n y N u f H _ ke hh ρ m ls s A _ E w S F (λρ1 H1 s1 a v x1 l j h1=>?_)<|PE.1 m)<|hfs N;refine BE λP R=>ee y h1 λhd h2=>bw y h2 λsrc C h3=>B0 Z l j C λo io fr=>R _ _ ?_;exact Ro Z d h hb y u w (w.2.2.1 hd) (PV.ext x1) e.fuel ⟨0,f,H1,ρ1,m,o,.refl _,l.enter2 (λz z g=>fZ o g) (Nat.le_refl _)<|d8 _ fr,F.ext x1,io,h3⟩
def Rp(e:EV X.R)(t:XB X.R)(b:XS X.R)(k:KS X.R)(c:Nat)(f:aK)(v:Bool)(H:AH):X.R:=J v (b e f H (kt (rS e t b k c) k) (eB e)) (k .nxt f H)
inductive B8(X:Fx)(ρ₁:bu)(env:Env)(ls:Lo)(L:Nat->aK->AH->X.R)(c:Nat)(s:aU):Prop
 |mk (f:aK) (H:AH) (ρ:bu) (m:Str->Option au) (x:bU ρ₁ ρ) (S:X.St ρ H ((env.locals,.ns m)::ls) s) (F:dg X ρ f env m) (h:X.holds (L c f H)):B8 X ρ₁ env ls L c s
theorem Rq(hc:ST X sc c t)(hb:SB X sc body b):SS X sc (.While c body [] x) (rT t b):=by
 intros
 refine wpAny_While<|codeAny_whileLoop (B8 X R W I<|rS e t b k) ?_ e.fuel ⟨f,H,R,m,.refl _,S,F,Z⟩;rintro z s2 ⟨f2,H2,l,N,x2,S2,j,hz⟩;cases z with|zero=>exact aP hz G.stop|succ z=>
  refine hc e n G W Y f2 H2 (Rp e t b k z f2) _ hz l N I s2 A _ _ V S2 j (λg H3 s3 v o y h3=>?_)<|xv G;cases v with
  |false=>rw[aq Bool.false_ne_true];exact tA<|K _ .nxt _ _ _ _ _ (x2.trans o) y (j.ext o) rfl h3
  |true=>rw[aw rfl];refine hb e n G W Y f2 H3 (kt (rS e t b k z) k) _ h3 g N _ s3 A _ _ V y (j.ext o) (λd fl f4 C q s4 p x4 P i r4 h4=>?_)<|nZ G;have a:=(x2.trans o).trans x4;have go:X.holds (rS e t b k z f4 C)->∃m,m<z+1/\B8 X R W I (rS e t b k) m s4:=λh=>⟨z,Nat.lt_succ_self _,f4,C,d,q,a,P,i,h⟩;exact B7 h4 r4 go go (λh=>K _ .nxt _ _ _ _ _ a P i rfl h) λu w r h=>K _ (.ret u) _ _ _ _ _ a P i ⟨w,rfl,r⟩ h
theorem dl(h:ad o false f=true){z:Prop}(g:∀a,o=some a->f a=true->z):z:=by
 cases o with|none=>exact bg h|some a=>exact g a rfl h
theorem Rr(h:J (dk z) false b=true):z=[]/\b=true:=by
 cases z with|nil=>exact⟨rfl,h⟩|cons _ _=>exact bg h
theorem Ic(x:X.Ok)(N:A.handled=none)(f:H.get i=some (.list []))(r:aE l X.σ (.ref i) v)(S:X.St l H ((u.locals,.ns m)::k) s)(q:∀o,(∀w,(∀b o,s.heap.get? b=some o->w.heap.get? b=some o)->X.St l H ((u.locals,.ns m)::k) w->R (.ok .next) w)->f0 X.M A (.forLoop t (.ref s.heap.objs.size) y [] u) R { s with heap:=s.heap.push o }->Q (.ref s.heap.objs.size) { s with heap:=s.heap.push o })(Z:∀w,(∀b o,s.heap.get? b=some o->w.heap.get? b=some o)->X.St l H ((u.locals,.ns m)::k) w->R (.ok .next) w):aF X.M A (pu v) Q E s:=by
 have n:mC H (.ref i)=some (.lst i):=by show ad (H.get i) none (rN (.ref i) i)=_;rw[f];rfl
 refine B0 x S r n λo io fr=>q o Z ?_;have h:=S.enter2 (tk:=s.toks) (d:=s.drawn) (m:=.ob o) (λz z g=>fZ o g) (Nat.le_refl _)<|d8 _ fr;refine am5 (λc(w:aU)=>w = { s with heap:=s.heap.push o }) ?_ 0 rfl;intro c s2 e;rw[e];have F:li H (.lst i) 0=some none:=by show ad (eA H i) none _=_;delta eA;rw[f];rfl
 refine B4 x N h (d8 _ fr) io F (λa C=>nomatch C) λz j p=>tA ?_;exact Z _ (λb ob g=>p b ob (λe=>Nat.lt_irrefl _<|e▸d3 g)<|fZ o g)<|h.drop2 (tk:=s.toks) (d:=s.drawn) (h':=j) λb ob P g=>p b ob P g
theorem Rs(g:X.Ok)(Z:∀d x,rh r d x=pure x)(c:SE X sc r q):SS X sc (.For t r body [] l) (t_ q):=by
 intro e n y d o f H k N hh ρ m C s A Q E p S F PV PE;refine As (c e n y d o f H _ N hh ρ m C s A _ E p S F (λρ1 H1 s1 a v R j w h1=>?_)<|PE.1 m)<|Z d;refine ee y h1 λhd P=>bw y P λu b h3=>ee y h3 λhz h4=>?_;obtain⟨i,ea,c⟩:=jS b;rw[ea] at w;rw[show u=[] by cases u with|nil=>rfl|cons _ _=>exact bg hz.symm] at c
 exact Ic g (p.2.2.1 hd) c w j (λz z h=>h) λs' z S'=>PV _ .nxt _ _ _ _ _ R S' (F.ext R) rfl h4
inductive pV X x:List bv->List Nat->Prop
 |nil:pV X x [] []
 |cons {t:aS}{pn pa pos:Pos}{nm:Str}{B rest:List bv}{a:Nat}{as:List Nat}:nm=am a->iU X a->nC.contains (am a)=false->(∀env v,rh (.Attribute (.Name x pn) nm pa) env v=pure v)->
   pV X x rest as->pV X x (.For t (.Attribute (.Name x pn) nm pa) B [] pos::rest) (a::as)
theorem Rt:nW (.Name x y):=λz z=>rfl
theorem Ru(P:X.Ok)(j:ef X)(l:x=am c)(hdb:(x == ("__debug__" : Str))=false)(p:cU sc N)(C:A.handled=none)(hv:ae f.loc c=some v)(F:dg X ρ f N m):∀{r:List bv}{y:List Nat},pV X x r y->G0 H v y=true->∀{s:aU}{Q:pr->aU->Prop}{E:tY1},X.St ρ H ((N.locals,.ns m)::ls) s->
   (∀s',(∀b o,s.heap.get? b=some o->s'.heap.get? b=some o)->X.St ρ H ((N.locals,.ns m)::ls) s'->Q .next s')->aF X.M A (pt r N) Q E s:=by
 intro r y h
 induction h with
 |nil=>intro _ s Q E S q;exact tA<|q s (λz z g=>g) S
 |@cons t pn Z k e R rest a y hnm n hcp hfs _ ih=>intro he s Q E S q;refine dl he λw hw he=>dl he λd hxs he=>?_;obtain⟨e0,he⟩:=Rr he;obtain⟨i,ei,hi⟩:=jS hxs;rw[e0] at hi;rw[ei] at hw;obtain⟨hl,u,hu,ru⟩:=F.loc c v hv;rw[<-l] at hl hu;refine NP<|As ?_<|hfs N;rw[aj9,Rt];refine aI (v_ (aj5 (by rw[p.scope];exact p.kind) hl (S.loc _<|.head _).1 hu ?_) hdb);rw[hnm];refine aI<|rd<|aI<|gq<|Hn P j n hcp S ru hw λv' tk r'=>aI<|Ho<|bz ?_;exact Ic P C hi r' (S.toks tk) (λz z h=>h) λs' hk S'=>ih he S' λs'' hk2 S''=>q s'' (λb o g=>hk2 b o<|hk b o g) S''
theorem Rv(h:G7 H v=some es):∃i s,v=.ref i/\H.get i=some (.dvals s)/\H.get s=some (.dict es):=by
 refine fH λz x=>?_;cases v with
 |ref i=>
  refine ba h λo y h=>?_;cases o with|dvals s=>exact x ⟨i,s,rfl,y,gy h⟩|_=>exact a6 h
 |_=>exact a6 h
inductive B9 X ρ H env ls(I d)od c es as(f₀:aK)(len ep)z(s:aU):Prop
 |mk (j:Nat) (f:aK) (m:Str->Option au) (o:Obj) (hz:z+j=es.length) (hl:ua c (es.drop j) f.loc=ua c es f₀.loc) (hc:f.cel=f₀.cel) (he:G6 H as (es.drop j)=true) (S:X.St ρ H ((env.locals,.ns m)::(I,.ob o)::ls) s) (F:dg X ρ f env m)
   (hk:o.cls=.type "dict_valueiterator") (hd:o.data=.fields #[.ref d,.int j 0,.int len 0,.int ep 0]) (g:s.heap.get? d=some od):B9 X ρ H env ls I d od c es as f₀ len ep z s
theorem Rw(h:J b p false=true):b=true/\p=true:=by
 cases b with|true=>exact⟨rfl,h⟩|false=>exact bg h
theorem Rx(l:X.Ok)(m:ef X)(hdb:(am c == ("__debug__" : Str))=false)(hz:pV X (am c) body x)(u:cU sc a)(hh:A.handled=none)(hl:a.kindOf (am c)=some .local)(hsd:ρ sd=some d)(DA:∀{h:cm},h.get? d=some od->h.DictAt (bW X.prog X.w) d Z ep)(q:aD (fx ρ X.σ) es Z)(hR:∀s' m',X.St ρ H ((a.locals,.ns m')::ls) s'->dg X ρ ⟨ua c es i.loc,i.cel⟩ a m'->R (.ok .next) s')(z:Nat)(h:B9 X ρ H a ls k d od c es x i Z.length ep z s):f0 X.M A (.forLoop (.Name (am c) px) (.ref k) body [] a) R s:=by
 have e1:=q.length;refine H_ (B9 X ρ H a ls k d od c es x i Z.length ep) (λy=>rfl) (λz s E' Qn hI q1 q2=>?_) z h;obtain⟨j,f2,m2,t,F,Q,C,S,E,F2,hc2,P,g2⟩:=hI;have gI:=(E.loc _<|.tail _<|.head _).1;have hIne:d≠k:=λe=>(E.loc _<|.tail _<|.head _).2.2 sd (by rw[hsd,e]);have hLne:d≠a.locals:=λe=>(E.loc _<|.head _).2.2 sd (by rw[hsd,e])
 by_cases hj:j<es.length
 .have f:=List.drop_eq_getElem_cons hj;obtain⟨⟨kk,vv⟩,hkv,rkv⟩:=q.nth<|List.getElem?_eq_getElem hj;rw[f] at Q S;have S:=Rw S;refine wpAny_pyNext_values_item ⟨t,gI,hc2,P⟩ (DA g2) hkv λh' V' o=>q2 _ _ ?_;obtain⟨r,g3,hc3,hd3⟩:=V';have p:=E.loc2 (tk:=s.toks) (d:=s.drawn) (m':=.ob r) (λb ob nb g=>(o.2 b nb).trans g) g3;refine FR<|FS hl (p.loc _<|.head _).1 (λh5 n N=>?_)<|xr u;exact Ru l m rfl hdb u hh (v:=es[j].2) (by rw[kz,aw rfl]) (F2.put hl rkv.2) hz S.1 (p.locS (tk:=s.toks+1) (d:=s.drawn) (m':=.ns _) N n) λs' hk6 S6=>
   ⟨z - 1,by omega,j+1,⟨bL f2.loc c es[j].2,f2.cel⟩,_,r,by omega,Q,C,S.2,S6,F2.put hl rkv.2,hc3,hd3,hk6 _ _<|(N.2 d hLne).trans<|(o.2 d hIne).trans g2⟩
 .have f:es.drop j=[]:=List.drop_of_length_le<|(lin [es.length,Z.length,z,j] 0x252934817b024705441b841) e1 F hj;rw[f] at Q;have hf2:f2=⟨ua c es i.loc,i.cel⟩:=by rw[Q.symm,<-C];rfl
  exact wpAny_pyNext_values_end (knd:=bW X.prog X.w) hh ⟨t,gI,hc2,P⟩ (DA g2) (List.getElem?_eq_none<|(lin [es.length,Z.length,z,j] 0x252934827b024705441b841) e1 F hj) λh' hb'=>q1 _<|hR _ m2 (E.drop2 λb ob nb g=>hb' b ob nb g)<|hf2▸F2
theorem Ry(C:X.Ok)(N:ef X)(Z:x=am c)(hk:sc.names.lookup x=some .local)(hdb:(x == ("__debug__" : Str))=false)(hfs:∀env x,rh o env x=pure x)(hi:SE X sc o q)(hz:pV X x body j):SS X sc (.For (.Name x px) o body [] R) (xj c q j):=by
 subst Z;intro e n u env t f H k ke hh ρ m ls s A Q E l S F PV PE;refine As (hi e n u env t f H _ ke hh ρ m ls s A _ E l S F (λρ1 H1 s1 a v x1 r p h1=>?_)<|PE.1 m)<|hfs env;refine BE λP T=>ee u h1 λhd h2=>bw u h2 λes hes h3=>eY u h3 λhem h4=>?_;obtain⟨i,sd,ea,hi,hsd⟩:=Rv hes;rw[ea] at p;refine kv p λy hy=>?_;obtain⟨d,hd1,V⟩:=fz r hi hy;obtain⟨kvs,DD,b,_⟩:=fz r hsd hd1;obtain⟨od,ees,ep,god,hxd,hdd,hkd,hpd,hnd⟩:=pN.of DD;have DA:∀{h:cm},h.get? d=some od->h.DictAt (bW X.prog X.w) d kvs ep:=λg=>⟨od,ees,g,hxd,hdd,hkd,hpd,hnd⟩;exact wpAny_pyIter_values V (DA god) (T _ _ (Rx C N hdb hz t (l.2.2.1 hd) (by rw[pU t];exact hk) hd1 DA b
  (λs' m' S' F'=>PV ρ1 .nxt _ H1 m' _ .next x1 S' F' rfl h4) es.length ⟨0,f,m,_,lin [es.length] 3769106689,rfl,rfl,hem,r.enter2 (λz z g=>fZ _ g) (Nat.le_refl _)<|d8 _ rfl,F.ext x1,rfl,rfl,fZ _ god⟩))
section
variable {M:Af}{A:dH}{E:tY1}{s:aU}
theorem Id(l:o.any (·.1)=false)(k:q.all (·.1.isSome)=true)(h:aF M A (spliced o) (λy u=>aF M A (F6 (q.map (·.2))) (λm p=>Q ⟨y,(q.filterMap (·.1)).zip m⟩ p) E u) E s):aF M A (evalArgs f true o q) Q E s:=by
 have w:∀{y:List au}{u:aU},aF M A (F6<|q.map (·.2)) (λm p=>Q ⟨y,(q.filterMap (·.1)).zip m⟩ p) E u->aF M A (do
   let j:=(q.filterMap (·.1)).zip<|<-F6 (q.map (·.2))
   let v <-(pure y)
   return(⟨v,j⟩)) Q E u:=λt=>aI<|il t (λm p n=>iw<|bz n) λz z x=>x
 cases o with
 |nil=>refine aI<|il h (λy u t=>iw ?_) λz z x=>x;refine gq ?_;rw[aw k];exact w t
 |cons a r=>
  obtain⟨b,x⟩:=a;cases b with|true=>simp at l|false=>refine aI<|il h (λy u t=>iw ?_) λz z x=>x;refine gq ?_;rw[aw k];exact w t
end
def Rz(X:Fx)(k:iJ->AH->X.R)(z:List Str)(t:Lo)(u:bu)(Q:List au->aU->Prop):Prop:=∀y w x a v,bU u y->X.St y w t x->aD (fM y X.σ) a (z.zip v)->X.holds (k a w)->Q v x
def SK(X:Fx)(r:bJ)(z:List Str)(x:List k6)(p:XK X.R):Prop:=(∀y w,(ki y (kj x w)).all (·.1.isSome)=true/\(ki y (kj x w)).filterMap (·.1)=z)/\
 ∀(e:EV X.R)n,bD X e n->∀w,cU r w->∀f H k t,X.holds (p e f H k t)->∀v m u s A Q E,cC A (w.frame,w.locals::df u) n e.hd->X.St v H ((w.locals,.ns m)::u) s->dg X v f w m->
 Rz X k z ((w.locals,.ns m)::u) v Q->fy X t ((w.locals,.ns m)::u) A v E->∀y,aF X.M A (F6<|(ki y<|kj x w).map (·.2)) Q E s
theorem RA:SK X x [] [] aC:=by
 refine⟨λz z=>⟨rfl,rfl⟩,?_⟩
 intros;intro y
 exact am6<|K _ _ _ [] [] (.refl _) S trivial Z
theorem RB(h:x=am c)(i:SE X sc y p)(hr:SK X sc w t r):SK X sc (x::w) (⟨some x,y,kp⟩::t) (rP c p r):=by
 refine⟨λz d=>?_,?_⟩
 .obtain⟨P,Z⟩:=hr.1 z d;refine⟨?_,?_⟩
  .show(true && (ki z<|kj t d).all (·.1.isSome))=true;rw[P];rfl
  .show x::(ki z<|kj t d).filterMap (·.1)=_;rw[Z]
 intro e n o d q f H k C hh ρ m ls s A Q E l S F PV PE z;subst h;refine wpAny_evalAll_cons<|aI<|i e n o d q f H _ C hh ρ m ls s A _ E l S F (λR H1 s1 a v N g j P=>?_) PE;refine aI<|rd<|bz ?_;exact hr.2 e n o d q f H1 _ C P R m ls s1 A _ E l g (F.ext N) (λρ2 H2 s2 b u x2 S2 r2 Z=>PV _ _ _ ((c,a)::b) (v::u) (N.trans x2) S2 ⟨⟨rfl,j.ext x2⟩,r2⟩ Z) (PE.ext N) z
def r6(X:Fx)(z:au)(h:cm):Prop:=∃k,(k=Nz\/k=NB\/k=NC)/\Looks X.M h (ND z) k
def pW(es:List aS):Prop:=∀z y,(nD z (l7 es y)).any (·.1)=false
theorem B_(Z:pW es)(ha:SL X sc es i)(hk:SK X sc v u l)(r:bD X e n)(t:cU sc g){k:tY0->iJ->AH->X.R}(hh:X.holds (i e f H (λy h=>l e f h (λb h=>k y b h) N) N))(q:cC A (g.frame,g.locals::df a) n e.hd)(S:X.St C H ((g.locals,.ns m)::a) s)(F:dg X C f g m)(PE:fy X N ((g.locals,.ns m)::a) A C E)(hc:∀d H' s' y w b ws,bU C d->X.St d H' ((g.locals,.ns m)::a) s'->aD (aE d X.σ) y w->aD (fM d X.σ) b ws->X.holds (k y b H')->r6 X gv s'.heap/\aF X.M A (gO gv (first++w) ws) Q E s'):aF X.M A (F_ z gv first (nD z (l7 es g)) (ki z (kj u g))) Q E s:=by
 obtain⟨h1,h2⟩:=hk.1 z g;have c:(ki z<|kj u g).any (·.1.isNone)=false:=by
  rw[List.any_eq_false];intro x o;have Y:=List.all_eq_true.mp h1 x o;cases hx1:x.1 with|none=>rw[hx1] at Y;cases Y|some _=>simp
 refine Ga (P:=r6 X gv) (by rw[Z,c];rfl) (λh x=>x)<|Id (Z z g) h1 ?_;refine ha e n r g t f H _ N hh C m a s A _ E q S F (λρ1 H1 s1 y w x1 j p h1'=>?_) PE z;refine hk.2 e n r g t f H1 _ N h1' ρ1 m a s1 A _ E q j (F.ext x1) (λρ2 H2 s2 b ws x2 S2 r2 h2'=>?_) (PE.ext x1) z;rw[h2];exact hc ρ2 H2 s2 y w b _ (x1.trans x2) S2 (p.rel_ext x2) r2 h2'
theorem RC(h:cC A fs n hd)C z y:rU (A.under (.builtin "type.__call__" ⟨.ref C::z,y⟩)) fs.2 n hd:=by
 have e1:(A.under (.builtin "type.__call__" ⟨.ref C::z,y⟩)).depth=A.depth+1:=rfl;have e2:(A.under (.builtin "type.__call__" ⟨.ref C::z,y⟩)).units=A.units+1:=rfl;obtain⟨v,x,u,w,_⟩:=h;exact⟨by rw[e1];exact(lin [A.depth,n,pj] 0x498350421408b128050160d41485022c41) v,by rw[e2];exact(lin [A.units,n,gp] 0x498352021440b128050160d4b085102c41) x,u,w⟩
theorem Ie(h:cC A fs n hd):rU A fs.2 n hd:=⟨by have z:=h.1;exact(lin [A.depth,n,pj] 0x1260d41085022c4160d41485022c41) z,by have z:=h.2.1;exact(lin [A.units,n,gp] 0x1260d48085102c4160d4b085102c41) z,h.2.2.1,h.2.2.2.1⟩
theorem pP.mono(h:pP A fs)(q:∀x∈fs,x∈r):pP A r:=by
 obtain⟨l,t,u⟩:=h;exact⟨l,t,λv w=>(u v w).elim λa y=>y.elim λL z=>z.elim λb c=>⟨a,L,q L b,c⟩⟩
theorem Ca(h:f0 M A (.call f ⟨z,y⟩) (pQ Q E) s):aF M A (gO f z y) Q E s:=wm h
theorem Ig(z:X.Ok)(S:X.St x H w s)(h:tw X.K y=true):r6 X y s.heap:=keeps_K h _ (z.inK.keeps S.keep)
theorem RD:am nQ="__init__":=by decide +kernel
theorem RE(P:X.Ok)(Z:ef X)(i:iU X nQ)(w:bD X e n)(hci:eI.get a=some ci)(h:X.holds (Bg e a ci m kw H k ke))(R:cC A (fr,df ls) n e.hd)(S:X.St ρ H ls s)(rp:aD (aE ρ X.σ) m N)(rk:aD (fM ρ X.σ) kw kw')(PV:gk X k ls ρ Q)(PE:fy X ke ls A ρ E):f0 X.M A (.call (.ref a) ⟨N,kw'⟩) (pQ Q E) s:=by
 refine bw w h λc hc h=>?_;have CO:=Z.cls a ci hci;have ai:=i a ci hci;rw[hc] at ai;cases c with
 |meth f=>
  obtain⟨hf,ht⟩:=ai;rw[RD] at hf;have p:=P.inK.keeps S.keep;obtain⟨F,g,d,t,os⟩:=s;refine make_core (makes_of p CO.makes) (NJ p hf) (λself=>bind_fn p self ht) (.inl rfl) ?_;have X1:=St.put_ext (a:=F.objs.size)<|S.top _<|Nat.le_refl _;have j:=S.new1 (o:=.dict []) ⟨[],az3 _,trivial,Nat.zero_le _⟩;have X2:=St.put_ext (a:=(F.push Gb).objs.size)<|j.top _<|Nat.le_refl _;have e1:∀ρ':bu,bU (St.put ρ H.n F.objs.size) ρ'->ρ' H.n=some F.objs.size:=λρ' x=>x _ _<|St.put_self ..;have S2:=j.new1 (o:=.inst a H.n) ⟨F.objs.size,e1 _ X2,d8 _ rfl,ci,hci⟩;have X3:=X1.trans X2;have sz:(F.push Gb).objs.size=F.objs.size+1:=Gc ..;have l:St.put (St.put ρ H.n F.objs.size) (H.new<|.dict []).n (F.push Gb).objs.size (H.n+1)=some (F.objs.size+1):=by have:=St.put_self (St.put ρ H.n F.objs.size) (H.new<|.dict []).n (F.push Gb).objs.size;rw[AH.n_new] at this ⊢;rw[sz] at this ⊢;exact this
  refine eY w (h) λhlt h5=>?_;have q:=(w.call _ _ _ _ _ _ _ (by simpa using hlt) h5).2 _ ls _ (A.under (.builtin "type.__call__" ⟨.ref a::N,kw'⟩)) (λv s'=>v=.none/\Q (.ref (F.objs.size+1)) s') E (.ref (F.objs.size+1)::N) kw' (RC R a N kw') S2
   ⟨⟨_,l,rfl⟩,rp.rel_ext X3⟩ (rk.mono λu u y=>⟨y.1,y.2.ext X3⟩) (λρ' H' s' b v x' S' r' h'=>?_) λρ' H' s' C x x' S' F' h'=>PE _ _ _ _ _ (X3.trans x') S' F' h'
  .refine At q λr s' z=>?_;rcases r with e|(v|_|_|_)<;>exact z
  .cases b with
   |none=>exact⟨r',PV _ _ _ (.ref<|Nat.succ H.n) _ (X3.trans x') S' ⟨_,x' _ _ l,rfl⟩ h'⟩
   |_=>exact aP h' w.stop
 |_=>exact aP h w.stop
theorem Ih(v:X.Ok)(x:ef X)(w:iU X nQ)(y:bD X e n)(h:X.holds (w8 e a z l H k m))(AO:cC A (fr,df q) n e.hd)(S:X.St r H q s)(i:aD (aE r X.σ) z u)(g:aD (fM r X.σ) l t)(f:gk X k q r Q)(d:fy X m q A r E):r6 X (.ref a) s.heap/\aF X.M A (gO (.ref a) u t) Q E s:=by
 have p:X.holds (ad (eI.get a) (J (Nat.blt a 1000000) (e.call e.hd a [] z l H k m) e.stop) λj=>Bg e a j z l H k m):=h;cases hci:eI.get a with
 |none=>rw[hci] at p;refine eY y (p) λo b=>?_;obtain⟨c,Z⟩:=y.call _ _ _ _ _ _ _ (by simpa using o) b;exact⟨Ig v S c,Ca<|Z r q s A Q E u t (Ie AO) S i g f d⟩
 |some j=>rw[hci] at p;exact⟨Ig v S (x.cls a j hci).keep,Ca<|RE v x w y hci p AO S i g f d⟩
def xy:Nat->String
 |0=>"list"
 |1=>"tuple"
 |2=>"dict"
 |3=>"set"
 |_=>"str"
def ui(s:aU)(y:au)(z:Nat):Prop:=s.TypeIs y (xy z)/\∀a,y=.ref a->∃ob,s.heap.get? a=some ob/\ob.dict=none
theorem xz(g:s.heap.get? y=some ob)(t:ob.cls=.type (xy x))(d:ob.dict=none):ui s (.ref y) x:=⟨⟨ob,g,t⟩,λz e=>Gf.inj e▸⟨ob,g,d⟩⟩
theorem Ii(x:h.heap.DictOf (bW X.prog X.w) y v):ui h (.ref y) 2:=by
 obtain⟨_,_,_,g,z,_⟩:=x;exact xz g z.1 z.2.1
theorem RF(x:h.heap.SetOf (bW X.prog X.w) y f n):ui h (.ref y) 3:=by
 obtain⟨_,_,_,_,g,z,_⟩:=x;exact xz g z.1 z.2.1
theorem Ij(r:cb X.prog X.w ρ X.σ s.heap y o)(h:pJ o=some x):ui s (.ref y) x:=by
 cases o with
 |list z=>obtain⟨_,⟨_,g⟩,_⟩:=r;exact dR h<|xz g rfl rfl
 |tup z=>obtain⟨_,⟨_,g⟩,_⟩:=r;exact dR h<|xz g rfl rfl
 |dict z=>obtain⟨_,v,_⟩:=r;exact dR h<|Ii v
 |umap z=>obtain⟨_,v,_⟩:=r;exact dR h<|Ii v
 |set z=>exact dR h<|RF r.1
 |_=>exact a6 h
theorem RG(u:X.Ok)(S:X.St ρ H ls s)(r:aE ρ X.σ v m)(h:xa H v=some w):ui s m w:=by
 cases v with
 |str c=>exact gW r rfl λt=>dR h ⟨NG s _ _,λa e=>nomatch e⟩
 |ref i=>exact ba h λo x q=>je u S x r λy z n=>Ij n q
 |glo a=>exact ba h λo x q=>je u S x r λy z n=>Ij n q
 |_=>exact a6 h
def gz(X:Fx)(w:Str)(y:Nat)(bm:XM X.R):Prop:=∃id,Slot (xy y) w id/\PlainAttrs (xy y)/\typeOf (.builtin id)=pure (.type "method_descriptor")/\
 ∀(e:EV X.R)n,bD X e n->∀o x H k,X.holds (bm e o x H k)->∀ρ fs ls s A Q E v z,cC A fs n e.hd->X.St ρ H ls s->aE ρ X.σ o v->aD (aE ρ X.σ) x z->gk X k ls ρ Q->aF X.M A (gO (.builtin id)<|v::z) Q E s
def Cb(o:aS)(y:Str)(v:Pos)(w:List aS)(u:List k6)(z:Pos):Prop:=∃r:Env->Sem Bool,∀x:Env,gN (.Call (.Attribute o y v) w u z) x=(do
   let t <-gN o x
   standAt v.atName
   let(f,first) <-wd [t] (wn t y<|r x)
   F_ z f first (nD z<|l7 w x) (ki z<|kj u x))
theorem RH(id:String)(h:cm):r6 X (.builtin id) h:=⟨.machine,.inr (.inl rfl),am7⟩
section
variable {ρ:bu}{H:AH}{ls:Lo}{s:aU}{A:dH}{E:tY1}{c:Nat}{p:Sem Bool}{Q:au×List au->aU->Prop}{mt:MT}
def Cd(X:Fx)(ρ:bu)(s:aU)(Q:au×List au->aU->Prop)(mt:MT):Prop:=∀g z first y,mt=.fn g z->aD (aE ρ X.σ) z first->Q (.ref g,first) { s with toks:=y }
theorem RI(t:X.Ok)(v:ef X)(w:iU X c)(b:nC.contains (am c)=false)(S:X.St ρ H ls s)(P:H.get i=some (.inst C d))(hy:ρ i=some y)(h:GS H (.ref i) c (.inst C d)=some mt)(z:Cd X ρ s Q mt):aF X.M A (wn (.ref y) (am c) p) Q E s:=by
 refine ba h λes hd h=>?_;obtain⟨dx,Z,g,N,m⟩:=fz S P hy;obtain⟨kvs,u,l,_⟩:=fz S (gy hd) Z;obtain⟨od,hod,o⟩:=BF u<|am c;have rl:=nV c l;cases hl:ae es c with|some _=>rw[hl] at h;exact a6 h|none=>
  rw[hl] at h rl;have o:wa (am c) od=some none:=by rw[o];exact aT some<|Option.not_isSome_iff_eq_none.mp λq=>bg<|(BN rl).symm.trans q
  have r:InstAt s.heap y (v8 C dx) C (some od):=⟨g,rfl,rfl,hod⟩;have x:=t.inK.keeps S.keep;have n:=v.cls C N m;have e:=w C N m;refine ba h λR j h=>ba h λca a h=>?_;rw[show N=R from Option.some.inj<|m.symm.trans j,a] at e;cases ca with
  |meth g'=>exact method_fn x r n.ga n.gt e.1 e.2 (by show(wa (am c) od).map (·.isSome)=_;rw[o];rfl)<|z _ _ _ s.toks (Option.some.inj h).symm ⟨⟨y,hy,rfl⟩,trivial⟩
  |stat g'=>obtain⟨sm,hf,ht,hg,F,⟨rest,f⟩,_⟩:=e;obtain⟨cd,hcd,k⟩:=n.cd;refine method_usual x r n.ga n.gt hf (by simp only[Option.all_some,ht,Option.any_some];decide +kernel) ?_;refine get_bind x r n.ga (findObj_fn (by show(ty X.K C).any (·.hasDict)=true;rw[hcd];exact k) hf hg F b o) n.gt ?_;exact wm<|sm_get x f<|handed_on rfl<|z _ _ [] _ (Option.some.inj h).symm trivial
  |val _=>exact a6 h
theorem RJ(u:X.Ok)(v:ef X)(w:iU X c)(S:X.St ρ H ls s)(t:eI.get b=some o)(h:(ad (ae o.attrs c) none λx=>match x with|.stat f=>some (.fn f [])|_=>none)=some mt)(z:Cd X ρ s Q mt):aF X.M A (wn (.ref b) (am c) p) Q E s:=by
 refine ba h λj q h=>?_;have l:=w b o t;rw[q] at l;have y:=u.inK.keeps S.keep;have m:=v.cls b o t;cases j with
 |stat Z=>obtain⟨a,R,e,d,g,⟨k,r⟩,i,n⟩:=l;exact method_cls y m.ga2<|cls_bind y m.reads n<|wm<|sm_get y r<|handed_on rfl<|z _ _ [] _ (Option.some.inj h).symm trivial
 |_=>exact a6 h
theorem RK(q:X.Ok)(t:ef X)(u:iU X c)(l:nC.contains (am c)=false)(S:X.St ρ H ls s)(r:aE ρ X.σ a v)(h:xb H c a=some mt)(z:Cd X ρ s Q mt)(blt:∀j,mt=.bm j->xa H a=some j->aF X.M A (wn v (am c) p) Q E s):aF X.M A (wn v (am c) p) Q E s:=by
 cases a with
 |ref i=>
  refine ba h λob o h=>?_;have n:t3 ob=some mt->aF X.M A (wn v (am c) p) Q E s:=λh=>ba h λj k h=>blt j (Option.some.inj h).symm (show ad (H.get i) none pJ=some j by rw[o];exact k);cases ob with|inst C d=>exact kv r λy g=>RI q t u l S o g h z|list w=>exact n h|tup w=>exact n h|dict w=>exact n h|umap w=>exact n h|set w=>exact n h|_=>exact a6 h
 |glo b=>
  cases hci:eI.get b with
  |none=>
   have h:ad (eI.get b) (ad (iP.get b) none t3) (λm=>ad (ae m.attrs c) none λx=>match x with|.stat f=>some (.fn f [])|_=>none)=some mt:=h
   rw[hci] at h;exact ba h λob o h=>ba h λj k h=>blt j (Option.some.inj h).symm (show ad (iP.get b) none pJ=some j by rw[o];exact k)
  |some m=>
   have h:ad (eI.get b) (ad (iP.get b) none t3) (λm=>ad (ae m.attrs c) none λx=>match x with|.stat f=>some (.fn f [])|_=>none)=some mt:=h
   rw[hci] at h;exact r▸RJ q t u S hci h z
 |str b=>exact blt 4 (Option.some.inj h).symm rfl
 |_=>exact a6 h
end
theorem Ik(h:pJ o=some j):j<5:=by
 cases o with|list _=>exact dR h (by decide)|tup _=>exact dR h (by decide)|dict _=>exact dR h (by decide)|umap _=>exact dR h (by decide)|set _=>exact dR h (by decide)|_=>exact a6 h
theorem RL(h:xa H a=some j):j<5:=by
 cases a with|str _=>exact dR h (by decide)|ref i=>exact ba h λo z y=>Ik y|glo i=>exact ba h λo z y=>Ik y|_=>exact a6 h
theorem RM(O:X.Ok)(h:ef X)(d:iU X nQ)(hn:w=am c)(P:iU X c)(hcp:nC.contains (am c)=false)(hm:Cb o w apos args kws r)(hbm:l<5->gz X w l bm)(b:SE X sc o po)(hns:pW args)(ha:SL X sc args C)(hk:SK X sc u kws N):SE X sc (.Call (.Attribute o w apos) args kws r) (bb po c l bm C N):=by
 subst hn
 intros
 obtain⟨pl,hpl⟩:=hm;rw[hpl];refine aI<|b e n G W Y f H _ M Z R m I s A _ E V S F (λρ1 H1 s1 a v x1 x t h1=>?_) B;refine bw G h1 λmt hmt h2=>aI<|rd<|aI<|gq<|RK O h P hcp x t hmt (λg self first tk e1 rs=>?_) λj e1 hj=>?_
 .rw[e1] at h2;refine B_ hns ha hk G Y h2 V (x.toks tk) (F.ext x1) (B.ext x1) λρ2 H2 s2 q i kw ws x2 S2 r2 r3 h3=>?_;refine Ih (fr:=W.frame) O h d G h3 (AO:=?_) S2 ?_ r3 (K.ext<|x1.trans x2)<|B.ext<|x1.trans x2
  .exact V
  .rw[eX];exact(rs.rel_ext x2).app r2
 .rw[e1] at h2;refine eY G h2 λhb h3=>?_;have ej:=Nat.eq_of_beq_eq_true hb;obtain⟨id,y,pat,hty,hrun⟩:=hbm<|ej▸RL hj;obtain⟨hT,hd⟩:=RG O x t hj;rw[ej] at hT;refine getMethod_builtin hT pat y hty hd ?_;refine B_ hns ha hk G Y h3 V x (F.ext x1) (B.ext x1) λρ2 H2 s2 q i kw ws x2 S2 r2 r3 h4=>⟨RH _ _,?_⟩;refine ee G h4 λhkw h5=>bw G h5 λj2 hj2 h6=>eY G h6 λz h7=>?_;have hw:ws=[]:=by
   cases kw with|cons _ _=>exact bg hkw.symm|nil=>cases ws with|nil=>rfl|cons _ _=>exact r3.elim
  rw[hw];exact hrun e n G a q H2 k h7 ρ2 _ _ s2 A Q E v i V S2 (t.ext x2) r2<|K.ext<|x1.trans x2
def iW(X:Fx)(b:BI):Prop:=∀e n,bD X e n->∀z H k,X.holds (GL e b z H k)->∀x fs w s A Q E y,cC A fs n e.hd->X.St x H w s->aD (aE x X.σ) z y->gk X k w x Q->aF X.M A (gO (mG b) y []) Q E s
theorem xA b h:r6 X (mG b) h:=⟨.machine,.inr (.inl rfl),by cases b<;>exact am7⟩
theorem RN(h:Bh H y q=true):H.get y=some (.code q):=by
 have z:ad (H.get y) false (λo=>match o with|.code x=>Nat.beq x q|_=>false)=true:=h
 cases e:H.get y with|none=>rw[e] at z;cases z|some o=>
  rw[e] at z;cases o with|code x=>rw[Nat.eq_of_beq_eq_true z]|_=>cases z
theorem RO(R:X.Ok)(c:ef X)(o:iU X nQ)(Z:∀b,iW X b)(he:∀P:Env,gN (.Call g N C x) P=(do F_ x (<-gN g P) [] (nD x (l7 N P)) (ki x (kj C P))))(hg:SE X sc g pg)(hns:pW N)(ha:SL X sc N d)(hk:SK X sc t C j):SE X sc (.Call g N C x) (bB pg d j):=by
 intro e n z P r f H k ke hh ρ m ls s A Q E u S F PV PE;rw[he];refine aI<|hg e n z P r f H _ ke hh ρ m ls s A _ E u S F (λρ1 H1 s1 a v x1 h w h1=>?_) PE;refine B_ hns ha hk z r h1 u h (F.ext x1) (PE.ext x1) λρ2 H2 s2 l p kw ws x2 S2 r2 r3 h3=>?_;have r1':=w.ext x2;rw[List.nil_append];cases a with
 |bi b=>
  refine ee z (h3) λhkw h5=>?_;have ev:=w;clear w r1';subst ev;have hw:ws=[]:=by
   cases kw with|cons _ _=>cases hkw|nil=>cases ws with|nil=>rfl|cons _ _=>exact r3.elim
  clear r3;subst hw;exact⟨xA b _,Z b e n z l H2 k h5 ρ2 _ _ s2 A Q E p u S2 r2<|PV.ext<|x1.trans x2⟩
 |glo b=>have ev:=w;clear w r1';subst ev;exact Ih R c o z h3 u S2 r2 r3 (PV.ext<|x1.trans x2)<|PE.ext<|x1.trans x2
 |ref i=>
  obtain⟨y,hy,ev⟩:=r1';clear w;subst ev;refine bw z (h3) λob hob h4=>?_;cases ob with
  |fn gg q ci caps=>refine eY z (h4) λhci h5=>?_;obtain⟨hk1,hc⟩:=z.clos _ _ _ _ _ _ _ _ _ _ _ hob (RN hci) h5 ρ2 ((P.locals,.ns m)::ls) s2 A Q E y p ws hy (Ie u) S2 r2 r3 (PV.ext<|x1.trans x2)<|PE.ext<|x1.trans x2;exact⟨hk1,Ca hc⟩
  |_=>exact aP h4 z.stop
 |_=>exact aP h3 z.stop
theorem xB(l:List w):lh l=l.reverse:=by
 have v:∀(l a),@List.rec w (λz=>List w->List w) (λa=>a) (λx z y a=>y<|x::a) l a=l.reverse++a:=by
  intro l
  induction l with|nil=>intro a;rfl|cons x l y=>intro a;rw[y];simp
 have u:=v l [];rw[List.append_nil] at u;exact u
theorem St.pushList(S:X.St w H u s)(x:aD (aE w X.σ) y z)(v:y.length<=5000):X.St (St.put w H.n s.heap.objs.size) (H.new (.list y)) u { s with heap:=s.heap.push { cls:=.type "list",data:=.seq z.toArray n } }:=
 S.new1 ⟨z,⟨n,d8 _ rfl⟩,x.rel_ext<|St.put_ext<|S.top _<|Nat.le_refl _,v⟩
theorem pX(h:∀(e:EV X.R)n,bD X e n->∀v H k,X.holds (Bi e b v H k)->∀u fs q s A Q E t,cC A fs n e.hd->X.St u H q s->aE u X.σ v t->gk X k q u Q->aF X.M A (gO (mG b) [t] []) Q E s)(j:∀(e:EV X.R)n,bD X e n->∀H k,¬X.holds (Bk e b H k))(m:∀(e:EV X.R)n,bD X e n->∀v c H k,¬X.holds (Bj e b v c H k)):iW X b:=by
 intro e n EV y H k o u fs q s A Q E w x S p g;cases y with
 |nil=>exact aP o<|j e n EV H k
 |cons v r=>
  cases r with
  |cons c r=>refine ee EV (o) λz i=>?_;exact aP i<|m e n EV v c H k
  |nil=>
   cases w with|nil=>exact p.elim|cons t l=>
    cases l with|cons _ _=>exact p.2.elim|nil=>exact h e n EV v H k o u fs q s A Q E t x S p.1 g
theorem RP(q:X.Ok)(x:bD X e n)(S:X.St p H g s)(f:aE p X.σ v i)(h:X.holds (ad (jc H v) e.stop (GJ e H k)))(j:gk X k g p Q):aF X.M A (gO (.builtin "len") [i] []) Q E s:=
 bw x h λo u h=>je q S u f λy d m=>by
  cases o with
  |list t=>obtain⟨w,L,l,z⟩:=m;have e1:=l.length;refine call_len_list L.isList (by simp;omega)<|j p H _ (.int _) _ (.refl _) (S.toks _) ⟨s.toks+1,?_⟩ h;rw[fL,e1];simp
  |dict t=>obtain⟨w,r,l,z⟩:=m;have e1:=l.length;refine call_len_dict d r (by omega)<|j p H _ (.int _) _ (.refl _) (S.toks _) ⟨s.toks+1,?_⟩ h;rw[fL,e1];rfl
  |_=>exact aP h x.stop
theorem RQ(x:X.Ok):iW X .len:=by
 refine pX (λe n z v H k m o fs i s A Q E j y S u r=>?_) (λe n z H k h=>z.stop h) λe n z v c H k h=>z.stop h;have w:=m;cases v with
 |str c=>refine gW u rfl λt=>eY z w λq p=>?_;have l:=Nat.le_of_ble_eq_true q;rw[fL] at l;refine PySem.P.len_str (by rw[xn];omega)<|r o H _ (.int _) _ (.refl _) (S.toks _) ⟨s.toks+1,?_⟩ p;rw[xn,fL];rfl
 |_=>exact RP x z S u w r
theorem RS(h:∀(e:EV X.R)n,bD X e n->∀v c H k,X.holds (Bj e b v c H k)->∀x fs p s A Q E t q,cC A fs n e.hd->X.St x H p s->aE x X.σ v t->aE x X.σ c q->gk X k p x Q->aF X.M A (gO (mG b) [t,q] []) Q E s)(j:∀(e:EV X.R)n,bD X e n->∀H k,¬X.holds (Bk e b H k))(i:∀(e:EV X.R)n,bD X e n->∀v H k,¬X.holds (Bi e b v H k)):iW X b:=by
 intro e n EV z H k m x fs p s A Q E u y S w g;cases z with
 |nil=>exact aP m<|j e n EV H k
 |cons v r=>
  cases r with
  |nil=>exact aP m<|i e n EV v H k
  |cons c r=>
   refine ee EV m λf l=>?_;cases r with|cons _ _=>exact bg f.symm|nil=>
    cases u with|nil=>exact w.elim|cons t o=>
     cases o with|nil=>exact w.2.elim|cons q o=>
      cases o with|cons _ _=>exact w.2.2.elim|nil=>exact h e n EV v c H k l x fs p s A Q E t q y S w.1 w.2.1 g
theorem RT:iW X .range:=by
 refine pX (λe n z v H k w d fs f s A Q E g y S l j=>?_) (λe n z H k h=>z.stop h) λe n z v c H k h=>z.stop h;have x:=w;cases v with
 |int i=>obtain⟨t,rfl⟩:=l;refine bw z (x) λm u p=>?_;refine eY z p λq r=>?_;have e1:=pT u;clear w x u;subst e1;refine call_range_1<|j _ _ _ (.ref H.n) _ (St.put_ext<|S.top _<|Nat.le_refl _) ((S.new1 (o:=.rng m) ⟨Nat.le_of_ble_eq_true q,s.toks,t,s.toks+1,d8 _ rfl⟩).toks _) ⟨_,St.put_self ..,rfl⟩ r
 |_=>exact aP x z.stop
theorem RU:iW X .tup:=by
 refine pX (λe n x v H k m ρ fs ls s A Q E v' t S Z R=>?_) (λe n x H k h=>x.stop h) λe n x v c H k h=>x.stop h;refine bw x (m) λw q b=>?_;refine gV x b λP j=>?_;clear m;obtain⟨i,rfl,F⟩:=jS q;obtain⟨y,N,rfl⟩:=Z;obtain⟨y',r,u,L,l,z⟩:=S.cell i _ F;rw[N] at r;cases r;have e1:=l.length;have Y:=hK;refine call_tuple_list L.isList (λf g=>?_) (by exact(lin [w.length,u.length,eV] aj0) P e1 Y);have C:=S.keeps (tk:=s.toks) (d:=s.drawn) g;have p:=St.put_ext (a:=f.objs.size)<|S.top _<|Nat.le_refl _;exact R _ _ _ (.ref H.n) _ p (C.new1 (o:=.tup w) ⟨u,⟨_,d8 _ rfl⟩,l.rel_ext p,(lin [w.length] 0x1268004e212168004e2121) z⟩) ⟨_,St.put_self ..,rfl⟩ j
theorem RV(r:X.Ok)(z:ef X)(S:X.St k H R s)(l:aE k X.σ v h)(j:aE k X.σ c o)(p:GH H v c=some b)(q:Q (.bool b) s):aF X.M A (gO (.builtin "isinstance") [h,o] []) Q E s:=by
 cases c with
 |bi f=>
  cases f with
  |tyStr=>
   cases v with|str x=>exact gW l rfl λt=>by rw[show o=.type "str" from j];exact az4 (Option.some.inj p▸q)|_=>exact a6 p
  |_=>exact a6 p
 |glo C=>
  cases v with
  |ref i=>
   refine ba p λob n p=>?_;cases ob with
   |inst u d=>refine ba p λa m p=>lm p λZ p=>kv l λy e=>?_;obtain⟨x,w,g,_⟩:=fz S n e;rw[show o=.ref C from j];exact isi_call (r.inK.keeps S.keep) (λM=>(am8 g).andThen .now) (z.isi u a C m Z) (by simp)<|Option.some.inj p▸q
   |_=>exact a6 p
  |_=>exact a6 p
 |_=>exact a6 p
theorem RW(w:X.Ok)(y:ef X):iW X .isinst:=
 RS (λe n z v c H k q r fs j s A Q E m l x S t o p=>bw z q λb u h=>RV w y S t o u<|p r H _ (.bool b) _ (.refl _) S rfl h) (λe n z H k h=>z.stop h) λe n z v H k h=>z.stop h
theorem Il(v:bD X e n)(h:X.holds (pI e H k x))(S:X.St q H i s)(c:gk X k i q Q)(d:u="list"\/u="tuple")(g:s.heap.get? y=some { cls:=.type u,data:=.seq z.toArray m })(w:aD (aE q X.σ) x z):aF X.M A (gO (.type "list") [.ref y] []) Q E s:=by
 refine gV v h λr p=>?_;have e1:=w.length;have Z:=hK;refine call_list_seq y d g rfl rfl (λb l f j=>?_) (by exact(lin [x.length,z.length,eV] aj0) r e1 Z);have t:=St.put_ext (a:=s.heap.objs.size)<|S.top _<|Nat.le_refl _;exact c _ _ _ (.ref H.n) _ t (S.newAt (o:=.list x) f (Nat.le_refl _) ⟨z,⟨l,j⟩,w.rel_ext t,(lin [x.length,z.length] 0x1293400271090b84168000fa121) r e1⟩) ⟨_,St.put_self ..,rfl⟩ p
theorem aD.vals:∀{es:iJ}{z:List (Str×au)},aD (fx y x) es z->aD (aE y x) (vals es) (z.map (·.2))
 | [],[],_=>trivial
 |p::es,q::z,h=>⟨h.1.2,h.2.vals⟩
theorem Ce es:(vals es).length=es.length:=by
 delta Internal.vals;rw[BC,List.length_map]
end
section
variable {prog:dY}{w:dZ}{A:dH}{E:tY1}{s:aU}
theorem RX:typeLookup (.type "list_reverseiterator") "__len__" = pure none:=by rw[am9,an0];kernel_rfl
theorem RY:Slot "list_reverseiterator" "__length_hint__" "list_reverseiterator.__length_hint__":=
 .of (owner:="list_reverseiterator") (n:="__length_hint__") (by rw[am9,an0];kernel_rfl) (by decide +kernel) (by decide +kernel) (by decide +kernel)
  (by first|exact .inl (by decide +kernel)|exact .inr<|by decide +kernel) (by rw[we];kernel_rfl)
theorem RZ(v:s.TypeIs (.ref r) "list_reverseiterator")(h:Q false s):aF (cw prog w) A (az5 (.ref r)) Q E s:=by
 refine aI (Ai v RX ?_);refine aI (Ai v RY.lookup ?_);generalize x:"list_reverseiterator.__length_hint__" = u
 wp_delta
 rw[show splitId u=some ("list_reverseiterator","__length_hint__") from by subst x;decide +kernel];subst x;refine aI (tz (b:=true) v (by rw[we];kernel_rfl) ?_);refine NV (λy=>aP y (by decide)) (λz=>?_);refine NV (λz=>?_) (λy=>aP (by decide +kernel) y);refine NV (λy=>aP y (by decide +kernel)) (λz=>?_);exact bz h
theorem R0(P:l≠t)(hh:A.handled=none)(d:s.heap.IsRevIter t l ((r.size:Int) - 1))(hl:s.heap.IsList l r)(S:bI)(Z:S≠t)(Q:S≠l)(m:au)(k:Nat)(hS:s.heap.get? S=some { cls:=.type "list",data:=.seq #[] k })(hR:∀H X q c,(∀b o,b≠S->b≠t->s.heap.get? b=some o->H.get? b=some o)->H.get? S=some { cls:=.type "list",dict:=none,data:=.seq q c,slots:=#[] }->ItemsOf (λi v=>r[r.size - 1 - i]?=some v) q r.size->R (.ok (.ret m)) { s with heap:=H,toks:=X })(hn:r.size<=eV):aF (cw prog w) A.in1 (az6 (.ref S) (.ref t) m)
   (λy j=>match y with|.done f=>R (.ok f) j|.again c=>c.quiet=true/\f0 (cw prog w) A c R j) (λe j=>R (.error e) j) s:=by
 have C:S∉[t,l]:=by simp only[List.mem_cons,List.not_mem_nil,or_false,not_or];exact⟨Z,Q⟩
 have u:=Walks.listRev (prog:=prog) (w:=w) (A:=A.in1) hh t l P r;have x:0<=r.size/\s.heap.IsRevIter t l ((r.size:Int) - 1 - ((0:Nat):Int))/\s.heap.IsList l r:=⟨Nat.zero_le _,by simpa using d,hl⟩;have hT:=d.typeIs;have key:∀h(p X),(0<=r.size/\h.IsRevIter t l (r.size - 1 - (0:Int))/\h.IsList l r)->(∀b o,b≠S->s.heap.get? b=some o->h.get? b=some o)->
   h.get? S=some { cls:=.type "list",data:=.seq #[] p }->f0 (cw prog w) A (.builtin "list.extend.loop" ⟨[.ref S,.ref t,m],[]⟩) R { s with heap:=h,toks:=X }:=by
  intro h p X N hk g;refine codeAny_extend_loopS u.toS hn S C m r.size 0 _ #[] p rfl (Nat.zero_le _) N g (ItemsOf.nil _) λj q c hm hS' a=>?_;rw[Moved.eq_with hm];refine hR j.heap j.toks q c (λb o hb hI e=>hm.heap b o (λn=>?_)<|hk b o hb e) hS' a;exact f_ n (λe'=>(hb e')) λn=>(hI<|List.mem_singleton.mp n)
 refine aI<|wpAny_typeOf hT ?_;have h1:an1 (.ref S) (.ref t)=false:=by simp[an1,Z]
 have h2:(ri "list_reverseiterator" == ri "list")=false:=by decide
 have h3:(ri "list_reverseiterator" == ri "tuple")=false:=by decide
 rw[h1,h2,h3];refine aI<|wpAny_pyIter_revIter d ?_;refine aI<|gq<|RZ hT ?_;exact bz ⟨plainId_quiet PySem.F.plain_extend_loop _,key _ k _ x (λb o z e=>e) hS⟩
theorem R7(a:l≠y)(C:A.handled=none)(j:s.heap.IsRevIter y l ((x.size:Int) - 1))(P:s.heap.IsList l x)(hn:x.size<=eV)(N:∀k S u Z,(∀b o,b≠y->s.heap.get? b=some o->k.get? b=some o)->k.get? s.heap.objs.size=some { cls:=.type "list",dict:=none,data:=.seq u Z,slots:=#[] }->ItemsOf (λi v=>x[x.size - 1 - i]?=some v) u x.size->Q (.ref s.heap.objs.size) { s with heap:=k,toks:=S }):aF (cw prog w) A (call (.type "list") [.ref y]) Q E s:=by
 refine callType_codes (Q₁:=λf t=>f=.ref s.heap.objs.size/\t = { s with heap:=s.heap.push { cls:=.type "list",data:=.seq #[] } }) PySem.F.called_list (PySem.F.typeCall_list_1 _) PySem.F.entry_list_init
  (code_list_new _ ⟨rfl,rfl⟩) λf t n=>?_
 obtain⟨rfl,rfl⟩:=n;have c:(s.heap.push { cls:=.type "list",data:=.seq #[] }).get? s.heap.objs.size=some { cls:=.type "list",data:=.seq #[] }:=d8 _ rfl;have d:=j.elim λ_ p=>p.elim λg _=>d3 g;have m:=P.elim λ_ p=>p.elim λg _=>d3 g;refine⟨⟨_,c,rfl⟩,PySem.F.args_list_init_2 _ _,?_⟩;refine aI ?_;refine aI (an2 c rfl (bz ?_));refine aI (wpAny_updateSeq c rfl ?_);have q:=Ap (wk (λz=>#[])) c rfl;have r:∀b o,b≠s.heap.objs.size->s.heap.get? b=some o->((s.heap.push { cls:=.type "list",data:=.seq #[] }).update s.heap.objs.size (wk (λz=>#[]))).get? b=some o:=
  λb o X e=>(cm.get?_update_other _ _<|Ne.symm X).trans<|fZ _ e
 refine aI<|wpAny_letGo ?_;refine R0 a (A:=A.in1) C (j.at λo e=>r y o (Nat.ne_of_lt d) e) (P.at λo e=>r l o (Nat.ne_of_lt m) e) _ (Nat.ne_of_gt d) (Nat.ne_of_gt m) .none _ q (λk S u Z H R h=>?_) hn;exact⟨rfl,N k S u Z (λb o X e=>H b o (Nat.ne_of_lt<|d3 e) X<|r b o (Nat.ne_of_lt<|d3 e) e) R h⟩
end
section
variable {X:Fx}
theorem aD.of_get:∀{z:List n}{v:List o},z.length=v.length->(∀(i:Nat)a b,z[i]?=some a->v[i]?=some b->R a b)->aD R z v:=by
 intro r
 induction r with
 |nil=>
  intro u;cases u with|nil=>intro _ _;exact trivial|cons _ _=>intro w _;cases w
 |cons a z s=>
  intro p;cases p with|nil=>intro w _;cases w|cons b v=>intro w h;exact⟨h 0 a b rfl rfl,s (Nat.succ.inj w) λi x y q t=>h (i+1) x y q t⟩
def bK(b:BI)(e:EV X.R)(a:AV)(r:X.R):X.R:=match a with
 |.bi c=>J (decide<|c=b) r e.stop
 |_=>e.stop
theorem Cf(z:bD X e n)(h:X.holds (bK b e a r)):a=.bi b/\X.holds r:=by
 cases a with|bi c=>refine eY z (h) λx y=>?_;exact⟨by rw[br x],y⟩|_=>exact aP h z.stop
theorem R8(h1:SE X sc (.Name C np) (ah (.bi .lst)))(h2:SE X sc (.Name n2 np') (ah (.bi .rev)))(hpl:ue x)(N:SE X sc x p):SE X sc (.Call (.Name C np) [.Call (.Name n2 np') [x] [] cp'] [] cp) (Bv p):=by
 intros
 refine NW<|h1 e n G W Y f H (λa h=>bK .lst e a<|ah (.bi .rev) e f h (λa2 h2=>bK .rev e a2<|p e f h2 (λv h=>ad (gx h v) e.stop λw=>J e.hd e.stop<|pI e h k<|lh w) M) M) M Z R m I s A _ E V S F (λρ1 H1 s1 a v x1 S1 l g1=>?_) B;obtain⟨ea,g1⟩:=Cf G g1;subst ea;have ev:=l;clear l;subst ev;refine Ga (P:=λu=>True) rfl (λh u=>xA .lst h)<|NX<|NY ?_;refine NW<|h2 e n G W Y f H1 (λa2 h2=>bK .rev e a2<|p e f h2 (λv h=>ad (gx h v) e.stop λw=>J e.hd e.stop<|pI e h k<|lh w) M) M g1 ρ1 m I s1 A _ E V S1 (F.ext x1) (λρ2 H2 s2 a v x2 S2 r2 g2=>?_)<|B.ext x1;obtain⟨ea,g2⟩:=Cf G g2;subst ea;have ev:=r2;clear r2;subst ev;rw[hpl];refine Ga (P:=λu=>True) rfl (λh u=>xA .rev h)<|NX<|NY ?_;refine N e n G W Y f H2 _ M g2 ρ2 m I s2 A _ E V S2 (F.ext<|x1.trans x2) (λρ3 H3 s3 a v x3 r r3 g3=>NZ ⟨trivial,?_⟩)<|B.ext<|x1.trans x2;refine bw G g3 λw hxs g4=>?_;refine ee G g4 λhd g5=>?_;refine gV G g5 λhl g6=>?_;obtain⟨i,ei,hi⟩:=jS hxs;rw[ei] at r3;obtain⟨y,hy,rfl⟩:=r3;obtain⟨y',hy',t,L,c,z⟩:=r.cell i _ hi;have ey:y'=y:=by rw[hy] at hy';exact(Option.some.inj hy').symm
 rw[ey] at L;have e1:=c.length;have U:=hK;rw[xB] at hl g6;rw[List.length_reverse] at hl;have hlt:=L.isList.elim λ_ zz0=>zz0.elim λg _=>d3 g;refine call_reversed_list L.isList<|NZ ⟨trivial,?_⟩;have S4:=r.push<|revObj y<|t.toArray.size - 1;refine R7 (Nat.ne_of_lt hlt) (V.2.2.1 hd) ⟨_,d8 _ rfl,rfl,rfl⟩ (L.isList.at λo g=>fZ _ g) (by exact(lin [w.length,t.length,eV] aj0) hl e1 U) λh' tk acc c' hk hg hacc=>?_;have PX:=St.put_ext (a:=(s3.heap.push<|revObj y<|(t.toArray.size:Int) - 1).objs.size)<|r.top _<|Nat.le_refl _;have hk':∀b o,s3.heap.get? b=some o->h'.get? b=some o:=λb o g=>hk b o (Nat.ne_of_lt<|d3 g)<|fZ _ g;have q:aD (aE ρ3 X.σ) w.reverse acc.toList:=by
  have ha1:acc.size=w.length:=by rw[hacc.1];exact e1.symm
  refine aD.of_get (by rw[List.length_reverse];exact ha1.symm) λj a b ha hb=>?_;have hb':acc[j]?=some b:=by rw[(FZ).symm];exact hb
  have hv:=hacc.2 j b hb';have hj:j<w.length:=by have U:=BH ha;rw[List.length_reverse] at U;exact U
  rw[List.getElem?_reverse hj] at ha;obtain⟨b2,hb2,rr⟩:=c.nth ha;have e5:t.toArray.size - 1 - j=w.length - 1 - j:=by rw[e1];rfl
  rw[e5] at hv;have hv':t[w.length - 1 - j]?=some b:=List.getElem?_toArray.symm.trans hv;rw[hb2] at hv';injection hv' with hv'
  rw[hv'.symm];exact rr
 refine K _ _ _ (.ref H3.n) _ (((x1.trans x2).trans x3).trans PX) (r.newAt (h':=h') (tk:=tk) (d:=s3.drawn) (o:=.list w.reverse) hk' (by rw[Gc];exact Nat.le_succ _) ⟨acc.toList,⟨c',by rw[wh];exact hg⟩,q.rel_ext PX,by rw[List.length_reverse];exact(lin [w.length] 0x1268004e212168004e2121) z⟩) ⟨_,St.put_self ..,rfl⟩ g6
theorem R9(i:X.Ok):iW X .lst:=by
 refine pX (λe n x v H k hh ρ fs ls s A Q E v' p S rv PV=>?_) (λe n x H k h=>x.stop h) λe n x v c H k h=>x.stop h;refine bw x (hh) λo r C=>?_;obtain⟨y,rfl,hy,ra⟩:=rV i S r rv;cases o with
 |list q=>obtain⟨t,⟨m,g⟩,w,z⟩:=ra;exact Il x C S PV (.inl rfl) g w
 |tup q=>obtain⟨t,⟨m,g⟩,w,z⟩:=ra;exact Il x C S PV (.inr rfl) g w
 |dvals sd=>
  refine bw x (C) λes hes h2=>?_;refine ee x h2 λhd h3=>?_;refine gV x h3 λhl h4=>?_;obtain⟨d,hd1,f⟩:=ra;obtain⟨d',N,F,DD,w,_⟩:=S.cell sd _<|gy hes;obtain⟨od,ees,ep,god,hxd,hdd,hkd,hpd,hnd⟩:=pN.of DD;have ed:d'=d:=by rw[hd1] at N;exact(Option.some.inj N).symm
  rw[ed] at god;have e1:=w.length;rw[Ce] at hl;have Y:=hK;refine kdl_call (kdl_values) (p.2.2.1 hd) ⟨f,⟨od,ees,god,hxd,hdd,hkd,hpd,hnd⟩⟩ ((lin [es.length,F.length,eV] aj0) hl e1 Y) λh' tk Z c' hk hg P=>?_;have PX:=St.put_ext (a:=s.heap.objs.size)<|S.top _<|Nat.le_refl _;have ha1:Z.size=es.length:=by rw[P.1];exact(lin [es.length,F.length] 19798243393) e1
  have u:aD (aE ρ X.σ) (Internal.vals es) Z.toList:=by
   refine aD.of_get (by rw[Ce];simp[ha1]) λj a b ha hb=>?_;have hb':Z[j]?=some b:=by rw[(FZ).symm];exact hb
   obtain⟨kk,hkk⟩:=P.2 j b hb';obtain⟨l,R,rr⟩:=w.vals.nth ha;rw[List.getElem?_map,hkk] at R;injection R with R
   rw[R.symm] at rr;exact rr
  exact PV _ _ _ (.ref H.n) _ PX (S.newAt (o:=.list<|Internal.vals es) hk (Nat.le_refl _) ⟨Z.toList,⟨c',by rw[wh];exact hg⟩,u.rel_ext PX,by rw[Ce];exact(lin [es.length] 0x1268004e212168004e2121) ‹_›⟩) ⟨_,St.put_self ..,rfl⟩ h4
 |_=>exact aP C x.stop
@[elab_as_elim] theorem pY{e:EV X.R}{n:Nat}(EV:bD X e n){w:bu}{y:tY0}{P:List au->Prop}{z:List au}{k:AV->X.R}(h:X.holds (jQ e y k))(x:aD (aE w X.σ) y z)(g:∀a v,aE w X.σ a v->X.holds (k a)->P [v]):P z:=by
 cases y with|nil=>exact aP h EV.stop|cons a r=>
  refine ee EV h λu h=>?_;cases r with|cons _ _=>exact bg u.symm|nil=>
   cases z with|nil=>exact x.elim|cons v z=>
    cases z with|cons _ _=>exact x.2.elim|nil=>exact g a v x.1 h
@[elab_as_elim] theorem uj{e:EV X.R}{n:Nat}(EV:bD X e n){z:bu}{a:AV}{P:au->Prop}{v:au}{k:Nat->X.R}(h:X.holds (hW e a k))(y:aE z X.σ a v)(g:∀c t,X.holds (k c)->P (.str (am c) t)):P v:=by
 cases a with|str c=>exact gW y rfl λt=>g c t h|_=>exact aP h EV.stop
theorem R_(z:bD X e n)(h:X.holds (hW e a k))(y:aE x X.σ a v):∃c t,a=.str c/\v=.str (am c) t/\X.holds (k c):=by
 cases a with
 |str c=>obtain⟨t,e⟩:=y;exact⟨c,t,rfl,e,h⟩
 |_=>exact aP h z.stop
theorem Sa:gz X "append" 0 ge:=by
 refine⟨"list.append",PySem.F.slot_list_append,N0,PySem.F.type_list_append,?_⟩;intro e n x o r H k f N fs ls s A Q E vo q p S b m C;cases o with
 |ref i=>refine kv b λy g=>bw x f λw l P=>?_;refine gV x P λh c=>?_;refine pY x c m λa v Z d=>?_;obtain⟨j,L,u,z⟩:=fz S (gX l) g;have e1:=u.length;have:=hK;rw[eX] at d;refine an3 L (λh' R t=>?_) (by exact(lin [w.length,j.length,eV] aj0) h e1 this);exact C N _ _ .none _ (.refl _) (S.updS (o:=.list<|w++[a]) (by first|assumption|exact gX (by assumption)|exact setAt_some (by assumption)|exact gy (by assumption)|exact(by rw[AH.get_new,aw rfl])) g t ⟨j++[v],by simpa using R,u.app ⟨Z,trivial⟩,by simp;exact(lin [w.length,j.length] 0x1293400270e90b84168000fa121) h e1⟩) rfl d
 |_=>exact aP f x.stop
theorem Im(h:dD y w o x)(hd:aE y w d z):aE y w (ad o d λv=>v) (x.getD z):=by
 cases o<;>cases x<;>first|exact hd|exact h|exact h.elim
theorem Sb(g:X.Ok):gz X "get" 2 tY:=by
 refine⟨"dict.get",N1,an4,PySem.F.type_dict_get,?_⟩;intro e n x o q H k R ρ fs ls s A Q E vo p j S ro b PV;cases o with
 |ref i=>
  cases q with|nil=>exact aP R x.stop|cons a r=>
   cases p with|nil=>exact b.elim|cons v vr=>
   refine uj x R b.1 λc t h1=>pY x h1 b.2 λd u C h2=>bw x h2 λob Z P=>je g S Z ro λy hy N=>?_;cases ob with
   |dict es=>obtain⟨f,h,l,z⟩:=N;refine FX N1 h.typeIs an5 (an6 _ _ _) (an7 (bW X.prog X.w) y (mK c t) hy u) ⟨cQ f,h.mapOf,?_⟩;exact PV ρ H _ _ _ (.refl _) (S.toks _) (Im (nV c l) C) P
   |umap es=>obtain⟨f,h,z,l,m⟩:=N;refine FX N1 h.typeIs an5 (an6 _ _ _) (an7 (bW X.prog X.w) y (mK c t) hy u) ⟨cQ f,h.mapOf,?_⟩;exact PV ρ H _ _ _ (.refl _) (S.toks _) (Im (HE l m c) C) P
   |_=>exact aP P x.stop
 |_=>exact aP R x.stop
theorem Sc(q:X.Ok):gz X "values" 2 tZ:=by
 refine⟨"dict.values",an8,an4,PySem.F.type_dict_values,?_⟩;intro e n x o u H k f C fs N s A Q E vo v t S c m Z;cases o with
 |ref i=>
  refine kv c λy j=>bw x f λes h b=>ee x b λR d=>?_;have P:v=[]:=by
   cases u with|cons _ _=>exact bg R.symm|nil=>cases v with|nil=>rfl|cons _ _=>exact m.elim
  rw[P];obtain⟨p,r,l,z⟩:=fz S (gy h) j;have g:=St.put_ext (a:=s.heap.objs.size)<|S.top _<|Nat.le_refl _;refine FX an8 r.typeIs PySem.F.entry_dict_values (PySem.F.args_dict_values_1 _) (meets_dict_values (bW X.prog X.w) y (Hp q S (by first|assumption|exact gy<|by assumption) j)) ⟨⟨p,r⟩,?_⟩
  exact Z _ _ _ (.ref H.n) _ g (S.new1 (o:=.dvals i) ⟨y,g _ _ j,⟨_,d8 _ rfl,rfl,rfl⟩⟩) ⟨_,St.put_self ..,rfl⟩ d
 |_=>exact aP f x.stop
theorem Sd:gz X "extend" 0 Bl:=by
 refine⟨"list.extend",an9,N0,PySem.F.type_list_extend,?_⟩;intro e n w o q H k hh ρ fs ls s A Q E vo p m S ro b PV;cases o with
 |ref i=>
  refine kv ro λy hy=>bw w hh λt Z h1=>pY w h1 b λa v ra h2=>bw w h2 λr R h3=>?_;refine gV w h3 λd h4=>?_;refine gV w h4 λf h5=>?_;obtain⟨j,ej,hj⟩:=jS R;rw[ej] at ra;refine kv ra λz hz=>?_;obtain⟨h,⟨C,P⟩,c,_⟩:=fz S (gX Z) hy;obtain⟨l,⟨m2,g2⟩,u,_⟩:=fz S hj hz;have e1:=c.length;have e2:=u.length;have Y:=hK;have g:h.toArray.size+l.toArray.size<=eV:=by exact(lin [t.length,r.length,h.length,l.length,eV] 0x94a52934aa20dd000000495c41386168000fa12268000fa121) d f e1 e2 Y
  refine Ak an9 ⟨_,P,rfl⟩ PySem.F.entry_list_extend (PySem.F.args_list_extend_2 _ _) (AutoSeq1.list_extend_list_list_0 y h.toArray C z l.toArray m2 (extend_door g)<|Nat.le_trans (Nat.le_add_right _ _) g) ⟨P,g2,?_⟩;have e3:h.toArray++l.toArray=(h++l).toArray:=by simp
  have N:cm.PlainList (s.heap.update y<|wk λx=>x++l.toArray) y (h++l).toArray:=by refine⟨if(h.toArray++l.toArray).size == h.toArray.size then C else C+1,?_⟩;rw[Ap _ P (by rw[mapSeq_app];rfl),mapSeq_app,e3]
  rw[eX] at h5;exact PV ρ (H.set i<|.list<|t++r) _ .none .none (.refl _) (S.updS (by first|assumption|exact gX (by assumption)|exact setAt_some (by assumption)|exact gy (by assumption)|exact(by rw[AH.get_new,aw rfl])) hy (wi ..) ⟨h++l,N,c.app u,by simp;exact(lin [t.length,r.length,h.length,l.length] 0x94a5268004e212a105c41386168000fa12268000fa121) d f e1 e2⟩) rfl h5
 |_=>exact aP hh w.stop
theorem aD.snoc_inv:∀{m:List t},aD r (l++[a]) m->∃z b,m=z++[b]/\aD r l z/\r a b:=by
 induction l with
 |nil=>
  intro m h;cases m with|nil=>exact h.elim|cons b m=>
   cases m with|nil=>exact⟨[],b,rfl,trivial,h.1⟩|cons c m=>exact h.2.elim
 |cons x l v=>
  intro m h;cases m with|nil=>exact h.elim|cons y m=>exact(v h.2).elim λz u=>u.elim λb w=>⟨y::z,b,aT (y::·) w.1,⟨h.1,w.2.1⟩,w.2.2⟩
theorem Se(h:GN a=true):a=.int 0:=by
 cases a with
 |int i=>exact aT AV.int<|br<|(xm i 0)▸h
 |_=>cases h
section
variable {ρ:bu}{H:AH}{ls:Lo}{s:aU}{i:Nat}{y:bI}{m1:Nat}{xs:tY0}{us:List au}{A:dH}{Q E:tY1}
theorem Io(S:X.St ρ H ls s)(o:eA H i=some xs)(r:ρ i=some y)(u:s.heap.get? y=some { cls:=.type "list",dict:=none,data:=.seq us.toArray m1,slots:=#[] })(x:us=p++v::q)(w:aD (aE ρ X.σ) z (p++q))(t:z.length<=1000):X.St ρ (H.set i (.list z)) ls { s with heap:=s.heap.update y (wk λxs=>xs.eraseIdxIfInBounds p.length) }:=by
 have n:=PySem.IsL.update u λxs=>xs.eraseIdxIfInBounds p.length;rw[x,kl_erase] at n;exact S.updS (gX o) r (wi ..) ⟨p++q,⟨_,n⟩,w,(lin [z.length] aJ0) t⟩
theorem Sf(S:X.St ρ H ls s)(g:eA H i=some xs)(l:ρ i=some y)(p:s.heap.get? y=some { cls:=.type "list",dict:=none,data:=.seq us.toArray m1,slots:=#[] })(w:aD (aE ρ X.σ) xs us)(m:us.toArray.size<=eV)(o:xs.length<=1000)(h:xs.reverse=b::r)(k:∀v n,aE ρ X.σ b v->X.St ρ (H.set i (.list (lh r))) ls { s with heap:=n }->Q v { s with heap:=n }):aF X.M A (gO (.builtin "list.pop") [.ref y]) Q E s:=by
 have u:xs=r.reverse++[b]:=by have f:=aT List.reverse h;rw[List.reverse_reverse,List.reverse_cons] at f;exact f
 rw[u] at w o;obtain⟨q,v,x,z,j⟩:=w.snoc_inv;have t:us.toArray[us.toArray.size - 1]?=some v:=by rw[x];simp
 refine Ak N3 ⟨_,p,rfl⟩ ao0 (PySem.F.args_list_pop_1 _) (az7 y _ m1 v t m) ⟨p,?_⟩;rw[show us.toArray.size - 1=q.length by rw[x];simp];exact k _ _ j (Io S g l p x (by rw[xB,List.append_nil];exact z)<|by rw[xB];rw[List.length_append] at o;exact Nat.le_of_succ_le o)
theorem Sg(S:X.St ρ H ls s)(m:eA H i=some xs)(o:ρ i=some y)(x:s.heap.get? y=some { cls:=.type "list",dict:=none,data:=.seq (v::q).toArray m1,slots:=#[] })(z:aD (aE ρ X.σ) r q)(l:(v::q).toArray.size<=eV)(u:r.length+1<=1000)(n:∀w,X.St ρ (H.set i (.list r)) ls { s with heap:=w }->Q v { s with heap:=w }):aF X.M A (gO (.builtin "list.pop") [.ref y,.int 0 t]) Q E s:=by
 refine Ak N3 ⟨_,x,rfl⟩ ao0 (PySem.F.args_list_pop_2 _ _) (az8 y _ m1 0 t 0 v (by decide +kernel) ?_ (.refl _) l) ⟨x,n _<|Io (p:=[]) S m o x rfl z<|Nat.le_of_succ_le u⟩;unfold NF;simp
end
theorem Sh:gz X "pop" 0 tW:=by
 refine⟨"list.pop",N3,N0,PySem.F.type_list_pop,?_⟩;intro e n x o u H k C ρ fs ls s A Q E vo w p S ro m PV;cases o with
 |ref i=>
  refine bw x (C) λxs j h1=>?_;refine gV x h1 λd Z=>?_;refine kv ro λy c=>?_;obtain⟨us,⟨m1,N⟩,l,_⟩:=fz S (gX j) c;have P:us.toArray.size<=eV:=by have:=hK;have:=l.length;simp;exact(lin [xs.length,us.length,eV] aj0) d ‹_› ‹_›
  cases u with
  |nil=>
   cases w with|cons _ _=>exact m.elim|nil=>
    have h:X.holds (GM e i (lh xs) H k):=Z;rw[xB] at h;cases hr:xs.reverse with|nil=>rw[hr] at h;exact aP h x.stop|cons b r=>rw[hr] at h;exact Sf S j c N l P d hr λv h' rb f=>PV ρ _ _ b v (.refl _) f rb h
  |cons a u=>
   refine ee x (Z) λz h=>?_;cases u with|cons _ _=>exact(Bool.noConfusion z)|nil=>
    cases w with|nil=>exact m.elim|cons va w=>
     cases w with|cons _ _=>exact m.2.elim|nil=>
      refine eY x h λg R=>?_;rw[Se g] at m;obtain⟨t,ev⟩:=m.1;rw[ev];cases xs with|nil=>exact aP R x.stop|cons b r=>
       cases us with|nil=>exact l.elim|cons v q=>exact Sg S j c N l.2 P d λh' f=>PV ρ _ _ b v (.refl _) f l.1 R
 |_=>exact aP C x.stop
section
variable {prog:dY}{w:dZ}{A:dH}{E:tY1}{s:aU}{Q:tY1}{t u:Tok}
theorem Si(z:p.length<10)(h:∀y k,Q (.str (k4 "Dependent file '"++p++k4 "' does not exist.") y) { s with toks:=k }):aF (cw prog w) A (call (.builtin "str.format") [.str (k4 "Dependent file '{}' does not exist.") t,.str p u]) Q E s:=by
 refine' KFm.call_k ?kfmF ?kfmg ?kfmm ?_
 case kfmF=>kfm_eq
 case kfmg=>kfm_args
 case kfmm=>
  apply KPc.meets_of;intro _ _ _ _ _ _ _;refine aI<|Al rfl ?_;refine aI ?_;refine aI ?_;rw[KPc.range_list];refine KFm.start ?_;intro _ _
  kfm_turns
 intro y k;exact h y k
end
theorem xC:∀{l:List (Nat×Nat×o)},rO s p l=some b->(s,p,b)∈l:=by
 intro v
 induction v with|nil=>intro h;cases h|cons x l z=>
  obtain⟨y,r,n⟩:=x;intro h;delta rO at h
  dsimp only at h
  cases q:Nat.beq y s with
  |false=>rw[q] at h;exact .tail _<|z h
  |true=>
   rw[q] at h;cases q2:Nat.beq r p with
   |false=>rw[q2] at h;exact .tail _<|z h
   |true=>
    rw[q2] at h;injection h with h
    rw[Nat.eq_of_beq_eq_true q,Nat.eq_of_beq_eq_true q2,h];exact .head _
@[elab_as_elim] theorem xD{e:EV X.R}{n:Nat}(EV:bD X e n){r:bu}{o:AV}{y:tY0}{P:au->List au->Prop}{q:au}{z:List au}{k:Nat->Nat->X.R}(h:X.holds (hW e o λs=>jQ e y λa=>hW e a λp=>k s p))(l:aE r X.σ o q)(j:aD (aE r X.σ) y z)(g:∀s p t u,X.holds (k s p)->P (.str (am s) t) [.str (am p) u]):P q z:=
 uj EV h l λc t i=>pY EV i j λa v x m=>uj EV m x λp u f=>g c p t u f
theorem Sj:∀x∈GP,PySem.Txt.startswith (am x.1) (am x.2.1)=x.2.2:=by decide +kernel
theorem Sk:∀x∈GQ,PySem.Txt.endswith (am x.1) (am x.2.1)=x.2.2:=by decide +kernel
theorem Sl:gz X "startswith" 4 Bp:=by
 refine⟨"str.startswith",PySem.F.slot_str_startswith,Gd,PySem.F.type_str_startswith,?_⟩;intro e n z o y H k i j fs d s A Q E a x v S q r h;refine xD z i q r λc p t u g=>?_;refine bw z g λb m l=>?_;have f:=Sj _ (xC m);exact SC.startswith (h j H _ (.bool b) _ (.refl _) S (aT Ge f) l)
theorem Sm:gz X "endswith" 4 Bq:=by
 refine⟨"str.endswith",PySem.F.slot_str_endswith,Gd,PySem.F.type_str_endswith,?_⟩;intro e n z o y H k i j fs d s A Q E a x v S q r h;refine xD z i q r λc p t u g=>?_;refine bw z g λb m l=>?_;have f:=Sk _ (xC m);exact SC.endswith (h j H _ (.bool b) _ (.refl _) S (aT Ge f) l)
theorem Sn:∀x∈GO,(decide ((am x.1).length<(am x.2.1).length) || decide (ao1 (am x.1)<ao1 (am x.2.1)))=false/\((am x.2.1).length == 0)=false/\
  (FQ (am x.1) (am x.2.1) 0 (am x.1).length<|(am x.1).length+1).isEmpty=false/\(am x.1).length<=eV/\
  (ao2 (am x.1) (FQ (am x.1) (am x.2.1) 0 (am x.1).length<|(am x.1).length+1) (am x.2.1).length).length<=eV/\
  ao2 (am x.1) (FQ (am x.1) (am x.2.1) 0 (am x.1).length<|(am x.1).length+1) (am x.2.1).length=x.2.2.map am/\x.2.2.length<=5000:=by decide +kernel
theorem So:∀(l:List Nat)z,aD (aE v r) (l.map AV.str) (strsFrom z (l.map am)):=by
 intro x
 induction x with|nil=>intro _;exact trivial|cons c l y=>intro z;exact⟨⟨_,rfl⟩,y<|z+1⟩
theorem Sp:gz X "split" 4 Bo:=by
 refine⟨"str.split",ao3,Gd,PySem.F.type_str_split,?_⟩;intro e n y o v H k Z C fs N s A Q E vo r q S f m R;refine xD y Z f m λc p t u P=>?_;refine bw y P λl d j=>?_;obtain⟨i,c2,c3,c4,h,x,c7⟩:=Sn _ (xC d)
 dsimp only at i c2 c3 c4 h x c7
 rw[BC] at j;have b:=St.put_ext (a:=s.heap.objs.size)<|S.top _<|Nat.le_refl _;refine Ak ao3 (NG _ _ _) PySem.F.entry_str_split (PySem.F.args_str_split_2 _ _) (meets_str_split_sep _ _ t u i c2 c3 c4 h) ?_;rw[x];refine R _ _ _ (.ref H.n) _ b (S.newAt (o:=.list<|l.map AV.str) (λz z g=>fZ _ g) (Nat.le_refl _) ⟨strsFrom s.toks<|l.map am,⟨_,d8 _ rfl⟩,So _ _,by rw[List.length_map];exact c7⟩) ⟨_,St.put_self ..,rfl⟩ j
theorem Sq:∀x∈GR,am x.1=k4 "Dependent file '{}' does not exist."/\(am x.2.1).length<10/\am x.2.2=k4 "Dependent file '"++am x.2.1++k4 "' does not exist.":=by decide +kernel
theorem Sr:gz X "format" 4 Br:=by
 refine⟨"str.format",PySem.F.slot_str_format_m,Gd,PySem.F.type_str_format_m,?_⟩;intro e n z o y H k g h fs a s A Q E R x v S m r f;refine xD z g m r λc p t u d=>?_;refine bw z d λl j i=>?_;have q:=Sq _ (xC j);rw[show am c=_ from q.1];refine Si q.2.1 λb Z=>?_;rw[show _=am l from q.2.2.symm];exact f h H _ (.str l) _ (.refl _) (S.toks _) ⟨_,rfl⟩ i
end
theorem Ss[DecidableEq m]:∀{z v:List m},z.Nodup->(∀x∈z,x∈v)->z.length<=v.length:=by
 intro o
 induction o with|nil=>intro _ _ _;exact Nat.zero_le _|cons x z q=>intro v l r;obtain⟨n,p⟩:=List.nodup_cons.mp l;have u:=r x<|.head _;have k:=List.length_erase_of_mem u;have:=q p (λy t=>(List.mem_erase_of_ne (λe:y=x=>n<|by rw[e.symm];exact t)).mpr<|r y<|.tail _ t);have:=List.length_pos_of_mem u;show z.length+1<=_;omega
theorem Su[DecidableEq o]{z y:List o}(m:z.Nodup)(n:∀x∈z,x∈y)(r:y.length=z.length)(e:y=t++k::u):k∉t++u:=by
 intro p;have w:∀x∈z,x∈t++u:=λx v=>by
  have w:=n x v;rw[e] at w;rcases List.mem_append.mp w with h|h
  .exact List.mem_append.mpr<|.inl h
  .clear e;refine bk h ?_ λh=>?_
   .exact p
   .exact List.mem_append.mpr<|.inr h
 have q:=Ss m w;rw[e] at r;rw[List.length_append] at r q;rw[List.length_cons] at r;exact(lin [t.length,u.length,z.length] 0x4a536a8411b86a500a041) r q
theorem Sv(e:es.toList=y++x::z):(ma es y.length).toList=y++z:=by
 delta ma;have v:es=(y++x::z).toArray:=by rw[e.symm]
 rw[v];simp;exact List.take_of_length_le (by omega)
theorem Ip(h:i<es.size):(ma es i).size+1=es.size:=by
 delta ma;simp;omega
theorem Sw:(ao4 es i x).size=es.size+1:=by
 delta ao4;simp;omega
theorem Sx{t:SetTable}(h:t.fits n=true)(y:i<n):(t.drop i).fits (n - 1)=true:=by
 unfold SetTable.fits SetTable.fill at h ⊢;simp only[Bool.and_eq_true,beq_iff_eq,decide_eq_true_eq] at h ⊢;delta SetTable.drop;have z:i<t.place.size:=(lin [i,n,t.place.size,t.dummies.size,t.mask] 0x1293061834aa20dc21b041) y h;rw[NT z]
 dsimp only
 rw[Sw];have:=Ip z;omega
section
variable {prog:dY}{w:dZ}{A:dH}{E:tY1}{s:aU}{K:Type} [DecidableEq K] {knd:KeyKind prog w K}
theorem Sy(v:knd.is k x=true)(u:x.scannable=true)(y:s.heap.get? a=some o)(hd:o.data=.set es n t)(r:t.fits es.size=true)(z:FC knd es.toList)(p:es.size<kY)(q:es.toList.findIdx? (λe=>knd.is k e.2)=some j)(h:Q (some j) s):aF (cw prog w) A (setFind a x (knd.hash k)) Q E s:=by
 refine aI<|N4 y hd r ?_
 dsimp only
 rw[byScan_of u p z];simp only[↓reduceIte];refine aI<|wpAny_rule ?_;refine aI<|wpAny_setScan_of v y hd r z ?_;rw[q]
 dsimp only
 rw[Nat.zero_add];exact bz h
theorem Sz(h:FC knd l):∃z:List K,aD (λe k=>knd.is k e.2=true) l z:=by
 induction l with|nil=>exact⟨[],trivial⟩|cons e l v=>obtain⟨z,y⟩:=v h.tail;obtain⟨⟨k,x,_⟩,_⟩:=h.head;exact⟨k::z,x,y⟩
theorem aD.split_at:∀{v:List u}{x:u}{z:List u}{m:List g},aD r (v++x::z) m->∃p y q,m=p++y::q/\aD r v p/\r x y/\aD r z q:=by
 intro l
 induction l with
 |nil=>
  intro x z t;cases t with|nil=>intro h;exact h.elim|cons y q=>intro h;exact⟨[],y,q,rfl,trivial,h.1,h.2⟩
 |cons a v n=>
  intro x z i;cases i with|nil=>intro h;exact h.elim|cons b m=>intro h;obtain⟨p,y,q,rfl,k,o,j⟩:=n h.2;exact⟨b::p,y,q,rfl,⟨h.1,k⟩,o,j⟩
theorem aD.mem_left:∀{l:List k}{m:List n},aD r l m->∀y∈m,∃x∈l,r x y:=by
 intro q
 induction q with
 |nil=>
  intro u;cases u with|cons _ _=>intro h _ _;exact h.elim|nil=>intro _ y v;exact nomatch v
 |cons a l t=>
  intro o;cases o with|nil=>intro h _ _;exact h.elim|cons b m=>
   intro h y v;refine bk v ?_ λv=>?_
   .exact⟨a,.head _,h.1⟩
   .obtain⟨x,z,p⟩:=t h.2 y v;exact⟨x,.tail _ z,p⟩
theorem aD.mem_right:∀{l:List k}{m:List n},aD r l m->∀x∈l,∃y∈m,r x y:=by
 intro q
 induction q with
 |nil=>
  intro u;cases u with|cons _ _=>intro h _ _;exact h.elim|nil=>intro _ y v;exact nomatch v
 |cons a l t=>
  intro o;cases o with|nil=>intro h _ _;exact h.elim|cons b m=>
   intro h y v;refine bk v ?_ λv=>?_
   .exact⟨b,.head _,h.1⟩
   .obtain⟨x,z,p⟩:=t h.2 y v;exact⟨x,.tail _ z,p⟩
theorem SF{S:K->Bool}{u:List K}(f:knd.is k x=true)(hsc:x.scannable=true)(hS:s.heap.SetOf knd a S u.length)(l:u.Nodup)(hm:∀k,S k=true↔k∈u)(hk:k∈u)(h:∀h',kZ a s.heap h'->h'.SetOf knd a (λd=>S d && decide (d≠k)) (u.length - 1)->Q true { s with heap:=h',toks:=s.toks+1 }):aF (cw prog w) A (setDiscard a x) Q E s:=by
 obtain⟨o,es,ep,t,n,hex,hd,r,c,hb,hf,hn⟩:=ll.of hS;refine gq<|aI<|knd.pyHash f ?_;cases hj:es.toList.findIdx? (λe=>knd.is k e.2) with
 |none=>obtain⟨e,he,v⟩:=(c k).mp<|(hm k).mpr hk;have Y:=List.findIdx?_eq_none_iff.mp hj e he;rw[v] at Y;exact Bool.noConfusion Y
 |some j=>
  obtain⟨hjl,X,_⟩:=List.findIdx?_eq_some_iff_getElem.mp hj;have P:j<es.size:=by rw[ao5.symm];exact hjl
  refine aI<|Sy (s:={ s with toks:=s.toks+1 }) f hsc n hd hf r hb hj ?_;refine aI<|N4 (s:={ s with toks:=s.toks+1 }) n hd hf ?_;have R:es.toList=es.toList.take j++es.toList[j]::es.toList.drop (j+1):=by rw[List.getElem_cons_drop,List.take_append_drop]
  have hpl:(es.toList.take j).length=j:=by rw[List.length_take];omega
  have i:=Sv R;rw[hpl] at i;have hsz:=Ip P;have F:FC knd (ma es j).toList:=by
   rw[i];intro e he;refine r e ?_;rw[R];rcases List.mem_append.mp he with he|he
   .exact List.mem_append.mpr<|.inl he
   .exact List.mem_append.mpr<|.inr<|.tail _ he
  obtain⟨m,b⟩:=Sz r;have hkl:=b.length;rw[R] at b;have N:=b;obtain⟨p,y,q,ek,k1,k2,k3⟩:=b.split_at;have ey:y=k:=(knd.inj _ k y X k2).symm;subst ey;have hin:∀z∈u,z∈m:=λz H=>by obtain⟨e,he,v⟩:=(c z).mp<|(hm z).mpr H;rw[R] at he;rw[ek];rw[ek.symm];obtain⟨z',hz',g⟩:=N.mem_right e he;rw[knd.inj _ z z' v g];exact hz'
  have C:=Su l hin (by rw[hkl.symm,ao5,hn]) ek;have Z:∀d,(S d && decide (d≠y))=true↔∃e∈(ma es j).toList,knd.is d e.2=true:=by
   intro d;rw[i,Bool.and_eq_true,c d,decide_eq_true_eq]
   constructor
   .rintro⟨⟨e,he,v⟩,hne⟩;rw[R] at he;rcases List.mem_append.mp he with he|he
    .exact⟨e,List.mem_append.mpr<|.inl he,v⟩
    .rcases List.mem_cons.mp he with rfl|he
     .exact aP (knd.inj _ d y v X) hne
     .exact⟨e,List.mem_append.mpr<|.inr he,v⟩
   .rintro⟨e,he,v⟩;refine⟨⟨e,?_,v⟩,λeq=>?_⟩
    .rw[R];rcases List.mem_append.mp he with he|he
     .exact List.mem_append.mpr<|.inl he
     .exact List.mem_append.mpr<|.inr<|.tail _ he
    .clear ek k2 f hk h hj X;subst eq;apply C;rcases List.mem_append.mp he with he|he
     .obtain⟨z,H,g⟩:=k1.mem_right e he;rw[knd.inj _ d z v g];exact List.mem_append.mpr<|.inl H
     .obtain⟨z,H,g⟩:=k3.mem_right e he;rw[knd.inj _ d z v g];exact List.mem_append.mpr<|.inr H
  have hb':(ma es j).size<kY:=(lin [es.size,kY,u.length,(ma es j).size] 0x12949822382a01411c30b041) hb hn hsz;have hf':(t.drop j).fits (ma es j).size=true:=by have Y:=Sx hf P;rw[show(ma es j).size=es.size - 1 by omega];exact Y
  refine aI<|wpAny_storeSet_of (s:={ s with toks:=s.toks+1 }) n hd ?_<|fits_of_scanBound hb';obtain⟨_,hS'⟩:=SetOf_store (knd:=knd) n hex hd F Z hb' hf';refine aI<|wpAny_point<|bz ?_;refine h _ (wi ..) ?_;rw[show u.length - 1=(ma es j).size by omega];exact hS'
end
section
variable {X:Fx}
@[elab_as_elim] theorem Iq{s z:aU}(e1:z.gens=s.gens)(e2:z.drawn=s.drawn)(y:z.os=s.os){P:aU->Prop}(g:P ⟨z.heap,s.gens,s.drawn,z.toks,s.os⟩):P z:=by
 obtain⟨h,a,d,t,o⟩:=z;cases e1;cases e2;cases y;exact g
theorem Cg(z:List Nat)(x y:Nat):y∈jO z x↔y∈z\/y=x:=by
 delta jO;cases q:a5 z x with|false=>rw[eX,List.mem_append,List.mem_singleton]|true=>
  have v:x∈z:=by rw[dh] at q;exact br q
  exact⟨.inl,λh=>h.elim id λe=>e▸v⟩
theorem Ir(z:List Nat)(x:Nat):(jO z x).length=if x∈z then z.length else z.length+1:=by
 delta jO;cases q:a5 z x with
 |true=>
  have y:x∈z:=by rw[dh] at q;exact br q
  rw[aw y]
 |false=>
  have y:¬x∈z:=by rw[dh] at q;exact of_decide_eq_false q
  rw[aq y];rw[eX];exact List.length_append
theorem SG(z:List Nat)(x:Nat)(h:z.Nodup):(jO z x).Nodup:=by
 delta jO;cases q:a5 z x with|true=>exact h|false=>
  have y:¬x∈z:=by rw[dh] at q;exact of_decide_eq_false q
  rw[eX,List.nodup_append];refine⟨h,List.nodup_cons.mpr ⟨λh=>(List.not_mem_nil h).elim,List.nodup_nil⟩,λa u b v e=>?_⟩;have v:=List.mem_singleton.mp v;exact y (by rw[<-v,<-e];exact u)
def eZ:List Nat->List Nat->List Nat
 |xs,[]=>xs
 |xs,y::l=>eZ (jO xs y) l
theorem It:∀(l z:List Nat),Be z l=eZ z l:=by
 intro v
 induction v with|nil=>intro _;exact rfl|cons y l x=>intro z;exact x<|jO z y
theorem Iu:∀(l z:List Nat),z.Nodup->(eZ z l).Nodup:=by
 intro v
 induction v with|nil=>intro _ h;exact h|cons y l x=>intro z h;exact x _<|SG z y h
theorem Ch:∀(l z:List Nat),(eZ z l).length<=z.length+l.length:=by
 intro u
 induction u with|nil=>intro _;exact Nat.le_refl _|cons y l x=>intro z;have t:=x<|jO z y;have v:=Ir z y;exact Nat.le_trans t<|Nat.le_trans (Nat.add_le_add_right (Nat.le_trans (Nat.le_of_eq v) BZ) _)<|Nat.le_of_eq<|Nat.succ_add ..
theorem SH(y:Nat):∀(l x:List Nat),eZ x (l++[y])=jO (eZ x l) y:=by
 intro u
 induction u with|nil=>intro _;exact rfl|cons z l v=>intro x;exact v<|jO x z
def gA(prog:dY)(w:dZ)(h:cm)(a:bI)(z:List Nat):Prop:=h.SetOf (bW prog w) a (λx=>decide (∃c,c∈z/\x=am c)) z.length
theorem gA.at(x:gA prog w h a y)(k:∀o,h.get? a=some o->u.get? a=some o):gA prog w u a y:=by
 obtain⟨o,es,v,t,z,r⟩:=x;exact⟨o,es,v,t,k _ z,r⟩
theorem Iv{z:List Nat}:(∃c,c∈z/\am y=am c)↔y∈z:=⟨λ⟨c,h,e⟩=>iT e▸h,λh=>⟨y,h,rfl⟩⟩
theorem xE:∀{y:tY0}{l:List Nat}{z:List au},wY y=some l->aD (aE d b) y z->l.length=z.length/\∀(i:Nat)(v:au),z[i]?=some v->∃(c:Nat)(t:Tok),l[i]?=some c/\v=k7 (am c) t:=by
 intro k
 induction k with
 |nil=>
  intro l m;cases m with|cons _ _=>intro _ r;exact r.elim|nil=>intro h _;injection h with h;subst h;exact⟨rfl,λi v h=>a6 h⟩
 |cons x y f=>
  intro l g;cases g with|nil=>intro _ r;exact r.elim|cons v z=>
   intro h r;cases x with
   |str c=>
    refine ba (h) λa p e=>?_;injection e with e
    clear h;subst e;obtain⟨j,o⟩:=f p r.2;refine⟨aT Nat.succ j,λi u q=>?_⟩;cases i with|succ i=>exact o i u q|zero=>injection q with q;subst q;obtain⟨t,e⟩:=r.1;exact⟨c,t,rfl,e⟩
   |_=>cases h
section
variable {prog:dY}{w:dZ}{A:dH}{R:v9->aU->Prop}{E:tY1}{s:aU}{I:bI}{fp wr:List bI}{G:Array GenState->Array GenState->Prop}{n:Nat}{P:Nat->au->Prop}{St:Nat->aU->Prop}
theorem SJ(y:WalksS prog w A.in1 I fp wr G n P St)(S:bI)(N:S∉fp){l:List Nat}(hl:l.length=n)(a:∀i v,P i v->∃(c:Nat)(t:Tok),l[i]?=some c/\v=k7 (am c) t)(j:z.length+n+1<kY):∀(k i:Nat)(s:aU),n - i=k->i<=n->St i s->gA prog w s.heap S (eZ z (l.take i))->
   (∀x,Moved (S::wr) G s x->gA prog w x.heap S (eZ z l)->R (.ok<|.ret .none) x)->
   f0 (cw prog w) A (.builtin "set.update.loop" ⟨[.ref S,.ref I],[]⟩) R s:=by
 have f:=λh=>N<|y.sub _ h;have q:∀b∈wr,b∈S::wr:=λb j=>List.mem_cons_of_mem _ j;intro k
 induction k with
 |zero=>
  intro i s hk hi m hS hR;have hin:i=n:=by omega
  subst hin;refine FO ao6 ?_;rw[NH N5 _];refine aI<|y.done s _ _ m λx u=>?_;rw[List.take_of_length_le<|by exact(lin [l.length,i] 19765704769) hl] at hS;exact bz<|hR x (u.mono q)<|hS.at λo e=>u.heap S _ f e
 |succ k ih=>
  intro i s hk hi m hS hR;have g:i<n:=by omega
  refine FO ao6 ?_;rw[NH N5 _];refine aI<|y.item i s _ _ g m λv x hP hst' u=>?_;obtain⟨c,t,hc,rfl⟩:=a i v hP;have hS':gA prog w x.heap S (eZ z<|l.take i):=hS.at λo e=>u.heap S _ f e;show aF _ A.in1 (wd [k7 (am c) t] (setAdd S<|.str (am c) t) >>= _) _ _ x;refine aI<|gq ?_;delta setAdd;refine gq ?_;have r:(bW prog w).is (am c) (.str (am c) t)=true:=bR rfl;refine aI<|(bW prog w).pyHash (k:=am c) r ?_;have H:=Ch (l.take i) z;have p:(eZ z<|l.take i).length+1<kY:=by rw[List.length_take] at H;omega
  refine wpAny_setAddHashed_of (knd:=bW prog w) (s:={ x with toks:=x.toks+1 }) r rfl hS' p λh' Q hS2=>?_;have ht:l.take (i+1)=l.take i++[c]:=by rw[List.take_add_one,hc];rfl
  have hSi:gA prog w h' S (eZ z<|l.take<|i+1):=by
   rw[ht,SH];refine Au hS2 (λk'=>?_) ?_
   .rw[<-Bool.decide_or,decide_eq_decide]
    constructor
    .rintro(⟨d,hd,e⟩|e)
     .exact⟨d,(Cg ..).mpr<|.inl hd,e⟩
     .exact⟨c,(Cg ..).mpr<|.inr rfl,e⟩
    .rintro⟨d,hd,e⟩;rcases(Cg ..).mp hd with hd|hd
     .exact .inl ⟨d,hd,e⟩
     .exact .inr (by rw[e,hd])
   .rw[Ir]
    by_cases u:c∈eZ z (l.take i)
    .rw[aw u,aw<|bR<|Iv.mpr u]
    .rw[aq u,aq<|by rw[decide_eq_true_eq,Iv];exact u]
  refine bz ⟨plainId_quiet N5 _,ih (i+1) _ (by omega) g (y.frame _ x _ _ hst' (Nat.le_succ _) λb j o e=>?_) hSi λs'' C Z=>?_⟩
  .rw[Q.2 b (λh:b=S=>N<|by rw[<-h];exact j)];exact e
  .refine hR s'' (Moved.trans y.gtrans ((u.mono q).then_heap (Nat.le_succ _) λb o j e=>?_) C) Z;rw[Q.2 b (λh:b=S=>j<|by rw[h];exact List.mem_cons_self)];exact e
abbrev lq(z:Bool):Obj:={ cls:=.type "set",dict:=none,data:=.set #[] 0 (.fresh 0 0 z) }
theorem SM(y:s.TypeIs v z)(u:rj (.type z) (.type "set")=pure false)(x:rj (.type z) (.type "frozenset")=pure false)(h:Q false s):aF (cw prog w) A (NK v) Q E s:=
 aI (tz y u<|tz y x h)
theorem Iw{id r:String}(f:s.TypeIs (.ref l) r)(a:rj (.type r) (.type "set")=pure false)(d:rj (.type r) (.type "frozenset")=pure false)(N:(ri r == ri "dict")=false)(k:∀Q:tY1,Q (.ref s.heap.objs.size) { s with heap:=s.heap.push y }->aF (cw prog w) A (pu (.ref l)) Q E s)(u:WalksS prog w A.in1 s.heap.objs.size fp wr G n P St)(j:S∉fp)(Z:x.length=n)(F:∀i v,P i v->∃(c:Nat)(t:Tok),x[i]?=some c/\v=k7 (am c) t)(b:z.length+n+1<kY)(m:St 0 { s with heap:=s.heap.push y })(C:gA prog w s.heap S z)(h:∀p,Moved (S::wr) G { s with heap:=s.heap.push y } p->gA prog w p.heap S (eZ z x)->Q () p):aF (cw prog w) A (N6 id S (.ref l)) Q E s:=by
 refine aI<|SM f a d ?_;refine aI<|wpAny_typeOf f<|pR (λq=>bg<|N.symm.trans q) ?_;refine aI<|k _<|aI<|ak2 ?_;exact SJ u S j Z F b (n - 0) 0 _ rfl (Nat.zero_le _) m (C.at λo e=>fZ _ e) λp H g=>bz<|h p H g
theorem SN{a l:bI}(hh:A.handled=none)(C:gA prog w s.heap a z)(hl:s.heap.get? l=some { cls:=.type "list",dict:=none,data:=.seq u m,slots:=#[] })(g:a≠l)(hy:y.length=u.size)(hv:∀(i:Nat)v,u[i]?=some v->∃(c:Nat)(t:Tok),y[i]?=some c/\v=k7 (am c) t)(f:z.length+u.size+1<kY)(h:∀Z tk,(∀b o,b≠a->s.heap.get? b=some o->Z.get? b=some o)->gA prog w Z a (eZ z y)->Q .none { s with heap:=Z,toks:=tk }):aF (cw prog w) A (gO (.builtin "set.update") [.ref a,.ref l]) Q E s:=by
 have d:=C.elim λo zz0=>zz0.elim λ_ zz1=>zz1.elim λ_ S=>S.elim λ_ H=>H.elim λx _=>d3 x;have j:=d3 hl;have p:s.heap.IsList l u:=⟨_,hl,rfl,m,rfl⟩;refine Aj ao7 (ao8 C) PySem.F.entry_set_update ?_ (PySem.F.args_set_update_2 _ _);show aF _ _ (forIn [Gf l] PUnit.unit (λo r=>N6 "set.update" a o >>= _) >>= _) _ _ s;rw[List.forIn_cons];refine aI (aI (aI ?_));refine Iw p.typeIs ao9 ap0 (by decide) (λQ=>FY p) ((N7 (A:=A.in1.in1) hh _ l (Nat.ne_of_lt j) u).toS) (λq=>(List.mem_cons.mp q).elim (Nat.ne_of_lt d) λq=>g (List.mem_singleton.mp q)) hy hv f ⟨⟨_,d8 _ rfl,rfl,rfl⟩,p.push _⟩ C λs' k N=>?_;refine Iq k.gens k.drawn k.os ?_;exact bz (bz (bz ⟨_,rfl,h _ _ (λb o f e=>k.heap b o (λq=>(List.mem_cons.mp q).elim f λq=>Nat.ne_of_lt (d3 e) (List.mem_singleton.mp q)) (fZ _ e)) N⟩))
theorem SQ:rj (.type "tuple") (.type "set")=pure false:=by rw[we];kernel_rfl
theorem SR:rj (.type "tuple") (.type "frozenset")=pure false:=by rw[we];kernel_rfl
set_option maxHeartbeats 3200000 in
theorem Ix(h:∀v s,y v s->z v s)(r:v9)(s:aU)(x:wants y E r s):wants z E r s:=by
 cases r with|error e=>exact x|ok f=>
  cases f with|ret v=>exact h v s x|_=>exact x
theorem SU{P:cm->Prop}(d:∀x:Bool,aF (cw prog w) A.in1.in1 (Builtin.«set.__init__» ⟨[.ref s.heap.objs.size,v],[]⟩) (λz j=>z=.done (.ret .none)/\∃u o,j = { s with heap:=u,toks:=o }/\P u) E { s with heap:=s.heap.push (lq x) })(h:∀u o,P u->Q (.ref s.heap.objs.size) { s with heap:=u,toks:=o }):aF (cw prog w) A (gO (.type "set") [v]) Q E s:=by
 obtain⟨c,a,k⟩:=Av.mro;have p:=Av.made;refine wm (codeAny_of_tree ?_);refine bz ⟨Code.quiet_builtin _ (by decide +kernel),FO PySem.F.entry_type_call ?_⟩;rw[dH.under_plain (weight_type_call_type "set" [v] []) rfl];refine aI (Al (PySem.F.typeCall_set_1 v) ?_);refine aI (Al k ?_);refine aI (Al p ?_);refine aI (m:=wd [.builtin "set.__new__"] (call (.builtin "set.__new__") [.type "set",v])) (gq (wm ?_));refine At (code_set_new_1 v (Q₁:=λl q=>∃x:Bool,l=.ref s.heap.objs.size/\q = { s with heap:=s.heap.push (lq x) }) λx=>⟨x,rfl,rfl⟩) (Ix λl q y=>?_);obtain⟨x,rfl,rfl⟩:=y;have i:aU.TypeIs { s with heap:=s.heap.push (lq x) } (.ref s.heap.objs.size) "set":=⟨_,d8 _ rfl,rfl⟩;refine aI (m:=isInstance _ (.type "set")) (tz i Av.sub ?_);refine aI (m:=wd _ (callSpecial? _ "__init__" [v] [])) (gq (NR i Av.init (wm ?_)));refine At (codeAny_call_builtin (R:=wants (λr t=>r=.none/\∃u o,t = { s with heap:=u,toks:=o }/\P u) E) Av.init.plain PySem.F.entry_set_init (check_set_init_1 i (il (d x) (λz j g=>?_) λe j h=>h))) (Ix λr t f=>?_)
 .obtain⟨rfl,h⟩:=g;exact⟨rfl,h⟩
 .obtain⟨rfl,u,o,rfl,b⟩:=f;exact bz<|h _ _ b
theorem SV(z:s.heap.get? S=some o)(y:o.cls=.type "set")(h:∀x,Q x s):aF (cw prog w) A (N8 200 (.ref S)) Q E s:=by
 have v:s.TypeIs (.ref S) "set":=⟨o,z,y⟩;delta N8
 wp_walk
 exact h _
theorem SW(y:s.heap.get? S=some (lq u))(h:aF (cw prog w) A (N6 "set.__init__" S v) (λ_ z=>Q (.done (.ret .none)) z) E s):aF (cw prog w) A (Builtin.«set.__init__» ⟨[.ref S,v],[]⟩) Q E s:=by
 refine aI (m:=N8 200<|.ref S)<|SV y rfl λx=>?_;refine aI (m:=setUsed S)<|aI<|N4 y rfl rfl<|bz ?_;exact aI<|il h (λ_ z h=>bz h) λ_ _ h=>h
theorem Iy{m:String}{l:bI}{St:bI->Nat->cm->Prop}(u:s.heap.get? l=some o)(hc:o.cls=.type m)(h1:rj (.type m) (.type "set")=pure false)(h2:rj (.type m) (.type "frozenset")=pure false)(h3:(ri m == ri "dict")=false)(N:∀(A:dH)(s:aU)(Q:tY1),s.heap.get? l=some o->Q (.ref s.heap.objs.size) { s with heap:=s.heap.push r }->aF (cw prog w) A (pu (.ref l)) Q E s)(p:∀I,l≠I->Walks prog w A.in1.in1.in1 I [I,l] [I] n P (St I))(Z:∀h:cm,h.get? l=some o->St h.objs.size 0 (h.push r))(hl:y.length=n)(hv:∀i v,P i v->∃(c:Nat)(t:Tok),y[i]?=some c/\v=k7 (am c) t)(hb:n+1<kY)(h:∀j S,(∀b o,s.heap.get? b=some o->j.get? b=some o)->gA prog w j s.heap.objs.size (eZ [] y)->Q (.ref s.heap.objs.size) { s with heap:=j,toks:=S }):aF (cw prog w) A (gO (.type "set") [.ref l]) Q E s:=by
 refine SU (P:=λj=>gA prog w j s.heap.objs.size (eZ [] y)/\∀b o,s.heap.get? b=some o->j.get? b=some o) (λk=>?_) λj S hP=>h j S hP.2 hP.1;have f:=d3 u;have hS:(s.heap.push<|lq k).get? s.heap.objs.size=some (lq k):=d8 _ rfl;have g:(s.heap.push<|lq k).get? l=some o:=fZ _ u;have F:(s.heap.push<|lq k).objs.size=s.heap.objs.size+1:=Gc ..;have H:gA prog w (s.heap.push<|lq k) s.heap.objs.size []:=Au ((ap1 k).setOf hS<|by delta kY;decide) (λz=>(cA λzy=>zy.elim λ_ zz0=>zz0.elim λx _=>nomatch x).symm) rfl;refine SW hS (Iw ⟨o,g,hc⟩ h1 h2 h3 (λQ=>N _ { s with heap:=s.heap.push (lq k) } Q g) (p _<|by rw[F];exact Nat.ne_of_lt<|Nat.lt_succ_of_lt f).toS (λq=>?_) hl hv (by rw[List.length_nil,Nat.zero_add];exact hb) (Z _ g) H λs' a C=>⟨rfl,s'.heap,s'.toks,Iq a.gens a.drawn a.os rfl,C,λb o e=>a.heap b o (λq=>?_)<|fZ _<|fZ _ e⟩)
 .rw[F] at q;exact(List.mem_cons.mp q).elim (Nat.ne_of_lt<|Nat.lt_succ_self _) λq=>Nat.ne_of_gt f<|List.mem_singleton.mp q
 .rw[F] at q;have d:=d3 e;exact(List.mem_cons.mp q).elim (Nat.ne_of_lt d) λq=>Nat.ne_of_lt (Nat.lt_succ_of_lt d)<|List.mem_singleton.mp q
theorem SY(j:A.handled=none)(p:s.heap.get? l=some { cls:=.type "list",dict:=none,data:=.seq y m,slots:=#[] })(k:z.length=y.size)(g:∀(i:Nat)v,y[i]?=some v->∃(c:Nat)(t:Tok),z[i]?=some c/\v=k7 (am c) t)(u:y.size+1<kY)(h:∀x r,(∀b o,s.heap.get? b=some o->x.get? b=some o)->gA prog w x s.heap.objs.size (eZ [] z)->Q (.ref s.heap.objs.size) { s with heap:=x,toks:=r }):aF (cw prog w) A (gO (.type "set") [.ref l]) Q E s:=
 Iy p rfl ao9 ap0 (by decide) (λ_ _ _ e=>FY ⟨_,e,rfl,m,rfl⟩) (λI q=>N7 (A:=A.in1.in1.in1) j I l q y) (λh e=>⟨⟨_,d8 _ rfl,rfl,rfl⟩,az9 ⟨_,e,rfl,m,rfl⟩ _⟩) k g u h
theorem SZ(j:A.handled=none)(p:s.heap.get? l=some { cls:=.type "tuple",dict:=none,data:=.seq y m,slots:=#[] })(k:z.length=y.size)(g:∀(i:Nat)v,y[i]?=some v->∃(c:Nat)(t:Tok),z[i]?=some c/\v=k7 (am c) t)(u:y.size+1<kY)(h:∀x r,(∀b o,s.heap.get? b=some o->x.get? b=some o)->gA prog w x s.heap.objs.size (eZ [] z)->Q (.ref s.heap.objs.size) { s with heap:=x,toks:=r }):aF (cw prog w) A (gO (.type "set") [.ref l]) Q E s:=
 Iy p rfl SQ SR (by decide) (λ_ _ _ e=>NU ⟨_,e,rfl,m,rfl⟩) (λI q=>Walks.tuple (A:=A.in1.in1.in1) j I l q y) (λh e=>⟨⟨_,d8 _ rfl,rfl,rfl⟩,⟨_,fZ _ e,rfl,m,rfl⟩⟩) k g u h
end
theorem setAt_some(h:Bn H i=some y):H.get i=some (.set y):=by
 refine ba h λo z h=>?_;cases o with
 |set x=>injection h with h;rw[z,h]
 |_=>cases h
theorem Iz(x y):∀w,w.Nodup->(y∈gT w x↔y∈w/\y≠x):=by
 intro r
 induction r with|nil=>intro _;simp[gT]|cons z w t=>
  intro h;obtain⟨p,s⟩:=List.nodup_cons.mp h;have e:gT (z::w) x=J (Nat.beq z x) w (z::gT w x):=rfl;rw[e];cases q:Nat.beq z x with
  |true=>
   have o:=Nat.eq_of_beq_eq_true q;clear t e q;subst o
   constructor
   .intro hy;exact⟨.tail _ hy,λe=>p<|e▸hy⟩
   .rintro⟨hy,v⟩;exact f_ hy (λe=>(aP e v)) λhy=>hy
  |false=>
   have v:=Nat.ne_of_beq_eq_false q;rw[List.mem_cons,t s,List.mem_cons]
   constructor
   .rintro(e|⟨hy,u⟩)
    .exact⟨.inl e,by rw[e];exact v⟩
    .exact⟨.inr hy,u⟩
   .rintro⟨e|hy,u⟩
    .exact .inl e
    .exact .inr ⟨hy,u⟩
theorem S_(x y):∀w,y∈gT w x->y∈w:=by
 intro u
 induction u with|nil=>intro h;cases h|cons z w v=>
  intro h;have e:gT (z::w) x=J (Nat.beq z x) w (z::gT w x):=rfl;rw[e] at h;cases q:Nat.beq z x with|true=>rw[q] at h;exact .tail _ h|false=>
   rw[q] at h;refine f_ h (λh=>?_) λh=>?_
   .rw[h];exact .head _
   .exact .tail _<|v h
theorem Ta x:∀y,y.Nodup->(gT y x).Nodup:=by
 intro t
 induction t with|nil=>intro _;exact .nil|cons z y u=>
  intro h;obtain⟨s,w⟩:=List.nodup_cons.mp h;have e:gT (z::y) x=J (Nat.beq z x) y (z::gT y x):=rfl;rw[e];cases q:Nat.beq z x with|true=>exact w|false=>exact List.nodup_cons.mpr ⟨λv=>s<|S_ x z y v,u w⟩
theorem IA x:∀y,x∈y->(gT y x).length=y.length - 1:=by
 intro v
 induction v with
 |nil=>intro h;exact nomatch h
 |cons z y w=>
  intro h;have e:gT (z::y) x=J (Nat.beq z x) y (z::gT y x):=rfl;rw[e];cases q:Nat.beq z x with|true=>rfl|false=>
   refine f_ h (λh=>?_) λh=>?_
   .rw[h] at q;rw[Nat.beq_refl] at q;cases q
   .show(gT y x).length+1=y.length+1 - 1;have:=w h;have:=List.length_pos_of_mem h;omega
theorem IB:∀{z:List Nat},z.Nodup->(z.map am).Nodup:=by
 intro s
 induction s with|nil=>intro _;exact .nil|cons x z v=>intro h;obtain⟨r,t⟩:=List.nodup_cons.mp h;rw[List.map_cons,List.nodup_cons];refine⟨λw=>?_,v t⟩;refine jL w λy u e=>?_;exact r<|iT e▸u
theorem Tb(m:gA prog w s.heap a z)(y:z.Nodup)(l:c∈z)(h:∀r,kZ a s.heap r->gA prog w r a (gT z c)->Q .none { s with heap:=r,toks:=s.toks+1 }):aF (cw prog w) A (gO (.builtin "set.remove") [.ref a,.str (am c) t]) Q E s:=by
 refine Aj ap2 (ao8 m) PySem.F.entry_set_remove ?_<|PySem.F.args_set_remove_2 _ _;show aF _ _ (tryCatch _ _ >>= _) _ _ s;refine aI<|wpAny_tryCatch ?_;have p:s.heap.SetOf (bW prog w) a (λx=>decide<|x∈z.map am) (z.map am).length:=by refine Au m (λk=>?_) (by rw[List.length_map]);rw[decide_eq_decide,List.mem_map];exact⟨λq=>q.elim λc u=>u.elim λh e=>⟨c,h,e.symm⟩,λq=>q.elim λc u=>u.elim λh e=>⟨c,h,e.symm⟩⟩
 have n:=IB y;refine SF (bR rfl) rfl p n (λk=>by rw[decide_eq_true_eq]) (List.mem_map.mpr ⟨c,l,rfl⟩) λr v o=>?_;refine bz ⟨_,rfl,h r v (Au o (λk=>?_)<|by rw[List.length_map,IA c z l])⟩;rw[<-Bool.decide_and,decide_eq_decide,List.mem_map]
 constructor
 .rintro⟨⟨d,hd,e⟩,g⟩;refine⟨d,(Iz c d z y).mpr ⟨hd,λe2=>g<|by rw[e.symm,e2]⟩,e.symm⟩
 .rintro⟨d,hd,e⟩;obtain⟨i,j⟩:=(Iz c d z y).mp hd;exact⟨⟨d,i,e.symm⟩,λe2=>j<|iT<|e.symm.trans e2⟩
theorem Tc:gz X "remove" 3 t0:=by
 refine⟨"set.remove",ap2,ap3,PySem.F.type_set_remove,?_⟩;intro e n z o u H k g ρ fs ls s A Q E vo r q S P l PV;cases o with
 |ref i=>
  refine bw z (g) λx j h1=>?_;refine pY z h1 l λa v N R=>?_;refine uj z R N λc t h3=>?_;refine eY z h3 λd C=>?_;rw[dh] at d;have Z:=br d;obtain⟨y,f,rfl⟩:=P;obtain⟨y',m,b,p,hl⟩:=S.cell i _<|setAt_some j;have ey:y'=y:=by rw[f] at m;exact(Option.some.inj m).symm
  rw[ey] at b;refine Tb b p Z λh' w h=>?_;exact PV ρ (H.set i<|.set<|gT x c) _ .none .none (.refl _) (S.updS (by first|assumption|exact gX (by assumption)|exact setAt_some (by assumption)|exact gy (by assumption)|exact(by rw[AH.get_new,aw rfl])) f w ⟨h,Ta c x p,by rw[IA c x Z];omega⟩) rfl C
 |_=>exact aP g z.stop
theorem Td:gz X "update" 3 w_:=by
 refine⟨"set.update",ao7,ap3,PySem.F.type_set_update,?_⟩;intro e n x o p H k hh ρ fs ls s A Q E vo m q S ro P PV;cases o with
 |ref i=>
  refine bw x (hh) λw N h1=>?_;refine pY x h1 P λa v ra h2=>?_;refine bw x h2 λg hys h3=>?_;refine bw x h3 λl hl h4=>?_;refine gV x h4 λb h5=>?_;refine gV x h5 λf h6=>?_;refine ee x h6 λhd h7=>?_;obtain⟨j,ej,hj⟩:=jS hys;rw[ej] at ra;obtain⟨y,hy,rfl⟩:=ro;obtain⟨z,hz,rfl⟩:=ra;obtain⟨y',d,hS,hnd,hlx⟩:=S.cell i _<|setAt_some N;obtain⟨z',Z,us,⟨m2,C⟩,r,_⟩:=S.cell j _ hj;have ey:y'=y:=by rw[hy] at d;exact(Option.some.inj d).symm
  have ez:z'=z:=by rw[hz] at Z;exact(Option.some.inj Z).symm
  rw[ey] at hS;rw[ez] at C;obtain⟨q1,q2⟩:=xE hl r;have R:y≠z:=λe=>by
   obtain⟨o,es,ep,t,u,c,_⟩:=ll.of hS;rw[e,C] at u;injection u with u
   rw[u.symm] at c;have Y:=c.1;simp at Y
  rw[It] at h7;have hfl:=Ch l w;refine SN (q.2.2.1 hd) hS C R (by exact(lin [l.length,us.length] 19799259201) q1) (λi v h=>q2 i v<|List.getElem?_toArray.symm.trans<|h) (by exact(lin [w.length,l.length,us.length] 0x2529300020009500a1430b86268000fa12268000fa121) b f q1) λh' tk hk hS'=>?_;exact PV ρ (H.set i<|.set<|eZ w l) _ .none .none (.refl _) (S.upd (by first|assumption|exact gX (by assumption)|exact setAt_some (by assumption)|exact gy (by assumption)|exact(by rw[AH.get_new,aw rfl])) hy hk ⟨hS',Iu l w hnd,(lin [w.length,l.length,us.length,(eZ w l).length] 0x94a5268002ee1246a8412386268000fa12268000fa121) b f q1 hfl⟩) rfl h7
 |_=>exact aP hh x.stop
theorem Te(h:GK H v=some y):∃o,jc H v=some o/\(o=.list y\/o=.tup y):=by
 refine ba h λo z h=>?_;cases o with
 |list x=>injection h with h;exact⟨_,z,.inl<|by rw[h]⟩
 |tup x=>injection h with h;exact⟨_,z,.inr<|by rw[h]⟩
 |_=>cases h
theorem Tf(b:X.Ok):iW X .set:=by
 intro e n x q H k P ρ fs ls s A Q E N j S R PV;have PX:=St.put_ext (a:=s.heap.objs.size)<|S.top _<|Nat.le_refl _
 match q,N,P,R with
 | [],[],P,_=>have C:=P;refine call_set_0 λled=>?_;refine PV _ _ _ (.ref H.n) _ PX (S.new1 (o:=.set []) ⟨?_,.nil,Nat.zero_le _⟩) ⟨_,St.put_self ..,rfl⟩ C;exact Au ((ap1 led).setOf (d8 _ rfl)<|by decide) (λz=>.refl _) rfl
 | [v],[v'],P,R=>
  have C:=P;refine bw x C λf hxs h2=>?_;refine ee x h2 λhd h3=>?_;refine bw x (h3) λl hl h4=>?_;refine gV x h4 λZ h5=>?_;rw[It] at h5;have hfl:=Ch l [];obtain⟨o,p,hor⟩:=Te hxs;obtain⟨y,rfl,hy,ra⟩:=rV b S p R.1;have w:=λh' tk hk hS=>
   PV _ _ _ (.ref H.n) _ PX (S.newAt (h':=h') (tk:=tk) (d:=s.drawn) (o:=.set<|eZ [] l) hk (Nat.le_refl _) ⟨hS,Iu l [] .nil,(lin [l.length,(eZ [] l).length] 0x4a4d0005dc244d504010268000fa121) Z hfl⟩) ⟨_,St.put_self ..,rfl⟩ h5
  clear p;rcases hor with rfl|rfl
  .obtain⟨u,⟨m,g⟩,t,_⟩:=ra;obtain⟨F,q2⟩:=xE hl t;exact SY (j.2.2.1 hd) g (by exact(lin [l.length,u.length] 19799259201) F) (λi v h=>q2 i v<|List.getElem?_toArray.symm.trans h) (by exact(lin [l.length,u.length] 0x4a4c0008002540281384168000fa121) Z F) w
  .obtain⟨u,⟨m,g⟩,t,_⟩:=ra;obtain⟨F,q2⟩:=xE hl t;exact SZ (j.2.2.1 hd) g (by exact(lin [l.length,u.length] 19799259201) F) (λi v h=>q2 i v<|List.getElem?_toArray.symm.trans h) (by exact(lin [l.length,u.length] 0x4a4c0008002540281384168000fa121) Z F) w
 |v::c::r,_,P,_=>refine ee x (P) λz C=>?_;exact aP C x.stop
 | [],_::_,_,R=>exact R.elim
 | [_],[],_,R=>exact R.elim
 | [_],_::_::_,_,R=>exact R.2.elim
theorem ID(a b):k_ a b=decide (a<b):=by
 cases a with
 |ofNat m=>cases b with|ofNat n=>rw[Bool.eq_iff_iff,decide_eq_true_eq,Nat.blt_eq];exact(Int.ofNat_lt).symm|negSucc n=>show false=_;rw[eq_comm,decide_eq_false_iff_not];show¬((m:Int)<Int.negSucc n);omega
 |negSucc m=>cases b with|ofNat n=>rw[eq_comm,decide_eq_true_eq];show Int.negSucc m<(n:Int);omega|negSucc n=>rw[Bool.eq_iff_iff,decide_eq_true_eq,Nat.blt_eq];omega
theorem IE(x y)r:tU x (y::r)=J (k_ x y) (x::y::r) (y::tU x r):=rfl
theorem IF x:∀l,(tU x l).Perm (x::l):=by
 intro w
 induction w with|nil=>exact .refl _|cons y r z=>
  rw[IE];cases k_ x y with|true=>exact .refl _|false=>exact((z).cons y).trans (.swap x y r)
theorem Tg x:∀l,l.Pairwise (·<=·)->(tU x l).Pairwise (·<=·):=by
 intro s
 induction s with|nil=>intro _;exact List.pairwise_singleton _ _|cons y r v=>
  intro h;obtain⟨u,t⟩:=List.pairwise_cons.mp h;rw[IE];cases q:k_ x y with
  |true=>
   rw[ID,decide_eq_true_eq] at q;refine List.pairwise_cons.mpr ⟨λz w=>?_,h⟩;clear h;refine bk w ?_ λw=>?_
   .omega
   .have:=u z w;omega
  |false=>
   rw[ID,decide_eq_false_iff_not] at q;refine List.pairwise_cons.mpr ⟨λz w=>?_,v t⟩;clear v;refine bk (((IF x r).mem_iff.mp w)) ?_ λw=>?_
   .omega
   .exact u z w
theorem IG:∀l,(rM l).Perm l:=by
 intro y
 induction y with|nil=>exact .refl _|cons x l z=>exact(IF x<|rM l).trans ((z).cons x)
theorem Th:∀l,(rM l).Pairwise (·<=·):=by
 intro y
 induction y with|nil=>exact .nil|cons x l z=>exact Tg x _<|z
theorem Ti:∀{a b:List Int},a.Perm b->a.Pairwise (·<=·)->b.Pairwise (·<=·)->a=b:=by
 intro s
 induction s with|nil=>intro b p _ _;exact(List.nil_perm.mp p).symm|cons x a t=>
  intro v;cases v with
  |nil=>intro p _ _;exact aP p.length_eq<|Nat.succ_ne_zero _
  |cons y b=>
   intro p r z;obtain⟨f1,u⟩:=List.pairwise_cons.mp r;obtain⟨f2,w⟩:=List.pairwise_cons.mp z;have e1:x<=y:=by
    refine f_ ((p.mem_iff.mpr<|.head _)) (λe=>?_) λh=>?_
    .omega
    .exact f1 y h
   have e2:y<=x:=by
    refine f_ ((p.mem_iff.mp<|.head _)) (λe=>?_) λh=>?_
    .omega
    .exact f2 x h
   have e:x=y:=by omega
   clear z f2 e1 e2;subst e;rw[t (List.Perm.cons_inv p) u w]
theorem IH:∀{y:tY0}{l:List Int}{z:List au},nP y=some l->aD (aE o m) y z->Aw z l:=by
 intro q
 induction q with
 |nil=>
  intro l s;cases s with|cons _ _=>intro _ w;exact w.elim|nil=>intro h _;injection h with h;subst h;exact .nil
 |cons x y r=>
  intro l p;cases p with|nil=>intro _ w;exact w.elim|cons v z=>
   intro h w;cases x with
   |int c=>
    refine ba (h) λn u e=>?_;injection e with e
    clear h;subst e;obtain⟨t,e⟩:=w.1;subst e;exact .cons c t<|r u w.2
   |_=>cases h
theorem Ci:∀{z:List au}{l:List Int},Aw z l->aD (aE y x) (l.map AV.int) z
 |_,_,.nil=>trivial
 |_,_,.cons n t h=>⟨⟨t,rfl⟩,Ci h⟩
theorem Tj(j:X.Ok):iW X .sorted:=by
 refine pX (λe n x v H k hh ρ fs ls s A Q E v' m S P PV=>?_) (λe n x H k h=>x.stop h) λe n x v c H k h=>x.stop h;refine bw x (hh) λp Z h1=>?_;refine bw x (h1) λl hl h2=>?_;refine eY x h2 λb F=>?_;rw[fL] at b;have f:=Nat.le_of_ble_eq_true b;obtain⟨i,ei,hi⟩:=jS Z;rw[ei] at P;obtain⟨y,hy,rfl⟩:=P;obtain⟨y',d,t,L,r,z⟩:=S.cell i _ hi;have ey:y'=y:=by rw[hy] at d;exact(Option.some.inj d).symm
 rw[ey] at L;have N:=IH hl r;have e1:=ap4 N;have PX:=St.put_ext (a:=s.heap.objs.size+1)<|S.top _<|Nat.le_refl _;rw[BC] at F;refine sorted_ints L.isList N ((lin [l.length,t.length] 0x4a4c40409c11310101) f e1) λw ns' a1 C R=>?_;obtain⟨c,hc⟩:=sortedAll_at s.heap t w;have q:=Ti (C.trans (IG l).symm) R<|Th l;clear C R;subst q;have e2:=(IG l).length_eq;exact PV _ _ _ (.ref H.n) _ PX (S.newAt (o:=.list<|(rM l).map AV.int) (λu u g=>sortedAll_old g) (Nat.le_succ _)
  ⟨w.toList,⟨c,by rw[wh];exact hc⟩,Ci a1,by rw[List.length_map];exact(lin [l.length,t.length,(rM l).length] 0x94a4d0009c4246e08dc11310101) f e1 e2⟩) ⟨_,St.put_self ..,rfl⟩ F
theorem Tk:∀l a,@List.rec Int (λz=>Int->Int) (λa=>a) (λx z y a=>y (Int.add a x)) l a=a+l.sum:=by
 intro w
 induction w with|nil=>intro a;exact(Int.add_zero a).symm|cons x l y=>intro a;rw[y<|Int.add a x,List.sum_cons];exact Int.add_assoc a x l.sum
theorem II(l:List Int):∀n,n<=l.length->preSum (λi=>l.getD i 0) n=(l.take n).sum
 |0,_=>rfl
 |n+1,h=>by show preSum (λi=>l.getD i 0) n+l.getD n 0=_;rw[II l n (by omega),List.take_add_one,List.getElem?_eq_getElem (by omega),List.sum_append];rw[List.getD_eq_getElem?_getD,List.getElem?_eq_getElem<|by omega];exact aT _ (Int.add_zero _).symm
theorem Tl(p:X.Ok):iW X .sum:=by
 refine pX (λe n x v H k hh F fs ls s A Q E v' t S P PV=>?_) (λe n x H k h=>x.stop h) λe n x v c H k h=>x.stop h;refine bw x (hh) λr a h1=>?_;refine bw x (h1) λl hl h2=>?_;refine ee x h2 λhd h3=>?_;obtain⟨i,ei,hi⟩:=jS a;rw[ei] at P;obtain⟨y,hy,rfl⟩:=P;obtain⟨y',j,w,L,u,z⟩:=S.cell i _ hi;have ey:y'=y:=by rw[hy] at j;exact(Option.some.inj j).symm
 rw[ey] at L;have N:=IH hl u;have e1:=ap4 N;have m:y<s.heap.objs.size:=L.isList.elim λ_ R=>R.elim λg _=>d3 g;refine call_sum_walkAnyS<|FY L.isList ?_;refine⟨_,_,_,_,_,_,_,λi=>l.getD i 0,rfl,(N7 (A:=A.in1) (t.2.2.1 hd) s.heap.objs.size y (Nat.ne_of_lt m) w.toArray).toS,⟨⟨_,d8 _ rfl,rfl,rfl⟩,L.isList.push _⟩,?_,?_,?_⟩
 .intro b hb;rw[Gc];rcases List.mem_cons.mp hb with hb|hb
  .rw[hb];exact Nat.lt_succ_self _
  .rw[List.mem_singleton.mp hb];exact Nat.lt_succ_of_lt m
 .intro i v hv;exact Aw.int_at N i v<|List.getElem?_toArray.symm.trans hv
 .intro C t' f;obtain⟨h',g',d',Z,d⟩:=C;have eg:g'=s.gens:=f.gens;have ed:d'=s.drawn:=f.drawn;have eo:d=s.os:=f.os;subst eg;subst ed;subst eo;have S2:X.St F H ls ⟨h',s.gens,s.drawn,Z,s.os⟩:=S.keeps λb o g=>f.heap b o (λq=>Nat.ne_of_lt (d3 g)<|List.mem_singleton.mp q)<|fZ _ g;refine PV F H _ (.int<|mD l) _ (.refl _) S2 ⟨t',?_⟩ h3;have e2:preSum (λi=>l.getD i 0) w.toArray.size=mD l:=by rw[II l _ (by exact(lin [w.length,l.length] 19765704769) e1),List.take_of_length_le<|by exact(lin [w.length,l.length] 19764688961) e1];have Y:=Tk l 0;delta mD;rw[Y];omega
  rw[e2]
theorem Tm(h:b=.enum\/b=.rev\/b=.tyStr\/b=.tyBool\/b=.tyDict):iW X b:=by
 rcases h with rfl|rfl|rfl|rfl|rfl<;>exact pX (λe n z v H k y=>aP y z.stop) (λe n z H k h=>z.stop h) λe n z v c H k h=>z.stop h
theorem Tn(y:X.Ok)(z:ef X):∀b,iW X b:=by
 intro b;cases b
 case len=>exact RQ y
 case isinst=>exact RW y z
 case lst=>exact R9 y
 case tup=>exact RU
 case set=>exact Tf y
 case sorted=>exact Tj y
 case sum=>exact Tl y
 case range=>exact RT
 all_goals exact Tm (by simp)
theorem To(y c)l i:tX (y::l) c i=J (Nat.beq y c) (some i) (tX l c (Nat.succ i)):=rfl
theorem Tp{z:List au}{l:List Nat}{dn:Nat->Tok->b}(Z:l.length=z.length)(R:∀(i:Nat)(v:au),z[i]?=some v->∃(c:Nat)(t:Tok),l[i]?=some c/\v=k7 (am c) t)(a:∀i t,z[i]?=some (.str (am c) t)->∀Q,(∀u p,Q (.done (dn i u)) { s with toks:=p })->aF M A (f i g) Q E s)(S:∀i d t,d≠c->z[i]?=some (.str (am d) t)->∀(Q:ForInStep b->aU->Prop),Q (.yield g) s->aF M A (f i g) Q E s):∀(k i),i+k=z.length->tX (l.drop i) c i=some r->∀(Q:b->aU->Prop),(∀u p,Q (dn r u) { s with toks:=p })->aF M A (forIn (List.range' i k) g f) Q E s:=by
 intro k
 induction k with
 |zero=>intro i n x Q h;rw[List.drop_of_length_le<|by exact(lin [l.length,z.length,i] 0x129346170940081b841) Z n] at x;cases x
 |succ k P=>
  intro i n x Q h;rw[List.range'_succ,List.forIn_cons];have o:i<z.length:=(lin [i,k,z.length] 0x49830b86a500a041) n;obtain⟨d,t,hd,j⟩:=R i z[i] (List.getElem?_eq_getElem o);have y:z[i]?=some (.str (am d) t):=by rw[List.getElem?_eq_getElem o,j]
  have w:l.drop i=d::l.drop (i+1):=by obtain⟨m,e⟩:=List.getElem?_eq_some_iff.mp hd;rw[List.drop_eq_getElem_cons m,e]
  rw[w,To] at x
  by_cases q:d=c
  .rw[q,Nat.beq_refl] at x;injection x with x
   rw[q] at y;refine aI<|a i t y _ λu p=>?_;rw[x];exact bz<|h u p
  .have Y:Nat.beq d c=false:=by cases hq:Nat.beq d c with|false=>rfl|true=>exact aP (Nat.eq_of_beq_eq_true hq) q
   rw[Y] at x;refine aI<|S i d t q y _ ?_;exact P (i+1) ((lin [i,k,z.length] 0x49c350940280b86a500a041) n) x Q h
theorem Tq{z:List au}{l:List Nat}{c i:Nat}{Q:tY1}(q:xk s.heap a z.toArray)(m:l.length=z.length)(f:∀(i:Nat)(v:au),z[i]?=some v->∃(c:Nat)(t:Tok),l[i]?=some c/\v=k7 (am c) t)(k:tX l c 0=some i)(h:∀y u,Q (.int i y) { s with toks:=u }):aF (cw prog w) A (gO (.builtin "tuple.index") [.ref a,.str (am c) t]) Q E s:=by
 refine Aj ap5 q.isTup.typeIs PySem.F.entry_tuple_index ?_<|PySem.F.args_tuple_index_2 _ _;have e:=q.isTup;delta Builtin.«tuple.index»;obtain⟨n,o⟩:=q;refine aI<|bz ?_;refine aI<|wpAny_tupleItemsOf o rfl ?_;refine iw ?_;refine iw ?_;show aF _ _ (forIn (⟨0,_,1,_⟩:aA0) _ _ >>= _) _ _ _;rewrite[aA1];show aF _ _ (forIn (List.range' 0 ((min z.toArray.size z.toArray.size - 0+1 - 1) / 1) 1) _ _ >>= _) _ _ _;rw[show(min z.toArray.size z.toArray.size - 0+1 - 1) / 1=z.length by simp];refine aI (Tp (dn:=λi y=>(some<|Fin.done<|.ret<|.int (i:Int) y,())) m f ?_ ?_ z.length 0 (lin [z.length] 3769114632) (by rw[List.drop_zero];exact k) _ ?_)
 .intro j y p g r;rw[List.getElem?_toArray,p];refine aI<|(bW prog w).eqBool (bR rfl) (bR rfl) ?_;rw[bR rfl];exact aI<|aI<|wpAny_mkInt<|bz<|bz<|r _ _
 .intro j d y x p g r;rw[List.getElem?_toArray,p];refine aI<|(bW prog w).eqBool (bR rfl) (bR rfl) ?_;rw[cA<|mF x];exact bz r
 .intro y u;exact bz ⟨_,rfl,h y u⟩
theorem Ts(j:X.Ok):gz X "index" 1 Bm:=by
 refine⟨"tuple.index",ap5,PySem.F.plainAttrs_tuple,PySem.F.type_tuple_index,?_⟩;intro e n x o u H k hh ρ fs ls s A Q E vo r m S N d PV;refine bw x (hh) λq g R=>?_;refine pY x R d λa v C Z=>?_;refine uj x Z C λc t P=>?_;refine bw x P λl hl h4=>?_;refine bw x h4 λi hi h5=>?_;refine ba g λob b f=>?_;cases ob with
 |tup p=>
  injection f with f
  clear g R Z P;subst f;obtain⟨y,rfl,hy,us,h,w,z⟩:=rV j S b N;obtain⟨q1,q2⟩:=xE hl w;exact Tq h q1 q2 hi λt' tk=>PV ρ H _ (.int<|.ofNat i) _ (.refl _) (S.toks _) ⟨t',rfl⟩ h5
 |_=>cases f
def r_(y:bu)(x:de)(p:Nat×AV)(z:au×au):Prop:=(∃t,z.1=.str (am p.1) t)/\aE y x p.2 z.2
theorem r_.ext(x:bU u v)(h:aD (r_ u t) es w):aD (r_ v t) es w:=h.mono λz z y=>⟨y.1,y.2.ext x⟩
def SD(X:Fx)(j:bJ)(v:List (Option aS))(w:List aS)(p:XK X.R):Prop:=v.all (·.isSome)=true/\v.length=w.length/\
 ∀(e:EV X.R)n,bD X e n->∀x,cU j x->∀f H k o,X.holds (p e f H k o)->∀t m r s A Q E,cC A (x.frame,x.locals::df r) n e.hd->X.St t H ((x.locals,.ns m)::r) s->dg X t f x m->
 (∀u l q es y,bU t u->X.St u l ((x.locals,.ns m)::r) q->aD (r_ u X.σ) es y->(es.map (·.1)).Nodup->X.holds (k es l)->Q y q)->fy X o ((x.locals,.ns m)::r) A t E->∀z,aF X.M A (evalPairs<|pairTrees v w x z) Q E s
theorem Tt:SD X y [] [] aC:=⟨rfl,rfl,by
 intros;intro z
 exact pairTrees_nil_walk<|K _ _ _ [] [] (.refl _) S trivial .nil Z⟩
theorem Tu:∀{l:List (Nat×x)},ae l c=none->c∉l.map (·.1):=by
 intro y
 induction y with|nil=>intro _;exact List.not_mem_nil|cons p l z=>
  intro h;rw[b3] at h
  by_cases e:p.1=c
  .rw[aw e] at h;cases h
  .rw[aq e] at h;rw[List.map_cons,List.mem_cons];exact λq=>q.elim (λq=>e q.symm)<|z h
theorem Tv(j:SE X sc x p)(hy:SE X sc y q)(C:SD X sc o l r):SD X sc (some x::o) (y::l) (t4 p q r):=by
 refine⟨?_,by simp[C.2.1],?_⟩
 .have:=C.1
  simpa using this
 intros;intro z
 refine pairTrees_cons_walk<|j e n G W Y f H _ M Z R m I s A _ E V S F (λN H1 s1 a v g h w h1=>?_) B;refine hy e n G W Y f H1 _ M h1 N m I s1 A _ E V h (F.ext g) (λP H2 s2 b u x2 S2 r2 h2=>?_)<|B.ext g;obtain⟨c,t,ec,ev,h3⟩:=R_ G h2 w;refine C.2.2 e n G W Y f H2 _ M h3 P m I s2 A _ E V S2 (F.ext<|g.trans x2) (λρ3 H3 s3 es ws x3 i r3 hn d=>?_) (B.ext<|g.trans x2) z;cases hl:ae es c with|some _=>rw[hl] at d;exact aP d G.stop|none=>rw[hl] at d;refine K _ _ _ ((c,b)::es) ((v,u)::ws) (g.trans<|x2.trans x3) i ⟨⟨⟨t,ev⟩,r2.ext x3⟩,r3⟩ ?_ d;rw[List.map_cons,List.nodup_cons];exact⟨Tu hl,hn⟩
def pZ:List (au×au)->List (Str×au)
 |(.str x _,v)::r=>(x,v)::pZ r
 |_=>[]
theorem IJ:∀{es:iJ}{z:List (au×au)},aD (r_ r m) es z->Carries (bW prog w) z (pZ z)/\aD (fx r m) es (pZ z)/\(pZ z).map (·.1)=(es.map (·.1)).map am:=by
 intro q
 induction q with
 |nil=>
  intro u;cases u with|nil=>intro _;exact⟨trivial,trivial,rfl⟩|cons _ _=>intro h;exact h.elim
 |cons p es s=>
  intro o;cases o with|nil=>intro h;exact h.elim|cons x z=>
   intro h;obtain⟨⟨⟨t,e⟩,y⟩,n⟩:=h;obtain⟨l,c2,c3⟩:=s n;obtain⟨k,v⟩:=x
   dsimp only at e y
   subst e;exact⟨⟨bR rfl,rfl,l⟩,⟨⟨rfl,y⟩,c2⟩,by show am p.1::_=_;rw[c3];rfl⟩
theorem Tw:∀{z y:List (Str×au)},(z.map (·.1)).Nodup->(∀k∈z.map (·.1),k∉y.map (·.1))->ap6 y z=y++z:=by
 intro t
 induction t with|nil=>intro y _ _;exact(List.append_nil _).symm|cons p z u=>
  intro y x hd;rw[List.map_cons,List.nodup_cons] at x;have s:N9 y p.1 p.2=y++[p]:=by delta N9;rw[aq];rw[Bool.not_eq_true,List.any_eq_false];intro q v e;rw[decide_eq_true_eq] at e;exact hd p.1 (.head _)<|List.mem_map.mpr ⟨q,v,e⟩
  show ap6 (N9 y p.1 p.2) z=_;rw[s,u x.2 λk w hm=>?_,List.append_assoc]
  .rfl
  .rw[List.map_append,List.mem_append] at hm;rcases hm with hm|hm
   .exact hd k (.tail _ w) hm
   .have hm:k=p.1:=List.mem_singleton.mp hm;exact x.1<|hm▸w
theorem IK(h:cm):(h.push { cls:=.type "dict",data:=.dict #[] }).DictOf (bW prog w) h.objs.size []:=
 ⟨_,#[],0,d8 _ rfl,⟨rfl,rfl,rfl⟩,rfl,λe z=>(Array.not_mem_empty _ z).elim,.nil,.nil⟩
theorem Tx(hr:SD X sc c P r)(h0:c≠[])(hl15:c.length<=15):SE X sc (.Dict c P q) (gj r):=by
 intros
 have PX:=St.put_ext (a:=s.heap.objs.size)<|S.top _<|Nat.le_refl _;have D0:=IK (prog:=X.prog) (w:=X.w) s.heap;have j:=S.new1 (o:=.dict []) ⟨[],D0,trivial,Nat.zero_le _⟩;have hh2:=Z;have go:∀g H' N es y,bU (St.put R H.n s.heap.objs.size) g->X.St g H' ((W.locals,.ns m)::I) N->aD (r_ g X.σ) es y->(es.map (·.1)).Nodup->X.holds (GU e H.n k es H')->
   N.heap.DictOf (bW X.prog X.w) s.heap.objs.size []/\∀C tk,C.DictOf (bW X.prog X.w) s.heap.objs.size (pZ y)->kZ s.heap.objs.size N.heap C->Q (.ref s.heap.objs.size) { N with heap:=C,toks:=tk }:=by
  intro g H' N es y x1 v x hn h1;refine bw G (h1) λo i h2=>?_;refine ee G h2 λhn0 h3=>?_;refine eY G h3 λh15 h4=>?_;have h15':=Nat.le_of_ble_eq_true h15;rw[fL] at h15';have ha:=x1 _ _<|St.put_self ..;obtain⟨b,hb,kvs,h,l,z⟩:=v.cell H.n _<|gy i;have eb:b=s.heap.objs.size:=by rw[ha] at hb;exact(Option.some.inj hb).symm
  rw[eb] at h;have ek:kvs=[]:=by
   cases o with|cons _ _=>cases hn0|nil=>cases kvs with|nil=>rfl|cons _ _=>exact l.elim
  rw[ek] at h;refine⟨h,λC tk D' p=>?_⟩;obtain⟨_,c2,_⟩:=IJ (prog:=X.prog) (w:=X.w) x;exact K _ _ _ (.ref H.n) _ (PX.trans x1) (v.updS (h':=C) (o:=.dict es) (tk:=tk) (d:=N.drawn) (by first|assumption|exact gX (by assumption)|exact setAt_some (by assumption)|exact gy (by assumption)|exact(by rw[AH.get_new,aw rfl])) ha p ⟨pZ y,D',c2,(lin [es.length] 0x93400271090b43d01) h15'⟩) ⟨_,ha,rfl⟩ h4
 have t:=hr.2.2 e n G W Y f _ _ M hh2 (St.put R H.n s.heap.objs.size) m I { s with heap:=s.heap.push { cls:=.type "dict",data:=.dict #[] } } A;refine wpAny_Dict_walk (knd:=bW X.prog X.w) hr.1 hr.2.1 h0 hl15 ?_;refine t _ E V j (F.ext PX) (λg H' N es y x1 v x hn h1=>?_) (B.ext PX) q;obtain⟨h,u⟩:=go g H' N es y x1 v x hn h1;obtain⟨c1,c2,c3⟩:=IJ (prog:=X.prog) (w:=X.w) x;refine⟨pZ y,c1,h,λC D' p=>u C _ ?_ p⟩;rw[Tw (by rw[c3];exact IB hn) (λk _ hk=>List.not_mem_nil hk),List.nil_append] at D';exact D'
theorem Ty:SE X i (.Dict [] [] z) (gj aC):=by
 intros
 have j:=St.put_ext (a:=s.heap.objs.size)<|S.top _<|Nat.le_refl _;have v:=IK (prog:=X.prog) (w:=X.w) s.heap;have y:=S.new1 (o:=.dict []) ⟨[],v,trivial,Nat.zero_le _⟩;have p:=Z;refine bw G (p) λo x u=>?_;refine ee G u λq l=>?_;refine eY G l λr t=>?_;refine wpAny_Dict_empty ?_;exact K _ _ _ (.ref H.n) _ j (y.updS (o:=.dict []) (by first|assumption|exact gX (by assumption)|exact setAt_some (by assumption)|exact gy (by assumption)|exact(by rw[AH.get_new,aw rfl])) (St.put_self ..) (aA2 ..) ⟨[],v,trivial,Nat.zero_le _⟩) ⟨_,St.put_self ..,rfl⟩ t
def xF(z:bI)(i:Int)(y:au):Obj:={ cls:=.type "enumerate",dict:=none,data:=.fields #[.none,.bool false,.ref z,iH i,.none,y],slots:=#[] }
theorem Tz(h:gx H v=some z)(u:mC H v=some x):∃j,v=.ref j/\H.get j=some (.list z)/\x=.lst j:=by
 obtain⟨j,rfl,w⟩:=jS h;refine⟨j,rfl,w,?_⟩;have y:ad (H.get j) none (rN (.ref j) j)=some x:=u;rw[w] at y;injection y with e
 exact e.symm
theorem TA I(x:∀n s(p:tY1)(o:Option au->aU->Prop),I n s->(∀u,R (.ok .next) u->o none u)->(∀v u,aF X.M A (l_ y w v) (λz q=>aF X.M A (l8 y r v) (λz t=>aF X.M A (pt body r) (xw I R n) p t) p q) p u->o (some v) u)->aF X.M A (nF w) o p s)n(h:I n s):f0 X.M A (.forLoop y w body [] r) R s:=
 am5 I (λn s l=>x n s _ _ l (λz h=>tA h) λz z h=>il h (λz z h=>il h (λz z h=>il h (λf z h=>by cases f<;>exact h) λz z h=>h) λz z h=>h) λz z h=>h) n h
section
variable {ρ:bu}{H:AH}{ls:Lo}{s:aU}{L E I:bI}{m:Str->Option au}{oE oI:Obj}
theorem St.rot3(S:X.St ρ H (a::b::c::ls) s):X.St ρ H (c::a::b::ls) s:=St.perm S ((List.Perm.swap ..).trans (.cons _ (.swap ..)))
theorem TB(S:X.St ρ H ((L,.ns m)::(E,.ob oE)::(I,.ob oI)::ls) s)(x:∀b o,b≠I->s.heap.get? b=some o->h.get? b=some o):X.St ρ H ((L,.ns m)::ls) { s with heap:=h }:=by
 have y:=List.nodup_cons.mp S.apart;have w:=List.nodup_cons.mp y.2;have v:=List.nodup_cons.mp w.2;refine S.locs [I] (λb h=>by rw[List.mem_singleton.mp h];exact mT2<|.head _) (λb o h=>x b o λq=>h<|by rw[q];exact .head _) (λp z=>?_) S.same.same.apart;refine bk z ?_ λz=>?_
 .exact⟨(S.loc _<|.head _).1.keeps λo g=>x _ o (λq=>y.1<|List.mem_cons.mpr<|.inr<|List.mem_cons.mpr<|.inl q) g,.head _⟩
 .exact⟨(S.loc p<|mT2<|.tail _ z).1.keeps λo g=>x _ o (λq=>v.1<|List.mem_map.mpr ⟨p,z,q⟩) g,List.mem_map.mpr ⟨p,mT2<|.tail _ z,rfl⟩⟩
theorem TC(S:X.St ρ H ((L,.ns m)::(E,.ob oE)::(I,.ob oI)::ls) s)(r:h.get? E=some u)(j:h.get? I=some v)(w:∀b o,b∉[E,I]->s.heap.get? b=some o->h.get? b=some o):X.St ρ H ((L,.ns m)::(E,.ob u)::(I,.ob v)::ls) ⟨h,s.gens,s.drawn,tk,s.os⟩:=by
 have y:=List.nodup_cons.mp S.apart;have t:=List.nodup_cons.mp y.2;have k:=List.nodup_cons.mp t.2;have x:∀{b:bI},b≠E->b≠I->b∉[E,I]:=λl n q=>(List.mem_cons.mp q).elim l λq=>n<|List.mem_singleton.mp q;refine S.locs [E,I] (λb h=>(List.mem_cons.mp h).elim (λq=>by rw[q];exact .tail _<|.head _) λq=>by rw[List.mem_singleton.mp q];exact mT2<|.head _) w (λp z=>?_) S.apart;refine bk z ?_ λz=>?_
 .exact⟨(S.loc _<|.head _).1.keeps λo g=>w _ o (x (λq=>y.1<|List.mem_cons.mpr<|.inl q) λq=>y.1<|List.mem_cons.mpr<|.inr<|List.mem_cons.mpr<|.inl q) g,.head _⟩
 .refine bk z ?_ λz=>?_
  .exact⟨r,.tail _<|.head _⟩
  .refine bk z ?_ λz=>?_
   .exact⟨j,mT2<|.head _⟩
   .exact⟨(S.loc p<|mT2<|.tail _ z).1.keeps λo g=>w _ o (x (λq=>t.1<|.tail _<|List.mem_map.mpr ⟨p,z,q⟩) λq=>k.1<|List.mem_map.mpr ⟨p,z,q⟩) g,List.mem_map.mpr ⟨p,mT2<|.tail _ z,rfl⟩⟩
end
inductive uk(X:Fx)ρ₁ env ls(E I y)(L:Nat->Nat->aK->AH->X.R)(c:Nat)(s:aU):Prop
 |mk (i:Nat) (f:aK) (H:AH) (ρ:bu) (m:Str->Option au) (o:Obj) (old:au) (x:bU ρ₁ ρ) (S:X.St ρ H ((env.locals,.ns m)::(E,.ob (xF I ((i:Nat):Int) old))::(I,.ob o)::ls) s) (F:dg X ρ f env m) (hc:o.cls=.type "list_iterator") (hd:o.data=.fields #[.ref y,.int i 0]) (h:X.holds (L c i f H)):uk X ρ₁ env ls E I y L c s
def IL(e:EV X.R)(p:jP X.R)(b:XS X.R)(z:gU)(k:KS X.R)(c i:Nat)(f:aK)(H:AH)(v:AV):X.R:=p e [.int (.ofNat i),v] f H (λf h=>b e f h (kt (jd e p b z k c (i+1)) k) (eB e)) (eB e)
theorem TD(y:bD X e n)(h:X.holds (jd e p b (.lst j) k c i f H)){w:Prop}(g:∀u z,c=u+1->eA H j=some z->(z[i]?=none->X.holds (k .nxt f H))->(∀a,z[i]?=some a->X.holds (IL e p b (.lst j) k u i f H a))->w):w:=by
 cases c with|zero=>exact aP h y.stop|succ c=>refine bw y (show X.holds (ad (li H (.lst j) i) e.stop λr=>ad r (k .nxt f H)<|IL e p b (.lst j) k c i f H) from h) λr v h=>ba v λz x v=>?_;rw[<-Option.some.inj v,pM] at h;exact g c z rfl x (λq=>by rw[q] at h;exact h) λa q=>by rw[q] at h;exact h
theorem TF(Q:mM X sc t p)(h2:t.length=2)(hb:SB X sc body b)(x:bD X e n){env:Env}(l:cU sc env)(S:cC A (env.frame,env.locals::df ls) n e.hd)(hh:A.handled=none)(hne:E≠I)(hy:ρ₁ j=some y)(PV:jT X k env ls ρ₁ λf s=>R (.ok f) s)(c:Nat)(s:aU)(E':tY1)(Qn:Option au->aU->Prop)(hI:uk X ρ₁ env ls E I y (jd e p b (.lst j) k) c s)(q1:∀s',R (.ok .next) s'->Qn none s')(q2:∀v s',aF X.M A (l_ (.Tuple t k0 tp) (.ref E) v) (λz s₁=>aF X.M A (l8 (.Tuple t k0 tp) env v) (λz s₂=>aF X.M A (pt body env) (xw (uk X ρ₁ env ls E I y (jd e p b (.lst j) k)) R c) E' s₂) E' s₁) E' s'->Qn (some v) s'):aF X.M A (nF (.ref E)) Qn E' s:=by
 obtain⟨i,f4,H4,ρ4,C,o4,old,x4,S4,F4,hc4,hd4,hc⟩:=hI;refine TD x hc λc' xs ec hxs hc1 hc2=>?_;have gE:=(S4.loc _<|.tail _<|.head _).1;have gI:=(S4.loc _<|mT2<|.head _).1;obtain⟨vs,Z,P,_⟩:=fz S4 (gX hxs)<|x4 _ _ hy;cases hx:xs[i]? with
 |none=>exact wpAny_pyNext_enum_end hh gE ⟨o4,gI,hc4,hd4⟩ Z.isList (List.getElem?_toArray.trans<|P.nth_none hx) λh5 hb5=>q1 _<|PV _ .nxt _ _ _ _ _ x4 (TB S4 λb o q g=>hb5 b o q g) F4 rfl<|hc1 hx
 |some a=>
  obtain⟨v,hv,rv⟩:=P.nth hx;have hlt4:=d3 gE;refine wpAny_pyNext_enum_item gE ⟨o4,gI,hc4,hd4⟩ Z.isList (List.getElem?_toArray.trans hv) hne λh5 he5 hit5 ht5 hz5 hk5=>q2 _ _<|wpAny_letOwnedTupleGo_enum he5 λh6 he6 hs6=>?_;have hs6:=hs6;obtain⟨o5,go5,hc5,hd5⟩:=hit5;have hT6:h6.IsTuple s.heap.objs.size #[.int i s.toks,v]:=⟨_,(hs6.2 _<|Nat.ne_of_gt hlt4).trans ht5,rfl,_,rfl⟩;have S6:=TC (tk:=s.toks+1) S4 he6 ((hs6.2 _ hne.symm).trans go5) λb o hb g=>by have hb:b≠E/\b≠I:=⟨λq=>hb<|List.mem_cons.mpr<|.inl q,λq=>hb<|List.mem_cons.mpr<|.inr<|List.mem_singleton.mpr q⟩;exact(hs6.2 b hb.1).trans (hk5 b o hb.1 hb.2 g)
  obtain⟨t1,t2⟩:=Q.1 env;refine am1 hh hT6 (by rw[t1,h2];rfl) t2 λh7 hb7=>?_;have S7:=S6.keeps (tk:=s.toks+1) (d:=s.drawn) λb o g=>hb7 b o (λq=>Nat.lt_irrefl _<|q▸d3 g) g;refine Q.2 e n x env l [.int<|.ofNat i,a] f4 H4 _ _ (hc2 a hx) ρ4 C ((E,.ob<|xF I ((i+1:Nat):Int) v)::(I,.ob o5)::ls) _ A _ _ [.int i s.toks,v] S S7 F4 ⟨⟨_,rfl⟩,rv,trivial⟩ (λρ8 f8 H8 m8 s8 F S8 F8 h8=>?_) (nZ x) h2.symm;refine hb e n x env l f8 H8 _ _ h8 ρ8 m8 ((E,.ob<|xF I ((i+1:Nat):Int) v)::(I,.ob o5)::ls) s8 A _ _ S S8 F8 (λρ9 fl f9 H9 m9 s9 fv N S9 F9 r9 h9=>?_)<|nZ x;have x5:=(x4.trans F).trans N;have go:X.holds (jd e p b (.lst j) k c' (i+1) f9 H9)->∃m,m<c/\uk X ρ₁ env ls E I y (jd e p b (.lst j) k) m s9:=λh=>⟨c',ec▸Nat.lt_succ_self _,i+1,f9,H9,ρ9,m9,o5,v,x5,S9,F9,hc5,hd5,h⟩;exact B7 h9 r9 go go (λh=>PV _ .nxt _ _ _ _ _ x5 S9.same.same F9 rfl h) λu w r h=>PV _ (.ret u) _ _ _ _ _ x5 S9.same.same F9 ⟨w,rfl,r⟩ h
theorem TG(v:mM X l z p)(i:z.length=2)(g:SB X l body b)(w:bD X e n)(x:cU l q)(u:cC A (q.frame,q.locals::df ls) n e.hd)(a:A.handled=none)(o:E≠I)(d:r j=some y)(Z:jT X k q ls r λf s=>R (.ok f) s)(c:Nat)(h:uk X r q ls E I y (jd e p b (.lst j) k) c s):f0 X.M A (.forLoop (.Tuple z t tp) (.ref E) body [] q) R s:=
 TA _ (TF v i g w x u a o d Z) c h
theorem IM(O:X.Ok)(h1:SE X sc (.Name l np) (ah (.bi .enum)))(hpl:ue r)(N:mM X sc o p)(h2:o.length=2)(hfs:∀env x,rh (.Call (.Name l np) [r] [] cp) env x=pure x)(hi:SE X sc r q)(hb:SB X sc body b):SS X sc (.For (.Tuple o k0 tp) (.Call (.Name l np) [r] [] cp) body [] g) (ku p q b):=by
 intro e n w env t f H k ke hh ρ m ls s A Q E u S F PV PE;refine As ?_<|hfs env;refine BE λP T=>?_;refine NW<|h1 e n w env t f H (λa h=>bK .enum e a<|q e f h (λv h=>J e.hd e.stop<|ad (gx h v) e.stop λz=>ad (mC h v) e.stop λsrc=>jd e p b src k e.fuel 0 f h) ke) ke hh ρ m ls s A _ E u S F (λρ1 H1 s1 a v x1 R i g1=>?_)<|PE.1 m
 obtain⟨ea,g1⟩:=Cf w g1;rw[ea] at i;rw[show v=mG .enum from i,hpl];refine Ga (P:=λz=>True) rfl (λh z=>xA .enum h)<|NX<|NY ?_;refine hi e n w env t f H1 _ ke g1 ρ1 m ls s1 A _ E u R (F.ext x1) (λρ2 H2 s2 a v x2 S2 r2 g2=>NZ ⟨trivial,?_⟩)<|(PE.1 m).ext x1;refine ee w g2 λhd g3=>bw w g3 λxs hxs g4=>bw w g4 λsrc hsrc g5=>?_;obtain⟨j,ej,hj,es⟩:=Tz hxs hsrc;rw[ej] at r2;rw[es] at g5;obtain⟨y,hy,ev⟩:=r2;obtain⟨C,⟨c0,Z⟩,al0,_⟩:=fz S2 hj hy;rw[ev];refine call_enumerate_1 Z λh' he hit hsz hk=>T _ _<|wpAny_pyIter_enum he ?_;obtain⟨oi,hoi,hoc,hod⟩:=hit;have f1:=S2.fresh_at<|Nat.le_refl _;have f2:=S2.fresh_at<|Nat.le_succ _;have c:=((S2.keeps (tk:=s2.toks) (d:=s2.drawn) hk).mark (m:=.ob oi) hoi f1).mark (m:=.ob<|xF s2.heap.objs.size 0 .none) he ⟨f2.1,f2.2.1,λq=>(List.mem_cons.mp q).elim (Nat.succ_ne_self _) f2.2.2⟩;exact TG N h2 hb w t u (u.2.2.1 hd) (Nat.succ_ne_self _) hy (PV.ext<|x1.trans x2) e.fuel ⟨0,f,H2,ρ2,m,oi,.none,.refl _,St.rot3 c,F.ext<|x1.trans x2,hoc,hod,g5⟩
def ul(z:List Str):List (Str×au)->List (Str×au)->Prop
 |_,[]=>True
 |slots,(k,v)::r=>k∈z/\slots.lookup k=none/\ul z (slots++[(k,v)]) r
def lu:List (Str×au)->List (Str×au)->List (Str×au)
 |slots,[]=>slots
 |slots,(k,v)::r=>lu (if(slots.lookup k).isNone then slots++[(k,v)] else slots) r
inductive IN z kw names s rest(b:List (Str×au)×List (Str×au))(s':aU):Prop
 |mk (done:List (Str×au)) (es:s'=s) (e:kw=done++rest) (eb:b=(z++done,[])) (h:ul names (z++done) rest):IN z kw names s rest b s'
section
variable {M:Af}{A:dH}{E:tY1}{s:aU}
theorem TH{o p:Str×au->List (Str×au)×List (Str×au)->Bool}{w v:Str×au->List (Str×au)×List (Str×au)->Sem (ForInStep (List (Str×au)×List (Str×au)))}(k:∀x b,x.1∈y->o x b=true)(j:∀x b,b.1.lookup x.1=none->p x b=false)(l:ul y z u)(h:Q (z++u,[]) s):aF M A (forIn u (z,[]) λx b=>if o x b=true then if p x b=true then w x b else pure (.yield (b.1++[x],b.2)) else v x b) Q E s:=by
 refine FP _ (IN z u y s) _ ?_ ?_ u _ ⟨[],rfl,rfl,by rw[List.append_nil],by rw[List.append_nil];exact l⟩
 .rintro x n b m ⟨done,es,e1,t,r⟩;exact Hg (k x b r.1) (pR (λq=>bg ((j x b<|by rw[t];exact r.2.1).symm.trans q)) (bz ⟨done++[x],es,by simp[e1],by simp[t],by rw[<-List.append_assoc];exact r.2.2⟩))
 .rintro b m ⟨done,es,e1,t,_⟩;rw[List.append_nil] at e1;rw[t,es,<-e1];exact h
theorem TI(h:Q (lu b z) s):aF M A (forIn z b λx c=>if(c.lookup x.1).isNone=true then pure (.yield (c++[x])) else pure (.yield c)) Q E s:=by
 refine FP _ (λy c w=>w=s/\lu c y=lu b z) _ ?_ ?_ _ _ ⟨rfl,rfl⟩
 .rintro x y c w ⟨es,e1⟩;have e1:lu (if(c.lookup x.1).isNone then c++[x] else c) y=_:=e1
  by_cases q:(c.lookup x.1).isNone=true
  .exact Hg q (bz ⟨es,by rw[e1.symm,aw q]⟩)
  .exact pR q (bz ⟨es,by rw[e1.symm,aq q]⟩)
 .rintro c w ⟨es,e1⟩;rw[es];rw[e1.symm] at h;exact h
theorem TJ{v c2:y->x->Bool}{n i:y->x->Sem g}{l:y->x->Sem w}{r:y->w->Sem g}(j:∀Q:y->aU->Prop,Q a s->aF M A m Q E s)(p:∀Q:x->aU->Prop,(∀o,v a o=false->c2 a o=false->(∀Q:w->aU->Prop,Q z s->aF M A (l a o) Q E s)->Q o s)->aF M A t Q E s)(h:aF M A (r a z) Q E s):aF M A (m >>= λb=>t >>= λd=>if v b d=true then n b d else if c2 b d=true then i b d else l b d >>= r b) Q E s:=
 aI (j _<|aI<|p _ λ_ u f k=>pR (λq=>bg<|u.symm.trans q)<|pR (λq=>bg<|f.symm.trans q)<|aI<|k _ h)
end
theorem TK{M:Af}{A:dH}{s:aU}{m:Args}{y:List Str}(p:j.params.posonlyargs=[])(q:j.params.kwonlyargs=[])(t:j.params.vararg=none)(r:j.params.kwarg=none)(v:j.params.args.map (·.arg)=y)(hd:∀(Q:Option (Array au)->aU->Prop),(∀o,(o.getD #[]).toList=k->Q o s)->aF M A (seqItems? j.defaults) Q E s)(f:k.length<=y.length)(c:m.pos.length<=y.length)(g:ul y (y.zip m.pos) m.kw)(d:∀n∈y.take (y.length - k.length),((y.zip m.pos++m.kw).lookup n).isSome=true)(h:Q (y.filterMap λn=>((lu (y.zip m.pos++m.kw) ((y.drop (y.length - k.length)).zip k)).lookup n).map (n,·)) s):aF M A (bindArgs j m) Q E s:=by
 have i:=(aT (λl=>List.map (·.arg) l++j.params.args.map (·.arg)) p).trans v;refine TJ (a:=(y.zip m.pos++m.kw,[])) (z:=lu (y.zip m.pos++m.kw)<|(y.drop<|y.length - k.length).zip k) (λQ h=>?_) (λQ h=>hd Q λo u=>h o ?_ ?_ λQ h=>?_) ?_
 .rw[i];exact TH (λx b w=>by rw[v];simpa using .inl w) (λx b w=>by rw[w];rfl) g h
 .rw[i];exact Bool.and_eq_false_iff.mpr (.inl (cA<|by omega))
 .rw[i,u,show k.length - y.length=0 by omega,List.drop_zero,List.filter_eq_nil_iff.mpr λn i e=>bg<|((aT Option.isSome<|Option.isNone_iff_eq_none.mp e).symm.trans<|d n i)];rfl
 .rw[i,u,show k.length - y.length=0 by omega,List.drop_zero];exact TI h
 .rw[q,t,r,i];show aF _ _ (pure<|List.filterMap _<|y++[]) _ _ _;rw[List.append_nil];exact bz h
theorem lookup_cons{l:List (Str×au)}:((x,v)::l).lookup y=if x=y then some v else l.lookup y:=by
 rw[List.lookup_cons]
 by_cases h:x=y
 .rw[show(y == x)=true from beq_iff_eq.mpr h.symm,aw h]
 .have z:(y == x)=false:=beq_eq_false_iff_ne.mpr λe=>h e.symm;rw[z,aq h]
theorem n0 c:∀{l:iJ}{z:List (Str×au)},aD (fM r m) l z->dD r m (ae l c) (z.lookup (am c)):=by
 intro q
 induction q with
 |nil=>
  intro u;cases u with|nil=>intro _;exact trivial|cons _ _=>intro h;exact h.elim
 |cons p l s=>
  intro o;cases o with|nil=>intro h;exact h.elim|cons t z=>
   obtain⟨x,v⟩:=t;intro h;obtain⟨⟨y,w⟩,n⟩:=h
   dsimp only at y w
   rw[b3,lookup_cons]
   by_cases e:p.1=c
   .rw[aw e,aw<|by rw[y,e]];exact w
   .rw[aq e,aq<|by rw[y];exact mF e];exact s n
theorem IO(h:dD z y none v):v=none:=by cases v with|none=>rfl|some _=>exact h.elim
theorem IP(l m:List (Str×au))x:(l++m).lookup x=(l.lookup x).or (m.lookup x):=by
 induction l with|nil=>rfl|cons p l z=>
  obtain⟨y,v⟩:=p;rw[List.cons_append,lookup_cons,lookup_cons]
  by_cases e:y=x
  .rw[aw e,aw e];rfl
  .rw[aq e,aq e,z]
theorem TM(x:Str):∀(y z),(lu z y).lookup x=(z.lookup x).or (y.lookup x):=by
 intro t
 induction t with|nil=>intro z;exact Option.or_none.symm|cons u y w=>
  obtain⟨k,v⟩:=u;intro z;show(lu (if(z.lookup k).isNone then z++[(k,v)] else z) y).lookup x=_;rw[w,lookup_cons]
  by_cases q:(z.lookup k).isNone=true
  .rw[aw q,IP,lookup_cons]
   by_cases e:k=x
   .clear w;subst e;rw[Option.isNone_iff_eq_none.mp q,aw rfl,aw rfl];rfl
   .rw[aq e,aq e];rw[Option.or_none]
  .rw[aq q]
   by_cases e:k=x
   .subst e;cases hq:z.lookup k with|none=>rw[hq] at q;exact aP rfl q|some _=>rfl
   .rw[aq e]
theorem TN:∀{x:List Nat}{y:tY0}{z:List au}{g:iJ},Bf x y=some g->aD (aE o n) y z->z.length<=x.length/\aD (fM o n) g ((x.map am).zip z):=by
 intro s
 induction s with
 |nil=>
  intro y z g h r;cases y with|cons _ _=>cases h|nil=>
   cases z with|cons _ _=>exact r.elim|nil=>
    injection h with h
    subst h;exact⟨Nat.le_refl _,trivial⟩
 |cons p x t=>
  intro y z g h r;cases y with
  |nil=>
   cases z with|cons _ _=>exact r.elim|nil=>
    injection h with h
    subst h;exact⟨Nat.zero_le _,trivial⟩
  |cons a y=>
   cases z with|nil=>exact r.elim|cons v z=>
    refine ba (h) λl w e=>?_;injection e with e
    clear h;subst e;obtain⟨q,u⟩:=t w r.2;exact⟨by simp;exact(lin [z.length,x.length] 19765703745) q,⟨rfl,r.1⟩,u⟩
theorem TO:∀{m w:iJ}{t u:List (Str×au)},w7 o w m=true->aD (fM e b) w u->aD (fM e b) m t->ul (o.map am) u t:=by
 intro f
 induction f with
 |nil=>
  intro _ i;cases i with|nil=>intro _ _ _ _;exact trivial|cons _ _=>intro _ _ _ r;exact r.elim
 |cons p m S=>
  intro w c;cases c with|nil=>intro _ _ _ r;exact r.elim|cons g t=>
   obtain⟨x,v⟩:=g;intro u h y a;obtain⟨⟨n,l⟩,d⟩:=a
   dsimp only at n l
   have s:J (a5 o p.1) (ad (ae w p.1) (w7 o (ax w [p]) m) λz=>false) false=true:=h;cases q:a5 o p.1 with|false=>rw[q] at s;cases s|true=>
    rw[q] at s;have Z:p.1∈o:=by rw[dh] at q;exact br q
    cases q2:ae w p.1 with|some _=>rw[q2] at s;cases s|none=>rw[q2] at s;have k:=s;rw[eX] at k;have j:=n0 p.1 y;rw[q2] at j;refine⟨by rw[n];exact List.mem_map.mpr ⟨_,Z,rfl⟩,by rw[n];exact IO j,S k (y.app ⟨⟨n,l⟩,trivial⟩) d⟩
theorem IQ{L:List (Str×au)}(x:∀c,dD r o (ad (ae g c) (ae d c) some) (L.lookup (am c))):∀{z:List Nat}{b:iJ},w4 z g d=some b->
  b.map (·.1)=z/\aD (fM r o) b ((z.map am).filterMap λn=>(L.lookup n).map (n,·))
 | [],b,h=>by
  injection h with h
  subst h;exact⟨rfl,trivial⟩
 |p::z,b,h=>by
  refine ba (h) λa s h=>?_;refine ba h λl u h=>?_;injection h with h
  subst h;have m:=x p;rw[s] at m;obtain⟨w,v,y⟩:=mJ m;obtain⟨q,t⟩:=IQ x u;refine⟨by simp[q],?_⟩;rw[List.map_cons,List.filterMap_cons,v];exact⟨⟨rfl,y⟩,t⟩
def Cj(x:bu)(w:de)(y:List Nat)(dfl:iJ)(z:List au):Prop:=z.length<=y.length/\aD (fM x w) dfl (((y.map am).drop (y.length - z.length)).zip z)
theorem TP{x:Str}:∀{l:List Str}{z:List au},x∉l->(l.zip z).lookup x=none:=by
 intro s
 induction s with|nil=>intro _ _;simp|cons y l t=>
  intro u;cases u with|nil=>intro _;simp|cons v z=>intro h;rw[List.zip_cons_cons,lookup_cons,aq (λe:y=x=>h<|by rw[e];exact .head _)];exact t λw=>h<|.tail _ w
theorem IR(hn:Z.Nodup)(h1:Bf Z t=some g)(h2:w7 Z g F=true)(h3:w4 Z (ax g F) dfl=some b)(rp:aD (aE ρ X.σ) t H)(rk:aD (fM ρ X.σ) F kw')(hd:Cj ρ X.σ Z dfl P)(d:fd.params.posonlyargs=[])(i:fd.params.kwonlyargs=[])(m:fd.params.vararg=none)(j:fd.params.kwarg=none)(k:fd.params.args.map (·.arg)=Z.map am)(hd':∀(Q:Option (Array au)->aU->Prop),(∀o,(o.getD #[]).toList=P->Q o s)->aF M A (seqItems? fd.defaults) Q E s)(h:∀R,b.map (·.1)=Z->aD (fM ρ X.σ) b R->R.map (·.1)=Z.map am->Q R s):aF M A (bindArgs fd ⟨H,kw'⟩) Q E s:=by
 obtain⟨l1,rg⟩:=TN h1 rp;have hk:=TO h2 rg rk;rw[eX] at h3;have rs:=rg.app rk;have hL:∀c,dD ρ X.σ (ad (ae (g++F) c) (ae dfl c) some) ((lu ((Z.map am).zip H++kw')<|((Z.map am).drop<|Z.length - P.length).zip P).lookup<|am c):=by
  intro c;rw[TM];have v:=n0 c rs;have r2:=n0 c hd.2;cases q:ae (g++F) c with|none=>rw[q] at v;rw[IO v];exact r2|some a=>rw[q] at v;obtain⟨w,hw,r⟩:=mJ v;rw[hw];exact r
 obtain⟨e1,e2⟩:=IQ hL h3;have S:(Z.map am).length=Z.length:=List.length_map ..;refine TK d i m j k hd' (by rw[S];exact hd.1) (by rw[S];exact l1) hk (λn C=>?_) ?_
 .rw[S] at C;have hin:=List.mem_of_mem_take C;refine jL hin λp f ep=>?_;have hno:n∉(Z.map am).drop (Z.length - P.length):=by
   intro N;have hnd:(Z.map am).Nodup:=by
    have Y:∀{u:List Nat},u.Nodup->(u.map am).Nodup:=by
     intro u
     induction u with|nil=>intro _;exact .nil|cons x u ih=>intro h;obtain⟨h1,h2⟩:=List.nodup_cons.mp h;rw[List.map_cons,List.nodup_cons];refine⟨λN=>?_,ih h2⟩;refine jL N λy hy e=>?_;exact h1<|iT e▸hy
    exact Y hn
   rw[<-List.take_append_drop (Z.length - P.length) (Z.map am),List.nodup_append] at hnd;exact hnd.2.2 n C n N rfl
  have hp2:∃a,ad (ae (g++F) p) (ae dfl p) some=some a:=by
   have Y:∀{qs:List Nat}{b:iJ},w4 qs (g++F) dfl=some b->p∈qs->∃a,ad (ae (g++F) p) (ae dfl p) some=some a:=by
    intro qs
    induction qs with|nil=>intro b _ N;cases N|cons q qs ih=>intro b hb N;refine ba (hb) λa ha hb=>?_;refine ba hb λl hl z=>?_;exact bk N (⟨a,ha⟩) λN=>(ih hl N)
   exact Y h3 f
  obtain⟨a,ha⟩:=hp2;have v:=n0 p rs;have r2:=n0 p hd.2;rw[ep] at v r2;rw[TP hno] at r2;have hdn:ae dfl p=none:=by
   cases q:ae dfl p with|none=>rfl|some _=>rw[q] at r2;exact r2.elim
  rw[hdn] at ha;cases q:ae (g++F) p with|none=>rw[q] at ha;cases ha|some a'=>rw[q] at v;obtain⟨w,hw,_⟩:=mJ v;rw[hw];rfl
 .rw[S];refine h _ e1 e2 ?_;have Y:∀{b:iJ}{R:List (Str×au)},aD (fM ρ X.σ) b R->R.map (·.1)=(b.map (·.1)).map am:=by
   intro b
   induction b with
   |nil=>intro R r;cases R with|nil=>rfl|cons _ _=>exact r.elim
   |cons p b ih=>
    intro R r;cases R with|nil=>exact r.elim|cons q R=>rw[List.map_cons,List.map_cons,List.map_cons,ih r.2,r.1.1]
  rw[Y e2,e1]
theorem St.newM(S:St prog w h₀ os₀ u h H k s)(f:h₀.get? a=none/\(∀i,u i≠some a)/\a∉k.map (·.1))(r:cb prog w (St.put u H.n a) h s.heap a o):St prog w h₀ os₀ (St.put u H.n a) h (H.new o) k s:=by
 have X:bU u (St.put u H.n a):=St.put_ext<|S.top _<|Nat.le_refl _;refine⟨S.keep,λi m e=>?_,λi b e=>?_,λi j b e1 e2=>?_,λi l=>?_,λp v=>⟨(S.loc p v).1,(S.loc p v).2.1,λi e=>?_⟩,S.apart,S.gens,S.os⟩
 .rw[AH.get_new] at e
  by_cases q:i=H.n
  .subst q;rw[aw rfl] at e;cases e;exact⟨a,St.put_self ..,r⟩
  .rw[aq q] at e;obtain⟨b,x,y⟩:=S.cell i m e;exact⟨b,X _ _ x,y.ext X⟩
 .unfold St.put at e
  by_cases q:i=H.n
  .rw[aw q] at e;cases e;exact⟨⟨.inl f.1,λz z=>f.1⟩,r.there⟩
  .rw[aq q] at e;exact⟨⟨(S.new i b e).1.1,λm g=>(S.new i b e).1.2 m<|by rw[AH.get_new,aq q] at g;exact g⟩,(S.new i b e).2⟩
 .unfold St.put at e1 e2
  by_cases t:i=H.n<;>by_cases q2:j=H.n
  .rw[t,q2]
  .rw[aw t] at e1;rw[aq q2] at e2;cases e1;exact aP e2<|f.2.1 j
  .rw[aq t] at e1;rw[aw q2] at e2;cases e2;exact aP e1<|f.2.1 i
  .rw[aq t] at e1;rw[aq q2] at e2;exact S.inj i j b e1 e2
 .rw[AH.n_new] at l;unfold St.put;rw[aq<|by exact(lin [H.n,i] 0x24f7044d1280501) l];exact S.top i (by exact(lin [H.n,i] 5181460644889857) l)
 .unfold St.put at e
  by_cases q:i=H.n
  .rw[aw q] at e;injection e with e
   exact f.2.2<|List.mem_map.mpr ⟨p,v,e.symm⟩
  .rw[aq q] at e;exact(S.loc p v).2.2 i e
def se:Nat->List Nat->List (Str×bI)->List (Str×bI)
 |_,[],acc=>acc
 |n,c::cs,acc=>se (n+1) cs<|(am c,n)::acc
theorem TQ:∀z v n w,(z.filter (·.2 == .cell)).map (·.1)=v.map am->wo n z w=se n v w:=by
 intro p
 induction p with
 |nil=>
  intro v n w h;cases v with|nil=>rfl|cons _ _=>cases h
 |cons s z u=>
  obtain⟨x,y⟩:=s;intro v n w h;rw[List.filter_cons] at h;unfold wo
  by_cases q:(y == NameKind.cell)=true
  .rw[aw q];rw[aw q,List.map_cons] at h;cases v with|nil=>cases h|cons c v=>
    rw[List.map_cons] at h;injection h with t r
    dsimp only at t
    rw[u v (n+1) _ r,t];rfl
  .rw[aq q];rw[aq q] at h;exact u v n w h
theorem TS c:∀{l:on}{y:List (Str×bI)},aD (uc s) l y->∀i,ae l c=some i->∃a,s i=some a/\y.lookup (am c)=some a:=by
 intro t
 induction t with
 |nil=>
  intro v;cases v with|nil=>intro _ i h;cases h|cons _ _=>intro h _ _;exact h.elim
 |cons p l m=>
  intro n;cases n with|nil=>intro h _ _;exact h.elim|cons u y=>
   obtain⟨x,a⟩:=u;intro r i h;obtain⟨⟨z,w⟩,o⟩:=r
   dsimp only at z w
   rw[b3] at h;rw[List.lookup_cons]
   by_cases e:p.1=c
   .rw[aw e] at h;injection h with h
    have k:(am c == x)=true:=by rw[z,e];exact beq_self_eq_true _
    rw[k];exact⟨a,by rw[h.symm];exact w,rfl⟩
   .rw[aq e] at h;have k:(am c == x)=false:=by rw[z];exact beq_eq_false_iff_ne.mpr λq:am c=am p.1=>e (iT q).symm
    rw[k];exact m o i h
theorem TT{b:Str->Option au}:∀(g:List Nat)(n:Nat)p t H m,X.holds (GI X.R g r H p k)->X.St m H Q s->aD (uc m) p t->
  (∀j c,g[j]?=some c->s.heap.IsCell (n+j) (b<|am c)/\(X.h₀.get? (n+j)=none/\(∀i,m i≠some (n+j))/\n+j∉Q.map (·.1))/\dD m X.σ (ae r c) (b<|am c))->
  ∃l a x,bU m l/\X.St l a Q s/\aD (uc l) x (se n g t)/\X.holds (k x a):=by
 intro z1
 induction z1 with|nil=>intro n p t H m h S Z _;exact⟨m,H,p,.refl _,S,Z,h⟩|cons c g ih=>
  intro n p t H m h S Z F;have A:=h;obtain⟨N,fr,C⟩:=F 0 c rfl;rw[Nat.add_zero] at N fr;have f:bU m (St.put m H.n n):=St.put_ext<|S.top _<|Nat.le_refl _;have u:=S.newM (o:=.cell<|ae r c) fr ⟨_,N,C.ext f⟩;have P:∀j d,g[j]?=some d->s.heap.IsCell (n+1+j) (b<|am d)/\(X.h₀.get? (n+1+j)=none/\(∀i,St.put m H.n n i≠some (n+1+j))/\n+1+j∉Q.map (·.1))/\dD (St.put m H.n n) X.σ (ae r d) (b<|am d):=by
   intro j d hj;obtain⟨i1,f1,w⟩:=F (j+1) d hj;have v:n+1+j=n+(j+1):=by omega
   rw[v];refine⟨i1,⟨f1.1,λi q=>?_,f1.2.2⟩,w.ext f⟩;unfold St.put at q
   by_cases e:i=H.n
   .rw[aw e] at q;injection q with q
    omega
   .rw[aq e] at q;exact f1.2.1 i q
  obtain⟨l,a,x,x1,S2,r2,E⟩:=ih (n+1) ((c,H.n)::p) ((am c,n)::t) _ _ A u ⟨⟨rfl,St.put_self ..⟩,Z.mono λz z y=>⟨y.1,f _ _ y.2⟩⟩ P;exact⟨l,a,x,f.trans x1,S2,r2,E⟩
theorem IS(t:z y=some .local):∀w m,(w.map (·.1)).Nodup->Ax z w m y=(w.lookup y).or (m y)
 | [],m,_=>rfl
 |(x,v)::w,m,h=>by
  rw[List.map_cons,List.nodup_cons] at h;unfold Ax;rw[IS t w _ h.2,lookup_cons]
  by_cases e:x=y
  .subst e;have s:w.lookup x=none:=by
    cases q:w.lookup x with|none=>rfl|some u=>exact aP (List.mem_map.mpr ⟨(x,u),mem_of_lookup q,rfl⟩) h.1
   rw[s,aw t,aw rfl,aw rfl];rfl
  .rw[aq e]
   by_cases q:z x=some .local
   .rw[aw q,aq λh=>e h.symm]
   .rw[aq q]
theorem IT(t:z y≠some .local):∀w m,(w.map (·.1)).Nodup->Gg z w m y=(w.lookup y).or (m y)
 | [],m,_=>rfl
 |(x,v)::w,m,h=>by
  rw[List.map_cons,List.nodup_cons] at h;unfold Gg;rw[IT t w _ h.2,lookup_cons]
  by_cases e:x=y
  .subst e;have s:w.lookup x=none:=by
    cases q:w.lookup x with|none=>rfl|some u=>exact aP (List.mem_map.mpr ⟨(x,u),mem_of_lookup q,rfl⟩) h.1
   rw[s,aq t,aw rfl,aw rfl];rfl
  .rw[aq e]
   by_cases q:z x=some .local
   .rw[aw q]
   .rw[aq q,aq λh=>e h.symm]
theorem IU:∀{l:iJ},(l.map (·.1)).Nodup->ae (w5 l y) x=some a->x∉y/\ae l x=some a:=by
 intro r
 induction r with|nil=>intro _ h;cases h|cons p l t=>
  intro u h;rw[List.map_cons,List.nodup_cons] at u;have w:ae (J (a5 y p.1) (w5 l y)<|p::w5 l y) x=some a:=h;rw[b3];cases q:a5 y p.1 with
  |true=>
   rw[q] at w;have v:p.1∈y:=by rw[dh] at q;exact br q
   obtain⟨s,z⟩:=t u.2 w
   by_cases e:p.1=x
   .exact aP (e▸v) s
   .rw[aq e];exact⟨s,z⟩
  |false=>
   rw[q] at w;have v:p.1∉y:=by rw[dh] at q;exact of_decide_eq_false q
   have z:=w;rw[b3] at z
   by_cases e:p.1=x
   .rw[aw e] at z ⊢;exact⟨e▸v,z⟩
   .rw[aq e] at z ⊢;exact t u.2 z
theorem IV(s:y.Nodup):∀n z(j c),y[j]?=some c->(se n y z).lookup (am c)=some (n+j):=by
 have x:∀y n z c,c∉y->(se n y z).lookup (am c)=z.lookup (am c):=by
  intro y
  induction y with|nil=>intro n z c _;rfl|cons d y v=>intro n z c h;have u:=λt=>h<|.tail _ t;have w:c≠d:=λe=>h<|e▸.head _;rw[v (n+1) _ c u,List.lookup_cons];have r:(am c == am d)=false:=beq_eq_false_iff_ne.mpr λe:am c=am d=>w<|iT e;rw[r]
 induction y with|nil=>intro n z j c h;exact a6 h|cons d y v=>
  intro n z j c h;obtain⟨u,w⟩:=List.nodup_cons.mp s;cases j with
  |zero=>
   injection h with h
   subst h;rw[x y (n+1) _ d u,List.lookup_cons,beq_self_eq_true];rfl
  |succ j=>
   rw[v w (n+1) _ j c h]
   congr 1
   exact lin [n,j] 0x394a014082a1280501
theorem Ck:∀{ls:Lo},L∈df ls->∃m,(L,Pt.ns m)∈ls
 |(a,.ns m)::r,h=>by
  refine f_ h (λh=>?_) λh=>?_
  .exact⟨m,by rw[h];exact .head _⟩
  .obtain⟨y,z⟩:=Ck h;exact⟨y,.tail _ z⟩
 |(a,.ob o)::r,h=>by obtain⟨y,z⟩:=Ck (ls:=r) h;exact⟨y,.tail _ z⟩
theorem St.fly(S:X.St l H n s)(v:pO X l n t s.heap)(k:t.StaysIn j)(u:s.heap.UpToSlots j):X.St l H n { s with heap:=j }/\pO X l n t j:=by
 have q:=λb o g z=>k b o<|v b o g z;refine⟨⟨λb o g=>q b o (S.keep b o g)<|.inl g,λi o g=>?_,λi b g=>⟨(S.new i b g).1,((S.new i b g).2).elim λo e=>⟨o,q b o e<|.inr<|.inl ⟨i,g⟩⟩⟩,S.inj,S.top,λp w=>⟨?_,(S.loc p w).2⟩,S.apart,S.gens,S.os⟩,λb o g z=>?_⟩
 .obtain⟨b,x,y⟩:=S.cell i o g;exact⟨b,x,y.at λob z=>q b ob z<|.inr<|.inl ⟨i,x⟩⟩
 .obtain⟨a,m⟩:=p;cases m with|ns m=>exact u.ns (S.loc _ w).1|ob o=>exact q a o (S.loc _ w).1<|.inr<|.inr ⟨o,w⟩
 .have h:∀r,s.heap.get? b=some r->((X.h₀.get? b=some r)\/(∃i,l i=some b)\/∃ob,(b,Pt.ob ob)∈n)->t.get? b=some o:=λr e f=>by
   have d:=q b r e f;rw[d] at g;injection g with g
   rw[g.symm];exact v b r e f
  rcases z with z|⟨i,z⟩|⟨ob,z⟩
  .exact h o (S.keep b o z)<|.inl z
  .obtain⟨r,e⟩:=(S.new i b z).2;exact h r e<|.inr<|.inl ⟨i,z⟩
  .exact h ob (S.loc _ z).1<|.inr<|.inr ⟨ob,z⟩
theorem pO.drop(y:pO X v (p::u) x h):pO X v u x h:=λb o g z=>y b o g (z.imp id (Or.imp id λw=>w.elim λob z=>⟨ob,.tail _ z⟩))
theorem TU(S:X.St ρ H r s)(hl:A.frames=some l)(F:pP A (df r)):(Ay s.heap (l.filterMap (·.frame))).StaysIn s.heap/\s.heap.FunFrames (Ay s.heap (l.filterMap (·.frame))) l/\pO X ρ r (Ay s.heap (l.filterMap (·.frame))) s.heap:=by
 obtain⟨l',d,C⟩:=F;have el:l'=l:=by rw[hl] at d;exact(Option.some.inj d).symm
 rw[el] at C;have ns:∀v∈l,v.scope.kind≠.module/\∃L m,v.frame=some L/\(L,Pt.ns m)∈r:=λv c=>(C v c).elim λa N=>N.elim λL P=>P.elim λhL e=>(Ck hL).elim λm j=>⟨a,L,m,e,j⟩;refine⟨λb o e=>N_ _ e,?_,λb o g z=>Oa _ g λj=>?_⟩
 .have go:∀k:List Env,(∀v∈k,v∈l)->s.heap.FunFrames (Ay s.heap<|l.filterMap (·.frame)) k:=by
   intro k
   induction k with|nil=>intro _;trivial|cons v k Q=>intro R;obtain⟨a,L,m,e,j⟩:=ns v<|R v<|.head _;obtain⟨o,es,ep,ho,hd,_⟩:=(S.loc _ j).1;exact⟨a,⟨L,o,e,wq _<|List.mem_filterMap.mpr ⟨v,R v<|.head _,e⟩,ho,λu q=>by rw[hd] at q;cases q⟩,Q λv c=>R v<|.tail _ c⟩
  exact go l λy h=>h
 .obtain⟨v,c,e⟩:=List.mem_filterMap.mp j;obtain⟨_,L,m,E,f⟩:=ns v c;have x:L=b:=by rw[e] at E;exact(Option.some.inj E).symm
  clear g j e;subst x;obtain⟨_,q1,q2⟩:=S.loc _ f;rcases z with z|⟨i,z⟩|⟨ob,z⟩
  .rw[q1] at z;cases z
  .exact q2 i z
  .have w:=S.apart;have Y:∀{r:Lo},(r.map (·.1)).Nodup->(L,Pt.ns m)∈r->(L,Pt.ob ob)∈r->False:=by
    intro r
    induction r with|nil=>intro _ h;cases h|cons p r Q=>
     intro Z n t;rw[List.map_cons,List.nodup_cons] at Z;refine f_ n (λn=>?_) λn=>?_
     .refine f_ t (λt=>?_) λt=>?_
      .rw[n.symm] at t;injection t with _ t;cases t
      .exact Z.1 (by rw[n.symm];exact List.mem_map.mpr ⟨_,t,rfl⟩)
     .refine f_ t (λt=>?_) λt=>?_
      .exact Z.1 (by rw[t.symm];exact List.mem_map.mpr ⟨_,n,rfl⟩)
      .exact Q Z.2 n t
   exact Y w f z
structure mO(X:Fx)g(fi:FI X.R)o fd body dvs:Prop where
 keep:tw X.K (.ref g)=true
 ho:X.h₀.get? g=some o
 hd:o.data=.func fd
 co:fd.scope.isCoroutine=false
 gen:fd.scope.isGenerator=false
 bd:fd.body=.stmts body
 cr:X.h₀.CodeRec fd.code fd.qualname
 cl:fd.closure=[]
 glob:fd.globals=jK
 blt:fd.builtins=tv
 kind:fd.scope.kind=.function
 p1:fd.params.posonlyargs=[]
 p2:fd.params.kwonlyargs=[]
 p3:fd.params.vararg=none
 p4:fd.params.kwarg=none
 p5:fd.params.args.map (·.arg)=fi.params.map am
 nd:fi.params.Nodup
 dv:(fd.defaults=.none/\dvs=[])\/∃t n,fd.defaults=.ref t/\X.h₀.get? t=some { cls:=.type "tuple",data:=.seq dvs.toArray n }
 dfl:Cj (λz=>none) X.σ fi.params fi.dfl dvs
 cells:(fd.scope.names.filter (·.2 == .cell)).map (·.1)=fi.cells.map am
 cno:fi.cells.Nodup
 pk:∀p∈fi.params,(p∉fi.cells->fd.scope.names.lookup (am p)=some .local)/\(p∈fi.cells->fd.scope.names.lookup (am p)=some .cell)
 ck:∀c∈fi.cells,fd.scope.names.lookup (am c)=some .cell
 sb:SB X ⟨fd.scope,fd.code,fd.qualname++".<locals>."⟩ body fi.body
theorem aD.relK_ext(x:bU v w)(h:aD (fM v u) l m):aD (fM w u) l m:=h.mono λz z y=>⟨y.1,y.2.ext x⟩
theorem IW(q:bD X e n)(hb:SB X sc body p)(i:cU sc c)(N:c.frame=some c.locals)(h:X.holds (p e f H (ko e k) ke))(j:cC (A.deeper c) (c.frame,c.locals::df ls) n e.hd)(hA:pP A (df ls))(S:X.St ρ H ((c.locals,.ns m)::ls) s)(F:dg X ρ f c m)(PV:gk X k ls ρ Q)(PE:fy X ke ls A ρ E):f0 X.M A (.func body c) (pQ Q E) s:=by
 obtain⟨l,hl,hA2⟩:=hA;have b:(A.deeper c).frames=some (c::l):=Az hl;refine codeAny_func<|hb e n q c i f H _ ke h ρ m ls s (A.deeper c) _ _ j S F (λρ1 fl f1 H1 m1 s1 g P y F1 w Z=>?_) ⟨λm1 ρ1 H1 s1 C x P y Fy Z=>?_,λm1 ρ1 H1 s1 h' C e1 args P y Mx Z=>?_⟩
 .cases fl with|nxt=>have e2:=w;clear w;subst e2;exact PV _ _ _ .none .none P y.drop rfl Z|brk=>exact aP Z q.stop|cnt=>exact aP Z q.stop|ret a=>obtain⟨v,e2,r⟩:=w;subst e2;exact PV _ _ _ a v P y.drop r Z
 .obtain⟨e1,a0,base,l1,rfl,R,fw,d⟩:=Fy;have el:l1=c::l:=by rw[b] at R;exact(Option.some.inj R).symm
  clear R;subst el;refine wpAny_leaves_onW b N fw λh' fw' u=>?_;obtain⟨S2,o⟩:=y.fly d fw'.1 u;exact PE _ _ _ C _ P S2.drop ⟨e1,a0,base,l,rfl,hl,fw',o.drop⟩ Z
 .obtain⟨hk,hff,d⟩:=TU y b j.2.2.2.1;refine wpAny_leaves_madeW b N hk hff Mx λh'' t fw z z u=>?_;have u2:=(aA3 Mx.keeps).trans u;obtain⟨S2,o⟩:=y.fly d fw.1 u2;exact PE _ _ _ C _ P S2.drop ⟨e1,.ref t,_,l,rfl,hl,fw,o.drop⟩ Z
theorem TV(N:X.Ok)(F:mO X g fi o fd body dvs)(f:bD X e n)(h:X.holds (enter e fi [] b kw H k ke))(w:rU A (df ls) (n+1) e.hd)(S:X.St ρ H ls s)(rp:aD (aE ρ X.σ) b pos')(rk:aD (fM ρ X.σ) kw kw')(PV:gk X k ls ρ Q)(PE:fy X ke ls A ρ E):f0 X.M A (.call (.ref g) ⟨pos',kw'⟩) (pQ Q E) s:=by
 refine bw f (h) λgiven h1 h2=>?_;refine eY f h2 λh3 h4=>?_;refine bw f h4 λbinds h5 h6=>?_;have hro:=S.keep _ _ F.ho;refine ap7 (by have:=w.1;exact(lin [A.depth,n,pj] 0x24c1858350421408b500a041) this) hro F.hd F.co F.gen F.bd (F.cr.keeps S.keep) ?_;refine IR F.nd h1 h3 h5 rp rk (hd:=⟨F.dfl.1,F.dfl.2.relK_ext λz z e=>by cases e⟩) F.p1 F.p2 F.p3 F.p4 F.p5 (λQ hq=>?_) λbs e1 rb e2=>?_
 .rcases F.dv with ⟨d1,d2⟩|⟨t,c,d1,d2⟩
  .rw[d1];clear F;subst d2;exact iw<|bz<|hq none rfl
  .rw[d1];exact an2 (S.keep _ _ d2) rfl<|hq _<|.refl _
 rw[F.cl,F.glob,F.blt];have bnd:(bs.map (·.1)).Nodup:=by
  rw[e2];have:∀{r:List Nat},r.Nodup->(r.map am).Nodup:=by
   intro r
   induction r with|nil=>intro _;exact .nil|cons x r ih=>intro h;obtain⟨h1,h2⟩:=List.nodup_cons.mp h;rw[List.map_cons,List.nodup_cons];refine⟨λhm=>?_,ih h2⟩;refine jL hm λy hy e=>?_;exact h1<|iT e▸hy
  exact this F.nd
 have C:wo (s.heap.objs.size+1) fd.scope.names []=se (s.heap.objs.size+1) fi.cells []:=TQ _ _ _ _ F.cells;refine wpAny_newFunctionEnv_cells F.kind (λx u=>?_) λenv henv s' IC=>?_
 .have hx':x.1∈fi.params.map am:=by rw[e2.symm];exact List.mem_map.mpr ⟨x,u,rfl⟩
  refine jL hx' λp d ep=>?_
  by_cases hc:p∈fi.cells
  .refine .inr ⟨by rw[ep.symm];exact(F.pk p d).2 hc,?_⟩;obtain⟨j,hj⟩:=List.getElem?_of_mem hc;rw[C,<-ep,IV F.cno _ _ _ _ hj];rfl
  .exact .inl (by rw[ep.symm];exact(F.pk p d).1 hc)
 .subst henv;obtain⟨h',tk,es⟩:=IC.toInCall.same;have R:X.St ρ H ls s':=by rw[es];exact S.keeps (by have:=IC.toInCall.keep;rw[es] at this;exact this)
  have P:∀y,tx (newEnv fd.scope s.heap.objs.size jK (wo (s.heap.objs.size+1) fd.scope.names []) (fd.qualname++".<locals>.") (some g) fd.code none tv) y=fd.scope.names.lookup y:=λy=>rfl;have Z:=S.fresh_at (Nat.le_refl _);have S1m:X.St ρ H ((s.heap.objs.size,.ns (Ax (λy=>fd.scope.names.lookup y) bs λz=>none))::ls) s':=R.mark IC.toInCall.ns Z;have hcell:∀j c,fi.cells[j]?=some c->s'.heap.IsCell (s.heap.objs.size+1+j) (Gg (λy=>fd.scope.names.lookup y) bs (λz=>none) (am c))/\(X.h₀.get? (s.heap.objs.size+1+j)=none/\(∀i,ρ i≠some (s.heap.objs.size+1+j))/\s.heap.objs.size+1+j∉((s.heap.objs.size,Pt.ns (Ax (λy=>fd.scope.names.lookup y) bs λz=>none))::ls).map (·.1))/\
    dD ρ X.σ (ae binds c) (Gg (λy=>fd.scope.names.lookup y) bs (λz=>none)<|am c):=by
   intro j c hj;have fr:=S.fresh_at (a:=s.heap.objs.size+1+j)<|lin [s.heap.objs.size,j] 3659932934177;refine⟨IC.cell (am c) _ ?_,⟨fr.1,fr.2.1,?_⟩,?_⟩
   .show(wo (s.heap.objs.size+1) fd.scope.names []).lookup (am c)=_;rw[C,IV F.cno _ _ _ _ hj]
   .rw[List.map_cons,List.mem_cons];refine λq=>q.elim (λq=>?_) fr.2.2
    dsimp only at q
    exact((lin [s.heap.objs.size,j] 5237534932600065) q).elim
   .have hc:=F.ck c<|List.mem_of_getElem? hj;rw[IT (by rw[hc];exact nofun) bs _ bnd];have:=n0 c rb
    simpa using this
  obtain⟨ρ1,H1,cl,x1,S2,rc,h7⟩:=TT fi.cells (s.heap.objs.size+1) [] [] H ρ h6 S1m trivial hcell;refine⟨N.nolimit.keeps S2.keep,IW (m:=Ax (λy=>fd.scope.names.lookup y) bs λz=>none) f F.sb ⟨rfl,rfl,rfl,F.kind,rfl,rfl⟩ rfl h7 ?_ w.2.2.2 S2 ⟨λx a u=>?_,λx i u=>?_⟩ (PV.ext x1)<|PE.ext x1⟩
  .obtain⟨l,hl,hA2⟩:=w.2.2.2;refine⟨?_,?_,w.2.2.1,⟨_,Az hl,λv hv=>?_⟩,_,_,Az hl,rfl⟩
   .show A.depth+1+4*n+10<_;have:=w.1;exact(lin [A.depth,n,pj] 0x1260d41485022c4a014058350421408b500a041) this
   .show A.units+3+32*n+88<_;have:=w.2.1;exact(lin [A.units,n,gp] 0x1260d4b085102c4a034058352021440b500a041) this
   .refine bk hv ?_ λhv=>?_
    .refine⟨?_,s.heap.objs.size,.head _,rfl⟩;show fd.scope.kind≠.module;rw[F.kind];exact λh=>by cases h
    .obtain⟨q1,L,q2,q3⟩:=hA2 v hv;exact⟨q1,L,.tail _ q2,q3⟩
  .obtain⟨hx1,hx2⟩:=IU (by rw[e1];exact F.nd) u;have d:x∈fi.params:=by
    rw[e1.symm];have:∀{l:iJ},ae l x=some a->x∈l.map (·.1):=by
     intro l
     induction l with|nil=>intro h;cases h|cons p l ih=>
      intro h;rw[b3] at h
      by_cases e:p.1=x
      .rw[e.symm];exact .head _
      .rw[aq e] at h;exact .tail _<|ih h
    exact this hx2
   have hkl:=(F.pk x d).1 hx1;refine⟨hkl,?_⟩;have:=n0 x rb;rw[hx2] at this;obtain⟨v,hv,rv⟩:=mJ this;refine⟨v,?_,rv.ext x1⟩;rw[IS hkl bs _ bnd,hv];rfl
  .obtain⟨a,ha,hla⟩:=TS x rc i u;refine⟨a,ha,?_⟩;show(wo (s.heap.objs.size+1) fd.scope.names []).lookup (am x)=_;rw[C];exact hla
inductive xG(X:Fx)C:Prop
 |mk (nm q) N (bs bm) hdct sn sub ab col dd (k0 k1 k2 k3 k5) (B newId initId) (mN:Str->Option au)
  (FF:ExcBaseFacts B newId initId bm) (hn:mN "__init__" = none) (hN:X.h₀.Ns N mN) (hC:X.h₀.get? C=some (excClassObj nm q C N bs bm hdct sn sub ab col dd k0 k1 k2 k3 k5 newId)):xG X C
def gK(z:Nat)(e:EV X.R)(a:AV)(r:X.R):X.R:=AV.m e.stop a (glo:=λC=>J (Nat.beq C z) r e.stop)
theorem TX(z:bD X e n)(h:X.holds (gK y e a r)):a=.glo y/\X.holds r:=by
 cases a with|glo C=>refine eY z (h) λw x=>?_;exact⟨by rw[Nat.eq_of_beq_eq_true w],x⟩|_=>exact aP h z.stop
theorem TY(h:X.holds r):X.holds (gK z e (.glo z) r):=by
 show X.holds (J (Nat.beq z z) r e.stop);rw[Nat.beq_refl];exact h
theorem TZ(EC:xG X C)(hn:SE X sc (.Name x np) (ah (.glo C)))(P:pW R)(ha:SL X sc R l):SS X sc (.Raise (some (.Call (.Name x np) R [] c)) none i) (BA C l):=by
 obtain⟨r,q,N,bs,bm,Z,sn,sub,ab,y,dd,o,k1,k2,k3,k5,d,newId,initId,mN,FF,hni,hN,hC⟩:=EC;intro e n z b p f H k ke hh ρ m ls s A Q E t S F PV PE;refine ee z (hh) λhd h1=>?_;refine wpAny_Raise_call_sub (C:=C) (nm:=r) (q:=q) (N:=N) (bs:=bs) (hdct:=Z) (sn:=sn) (sub:=sub) (ab:=ab) (col:=y) (dd:=dd) (k0:=o) (k1:=k1) (k2:=k2) (k3:=k3) (k5:=k5) FF (t.2.2.1 hd) (P c b) hni ?_;refine hn e n z b p f H (λa h=>gK C e a<|l e f h (λw h=>fK e w<|ke C h) ke) ke (TY h1) ρ m ls s A _ E t S F (λρ1 H1 s1 a v x1 g j g1=>?_)<|PE.1 m
 .obtain⟨ea,g2⟩:=TX z g1;clear g1;subst ea;refine⟨j,Id (P c b) rfl ?_⟩;refine ha e n z b p f H1 _ ke g2 ρ1 m ls s1 A _ E t g (F.ext x1) (λρ2 H2 s2 w u x2 S2 r2 g3=>?_) ((PE.1 m).ext x1) c;refine gV z g3 λhl g4=>?_;refine am6 ?_;refine⟨rfl,?_,S2.keep _ _ hC,hN.keeps S2.keep,λh' e1 mx=>PE.2 m ρ2 H2 s2 h' C e1 u (x1.trans x2) S2 mx g4⟩;have:=r2.length;have:=hK;show u.length<=_;exact(lin [w.length,u.length,eV] aj0) hl ‹_› this
theorem T7(h:a.frame=b.frame):Ob x a=Ob x b:=by
 delta Ob PySem.frameOf;rw[h]
def xH(X:Fx)(w:bJ)(x:Str)(v:au):Prop:=∀y,cU w y->∀(z:Pos)(s:aU)(A:dH)(Q:tY1)(E:tY1),(∀b o,X.h₀.get? b=some o->s.heap.get? b=some o)->Q v s->aF X.M A (gN (.Name x z) y) Q E s
theorem T8(w:X.Ok)(m:i.names.lookup x=some .globalImplicit)(hd:(x == ("__debug__" : Str))=false)(p:X.mg x=some v\/(X.mg x=none/\X.mb x=some v)):xH X i x v:=by
 intro u z y s A Q E keep q;have k:=w.hmg.keeps keep;have l:=w.hmb.keeps keep;refine v_ ?_ hd;have t:u.blockKind=.function:=by delta NE;rw[z.scope,z.kind];rfl
 have r:u.scope.kind.isAnnotationScope=false:=by rw[z.scope,z.kind];rfl
 have o:u.kindOf x=some .globalImplicit:=by delta tx;rw[z.scope];exact m
 have j:aF X.M A (FG u x) Q E s:=by
  delta FG;rw[z.glob,z.blt];refine aI<|FH k ?_;rcases p with p|⟨p,n⟩
  .rw[p];exact bz q
  .rw[p];refine aI<|FH l ?_;rw[n];exact bz q
 delta loadName;rw[r,t,o];exact j
theorem bD.inH(z:bD X e n):bD X (inH e) n:=⟨z.stop,z.chk,z.call,z.clos,z.lvl⟩
theorem cC.mark(h:cC A fs n hd)x:cC (A.mark x) fs n true:=⟨h.1,h.2.1,λh=>Bool.noConfusion h,h.2.2.2.1,h.2.2.2.2⟩
theorem T_(EC:xG X D)(hs:∀env,Ar [tgt] o apos.line env=pure false)(hw:∀env,wl [tgt] o env=pure none)(hn:∀env:Env,l9 [tgt] env=[(false,l8 tgt env)])(ht:SP X sc tgt (aQ c))(hq:SE X sc o q)(hnm:xH X sc t (.ref D))(hh1:SB X sc (j::suite) hb)(ho:SB X sc orelse op):SS X sc (.Try [.Assign [tgt] o apos] [.ExceptHandler (some (.Name t tp)) none (j::suite) hpos] orelse [] d) (BB c q D hb op):=by
 obtain⟨P,q',N,bs,bm,hdct,sn,sub,ab,R,dd,k0,k1,k2,k3,k5,B',newId,initId,mN,FF,hni,hN,hCls⟩:=EC;intro e n y env u f H k ke hh ρ m ls s A Q E w S F PV PE;refine wpAny_Try_except ?_;refine NP<|am2 (hq e n y env u f H _ _ hh ρ m ls s A _ _ w S F (λρ1 H1 s1 a v x1 p Z h1=>?_) λρ1 H1 s1 C x x1 p Fy h1=>?_) (hs env)<|hw env
 .rw[hn];refine ht e n y env u a f H1 (λf h=>op e f h k ke) (eB e) h1 ρ1 m ls s1 A _ _ v w p (F.ext x1) Z (λρ2 f2 H2 m2 s2 x2 S2 F2 h2=>tA ?_)<|nZ y;exact ho e n y env u f2 H2 k ke h2 ρ2 m2 ls s2 A Q E w S2 F2 (λρ3 fl f3 H3 m3 s3 b x3 g F3 r3 h3=>PV _ _ _ _ _ _ _ (x1.trans<|x2.trans x3) g F3 r3 h3)<|PE.ext<|x1.trans x2
 .refine eY y (h1) λhC h2=>?_;have eC:=Nat.eq_of_beq_eq_true hC;clear hh h1 hC;subst eC;refine ee y h2 λhd h3=>?_;obtain⟨e1,a0,base,l,rfl,hl,fw,B⟩:=Fy;obtain⟨v,r,hl2,hv⟩:=w.2.2.2.2;obtain⟨l',hl3,hF⟩:=w.2.2.2.1;have el:l=v::r:=by rw[hl] at hl2;exact Option.some.inj hl2
  have el':l'=v::r:=by rw[hl3] at hl2;exact Option.some.inj hl2
  clear hl3;subst el el';obtain⟨_,L,_,hvL⟩:=hF v<|.head _;rw[T7 hv.symm];refine wpAny_looks_onW hl hvL fw λh4 held u1=>wpAny_landsW held λh5 fw2 u2=>?_;obtain⟨S5,B5⟩:=p.fly B fw2.1<|u1.trans u2;have AM:=cC.mark w<|some<|.ref e1;refine wpAny_handleBy_cons (codeAny_handlers_test<|hnm env u tp _ _ _ _ S5.keep ?_) (by intro z;cases z);obtain⟨ob,hob,hcls⟩:=fw2.there;refine wpAny_excMatches_sub_self (S5.keep _ _ hCls) hob hcls FF.hasBase ?_;refine codeAny_handlers_suite<|lands_againW fw2 λh6 fw3 u3=>?_;obtain⟨S6,B6⟩:=S5.fly B5 fw3.1 u3;exact hh1 (inH e) n y.inH env u f H1 k (eB e) h3 ρ1 m ls _ _ _ _ AM S6 (F.ext x1) (λρ7 fl f7 H7 m7 s7 b i S7 F7 r7 h7=>PV _ _ _ _ _ _ _ (x1.trans i) S7 F7 r7 h7)<|nZ y
theorem St.newUpd(S:St prog w h₀ os₀ h P H A s)(m:H.get i=some o0)(e:h i=some a)(k:∀b ob,b≠a->s.heap.get? b=some ob->Q.get? b=some ob)(hc:s.heap.objs.size<=c)(C:cb prog w (St.put h H.n c) P Q c oc)(r:cb prog w (St.put h H.n c) P Q a o):St prog w h₀ os₀ (St.put h H.n c) P ((H.new oc).set i o) A ⟨Q,s.gens,d,tk,s.os⟩:=by
 have X:bU h (St.put h H.n c):=St.put_ext<|S.top _<|Nat.le_refl _;have fr:=S.fresh_at hc;have F:i≠H.n:=λq=>by rw[q,S.top _<|Nat.le_refl _] at e;cases e
 refine⟨λb ob g=>k b ob (λq=>by subst q;rw[(S.new i b e).1.2 _ m] at g;cases g)<|S.keep b ob g,λj E g=>?_,λj b g=>?_,λj R b e1 e2=>?_,λj N=>?_,λp v=>⟨(S.loc p v).1.keeps λo g=>k _ _ (λq=>(S.loc p v).2.2 i<|q▸e) g,(S.loc p v).2.1,λj q=>?_⟩,S.apart,S.gens,S.os⟩
 .rw[AH.get_set] at g
  by_cases q:j=i
  .clear m F;subst q;rw[aw rfl] at g;cases g;exact⟨a,X _ _ e,r⟩
  .rw[aq q,AH.get_new] at g
   by_cases t:j=H.n
   .subst t;rw[aw rfl] at g;cases g;exact⟨c,St.put_self ..,C⟩
   .rw[aq t] at g;obtain⟨b,x,y⟩:=S.cell j E g;exact⟨b,X _ _ x,(y.at λob z=>k b ob (λf=>q<|S.inj _ _ _ x<|f▸e) z).ext X⟩
 .unfold St.put at g
  by_cases q:j=H.n
  .rw[aw q] at g;cases g;exact⟨⟨.inl fr.1,λu u=>fr.1⟩,C.there⟩
  .rw[aq q] at g;refine⟨⟨(S.new j b g).1.1,λE Z=>?_⟩,?_⟩
   .rw[AH.get_set] at Z
    by_cases f:j=i
    .clear e F Z;subst f;exact(S.new j b g).1.2 _ m
    .rw[aq f,AH.get_new,aq q] at Z;exact(S.new j b g).1.2 _ Z
   by_cases t:b=a
   .clear e k;subst t;exact r.there
   .obtain⟨o,g⟩:=(S.new j b g).2;exact⟨o,k _ _ t g⟩
 .unfold St.put at e1 e2
  by_cases l:j=H.n<;>by_cases t:R=H.n
  .rw[l,t]
  .rw[aw l] at e1;rw[aq t] at e2;cases e1;exact aP e2<|fr.2.1 R
  .rw[aq l] at e1;rw[aw t] at e2;cases e2;exact aP e1<|fr.2.1 j
  .rw[aq l] at e1;rw[aq t] at e2;exact S.inj j R b e1 e2
 .rw[AH.n_set,AH.n_new] at N;unfold St.put;rw[aq<|by exact(lin [H.n,j] 0x24f7044d1280501) N];exact S.top j (by exact(lin [H.n,j] 5181460644889857) N)
 .unfold St.put at q
  by_cases l:j=H.n
  .rw[aw l] at q;injection q with q
   exact fr.2.2<|List.mem_map.mpr ⟨p,v,q.symm⟩
  .rw[aq l] at q;exact(S.loc p v).2.2 j q
structure Cl(X:Fx)(sc:bJ)(g q l c)name(params:AA)body(scope:gM)(pos:Pos)(free:List Nat):Prop where
 code:∃cc,sc.cd=.ref cc/\CodeHd X.h₀ cc X.σ.tp
 qual:sc.ql++name=am q
 kd:sc.names.lookup name≠some .globalExplicit
 line:pos.line=l
 col:pos.col=c
 d0:params.defaults=[]
 k0:params.kw_defaults=[]
 ann:∀env,Oc params none env=[]
 nf:∀clos doc pm c' ctv,X.σ.nf g q<|fnX name (am q) params body scope clos .none .none doc pm none (.ref c') ctv
 free:∀x,x∈(scope.names.filter (·.2 == .free)).map (·.1)↔∃y∈free,x=am y
 gP:jK≠X.σ.tp
 blt:X.h₀.BuiltinsAt X.mg X.σ.tp
theorem IX(h:w6 r l=some cl):(∀x∈r,∃i,ae l x=some i)/\∀x i,ae cl x=some i->x∈r/\ae l x=some i:=by
 induction r generalizing cl with
 |nil=>
  injection h with h
  subst h;exact⟨λz h=>aP h List.not_mem_nil,λx i h=>by cases h⟩
 |cons y r q=>
  refine ba (h) λi u h=>?_;refine ba h λm t h=>?_;injection h with h
  subst h;obtain⟨p,s⟩:=q t;refine⟨λx w=>?_,λx j v=>?_⟩
  .exact bk w (⟨i,u⟩) λw=>(p x w)
  .rw[b3] at v
   by_cases e:y=x
   .subst e;rw[aw rfl] at v;injection v with v
    subst v;exact⟨.head _,u⟩
   .rw[aq e] at v;obtain⟨a,b⟩:=s x j v;exact⟨.tail _ a,b⟩
theorem IY(h:∀x∈(scope.names.filter (·.2 == .free)).map (·.1),∃a,u.cells.lookup x=some a):∃clos,closureFor scope u=pure clos/\∀x∈(scope.names.filter (·.2 == .free)).map (·.1),clos.lookup x=u.cells.lookup x:=by
 have f:∀(y:List (Str×NameKind))t,(∀x∈(y.filter (·.2 == .free)).map (·.1),∃a,u.cells.lookup x=some a)->(∀x a,t.lookup x=some a->u.cells.lookup x=some a)->
   ∃clos,(forIn y t (λx t=>match x with|(name,kind)=>if(kind == ap8)=true then do let c <-cellOf u name;pure (wt<|(name,c)::t) else pure (wt t)))=pure clos/\
    (∀x∈(y.filter (·.2 == .free)).map (·.1),clos.lookup x=u.cells.lookup x)/\(∀x a,t.lookup x=some a->clos.lookup x=some a)/\∀x a,clos.lookup x=some a->u.cells.lookup x=some a:=by
  intro y
  induction y with|nil=>intro t _ k;exact⟨t,rfl,λz h=>aP h List.not_mem_nil,λz z h=>h,k⟩|cons p y g=>
   intro t r k;obtain⟨v,kd⟩:=p;rw[List.forIn_cons]
   dsimp only at r ⊢
   by_cases q:(kd == ap8)=true
   .rw[aw q];rw[List.filter_cons,aw q] at r ⊢;obtain⟨a,j⟩:=r v<|.head _;have e1:cellOf u v=pure a:=by delta cellOf;rw[j]
    rw[e1];have m:∀x b,((v,a)::t).lookup x=some b->u.cells.lookup x=some b:=by
     intro x b w;rw[List.lookup_cons] at w
     by_cases e:x=v
     .clear r e1;subst e;rw[beq_self_eq_true] at w;injection w with w;rw[w.symm];exact j
     .have:(x == v)=false:=by simpa using e
      rw[this] at w;exact k x b w
    obtain⟨clos,o,n,l,i⟩:=g ((v,a)::t) (λx w=>r x<|.tail _ w) m;refine⟨clos,o,λx w=>?_,λx b w=>?_,i⟩
    .refine f_ w (λw=>?_) λw=>?_
     .have w:=w;rw[w,j];exact l v a (by rw[List.lookup_cons,beq_self_eq_true])
     .exact n x w
    .refine l x b ?_;rw[List.lookup_cons]
     by_cases e:x=v
     .clear r e1 m o l;subst e;rw[beq_self_eq_true];have:=k _ _ w;rw[j] at this;exact this
     .have:(x == v)=false:=by simpa using e
      rw[this];exact w
   .rw[aq q];rw[List.filter_cons,aq q] at r ⊢;obtain⟨clos,o,n,l,i⟩:=g t r k;exact⟨clos,o,n,l,i⟩
 obtain⟨clos,o,n,_⟩:=f scope.names [] h (λz a h=>by cases h);refine⟨clos,?_,n⟩;exact(aT (· >>= λs=>pure s) o).trans rfl
theorem Ua{h p:cm}(x:h.BuiltinsAt mg P)(k:∀b o,h.get? b=some o->p.get? b=some o):p.BuiltinsAt mg P:=
 x.elim λbm u=>u.elim λo v=>v.elim λa y=>y.elim λb t=>t.elim λc w=>w.elim λd z=>z.elim λe r=>⟨bm,o,a,b,c,d,k _ _ e,r⟩
theorem IZ(u:name=am nx)(w:cU sc env)(r:env.kindOf name=some .local)(F:dg X ρ f env m)(d:jT X k env ls ρ Q)(j:bU ρ t)(y:X.St t b ((env.locals,.ns m)::ls) h)(x:aE t X.σ (.ref i) v)(a:X.holds (k .nxt ⟨bL f.loc nx (.ref i),f.cel⟩ b)):aF X.M A (storeName env name v) (λz p=>Q .next p) E h:=by
 refine FS r (y.loc _<|.head _).1 (λZ o sb=>?_)<|xr w;rw[u] at o r;exact d _ .nxt _ _ _ _ _ j (y.locS sb o) ((F.ext j).put r x) rfl a
theorem Ub(EV:bD X e n)(h:X.holds (GZ e g q l c cl k H o)){z:Prop}(j:∀y,o=.tab l c y->X.holds (GY e g q l c cl k H y)->z):z:=by
 cases o with|tab v u y=>refine eY EV h λw h=>eY EV h λx h=>j y ?_ h;rw[Nat.eq_of_beq_eq_true w,Nat.eq_of_beq_eq_true x]|_=>exact aP h EV.stop
section
variable {sc:bJ}{g q l c nx:Nat}{name:Str}{params:AA}{body:List bv}{scope:gM}{pos:Pos}{free:List Nat}{env:Env}{f:aK}{H:AH}{k:KS X.R}{ke:KE X.R}{e:EV X.R}{n:Nat}{ls:Lo}{ρ:bu}{m:Str->Option au}{s:aU}{A:dH}{Q:pr->aU->Prop}{E:tY1}
theorem Uc(z:Cl X sc g q l c name params body scope pos free)(y:cU sc env):qualnameIn env name name=am q:=by
 delta qualnameIn;rw[show(env.kindOf name == some NameKind.globalExplicit)=false by rw[pU y];simpa using z.kd,y.ql];exact z.qual
end
theorem Ud(j:X.Ok){sc:bJ}{free:List Nat}(z:Cl X sc g q l c name params body scope pos free)(w:name=am nx)(hloc:sc.names.lookup name=some .local):SS X sc (.FunctionDef name params body [] none [] scope none name pos) (xi (aQ nx) g q l c free):=by
 intros
 refine bw G Z λcl hcl h1=>bw G h1 λo ho h2=>?_;obtain⟨c1,c2⟩:=IX hcl;have hfree:∀x∈(scope.names.filter (·.2 == .free)).map (·.1),∃a,W.cells.lookup x=some a:=by intro x w;obtain⟨y,hy,e⟩:=(z.free x).mp w;obtain⟨i,hi⟩:=c1 y hy;obtain⟨a,_,ha⟩:=F.cel y i hi;exact⟨a,by rw[e];exact ha⟩
 obtain⟨clos,h,hcl2⟩:=IY hfree;have C:∀ρ':bu,bU R ρ'->lk ρ' cl clos:=by intro ρ' x1 y i hi;obtain⟨hy,hl⟩:=c2 y i hi;obtain⟨a,ha,hla⟩:=F.cel y i hl;exact⟨a,x1 _ _ ha,by rw[hcl2 _<|(z.free _).mpr ⟨y,hy,rfl⟩];exact hla⟩
 obtain⟨cc,hcc,p⟩:=z.code;have P:=Y.cd.trans hcc;have hg:=j.hmg.keeps S.keep;have hb:=Ua z.blt S.keep;have CH':=p.keeps S.keep;have hl:W.kindOf name=some .local:=by rw[pU Y];exact hloc
 refine Ub G h2 λci eo h4=>?_;rw[eo] at ho;obtain⟨a,ha,ea,r⟩:=S.cell 0 _ ho;rw[ea] at ha r;refine nestDef_K z.d0 z.k0 (z.ann W) ?_;rw[Uc z Y];cases ci with
 |none=>
  have h5:=h4;have hP:=r;refine makeFunction_K h Y.glob hg P CH' hP trivial rfl z.gP hb λN ctv doc h' tk hxb hge hlt hrec htb=>?_;have X1:=St.put_ext (a:=N)<|S.top _<|Nat.le_refl _;obtain⟨cy,oc,u,t,e1,hoc,hd,hv⟩:=hrec;have e2:N=cy:=by injection e1
  subst e2;have htb':h'.get? X.σ.tp=some (pi #[iH l,iH c,.ref N]):=by rw[htb,z.line,z.col];simp
  have v:=S.newUpd (tk:=tk) (d:=s.drawn) (i:=0) (c:=N) (oc:=.code q) (o:=.tab l c (some H.n)) ho ha (λb ob hb g=>hxb b ob hb g) hge ⟨oc,u,t,hoc,hd,hv⟩ ⟨rfl,N,St.put_self ..,htb'⟩;have X2:=St.put_ext (a:=h'.objs.size) (v.top _ (Nat.le_refl _));have S2:=v.new1 (ob:=fnMade name (am q) params body scope clos doc ((X.mg "__name__").getD .none) N ctv) (o:=.fn g q H.n cl)
   ⟨_,N,d8 _ rfl,z.nf _ _ _ _ _,X2 _ _<|St.put_self ..,rfl,C _<|X1.trans X2⟩
  refine IZ (i:=Nat.succ H.n) w Y hl F K (X1.trans X2) S2 ⟨_,?_,rfl⟩ h5;have m:((H.new<|.code q).set 0<|.tab l c<|some H.n).n=Nat.succ H.n:=by rw[AH.n_set,AH.n_new]
  have m:=St.put_self (St.put R H.n N) ((H.new<|.code q).set 0<|.tab l c<|some H.n).n h'.objs.size;rw[AH.n_set,AH.n_new] at m ⊢;exact m
 |some i=>
  refine eY G (h4) λhci h5=>?_;obtain⟨x,hix,hP⟩:=r;have hf:codeAmong pos (#[iH l,iH c,.ref x]:Array au).toList=some (.ref x):=by show(if((l:Int) == pos.line && (c:Int) == pos.col)=true then some (Gf x) else codeAmong pos [])=_;rw[z.line,z.col];simp
  refine makeFunction_hit (mg:=X.mg) h Y.glob hg P CH' hP trivial hf hb λctv doc h' tk hk hsz=>?_;have v:=S.keeps (h':=h') (tk:=tk) (d:=s.drawn) hk;have X2:=St.put_ext (a:=h'.objs.size) (S.top _ (Nat.le_refl _));have S2:=v.new1 (ob:={ cls:=.type "function",data:=.func (fnX name (am q) params body scope clos .none .none doc ((X.mg "__name__").getD .none) none (.ref x) ctv) }) (o:=.fn g q i cl)
   ⟨_,x,d8 _ rfl,z.nf _ _ _ _ _,X2 _ _ hix,rfl,C _ X2⟩
  exact IZ w Y hl F K X2 S2 ⟨_,St.put_self ..,rfl⟩ h5
structure Cm(X:Fx)q(fi:FI X.R)(fd:tu)body:Prop where
 co:fd.scope.isCoroutine=false
 gen:fd.scope.isGenerator=false
 bd:fd.body=.stmts body
 ql:fd.qualname=am q
 glob:fd.globals=jK
 blt:fd.builtins=tv
 kind:fd.scope.kind=.function
 p1:fd.params.posonlyargs=[]
 p2:fd.params.kwonlyargs=[]
 p3:fd.params.vararg=none
 p4:fd.params.kwarg=none
 p5:fd.params.args.map (·.arg)=fi.params.map am
 nd:fi.params.Nodup
 dv:fd.defaults=.none
 dfl:fi.dfl=[]
 cells:∀x∈fd.scope.names,x.2≠.cell
 ce:fi.cells=[]
 pk:∀p∈fi.params,fd.scope.names.lookup (am p)=some .local
 sb:SB X ⟨fd.scope,fd.code,fd.qualname++".<locals>."⟩ body fi.body
theorem Ue:∀{z:List Nat},z.Nodup->(z.map am).Nodup:=by
 intro s
 induction s with|nil=>intro _;exact .nil|cons x z v=>intro h;obtain⟨r,t⟩:=List.nodup_cons.mp h;rw[List.map_cons,List.nodup_cons];refine⟨λw=>?_,v t⟩;refine jL w λy u e=>?_;exact r<|iT e▸u
theorem Uf:∀{l:List (Str×au)},(l.map (·.1)).Nodup->l.reverse.lookup x=l.lookup x:=by
 intro w
 induction w with|nil=>intro _;exact rfl|cons p l z=>
  intro h;obtain⟨y,v⟩:=p;rw[List.map_cons,List.nodup_cons] at h;rw[List.reverse_cons,IP,z h.2,lookup_cons,lookup_cons]
  by_cases e:y=x
  .clear z;subst e;have t:l.lookup y=none:=by
    cases q:l.lookup y with|none=>rfl|some u=>exact aP (List.mem_map.mpr ⟨(y,u),mem_of_lookup q,rfl⟩) h.1
   rw[t,aw rfl,aw rfl];rfl
  .rw[aq e,aq e];simp
theorem Ug(P:X.Ok)(NA:∀F,X.σ.nf g q F->Cm X q fi F body)(w:bD X e n)(hi:H.get i=some (.fn g q ci caps))(hci:H.get ci=some (.code q))(h:X.holds (enter e fi caps u kw H k ke))(ha:ρ i=some a)(z:rU A (df ls) (n+1) e.hd)(S:X.St ρ H ls s)(rp:aD (aE ρ X.σ) u pos')(rk:aD (fM ρ X.σ) kw kw')(PV:gk X k ls ρ Q)(PE:fy X ke ls A ρ E):(∃k,(k=Nz\/k=NB\/k=NC)/\Looks X.M s.heap (ND (.ref a)) k)/\f0 X.M A (.call (.ref a) ⟨pos',kw'⟩) (pQ Q E) s:=by
 obtain⟨a',ha',F,x,g1,nf,f,hcd,hcap⟩:=S.cell i _ hi;have ea:a'=a:=by rw[ha] at ha';exact(Option.some.inj ha').symm
 clear ha;subst ea;obtain⟨x',hx',oc,Z,t,hoc,hd,C⟩:=S.cell ci _ hci;have R:x'=x:=by rw[f] at hx';exact(Option.some.inj hx').symm
 clear f;subst R;have N:=NA F nf;refine⟨⟨.frame,.inl rfl,(am8 g1).andThen .now⟩,?_⟩;refine bw w (h) λgiven h1 h2=>?_;refine eY w h2 λh3 h4=>?_;refine bw w h4 λbinds h5 h6=>?_;rw[N.ce] at h6;have h7:=h6;rw[N.dfl] at h5;refine ap7 (by have Y:=z.1;exact(lin [A.depth,n,pj] 0x24c1858350421408b500a041) Y) g1 rfl N.co N.gen N.bd ⟨x',oc,Z,t,hcd,hoc,hd,by rw[N.ql];exact C⟩ ?_;refine IR N.nd h1 h3 h5 rp rk (hd:=⟨Nat.zero_le _,by rw[List.zip_nil_right];trivial⟩) N.p1 N.p2 N.p3 N.p4 N.p5 (λQ hq=>?_) λbs e1 rb e2=>?_
 .rw[N.dv];exact iw<|bz<|hq none rfl
 rw[N.glob,N.blt];have bnd:(bs.map (·.1)).Nodup:=by rw[e2];exact Ue N.nd
 refine ap9 N.cells (λy hy=>?_) (λh' hns hsb=>?_) N.kind
 .have hy':y.1∈fi.params.map am:=by rw[e2.symm];exact List.mem_map.mpr ⟨y,hy,rfl⟩
  refine jL hy' λp r ep=>?_;rw[ep.symm];exact N.pk p r
 .have hk:∀b o,s.heap.get? b=some o->h'.get? b=some o:=λb o g=>(hsb.2 b (Nat.ne_of_lt (d3 g))).trans (fZ _ g);have c:=(S.keeps (tk:=s.toks+bs.length) (d:=s.drawn) hk).mark (m:=.ns λx=>bs.reverse.lookup x) hns (S.fresh_at (a:=s.heap.objs.size) (Nat.le_refl _));refine⟨P.nolimit.keeps c.keep,IW (sc:=⟨F.scope,F.code,F.qualname++".<locals>."⟩) (m:=λx=>bs.reverse.lookup x) w N.sb ⟨rfl,rfl,rfl,N.kind,rfl,rfl⟩ rfl h7 ?_ z.2.2.2 c ⟨λy b hy=>?_,λy j hy=>?_⟩ PV PE⟩
  .obtain⟨l,hl,hA2⟩:=z.2.2.2;refine⟨?_,?_,z.2.2.1,⟨_,Az hl,λv C=>?_⟩,_,_,Az hl,rfl⟩
   .show A.depth+1+4*n+10<_;have Y:=z.1;exact(lin [A.depth,n,pj] 0x1260d41485022c4a014058350421408b500a041) Y
   .show A.units+3+32*n+88<_;have Y:=z.2.1;exact(lin [A.units,n,gp] 0x1260d4b085102c4a034058352021440b500a041) Y
   .refine bk C ?_ λC=>?_
    .refine⟨?_,s.heap.objs.size,.head _,rfl⟩;show F.scope.kind≠.module;rw[N.kind];exact λh=>by cases h
    .obtain⟨q1,L,q2,q3⟩:=hA2 v C;exact⟨q1,L,.tail _ q2,q3⟩
  .obtain⟨hx1,hx2⟩:=IU (by rw[e1];exact N.nd) hy;have r:y∈fi.params:=by
    rw[e1.symm];have Y:∀{l:iJ},ae l y=some b->y∈l.map (·.1):=by
     intro l
     induction l with|nil=>intro h;cases h|cons p l ih=>
      intro h;rw[b3] at h
      by_cases e:p.1=y
      .rw[e.symm];exact .head _
      .rw[aq e] at h;exact .tail _<|ih h
    exact Y hx2
   refine⟨N.pk y r,?_⟩;have Y:=n0 y rb;rw[hx2] at Y;obtain⟨v,C,rv⟩:=mJ Y;exact⟨v,by rw[Uf bnd];exact C,rv⟩
  .obtain⟨b,hb,hlb⟩:=hcap y j hy;exact⟨b,hb,hlb⟩
def Cn(scope z:gM):gM:={ scope with names:=scope.names.map λ(n,k)=>if(k == .free && z.kind == .function && z.names.lookup n == some .cell) then(n,.cell) else(n,k) }
def jh(z:bJ)(scope:gM):bJ:=⟨Cn scope z.toScope,z.cd,z.ql⟩
theorem Uh(z:cU x y)(scope:gM):Od scope y=Cn scope x.toScope:=by
 delta Od Cn tx;rw[z.scope]
theorem cU.comp(z:cU w y){scope:gM}(x:scope.kind=.function)(cl:List (Str×bI))(C:bI):cU (jh w scope) (compEnvC scope cl C y):=
 ⟨Uh z scope,z.cd,z.ql,x,z.glob,z.blt⟩
def SI(X:Fx)(t:bJ)(v:List aS)(p:XB X.R):Prop:=∀(e:EV X.R)n,bD X e n->∀y,cU t y->∀f H k u,X.holds (p e f H k u)->∀x m w s A Q E,cC A (y.frame,y.locals::df w) n e.hd->X.St x H ((y.locals,.ns m)::w) s->dg X x f y m->
 BD X k ((y.locals,.ns m)::w) x Q->fy X u ((y.locals,.ns m)::w) A x E->aF X.M A (forIn v true λc r=>if r=true then do let z <-FE c y (gN c y);pure (wt z) else pure (wt r)) Q E s
theorem Ui:SI X z [] d4:=by
 intros
 simp only[List.forIn_nil];exact bz<|K R H s true (.refl _) S Z
theorem Uj(u:ST X y c t):SI X y [c] t:=by
 intros
 simp only[List.forIn_cons,List.forIn_nil,if_true];refine aI<|aI<|u e n G W Y f H k M Z R m I s A _ E V S F (λx r q b v z w=>?_) B;exact bz<|bz<|K _ _ _ b v z w
theorem Uk(u:ST X w c t):SI X w [c] (dQ t d4):=by
 intros
 refine Uj u e n G W Y f H _ M Z R m I s A Q E V S F (λv r q b x z y=>?_) B;cases b with|true=>exact K _ _ _ true x z y|false=>exact K _ _ _ false x z y
theorem Ul(g:s.heap.get? z=some o)(w:iV ρ X.σ src i o)(q:Q (.ref z) s):aF X.M A (pu (.ref z)) Q E s:=by
 cases src with
 |lst j=>obtain⟨l,_,y,hd⟩:=w;exact wpAny_pyIter_listiter ⟨o,g,y,hd⟩ q
 |tup v=>obtain⟨l,_,y,hd⟩:=w;exact wpAny_pyIter_tupleiter ⟨o,g,y,hd⟩ q
 |rng n=>obtain⟨_,e⟩:=w;subst e;exact wpAny_pyIter_rangeiter g q
 |str l=>obtain⟨x,t,y,hd,_⟩:=w;exact wpAny_pyIter_striter_ascii ⟨o,g,y,hd⟩ q
theorem St.swap23(S:X.St z H (a::b::c::y) s):X.St z H (a::c::b::y) s:=St.perm S (.cons _ (.swap ..))
theorem Um(p:Nat->aU->Prop)(S:∀v,l_ y u v=pure ())(w:∀n s(i:tY1)(b:Option au->aU->Prop),p n s->(∀k,R (.ok .next) k->b none k)->(∀v k,(∀(o:Bool->aU->Prop),(∀s,aF X.M A (gN e l) (λx j=>aF X.M A (call (.builtin "list.append") [d,x]) (λz g=>∃m,m<n/\p m g) i j) i s->o true s)->(∀s,(∃m,m<n/\p m s)->o false s)->aF X.M A (l8 y l v) (λz f=>
     aF X.M A (forIn a true λc r=>if r=true then do let t <-FE c l (gN c l);pure (wt t) else pure (wt r)) o i f) i k)->b (some v) k)->aF X.M A (nF u) b i s)(n:Nat)(h:p n s):f0 X.M A (.compLoop (.ListComp e [⟨y,Z,a,0⟩] scope q) 0 u d l) R s:=
 codeAny_compLoop_tests p (λn s Q=>w n s _ _ Q (λz h=>h) λz z h=>h _ (λz h=>by rw[aw rfl];exact h) λz h=>by rw[aq Bool.false_ne_true];exact h) n h S
def Un(e:EV X.R)(t:XE X.R)(x:XP X.R)(v:XB X.R)(u:gU)(y:Nat)(k:AH->X.R)(c i:Nat)(f:aK)(b:Bool)(h:AH):X.R:=J b (t e f h (λw h=>ad (eA h y) e.stop λz=>fK e z (pK e t x v u y k c (i+1) f (h.set y (.list (ax z [w]))))) (eB e)) (pK e t x v u y k c (i+1) f h)
def I0(e:EV X.R)(u:XE X.R)(x:XP X.R)(z:XB X.R)(y:gU)(w:Nat)(k:AH->X.R)(c i:Nat)(f:aK)(h:AH)(v:AV):X.R:=x e v f h (λf h=>z e f h (Un e u x z y w k c i f) (eB e)) (eB e)
theorem Uo(z:bD X e n)(h:X.holds (pK e t x v w u k c i f H)){y:Prop}(g:∀s r,c=s+1->li H w i=some r->(r=none->X.holds (k H))->(∀a,r=some a->X.holds (I0 e t x v w u k s i f H a))->y):y:=by
 cases c with|zero=>exact aP h z.stop|succ c=>exact bw z (show X.holds (ad (li H w i) e.stop λr=>ad r (k H)<|I0 e t x v w u k c i f H) from h) λr p h=>g c r rfl p (λq=>by rw[q] at h;exact h) λa q=>by rw[q] at h;exact h
inductive Co(X:Fx)(ρ₁:bu)(env cenv:Env)(m₀:Str->Option au)(ls:Lo)(I:bI)(src:gU)(L:Nat->Nat->aK->AH->X.R)(c:Nat)(s:aU):Prop
 |mk (i:Nat) (f:aK) (H:AH) (ρ:bu) (m:Str->Option au) (o:Obj) (x:bU ρ₁ ρ) (S:X.St ρ H ((cenv.locals,.ns m)::(I,.ob o)::(env.locals,.ns m₀)::ls) s) (F:dg X ρ f cenv m) (io:iV ρ X.σ src i o) (h:X.holds (L c i f H)):Co X ρ₁ env cenv m₀ ls I src L c s
theorem Up(P:X.Ok)(hlt:∀i v,l_ t i v=pure ())(d:SP X sc' t x)(j:SE X sc' elt el)(p:SI X sc' ifs tst)(y:bD X e n)(u:cU sc' cenv){C:gU}(q:∀E S,cC A (cenv.frame,cenv.locals::df ((S,.ob E)::(F.locals,.ns m)::ls)) n e.hd)(hh:A.handled=none)(hD:H acc=some Q)(hR:∀ρ' H' s' m',bU H ρ'->X.St ρ' H' ((cenv.locals,.ns m')::(F.locals,.ns m)::ls) s'->X.holds (k H')->R (.ok .next) s')(c:Nat)(h:Co X H F cenv m ls S C (pK e el x tst C acc k) c s):f0 X.M A (.compLoop (.ListComp elt [⟨t,iter,ifs,0⟩] scope pos) 0 (.ref S) (.ref Q) cenv) R s:=by
 refine Um (Co X H F cenv m ls S C<|pK e el x tst C acc k) (hlt _) (λc s E' Qn hI q1 q2=>?_) c h;obtain⟨i,f2,H3,ρ2,m2,Z,x2,S5,F2,io2,hc⟩:=hI;refine Uo y hc λc' r ec hr hc1 hc2=>B4 P hh S5 (S5.loc _<|.tail _<|.head _).1 io2 hr (λa ha h' tk v' E sb g' io' rv'=>q2 _ _ λN qt qf=>?_) λhn h' hb'=>q1 _<|hR _ _ _ m2 x2 (S5.drop2 λb ob nb g=>hb' b ob nb g)<|hc1 hn;have lt:c'<c:=ec▸Nat.lt_succ_self _;refine d e n y _ u a f2 H3 _ _ (hc2 a ha) ρ2 m2 ((S,.ob E)::(F.locals,.ns m)::ls) _ A _ _ v' (q E S) (S5.loc2 (λb ob nb g=>(sb.2 b nb).trans g) g') F2 rv' (λρ3 f3 H4 m3 s3 x3 S7 F3 h3=>?_)<|nZ y;refine p e n y _ u f3 H4 _ _ h3 ρ3 m3 ((S,.ob E)::(F.locals,.ns m)::ls) s3 A _ _ (q E S) S7 F3 (λρ4 H5 s4 b x4 S8 h4=>?_)<|xv y;have x5:=(x2.trans x3).trans x4;cases b with
 |false=>exact qf _ ⟨c',lt,i+1,f3,H5,ρ4,m3,E,x5,S8,F3.ext x4,io'.ext<|x3.trans x4,h4⟩
 |true=>refine qt _<|j e n y _ u f3 H5 _ _ h4 ρ4 m3 ((S,.ob E)::(F.locals,.ns m)::ls) s4 A _ _ (q E S) S8 (F3.ext x4) (λρ5 H6 s5 w vw x6 S9 r5 h5=>bw y h5 λl hxs h6=>?_)<|xv y;refine gV y h6 λhl h7=>?_;have hDn:=x6 _ _<|x5 _ _ hD;obtain⟨us,L,f,z⟩:=fz S9 (gX hxs) hDn;have e1:=f.length;have Y:=hK;rw[eX] at h7;exact an3 L (λh' L' sb=>⟨c',lt,i+1,f3,_,ρ5,m3,E,x5.trans x6,S9.updS (o:=.list<|l++[w]) (gX hxs) hDn sb ⟨us++[vw],by rw[<-List.push_toArray];exact L',f.app ⟨r5,trivial⟩,by rw[List.length_append];exact Nat.succ_le_succ<|(lin [l.length,us.length] 0x1293400270e90b84168000fa121) hl e1⟩,(F3.ext x4).ext x6,io'.ext<|(x3.trans x4).trans x6,h7⟩) (by simp;exact(lin [l.length,us.length,eV] aj0) hl e1 Y)
theorem I1(O:X.Ok){ifs:List aS}(hcell:∀y∈scope.names,y.2≠.cell)(hkind:scope.kind=.function)(hlt:∀i v,l_ t i v=pure ())(P:SP X (jh sc scope) t x)(l:SE X (jh sc scope) elt el)(j:SI X (jh sc scope) ifs tst)(Q:bD X e n)(Z:cU sc env)(hh:X.holds (pK e el x tst src H.n k e.fuel 0 ⟨[],cl⟩ (H.new (.list [])))){RR:au->bI->v9->aU->Prop}(u:cC A (env.frame,env.locals::df ls) n e.hd)(hd:e.hd=false)(S:X.St ρ H ((env.locals,.ns m)::ls) s)(rv:aE ρ X.σ v vv)(hsrc:mC H v=some src)(hcap:lk ρ cl clos)(hR:∀ρ' H' s' F C m',bU ρ ρ'->X.St ρ' H' ((C,.ns m')::(env.locals,.ns m)::ls) s'->ρ' H.n=some F->X.holds (k H')->RR (.ref F) C (.ok .next) s'):aF X.M A (pu vv) (λN s₂=>aF X.M A (newList []) (λacc s₃=>aF X.M A (newFunctionEnv scope env.globals clos [] env.qual none .none (some env)) (λcenv s₄=>
   f0 X.M A (.compStart (.ListComp elt [⟨t,iter,ifs,0⟩] scope r) 0 N acc { cenv with scope:=Od scope env }) (RR acc cenv.locals) s₄) E s₃) E s₂) E s:=by
 have hnone:=u.2.2.1 hd;refine B0 O S rv hsrc λo io fr=>wpAny_newList ?_;have c:=S.enter2 (tk:=s.toks) (d:=s.drawn) (m:=.ob o) (λz z g=>fZ o g) (Nat.le_refl _) (d8 _ fr);have PX:=St.put_ext (a:=(s.heap.push o).objs.size) (c.top _ (Nat.le_refl _));have S2:=c.new1 (o:=.list []) ⟨[],⟨0,d8 _ rfl⟩,trivial,Nat.zero_le _⟩;refine ap9 hcell (λy hy=>(List.not_mem_nil hy).elim) (λh1 hns hsb=>?_) hkind;generalize(s.heap.push o).push { cls:=.type "list",data:=.seq ([]:List au).toArray }=H2 at S2 hns hsb ⊢;have f:=(S2.keeps (h':=h1) (tk:=s.toks+([]:List (Str×au)).length) (d:=s.drawn) λb ob g=>(hsb.2 b (Nat.ne_of_lt (d3 g))).trans (fZ _ g)).mark (m:=.ns λx=>([]:List (Str×au)).reverse.lookup x) hns (S2.fresh_at (a:=H2.objs.size) (Nat.le_refl _));have w:=Up (cenv:=compEnvC scope clos H2.objs.size env) (iter:=iter) (scope:=scope) (pos:=r) (R:=RR (.ref (s.heap.push o).objs.size) H2.objs.size) O hlt P l j Q (Z.comp hkind clos H2.objs.size)
  (λo' z=>⟨u.1,u.2.1,u.2.2.1,u.2.2.2.1.mono λy hy=>.tail _ hy,u.2.2.2.2⟩) hnone (St.put_self ..) (λρ' H' s' m' xx SS h=>hR ρ' H' s' _ _ m' (PX.trans xx) SS (xx _ _<|St.put_self ..) h) e.fuel
  ⟨0,⟨[],cl⟩,H.new<|.list [],_,_,o,.refl _,St.swap23 f,⟨λy b e=>a6 (show(none:Option AV)=some b from e),λy i e=>(hcap y i e).elim λa zz0=>zz0.elim λp q=>⟨a,PX _ _ p,q⟩⟩,io.ext PX,hh⟩
 exact codeAny_compStart_list w<|Ul (X:=X) (ρ:=ρ) (src:=src) (i:=0) (o:=o) (f.loc _<|mT2<|.head _).1 io w
theorem I2(F:dg X l f v m)(o:∀x,x∈(scope.names.filter (·.2 == .free)).map (·.1)↔∃y∈free,x=am y)(q:w6 free f.cel=some cl):∃clos,closureFor scope v=pure clos/\lk l cl clos:=by
 obtain⟨k,c2⟩:=IX q;have w:∀x∈(scope.names.filter (·.2 == .free)).map (·.1),∃a,v.cells.lookup x=some a:=by intro x hx;obtain⟨y,t,e⟩:=(o x).mp hx;obtain⟨i,p⟩:=k y t;obtain⟨a,_,s⟩:=F.cel y i p;exact⟨a,by rw[e];exact s⟩
 obtain⟨clos,z,u⟩:=IY w;refine⟨clos,z,λy i p=>?_⟩;obtain⟨t,n⟩:=c2 y i p;obtain⟨a,s,r⟩:=F.cel y i n;exact⟨a,s,by rw[u _<|(o _).mpr ⟨y,t,rfl⟩];exact r⟩
structure Cp(X:Fx)sc(elt t iter)ifs(scope:gM)(free:List Nat)(el:XE X.R)(x:XP X.R)(tst:XB X.R):Prop where
 cell:∀y∈scope.names,y.2≠.cell
 kind:scope.kind=.function
 names:∀y∈scope.names,y.2=.local->scope.names.lookup y.1=some .local
 own:∀i v,l_ t i v=pure ()
 fs:∀env x,rh iter env x=pure x
 free:∀x,x∈(scope.names.filter (·.2 == .free)).map (·.1)↔∃y∈free,x=am y
 hx:SP X (jh sc scope) t x
 hel:SE X (jh sc scope) elt el
 hif:SI X (jh sc scope) ifs tst
theorem St.but(S:X.St w H ((C,p)::u) s)(sb:kZ C s.heap x):X.St w H u { s with heap:=x }:=by
 have z:=S.apart;rw[List.map_cons,List.nodup_cons] at z;refine S.locs [C] (λb h=>by rw[List.mem_singleton.mp h];exact .head _) (λb o v g=>(sb.2 b λq=>v<|by rw[q];exact .head _).trans g) (λq y=>⟨(S.loc q<|.tail _ y).1.keeps λo g=>(sb.2 _ (λe=>z.1<|List.mem_map.mpr ⟨q,y,e⟩)).trans g,.tail _<|List.mem_map.mpr ⟨q,y,rfl⟩⟩) z.2
theorem Uq(q:X.Ok)(o:Cp X N g t l b scope free el x d)(y:SE X N l p):SE X N (.ListComp g [⟨t,l,b,0⟩] scope w) (iS el x p d free):=by
 intros
 rw[eval_ListComp];refine bw G Z λcl c Z=>?_;obtain⟨clos,j,i⟩:=I2 F o.free c;refine aq0 rfl (o.fs W) j o.kind o.names<|y e n G W Y f H _ M Z R m I s A _ E V S F (λρ1 H1 s1 a v x1 u z h1=>?_) B;refine ee G h1 λhd h2=>?_;refine bw G h2 λsrc h h3=>?_;refine I1 q o.cell o.kind o.own o.hx o.hel o.hif G Y h3 V hd u z h (i.ext x1) λρ2 H2 s2 r C m2 x2 P hD h4=>?_;exact⟨m2,(P.loc _<|.head _).1,λh' sb=>K _ _ _ (.ref H1.n) _ (x1.trans x2) (P.but sb) ⟨r,hD,rfl⟩ h4⟩
theorem Ur(g:X.Ok)(R:Cp X sc elt t Z ifs scope free el x tst)(j:SE X sc Z p)(hsw:∀b,cU sc b->Ao (.ListComp elt [⟨t,Z,ifs,0⟩] scope r) (some (.Name y py)) spos.line b=pure true)(hy:y=am c)(hl:sc.names.lookup y=some .local):SS X sc (.Assign [.Name y py] (.ListComp elt [⟨t,Z,ifs,0⟩] scope r) spos) (aA (aQ c) (iS el x p tst free)):=by
 intro e n u b w f H k ke hh ρ m ls s A Q E o S F PV PE;rw[exec_Assign_Name_used _ _ _ _<|hsw b w];refine aI<|rd<|aI ?_;refine bw u (hh) λcl hcl hh=>?_;obtain⟨clos,P,hcap⟩:=I2 F R.free hcl;refine aI<|il (aq0 rfl (R.fs b) P R.kind R.names<|j e n u b w f H _ ke hh ρ m ls s A _ E o S F (λρ1 H1 s1 a v x1 i l h1=>?_)<|PE.1 m) (λz s' hq=>bz<|bz hq) λz z e=>e;refine ee u h1 λhd h2=>?_;refine bw u h2 λsrc hsrc h3=>?_;refine I1 g R.cell R.kind R.own R.hx R.hel R.hif u w h3 o hd i l hsrc (hcap.ext x1) λρ2 H2 N h C m2 x2 S2 hD h4=>?_;have hkl:b.kindOf (am c)=some .local:=by rw[pU w,<-hy];exact hl
 have q:X.St ρ2 H2 ((b.locals,.ns m)::(C,.ns m2)::ls) N:=St.perm S2<|List.Perm.swap ..;clear hsw hl;subst hy;refine FR<|FS hkl (q.loc _<|.head _).1 (λh' n' sb=>?_)<|xr w;have S4:=q.locS (tk:=N.toks+1) (d:=N.drawn) (m':=.ns _) sb n';refine⟨m2,(S4.loc _<|.tail _<|.head _).1,λh'' sb2=>?_⟩;have S5:X.St ρ2 H2 ((C,.ns m2)::(b.locals,.ns λx=>if x=am c then some (.ref h) else m x)::ls) ⟨h',N.gens,N.drawn,N.toks+1,N.os⟩:=St.perm S4<|List.Perm.swap ..;exact PV _ .nxt _ _ _ _ _ (x1.trans x2) (S5.but sb2) (((F.ext x1).ext x2).put (a:=.ref H1.n) hkl ⟨h,hD,rfl⟩) rfl h4
theorem Us(q:p.names.lookup y=some .local)(o:(t.line == z.line)=true)(r:(scope.names.any λ(n,k)=>n == y && (k == .local || k == .cell))=false):∀w,cU p w->Ao (.ListComp s gens scope z) (some (.Name y t)) line w=pure true:=by
 intro w x;have v:w.blockKind=.function:=by delta NE;rw[x.scope,x.kind];rfl
 have u:w.kindOf y=some .local:=by rw[pU x];exact q
 show(pure (w.blockKind == .function && w.kindOf y == some .local && t.line == z.line && !(scope.names.any λ(n,k)=>n == y && (k == .local || k == .cell))):Sem Bool)=pure true
 rw[v,u,o,r];rfl
theorem I3(z:bD X y n)(x:y.stop=stop)(w:y.chk=chk):bD X ⟨stop,chk,fuel,hd,y.call,n⟩ n:=by
 subst x w;exact⟨z.stop,z.chk,z.call,z.clos,Nat.le_refl _⟩
structure Cq(X:Fx)(tab:TR (FI X.R)):Prop where
 fn:∀g fi,tab.get g=some fi->g<1000000->∃o fd body dvs,mO X g fi o fd body dvs
 nest:∀g q fd fi,X.σ.nf g q fd->tab.get g=some fi->∃body,∀fd',X.σ.nf g q fd'->Cm X q fi fd' body
theorem Cr(w:X.Ok)(p:¬X.holds stop)(hc:∀i r,X.holds (chk i r)->i.natAbs<2 ^ 62/\X.holds r)(v:Cq X tab)fuel:∀n,bD X (ev stop chk tab fuel n) n:=by
 intro n
 induction n with|zero=>exact⟨p,hc,λz z z z z z z z h=>aP h p,λz z z z z z z z z z z z z h=>aP h p,Nat.le_refl _⟩|succ n j=>
  have e1:(ev stop chk tab fuel n).stop=stop:=by clear j;cases n<;>rfl
  have e2:(ev stop chk tab fuel n).chk=chk:=by clear j e1;cases n<;>rfl
  refine⟨p,hc,λhd g y Z H k d hg h=>?_,λhd H i g q ci l y Z k d F P h=>?_,Nat.le_refl _⟩
  .have u:X.holds (ad (tab.get g) stop λt=>enter ⟨stop,chk,fuel,hd,(ev stop chk tab fuel n).call,n⟩ t [] y Z H k d):=h;cases hf:tab.get g with|none=>rw[hf] at u;exact aP u p|some t=>rw[hf] at u;obtain⟨o,N,body,dvs,C⟩:=v.fn g t hf hg;exact⟨C.keep,λρ ls s A Q E m f x S e c b R=>TV w C (I3 j e1 e2) u x S e c b R⟩
  .intro ρ ls s A Q E a m f ha x S e c b R;have u:X.holds (ad (tab.get g) stop λt=>enter ⟨stop,chk,fuel,hd,(ev stop chk tab fuel n).call,n⟩ t l y Z H k d):=h;cases hf:tab.get g with|none=>rw[hf] at u;exact aP u p|some t=>rw[hf] at u;obtain⟨_,_,N,_,_,nf,_⟩:=S.cell i _ F;obtain⟨body,NA⟩:=v.nest g q N t nf hf;exact Ug w NA (I3 j e1 e2) F P u ha x S e c b R
def Ct{z:Type}(a b:List (Nat×z)):List (Nat×z):=a.map (λp=>(2*p.1+1,p.2))++b.map λp=>(2*p.1+2,p.2)
def iX{y:Type}(t:TR y):List (Nat×y):=@TR.rec y (λz=>List (Nat×y)) [] (λv z z a b=>ad v (Ct a b) λx=>(0,x)::Ct a b) t
theorem sf:∀{i:Nat}{a:s},t.get i=some a->(i,a)∈iX t:=by
 induction t with|lf=>exact λh=>a6 h|nd v l r u q=>
  intro i a h;cases i with|zero=>rw[show v=some a from h];exact .head _|succ j=>
   have w:(j+1,a)∈Ct (iX l) (iX r):=by
    have y:=Nat.div_add_mod j 2;have h:@Nat.rec (λz=>Option s) (TR.get l<|Nat.div j 2) (λz z=>TR.get r<|Nat.div j 2) (j % 2)=some a:=h;refine List.mem_append.mpr ?_;rcases Nat.mod_two_eq_zero_or_one j with e|e
    .rw[e] at h y;exact .inl<|List.mem_map.mpr ⟨(j / 2,a),u h,aT (·,a)<|aT Nat.succ y⟩
    .rw[e] at h y;exact .inr<|List.mem_map.mpr ⟨(j / 2,a),q h,aT (·,a)<|aT Nat.succ y⟩
   cases v with|none=>exact w|some x=>exact .tail _ w
def um:au->Option bI
 |.ref a=>some a
 |_=>none
theorem xI(h:um v=some a):v=.ref a:=by
 cases v with
 |ref b=>exact aT Gf<|Option.some.inj h
 |_=>exact a6 h
def xJ:au->Option Str
 |.str x _=>some x
 |_=>none
theorem Cu(h:xJ v=some x):∃t,v=.str x t:=by
 cases v with
 |str y t=>exact⟨t,aT (k7 · t)<|Option.some.inj h⟩
 |_=>exact a6 h
def I4:CFound->Option (au×au×au×au)
 |.get g a o c=>some (g,a,o,c)
 |_=>none
theorem Ut(h:I4 f=some q):f=.get q.1 q.2.1 q.2.2.1 q.2.2.2:=by
 cases f with|get g a o c=>rw[<-Option.some.inj h]|val _=>exact a6 h
def I5(l:List au):Option au:=@List.casesOn au (λz=>Option au) l none λv z=>some v
theorem Uu(h:I5 l=some v):∃r,l=v::r:=by
 cases l with|nil=>exact a6 h|cons w r=>exact⟨r,aT (·::r)<|Option.some.inj h⟩
def I6(K:cj)(C n f:Nat)(z:bI):Bool:=J (decide (q_ K (.ref z)=some (.type "staticmethod"))) (J (decide (kh K (.ref z) "__get__" = some (some (.builtin "staticmethod.__get__")))) (J (decide (wb K (.ref z)=some false))
 (J (ad (recIn K z "staticmethod") false λl=>ad (I5 l) false λv=>decide (v=.ref f)) (ad (findCls K (.ref C) (.type "type") (am n)) false λc=>ad (I4 c) false λq=>J (decide (q.1=.builtin "staticmethod.__get__")) (J (decide (q.2.1=.ref z)) (decide (q.2.2.2=.ref C)) false) false) false) false) false) false
def I7(K:cj)(C n:Nat)(a:Option CA):Bool:=ad a (decide (eE K (.ref C) (am n)=some none)) λa=>match a with
 |.meth f=>J (decide (eE K (.ref C) (am n)=some (some (.ref f)))) (decide (q_ K (.ref f)=some (.type "function"))) false
 |.stat f=>ad (eE K (.ref C)<|am n) false λo=>ad o false λv=>ad (um v) false λz=>I6 K C n f z
 |.val v=>ad (nO v) false λc=>ad (eE K (.ref C)<|am n) false λo=>ad o false λv=>ad (xJ v) false λx=>decide<|x=am c
theorem Uv{K:cj}(s:eE K (.ref C) (am n)=some (some (.ref z)))(h:I6 K C n f z=true):xl K C n (some (.stat f)):=
 bx h λu h=>bx h λy h=>bx h λo h=>bx h λw t=>
  ⟨z,s,br u,br y,br o,dl w λl p h=>dl h λv k h=>(Uu k).elim λr e=>⟨r,by rw[p,e,br h]⟩,
  dl t λc j h=>dl h λq x h=>bx h λe1 h=>bx h λe2 m=>⟨q.2.2.1,by rw[j,Ut x,br e1,br e2,br m]⟩⟩
theorem Uw{K:cj}(h:I7 K C n a=true):xl K C n a:=by
 cases a with|none=>exact br (p:=eE K (.ref C) (am n)=some none) h|some a=>
  cases a with|meth f=>exact bx h λw y=>⟨br w,br y⟩|stat f=>exact dl h λo ho h=>dl h λv z h=>dl h λs u h=>Uv (by rw[ho,z,xI u]) h|val v=>
   cases v with|str c=>exact dl h λo ho h=>dl h λv z h=>dl h λx hx h=>(Cu hx).elim λt e=>⟨t,by rw[ho,z,e,br h]⟩|_=>exact bg h
def I8(K:cj)(z:List (Nat×CI))(ns:List Nat):Bool:=ns.all λn=>!(nC.contains (am n)) && z.all λp=>I7 K p.1 n (ae p.2.attrs n)
theorem Ux(h:I8 X.K (iX eI) ns=true):∀n,a5 ns n=true->iU X n/\nC.contains (am n)=false:=by
 intro n y;rw[dh] at y;have w:=List.all_eq_true.mp h n<|br y;obtain⟨x,u⟩:=Bool.and_eq_true_iff.mp w;refine⟨λC v z=>Uw<|List.all_eq_true.mp u (C,v)<|sf z,by simpa using x⟩
def I9(K:cj)(z:List (Nat×CI))(ns:List Nat):Bool:=ns.all λn=>z.all λp=>decide (FU K p.1 (am n)=some none)
theorem Uy(h:I9 X.K (iX eI) ns=true):∀n,a5 ns n=true->xt X n:=by
 intro n y C x z;rw[dh] at y;exact br<|List.all_eq_true.mp (List.all_eq_true.mp h n<|br y) (C,x)<|sf z
def I_(K:cj)(C:Nat):Bool:=J (ad (ty K C) false λcd=>cd.hasDict) (J (decide (eE K (.ref C) "__getattribute__" = some (some (.builtin "object.__getattribute__")))) (J (decide (eE K (.ref C) "__getattr__" = some none))
 (J (decide (eE K (.ref C) "__setattr__" = some (some (.builtin "object.__setattr__")))) (J (FL K C) (J (readsIn K C (.type "type")) (J (decide (kh K (.ref C) "__getattribute__" = some (some (.builtin "type.__getattribute__"))))
 (J (makesIn K C) (J (tw K (.ref C)) (J (decide (eE K (.ref C) "__bool__" = some none)) (decide (eE K (.ref C) "__len__" = some none)) false) false) false) false) false) false) false) false) false) false
theorem Uz(h:I_ X.K C=true):Hk X C:=
 bx h λr h=>bx h λt h=>bx h λo h=>bx h λs h=>bx h λp h=>bx h λw h=>bx h λq h=>bx h λu h=>bx h λv h=>bx h λz x=>
  ⟨dl r λcd y h=>⟨cd,y,h⟩,br t,br o,br s,p,w,br q,u,v,br z,br x⟩
def Ja(K:cj)(y:List (Nat×CI)):Bool:=y.all λp=>I_ K p.1 && p.2.mro.all λz=>isIn K (.ref p.1) z
theorem UA(h:Ja X.K (iX eI)=true):ef X:=by
 refine⟨λC w z y v=>?_,λC w y=>?_⟩
 .have x:=List.all_eq_true.mp h (C,w)<|sf y;obtain⟨_,u⟩:=Bool.and_eq_true_iff.mp x;rw[dh] at v;exact List.all_eq_true.mp u z<|br v
 .have x:=List.all_eq_true.mp h (C,w)<|sf y;exact Uz (Bool.and_eq_true_iff.mp x).1
def Jb:au->Option Bool
 |.bool b=>some b
 |_=>none
def Jc:au->Option Int
 |.int i _=>some i
 |_=>none
def xK:au->Bool
 |.none=>true
 |_=>false
theorem UB(h:Jb v=some b):v=.bool b:=by
 cases v with
 |bool c=>exact aT Ge<|Option.some.inj h
 |_=>exact a6 h
theorem UC(h:Jc v=some i):∃t,v=.int i t:=by
 cases v with
 |int j t=>exact⟨t,aT (aq1 · t)<|Option.some.inj h⟩
 |_=>exact a6 h
theorem Jd(h:xK v=true):v=.none:=by
 cases v with|none=>rfl|_=>exact bg h
def xL(a:AV)(v:au):Bool:=match a with
 |.none=>xK v
 |.bool i=>ad (Jb v) false λj=>decide<|i=j
 |.int i=>ad (Jc v) false λj=>decide<|i=j
 |.str c=>ad (xJ v) false λx=>decide<|x=am c
 |.glo a=>ad (um v) false λb=>decide<|b=a
 |_=>false
theorem Cv(h:xL a v=true):aE w u a v:=by
 cases a with
 |none=>exact Jd h
 |bool i=>exact dl h λj z h=>(UB z).trans<|aT Ge (br h).symm
 |int i=>exact dl h λj z h=>(UC z).elim λt e=>⟨t,e.trans<|aT (aq1 · t) (br h).symm⟩
 |str c=>exact dl h λx hx h=>(Cu hx).elim λt e=>⟨t,e.trans<|aT (k7 · t)<|br h⟩
 |glo a=>exact dl h λb y h=>(xI y).trans<|aT Gf<|br h
 |_=>exact bg h
def Cw:tY0->List au->Bool
 | [],[]=>true
 |a::as,v::vs=>xL a v && Cw as vs
 |_,_=>false
theorem Je:∀{y:tY0}{z:List au},Cw y z=true->aD (aE u t) y z
 | [],[],_=>trivial
 |a::y,v::z,h=>by obtain⟨w,x⟩:=Bool.and_eq_true_iff.mp h;exact⟨Cv w,Je x⟩
 | [],_::_,h=>bg h
 |_::_,[],h=>bg h
def Cx:Data->Option (Array au×Nat)
 |.seq vs n=>some (vs,n)
 |_=>none
theorem Jf(h:Cx d=some q):d=.seq q.1 q.2:=by
 cases d with|seq z n=>rw[<-Option.some.inj h]|_=>exact a6 h
def UD(K:cj)(a:bI)(z:tY0):Bool:=ad (K.lookup a) false λo=>ad (Cx o.data) false λq=>J (decide (o.cls=.type "tuple")) (J (decide (o.dict=none)) (J (o.slots.isEmpty) (J (Cw z q.1.toList) (Nat.ble z.length 5000) false) false) false) false
def Jg(K:cj)(l:ld):Bool:=l.all λp=>J (decide (p.1≠iI)) (match p.2 with
 |.tup xs=>UD K p.1 xs
 |_=>false) false
theorem Jh{o:Obj}(w:o.cls=c)(y:o.dict=d)(v:o.data=z)(x:o.slots=#[]):o = { cls:=c,dict:=d,data:=z,slots:=#[] }:=by
 cases o;rw[<-w,<-y,<-v,<-x]
theorem Ji(h:Jg X.K (iX iP)=true)(x:X.K.In X.h₀):∀a o,iP.get a=some o->a≠iI/\cb X.prog X.w (λz=>none) X.σ X.h₀ a o:=by
 intro a o ho;refine bx (List.all_eq_true.mp h (a,o)<|sf ho) λp v=>⟨br p,?_⟩;cases o with
 |tup y=>
  exact dl v λob u h=>dl h λq s h=>bx h λe1 h=>bx h λe2 h=>bx h λr h=>bx h λn t=>
   ⟨q.1.toList,⟨q.2,by rw[wh,<-Jh (br e1) (br e2) (Jf s) (aq2.mp r)];exact x _ _ u⟩,Je n,Nat.le_of_ble_eq_true t⟩
 |_=>exact bg v
def Jj(K:cj)(l:iJ):Bool:=l.all λp=>ad (nsIn K jK (am p.1)) false λo=>ad o false λv=>xL p.2 v
def Jk(K:cj)(l:List (Nat×BI)):Bool:=l.all λp=>J (decide (nsIn K jK (am p.1)=some none)) (J (decide (bootBuiltins (am p.1)=some (mG p.2))) (decide (am p.1≠("__name__" : Str))) false) false
theorem bA(h:ae l n=some a):(n,a)∈l:=by
 induction l with|nil=>exact a6 h|cons p l z=>
  rw[b3] at h
  by_cases e:p.1=n
  .rw[aw e] at h;rw[<-e,<-Option.some.inj h];exact .head _
  .rw[aq e] at h;exact .tail _<|z h
theorem Jl(h:Jj X.K l=true)(z:X.K.In X.h₀)(hmg:X.h₀.Ns jK X.mg):∀n a,ae l n=some a->∃v,X.mg (am n)=some v/\∀y,aE y X.σ a v:=
 λn a x=>dl (List.all_eq_true.mp h (n,a)<|bA x) λo ho h=>dl h λv w h=>⟨v,mg_of z hmg (by rw[ho,w]),λy=>Cv h⟩
theorem Jm{K:cj}(x:K.In h)(y:h.Ns ns mg)(e:nsIn K ns n=some r):mg n=r:=by
 obtain⟨o,es,v,ho,hd,_,w⟩:=y;delta nsIn at e;cases q:K.lookup ns with|none=>rw[q] at e;exact a6 e|some ob=>
  rw[q] at e;have u:=Option.some.inj<|ho.symm.trans<|x _ _ q;subst u;obtain⟨c,d,s,t⟩:=o;have hd:=hd;subst hd
  dsimp only at e
  rw[<-w];delta nsFind findBy;rw[<-Array.find?_toList];cases he:es.toList.find? (·.key.isStr n) with|some z=>rw[he] at e;exact Option.some.inj e|none=>
   rw[he] at e;cases hr:es.toList.any (·.refKey) with|true=>rw[hr] at e;exact a6 e|false=>rw[hr] at e;exact Option.some.inj e
theorem UE(h:Jk X.K l=true)(z:X.K.In X.h₀)(hmg:X.h₀.Ns jK X.mg)(hmb:∀x,x≠("__name__" : Str)->X.mb x=bootBuiltins x):∀n b,ae l n=some b->X.mg (am n)=none/\X.mb (am n)=some (mG b):=
 λn b y=>bx (List.all_eq_true.mp h (n,b)<|bA y) λv h=>bx h λw u=>⟨Jm z hmg<|br v,(hmb _<|br u).trans<|br w⟩
end
section
open PySem (CmpOp Operator)
section
variable (R:Type)
def UF:FI R:=⟨[ay,25188],[],[],ac (aA (bC (aa ay) 6448223) (aa 25188)) ak⟩
def UG:FI R:=⟨[ay,hQ,nG,d9],[],[],ac (aY (aO (a8 .NotIn (aa hQ) (aN (aa ay) 6448223))) (ac (aA (dC (aN (aa ay) 6448223) (aa hQ)) (gj aC)) ak) ak) (ac (aA (dC (bf (aN (aa ay) 6448223) (aa hQ)) (aa nG)) (aa d9)) ak)⟩
def UH:FI R:=⟨[ay,hQ,nG],[],[],ac (aY (aO (a8 .In (aa hQ) (aN (aa ay) 6448223))) (ac (b_ (bb (bf (aN (aa ay) 6448223) (aa hQ)) 7628135 2 tY (ao (aa nG) (ao (ah .none) az)) aC)) ak) ak) ak⟩
def UI:FI R:=⟨[ay,hQ],[],[],ac (aY (aO (a8 .In (aa hQ) (aN (aa ay) 6448223))) (ac (nU (aN (aa ay) 6448223) (aa hQ)) ak) ak) ak⟩
def UJ:FI R:=⟨[ay,cx],[],[],ac (aA (bC (aa ay) cx) (aa cx)) ak⟩
def UK:FI R:=⟨[ay,mi],[],[],ac (b_ (a8 .In (aa mi) (aN (aa ay) cx))) ak⟩
def UL:FI R:=⟨[ay,mi],[],[],ac (aY (aO (a8 .NotIn (aa mi) (aN (aa ay) cx))) (ac (BA 31 (ao (aa mi) az)) ak) ak) (ac (b_ (bf (aN (aa ay) cx) (aa mi))) ak)⟩
def UM:FI R:=⟨[ay,mi,pw,lb],[],[],ac (aA (By 3 (nT (aQ tJ) (nT (aQ 1702521203) (nT (aQ 0x35646d5f656c6966) xg)))) (aa lb)) (ac (aY (aO (a8 .Eq (bf (aa pw) (ah (.int 0))) (aa tJ))) (ac (b_ (ah (.bool false))) ak) ak) (ac (aY (aO (a8 .NotEq (bf (aa pw) (ah (.int 1))) (aa 1702521203))) (ac (b_ (ah (.bool true))) ak) ak) (ac (b_ (a8 .NotEq (aa 0x35646d5f656c6966) (bf (bb (aa ay) la 9 bP (ao (aa mi) az) aC) (ah (.int 2))))) ak)))⟩
def UN:FI R:=⟨[ay,ew,wI],[],[],ac (aA (aQ tJ) (bf (bb (aa ay) la 9 bP (ao (aa ew) az) aC) (ah (.int 0)))) (ac (aY (dQ (aO (aa wI)) (dQ (aO (a8 .Eq (bf (aa wI) (ah (.int 0))) (aa tJ))) d4)) (ac (b_ (ah .none)) ak) ak) (ac (aA (aQ 1702521203) (bf (bb (aa ay) la 9 bP (ao (aa ew) az) aC) (ah (.int 1)))) (ac (aA (aQ 3499117) (bf (bb (aa ay) la 9 bP (ao (aa ew) az) aC) (ah (.int 2)))) (ac (b_ (hX (ao (aa tJ) (ao (aa 1702521203) (ao (aa 3499117) az))))) ak))))⟩
def UO:FI R:=⟨[ay,mi,pw,lb],[],[],ac (b_ (a8 .NotEq (bf (aa pw) (ah (.int 0))) (aa lb))) ak⟩
def UP:FI R:=⟨[ay,ew,wI],[],[],ac (b_ (bf (bb (aa ay) la 9 bP (ao (aa ew) az) aC) (ah (.int 0)))) ak⟩
def UQ:FI R:=⟨[ay,iM],[],[],ac (aA (bC (aa ay) iM) (aa iM)) (ac (aA (bC (aa ay) fj) (ah (.str 0x657461642d6f742d7075))) (ac (aA (bC (aa ay) 0x736e6f73616572) (gj aC)) (ac (aA (bC (aa ay) A0) (ah .none)) ak)))⟩
def UR:FI R:=⟨[ay,0x6e6f73616572,6779489,fj],[(fj,.str 7239026)],[],ac (aA (bC (aa ay) fj) (aa fj)) (ac (aY (aO (aN (aa ay) iM)) (ac bc (ac bc ak)) ak) (ac (b_ (t8 (aN (aa ay) iM))) ak))⟩
def US:FI R:=⟨[ay,0x6e6f73616572,6779489],[],[],ac (aA (bC (aa ay) fj) (ah (.str 7239026))) (ac (aY (aO (aN (aa ay) iM)) (ac bc ak) ak) (ac (b_ (t8 (aN (aa ay) iM))) ak))⟩
def UT:FI R:=⟨[ay,mj,gu],[],[],ac (aA (bC (aa ay) 0x6465736f6c635f) (ah (.bool false))) (ac (aA (bC (aa ay) gu) (aa gu)) (ac (aA (bC (aa ay) mj) (aa mj)) ak))⟩
def UU:FI R:=⟨[ay,hQ,nG,d9],[],[],ac (bZ (bb (aN (aa ay) mj) 7628147 9 bP (ao (aa hQ) (ao (aa nG) (ao (aa d9) az))) aC)) ak⟩
def UV:FI R:=⟨[ay,hQ,nG],[],[],ac (b_ (bb (aN (aa ay) mj) 7628135 2 tY (ao (aa hQ) (ao (aa nG) az)) aC)) ak⟩
def UW:FI R:=⟨[ay,hQ],[],[],ac (bZ (bb (aN (aa ay) mj) rq 3 t0 (ao (aa hQ) az) aC)) ak⟩
def UX:FI R:=⟨[ay,bH,0x687361685f746c75736572],[(0x687361685f746c75736572,.none)],[],ac (bZ (bb (aa ay) 1952805727 9 bP (ao (aN (aa bH) cn) (ao (ah (.str 0x3a5f7365756c61765f)) (ao (aN (aa bH) nH) az))) aC)) (ac (aY (aO (a8 .IsNot (aa 0x687361685f746c75736572) (ah .none))) (ac bc ak) (ac (aY (aO (aN (aa bH) ip)) (ac bc ak) ak) ak)) (ac (bZ (bb (aa ay) 1952805727 9 bP (ao (aN (aa bH) cn) (ao (ah (.str 0x3a72656b63656863)) (ao (aN (aN (aa ay) gu) cn) az))) aC)) (ac (cR (aQ ew) (aN (aa bH) fq) (ac (aA (aQ lb) (bb (aN (aa ay) gu) tI 9 bP (ao (aa ew) (ao (bb (aa ay) 1952802655 9 bP (ao (aN (aa bH) cn) (ao (aa ew) az)) aC) az)) aC)) (ac (aY (aO (a8 .IsNot (aa lb) (ah .none))) (ac (bZ (bb (aa ay) 1952805727 9 bP (ao (aN (aa bH) cn) (ao (aa ew) (ao (aa lb) az))) aC)) ak) ak) ak))) (ac (bZ (bb (aa ay) 1952805727 9 bP (ao (aN (aa bH) cn) (ao (ah (.str 251044848996)) (ao (bB (ah (.bi .tup)) (ao (aN (aa bH) fq) az) aC) az))) aC)) ak))))⟩
def UY:FI R:=⟨[ay,bH],[],[],ac (bZ (bb (aa ay) rq 3 t0 (ao (aN (aa bH) cn) az) aC)) ak⟩
def UZ:FI R:=⟨[ay,bH,0x746369645f736b736174,iM],[(iM,.bool false)],[bH,wJ],ac (aA (aQ ip) (bB (ah (.glo 244)) (ao (aa iM) az) aC)) (ac (aA (bC (bT bH) rt) (dL az)) (ac (aA (aQ 0x7473696c5f746c757365725f657461646f747075) (dL az)) (ac (t_ (aN (bT bH) jb)) (ac (aY (dQ (iu (aO (aa iM))) (dQ (aO (a8 .Eq (aN (aa ip) fj) (ah (.str 7239026)))) d4)) (ac bc ak) ak) (ac (aY (iu (iR (aO (aN (bT bH) fq)) (iR (aO (aa 0x7473696c5f746c757365725f657461646f747075)) nS))) (ac bc ak) ak) (ac (cR (aQ 1735549300) (aN (bT bH) dK) (ac (aY (iu (aO (bb (aN (aa ay) gu) 0x737473697865 9 bP (ao (aa 1735549300) az) aC))) (ac (aA (bC (bT bH) rt) (bB (ah (.bi .lst)) (ao (aN (bT bH) fq) az) aC)) (ac (aY (aO (bb (aa ip) wC 9 bP (ao (ah (.str 0x7465677261745f676e697373696d)) (ao (aa 1735549300) az)) aC)) (ac (b_ (aa ip)) ak) ak) ak)) ak) ak)) (ac (aA (aQ rx) (bb (aa ay) 1952802655 9 bP (ao (aN (bT bH) cn) (ao (ah (.str 0x3a72656b63656863)) az)) aC)) (ac (aA (aQ 0x656d616e5f72656b63656863) (aN (aN (aa ay) gu) cn)) (ac (aY (dQ (aO (aa rx)) (dQ (aO (a8 .NotEq (aa rx) (aa 0x656d616e5f72656b63656863))) d4)) (ac bc (ac bc (ac bc ak))) ak) (ac (aA (aQ rx) (bb (aa ay) 1952802655 9 bP (ao (aN (bT bH) cn) (ao (ah (.str 251044848996)) az)) aC)) (ac (aA (kr wJ) (lj (aO (aa rx)) (bB (ah (.bi .set)) (ao (aa rx) az) aC) (ah .none))) (ac (aY (dQ (aO (bT wJ)) (dQ (aO (a8 .NotEq (bT wJ) (bB (ah (.bi .set)) (ao (aN (bT bH) fq) az) aC))) d4)) (ac (aY (aO (aa iM)) (ac bc (ac bc (ac bc (ac bc ak)))) ak) (ac (aA (bC (aa ip) fj) (ah (.str 7239026))) ak)) ak) (ac (aA (aQ tK) (dL az)) (ac (cR (aQ ew) (aN (bT bH) fq) (ac (aA (aQ lb) (bb (aa ay) 1952802655 9 bP (ao (aN (bT bH) cn) (ao (aa ew) az)) aC)) (ac (BB pw (bb (aN (aa ay) gu) la 9 bP (ao (aa ew) az) aC) 31 (ac (aA (aQ 0x67736d5f726f727265) (bb (ah (.str aD0)) 0x74616d726f66 4 Br (ao (aa ew) az) aC)) (ac (aA (bC (aa ip) A0) (aa 0x67736d5f726f727265)) (ac (aY (aO (bb (aa ip) wC 9 bP (ao (ah (.str 0x7065645f656c69665f676e697373696d)) (ao (aa ew) (ao (ah (.str 491496043109)) az))) aC)) (ac (b_ (aa ip)) ak) ak) ak))) (ac (aY (iR (aO (a8 .Is (aa lb) (ah .none))) (iR (aO (bb (aN (aa ay) gu) tH 9 bP (ao (aa ew) (ao (aa pw) (ao (aa lb) az))) aC)) nS)) (ac (bZ (bb (aa tK) gw 0 ge (ao (aa ew) az) aC)) ak) ak) ak)) ak))) (ac (aA (bC (bT bH) rt) (aa tK)) (ac (aY (aO (a8 .Gt (bB (ah (.bi .len)) (ao (aa tK) az) aC) (ah (.int 0)))) (ac (bZ (bb (aa ip) 0x6e6f736165725f746573 9 bP (ao (ah (.str 0x7065645f656c69665f6465676e616863)) (ao (aa tK) az)) aC)) ak) ak) (ac (b_ (aa ip)) ak)))))))))))))))))⟩
def U0:FI R:=⟨[ay,cn,tL,fq,dK,gd,jb,iq,483006899571,rz,rA,lc],[(fq,.glo 470),(dK,.glo 471),(gd,.glo 472),(jb,.glo 473),(iq,.glo 474),(483006899571,.glo 475),(rz,.none),(rA,.bool false),(lc,.none)],[],ac (aA (aQ lc) (xd (aa lc) (gj aC))) (ac (aY (aO (a8 .In (ah (.str 61)) (aa cn))) (ac bc ak) ak) (ac (aA (bC (aa ay) cn) (aa cn)) (ac (aA (bC (aa ay) rB) (ah .none)) (ac (aA (bC (aa ay) rC) (bB (ah (.bi .lst)) (ao (aa 483006899571) az) aC)) (ac (aY (aO (a8 .Is (aa tL) (ah .none))) (ac (aA (bC (aa ay) tL) (dL az)) ak) (ac bc ak)) (ac (bZ (bb (aa ay) 0x737065645f74696e695f 9 bP (ao (aa fq) (ao (aa gd) (ao (aa iq) az))) aC)) (ac (aA (aQ jb) (lj (aO (aa jb)) (aa jb) (dL az))) (ac (aA (bC (aa ay) lc) (aa lc)) (ac (aY (aO (aN (aa ay) lc)) (ac bc ak) ak) (ac (aA (bC (aa ay) A3) (dL az)) (ac (aA (bC (aa ay) jb) (bb (aa ay) AL 9 bP (ao (aa jb) az) aC)) (ac (aA (bC (aa ay) dK) (bb (aa ay) AK 9 bP (ao (aa dK) az) aC)) (ac (aA (bC (aa ay) rz) (aa rz)) (ac (aA (bC (aa ay) rA) (aa rA)) (ac (aA (bC (aa ay) ip) (ah .none)) (ac (aA (bC (aa ay) nH) (gj aC)) (ac (aA (bC (aa ay) 0x6465747563657865) (ah (.bool false))) ak)))))))))))))))))⟩
def U7:FI R:=⟨[ay,fq,gd,iq],[],[],ac (aA (bC (aa ay) rt) (ah .none)) (ac (aA (bC (aa ay) fq) (dL az)) (ac (bZ (bb (aa ay) AN 9 bP (ao (aa fq) az) aC)) (ac (aA (bC (aa ay) gd) (dL az)) (ac (aA (bC (aa ay) tM) (dL az)) (ac (aY (aO (aa gd)) (ac bc ak) ak) (ac (aA (bC (aa ay) iq) (dL az)) (ac (aY (aO (aa iq)) (ac bc ak) ak) ak)))))))⟩
def U8:FI R:=⟨[ay,495756604521],[],[],ac (aA (aQ dK) (dL az)) (ac (cR (aQ hU) (aa 495756604521) (ac (aY (aO (bB (ah (.bi .isinst)) (ao (aa hU) (ao (ah (.bi .tyStr)) az)) aC)) (ac (bZ (bb (aa dK) gw 0 ge (ao (aa hU) az) aC)) ak) (ac bc ak)) ak)) (ac (b_ (aa dK)) ak))⟩
def U9:FI R:=⟨[ay,495756604521],[],[],ac (aA (aQ jb) (dL az)) (ac (cR (aQ 1835365481) (aa 495756604521) (ac bc (ac bc ak))) (ac (b_ (aa jb)) ak))⟩
def U_:FI R:=⟨[ay,fq],[],[],ac (cR (aQ ew) (aa fq) (ac (aY (aO (bB (ah (.bi .isinst)) (ao (aa ew) (ao (ah (.bi .tyStr)) az)) aC)) (ac (aY (aO (a8 .NotIn (aa ew) (aN (aa ay) fq))) (ac (bZ (bb (aN (aa ay) fq) gw 0 ge (ao (aa ew) az) aC)) ak) ak) ak) (ac bc ak)) ak)) ak⟩
def Va:FI R:=⟨[ay,1936159329],[(1936159329,.none)],[],ac (aY (aO (a8 .Is (aN (aa ay) rB) (ah .none))) (ac (aA (bC (aa ay) rB) (gj aC)) (ac (b_ (aa 1936159329)) ak)) ak) ak⟩
def Vb:FI R:=⟨[cn,0x6e726574746170],[],[],ac (aA (aQ nI) (bb (aa 0x6e726574746170) 499984920691 4 Bo (ao (ah (.str 42)) az) aC)) (ac (aY (aO (a8 .Eq (bB (ah (.bi .len)) (ao (aa nI) az) aC) (ah (.int 1)))) (ac bc ak) ak) (ac (aY (iu (aO (bb (aa cn) aN0 4 Bp (ao (bf (aa nI) (ah (.int 0))) az) aC))) (ac bc ak) ak) (ac (aA (aQ 29793) (bB (ah (.bi .len)) (ao (bf (aa nI) (ah (.int 0))) az) aC)) (ac (cR (aQ 1953653104) (kq (aa nI) (nR (ah (.int 1))) (nR (bQ .Sub (bB (ah (.bi .len)) (ao (aa nI) az) aC) (ah (.int 1))))) (ac bc (ac bc (ac bc ak)))) (ac (aA (aQ 1953718636) (bf (aa nI) (bQ .Sub (bB (ah (.bi .len)) (ao (aa nI) az) aC) (ah (.int 1))))) (ac (b_ (t6 (a8 .GtE (bQ .Sub (bB (ah (.bi .len)) (ao (aa cn) az) aC) (aa 29793)) (bB (ah (.bi .len)) (ao (aa 1953718636) az) aC)) (bb (aa cn) 0x6874697773646e65 4 Bq (ao (aa 1953718636) az) aC))) ak))))))⟩
def Vd:FI R:=⟨[ay,nJ],[],[],ac (aA (bC (aa ay) fI) (gj aC)) (ac (aA (bC (aa ay) dK) (gj aC)) (ac (aA (bC (aa ay) pz) (dL az)) (ac (aA (bC (aa ay) jN) (ah .none)) (ac (cR (aQ bH) (aa nJ) (ac (aY (iu (aO (bB (ah (.bi .isinst)) (ao (aa bH) (ao (ah (.glo 569)) az)) aC))) (ac bc (ac bc ak)) ak) (ac (aY (aO (a8 .In (aN (aa bH) cn) (aN (aa ay) fI))) (ac bc (ac bc ak)) ak) (ac (aA (dC (aN (aa ay) fI) (aN (aa bH) cn)) (aa bH)) (ac (bZ (bb (aN (aa ay) pz) gw 0 ge (ao (aN (aa bH) cn) az) aC)) ak))))) (ac (xj bH (bb (aN (aa ay) fI) nH 2 tZ az aC) [tM]) (ac (bZ (bb (aa ay) AQ 9 bP az aC)) (ac (bZ (bb (aa ay) AR 9 bP (ao (aN (aa ay) dK) (ao (aa nJ) az)) aC)) ak)))))))⟩
def Ve:FI R:=⟨[ay],[],[],ac (xj bH (bb (aN (aa ay) fI) nH 2 tZ az aC) [gd,rC]) ak⟩
def Vf:FI R:=⟨[dK,nJ],[],[],ac (cR (aQ bH) (aa nJ) (ac (cR (aQ hU) (aN (aa bH) dK) (ac (aY (aO (a8 .In (aa hU) (aa dK))) (ac bc (ac bc ak)) ak) (ac (aA (dC (aa dK) (aa hU)) (aN (aa bH) cn)) ak))) ak)) (ac (cR (aQ bH) (aa nJ) (ac (bZ (bb (ah (.glo 714)) AS 9 bP (ao (aa dK) (ao (aa bH) (ao (aN (aa bH) fq) az))) aC)) ak)) ak)⟩
def Vg:FI R:=⟨[dK,bH,0x7473696c5f73706564],[],[],ac (cR (aQ ew) (aa 0x7473696c5f73706564) (ac (aY (dQ (aO (a8 .In (aa ew) (aa dK))) (dQ (aO (a8 .NotIn (bf (aa dK) (aa ew)) (aN (aa bH) gd))) d4)) (ac (bZ (bb (aN (aa bH) gd) gw 0 ge (ao (bf (aa dK) (aa ew)) az) aC)) ak) ak) ak)) ak⟩
def Vh:FI R:=⟨[ay,0x6e726574746170],[],[],ac (aA (aQ 0x7473696c5f646c6977) (dL az)) (ac (cR (aQ 0x656d616e5f74) (aN (aa ay) pz) (ac (aY (aO (bB (ah (.glo 635)) (ao (aa 0x656d616e5f74) (ao (aa 0x6e726574746170) az)) aC)) (ac (bZ (bb (aa 0x7473696c5f646c6977) gw 0 ge (ao (aa 0x656d616e5f74) az) aC)) ak) ak) ak)) (ac (b_ (aa 0x7473696c5f646c6977)) ak))⟩
def Vi:FI R:=⟨[ay,pA],[],[ay,pB],ac (aA (kr pB) (dL az)) (ac (xi (aQ A4) 1000001 aQ0 478 8 [pB,ay]) (ac (aA (aQ 7431539) (kq (aa pA) iQ iQ)) (ac (rT (aO (aa 7431539)) (ac (aA (aQ nK) (bb (aa 7431539) 7368560 0 tW (ao (ah (.int 0)) az) aC)) (ac (aY (aO (a8 .In (ah (.str 42)) (aa nK))) (ac (cR (aQ iN) (bb (bT ay) AT 9 bP (ao (aa nK) az) aC) (ac (bZ (bB (aa A4) (ao (hX az) (ao (aa iN) az)) aC)) ak)) ak) (ac (aA (aQ 7431539) (bB (aa A4) (ao (aa 7431539) (ao (aa nK) az)) aC)) ak)) ak))) (ac (b_ (bT pB)) ak))))⟩
def Vj:FI R:=⟨[ay,pA],[],[],ac (aA (aQ wK) (dL az)) (ac (aA (aQ pB) (bb (aa ay) AU 9 bP (ao (aa pA) az) aC)) (ac (cR (aQ tN) (aa pB) (ac (aY (aO (a8 .In (aa tN) (aN (aa ay) fI))) (ac (bZ (bb (aa wK) gw 0 ge (ao (aa tN) az) aC)) (ac rR ak)) ak) (ac (aY (aO (a8 .In (aa tN) (aN (aa ay) dK))) (ac (bZ (bb (aa wK) gw 0 ge (ao (bf (aN (aa ay) dK) (aa tN)) az) aC)) (ac rR ak)) ak) (ac bc ak)))) (ac (b_ (aa wK)) ak)))⟩
def Vl:FI R:=⟨[ay,pA],[],[],ac (aY (aO (a8 .IsNot (aa pA) (ah .none))) (ac (aA (bC (aa ay) jN) (bb (aa ay) AW 9 bP (ao (aa pA) az) aC)) ak) (ac (aA (bC (aa ay) jN) (aN (aa ay) pz)) ak)) ak⟩
def Vm:FI R:=⟨[ay],[],[],ac (xh (aO (a8 .IsNot (aN (aa ay) jN) (ah .none)))) (ac (b_ (bB (ah (.glo 820)) (ao (aN (aa ay) fI) (ao (aN (aa ay) dK) (ao (aN (aa ay) jN) az))) aC)) ak)⟩
def Vn:FI R:=⟨[ay,bH,ml],[],[],ac (aA (bC (aa ay) bH) (aa bH)) (ac (aA (bC (aa ay) gd) (kq (aN (aa bH) gd) iQ iQ)) (ac (aA (bC (aa ay) iq) (kq (aN (aa bH) iq) iQ iQ)) (ac (aA (bC (aa ay) pC) (dL az)) (ac (aY (aO (aa ml)) (ac (bZ (bb (aN (aa ay) pC) 0x646e65747865 0 Bl (ao (aN (aa ml) pC) az) aC)) ak) ak) (ac (bZ (bb (aN (aa ay) pC) gw 0 ge (ao (aN (aa bH) cn) az) aC)) (ac (aA (bC (aa ay) wL) (ah (.bool false))) (ac (aA (bC (aa ay) nL) (bB (ah (.bi .set)) az aC)) (ac (aA (bC (aa ay) rD) (bB (ah (.bi .set)) az aC)) (ac (aA (bC (aa ay) tO) (gj aC)) (ac (aA (bC (aa ay) mn) (ah .none)) (ac (aA (bC (aa ay) rE) (dL az)) (ac (aA (bC (aa ay) 0x737065645f6465726f6e6769) (dL az)) (ac (aA (bC (aa ay) 435727460464) (ah (.int 0))) ak)))))))))))))⟩
def Vo:FI R:=⟨[ay,wM],[],[],ac (aY (aO (a8 .Eq (aN (aa wM) mn) (ah (.str tP)))) (ac (bZ (bb (aN (aa ay) rE) gw 0 ge (ao (aa wM) az) aC)) ak) (ac (aY (aO (a8 .Eq (aN (aa wM) mn) (ah (.str 0x65726f6e6769)))) (ac bc ak) ak) ak)) ak⟩
def Vp:FI R:=⟨[ay,fI,dK,jN],[],[],ac (aA (bC (aa ay) fI) (aa fI)) (ac (aA (bC (aa ay) dK) (aa dK)) (ac (aA (bC (aa ay) jN) (aa jN)) (ac (aA (bC (aa ay) pD) (gj aC)) (ac (aA (bC (aa ay) pE) (gj aC)) (ac (aA (bC (aa ay) mo) (dL az)) (ac (aA (bC (aa ay) pF) (Bv (aa jN))) (ac (aA (bC (aa ay) bO) (ah .none)) ak)))))))⟩
def Vq:FI R:=⟨[ay,ml,iN],[],[],ac (aA (aQ bO) (bb (aN (aa ay) pD) 7628135 2 tY (ao (aa iN) (ao (ah .none) az)) aC)) (ac (aY (aO (a8 .Is (aa bO) (ah .none))) (ac (aA (aQ bO) (bB (ah (.glo 742)) (ao (bf (aN (aa ay) fI) (aa iN)) (ao (aa ml) az)) aC)) (ac (aA (dC (aN (aa ay) pD) (aa iN)) (aa bO)) (ac (b_ (aa bO)) ak))) ak) (ac (aY (dQ (aO (aa ml)) (dQ (aO (a8 .In (aa iN) (aN (aa ml) pC))) d4)) (ac bc (ac bc (ac bc ak))) ak) (ac (b_ (ah .none)) ak)))⟩
def Vr:FI R:=⟨[ay,ml,iN],[],[],ac (aA (aQ 0x65646f6e5f77656e) (bb (aa ay) wF 9 bP (ao (aa ml) (ao (aa iN) az)) aC)) (ac (aY (aO (a8 .IsNot (aa 0x65646f6e5f77656e) (ah .none))) (ac (bZ (bb (aN (aa ay) mo) gw 0 ge (ao (aa 0x65646f6e5f77656e) az) aC)) ak) ak) ak)⟩
def Vs:FI R:=⟨[ay,bO,nJ,1668047203],[(1668047203,.bool false)],[],ac (aA (aQ rF) (dL az)) (ac (cR (aQ cn) (aa nJ) (ac (aA (aQ 0x65646f6e5f706564) (bf (aN (aa ay) pD) (aa cn))) (ac (aY (iR (iu (aO (aa 0x65646f6e5f706564))) (iR (aO (a8 .In (aN (aa 0x65646f6e5f706564) mn) (hX (ao (ah .none) (ao (ah (.str 7239026)) az))))) nS)) (ac (aY (aO (a8 .NotIn (aa cn) (aa rF))) (ac (bZ (bb (aa rF) gw 0 ge (ao (aa cn) az) aC)) ak) ak) ak) (ac (bZ (bb (aa bO) wE 9 bP (ao (aa 0x65646f6e5f706564) az) aC)) (ac (aY (aO (aa 1668047203)) (ac bc ak) ak) ak))) ak))) (ac (cR (aQ cn) (aa rF) (ac (aA (dC (aN (bf (aN (aa ay) pD) (aa cn)) tO) (aN (aN (aa bO) bH) cn)) (aa bO)) ak)) (ac (aY (aO (aa 1668047203)) (ac (bZ (bb (aN (aa bO) rD) 0x657461647075 3 w_ (ao (aa rF) az) aC)) ak) (ac (bZ (bb (aN (aa bO) nL) 0x657461647075 3 w_ (ao (aa rF) az) aC)) ak)) ak)))⟩
def Vt:FI R:=⟨[ay,bO],[],[],ac (aA (aQ 0x6b7361745f73696874) (aN (aa bO) bH)) (ac (rT (aO (a8 .Eq (aN (aa bO) 435727460464) (ah (.int 0)))) (ac (aA (aQ A5) (aN (aa bO) iq)) (ac (aA (bC (aa bO) iq) (dL az)) (ac (aA (aQ A6) (kq (aN (aa bO) gd) iQ iQ)) (ac (aA (bC (aa bO) gd) (dL az)) (ac (cR (aQ iq) (aa A5) (ac bc ak)) (ac (bZ (bb (aa ay) wG 9 bP (ao (aa bO) (ao (aa A5) az)) (rP 1668047203 (ah (.bool true)) aC))) (ac (cR (aQ gd) (aa A6) (ac (bZ (bb (aa ay) 0x79646165725f6464615f 9 bP (ao (aa bO) (ao (aa gd) az)) aC)) ak)) (ac (bZ (bb (aa ay) wG 9 bP (ao (aa bO) (ao (aa A6) az)) aC)) (ac (aY (iR (aO (aN (aa bO) iq)) (iR (aO (aN (aa bO) gd)) nS)) (ac rR ak) (ac (aY (iR (aO (aN (aa bO) nL)) (iR (aO (aN (aa bO) rD)) nS)) (ac (b_ (ah (.str 1953063287))) ak) (ac (aA (bC (aa bO) 435727460464) (ah (.int 1))) (ac (b_ (ah (.str bH))) ak))) ak)) ak)))))))))) (ac (aY (aO (aN (aa 0x6b7361745f73696874) rC)) (ac bc (ac bc (ac bc ak))) ak) (ac (b_ (ah .none)) ak)))⟩
def Vu:FI R:=⟨[ay,mo,pF],[],[],ac (aY (aO (aa mo)) (ac (b_ (bb (aa mo) 7368560 0 tW (ao (ah (.int 0)) az) aC)) ak) ak) (ac (rT (aO (aa pF)) (ac (aA (aQ iN) (bb (aa pF) 7368560 0 tW az aC)) (ac (aA (aQ bO) (bb (aa ay) wF 9 bP (ao (ah .none) (ao (aa iN) az)) aC)) (ac (aY (aO (aa bO)) (ac (b_ (aa bO)) ak) ak) ak)))) (ac (b_ (ah .none)) ak))⟩
def Vv:FI R:=⟨[ay,tQ],[],[],ac (aY (aO (a8 .Is (aa tQ) (ah .none))) (ac (b_ (ah .none)) ak) ak) (ac (aA (aQ bO) (aa tQ)) (ac (aY (aO (aN (aa bO) wL)) (ac bc (ac bc (ac bc ak))) ak) (ac (aY (aO (a8 .Eq (aN (aa bO) mn) (ah (.str 7239026)))) (ac bc ak) ak) (ac (cR (aQ mr) (bB (ah (.bi .lst)) (ao (bb (aN (aa bO) tO) nH 2 tZ az aC) az) aC) (ac (bZ (bb (aa mr) wE 9 bP (ao (aa bO) az) aC)) (ac (aA (aQ iN) (aN (aN (aa bO) bH) cn)) (ac (aY (aO (a8 .In (aa iN) (aN (aa mr) nL))) (ac (bZ (bb (aN (aa mr) nL) rq 3 t0 (ao (aa iN) az) aC)) (ac (aA (aQ 0x79646165725f7369) (t8 (xd (aN (aa mr) nL) (aN (aa mr) rD)))) ak)) (ac bc (ac bc (ac bc (ac bc ak))))) (ac (aY (dQ (aO (aa 0x79646165725f7369)) (dQ (aO (a8 .In (aN (aN (aa mr) bH) cn) (aN (aa ay) pE))) d4)) (ac (bZ (bb (aN (aa ay) mo) gw 0 ge (ao (aa mr) az) aC)) (ac (nU (aN (aa ay) pE) (aN (aN (aa mr) bH) cn)) ak)) ak) ak))))) ak))))⟩
def Vw:FI R:=⟨[ay,tQ],[],[],ac (bZ (bb (aa ay) AZ 9 bP (ao (aa tQ) az) aC)) (ac (rT (aO (ah (.bool true))) (ac (aY (iu (aO (aN (aa ay) bO))) (ac (aA (bC (aa ay) bO) (bb (aa ay) AY 9 bP (ao (aN (aa ay) mo) (ao (aN (aa ay) pF) az)) aC)) (ac (aY (iu (aO (aN (aa ay) bO))) (ac (aY (aO (aN (aa ay) pE)) (ac bc ak) ak) (ac (b_ (ah .none)) ak)) ak) ak)) ak) (ac (aA (aQ wN) (bb (aa ay) 0x6b7361745f6464615f 9 bP (ao (aN (aa ay) bO) az) aC)) (ac (aY (aO (a8 .Is (aa wN) (ah .none))) (ac (aA (bC (aa ay) bO) (ah .none)) (ac rR ak)) ak) (ac (aY (aO (a8 .Eq (aa wN) (ah (.str bH)))) (ac (b_ (aN (aa ay) bO)) ak) ak) (ac (xh (aO (a8 .Eq (aa wN) (ah (.str 1953063287))))) (ac (aA (dC (aN (aa ay) pE) (aN (aN (aN (aa ay) bO) bH) cn)) (aN (aa ay) bO)) (ac (aA (bC (aa ay) bO) (ah .none)) ak)))))))) ak)⟩
def Vx:FI R:=⟨[106,0x73746e65746e6f63],[],[],ac (aA (aQ 465491488628) (aa 106)) (ac (cR (aQ mu) (aa 0x73746e65746e6f63) (ac (aA (aQ 465491488628) (bQ .Add (bQ .Mult (aa 465491488628) (ah (.int 2))) (aa mu))) ak)) (ac (b_ (bQ .Mod (aa 465491488628) (ah (.int 3)))) ak))⟩
def Vy:FI R:=⟨[cx,fJ],[],[d9],ac (aA (kr d9) (gj aC)) (ac (cR (aQ fu) (ah (.str 6513249)) (ac (aY (aO (a8 .In (aa fu) (aa cx))) (ac (aA (dC (bT d9) (aa fu)) (bf (bf (aa cx) (aa fu)) (ah (.int 2)))) ak) ak) ak)) (ac (cR (aQ 106) (bB (ah (.bi .range)) (ao (ah (.int 4)) az) aC) (ac (aY (iu (aO (iS (aa 102) (aQ 102) (bf (aa fJ) (aa 106)) (dQ (aO (a8 .NotIn (aa 102) (bT d9))) d4) [d9]))) (ac (aA (dC (bT d9) (bf (ah (.str aB0)) (aa 106))) (bB (ah (.glo 854)) (ao (aa 106) (ao (iS (bf (bT d9) (aa 102)) (aQ 102) (bf (aa fJ) (aa 106)) d4 [d9]) az)) aC)) ak) ak) ak)) (ac (b_ (bT d9)) ak)))⟩
def Vz:FI R:=⟨[fJ,500153084262],[],[],ac (aA (aQ mw) (bB (ah (.bi .lst)) (ao (aa 500153084262) az) aC)) (ac (cR (aQ 106) (hX (ao (ah (.int 3)) (ao (ah (.int 2)) (ao (ah (.int 1)) (ao (ah (.int 0)) az))))) (ac (aY (aO (a8 .In (aa 106) (aa mw))) (ac (cR (aQ 107) (bB (ah (.bi .range)) (ao (ah (.int 4)) az) aC) (ac (aY (dQ (aO (a8 .In (bf (ah (.str aB0)) (aa 107)) (bf (aa fJ) (aa 106)))) (dQ (aO (a8 .NotIn (aa 107) (aa mw))) d4)) (ac (bZ (bb (aa mw) gw 0 ge (ao (aa 107) az) aC)) ak) ak) ak)) ak) ak) ak)) (ac (b_ (bB (ah (.bi .sorted)) (ao (aa mw) az) aC)) ak))⟩
def VC:FI R:=⟨[cx,495673696624,my],[],[],ac (aA (aQ nM) (gj aC)) (ac (cR (aQ 102) (aa 495673696624) (ac (aY (aO (a8 .In (aa 102) (aa cx))) (ac (aA (dC (aa nM) (aa 102)) (bf (bf (aa cx) (aa 102)) (aa my))) ak) ak) ak)) (ac (b_ (aa nM)) ak))⟩
def Jn:FI R:=⟨[7431539,nK],[],[],ac (bZ (bb (bT pB) gw 0 ge (ao (aa nK) az) aC)) (ac (aY (aO (a8 .In (aa nK) (aN (bT ay) fI))) (ac (aA (aQ 0x6b7361745f656874) (bf (aN (bT ay) fI) (aa nK))) (ac (aA (aQ 7431539) (bb (aa 0x6b7361745f656874) AP 9 bP (ao (aa 7431539) az) aC)) ak)) ak) (ac (b_ (aa 7431539)) ak))⟩
def VG:TR (FI R):=(.N (.N (.N (.N (.N (.N (.N (.N (.N (.L (U_ R)) (.L (Vq R))) .lf) .lf) .lf) .lf) (.N (.N (.N .lf (.N .lf (.N (.L (Vm R)) .lf))) (.N (.L (UM R)) .lf)) (.nd (some (UF R)) (.N (.N .lf (.N (.L (Vf R)) .lf)) .lf) .lf))) (.N (.N (.N .lf (.N (.N (.N (.L (Va R)) (.L (Vv R))) .lf) (.nd (some (UR R)) .lf (.nd (some (U0 R)) (.L (Vo R)) .lf)))) (.N .lf (.N .lf (.N (.N .lf (.N .lf .lf)) .lf)))) (.N (.N .lf (.N (.N .lf (.N (.L (Vh R)) .lf)) .lf)) (.N (.N (.N (.L (UW R)) .lf) (.nd (some (UQ R)) (.N .lf (.L (Vy R))) .lf)) (.N .lf (.N (.N (.L (Vb R)) .lf) .lf)))))) (.N (.N (.N (.N (.N .lf (.nd (some (UO R)) (.N (.N .lf (.N (.N (.N (.N (.N .lf (.N (.N .lf (.N .lf (.N .lf (.L (Jn R))))) .lf)) .lf) .lf) .lf) .lf)) .lf) .lf)) (.N (.N .lf (.N (.L (Vg R)) .lf)) .lf)) (.N .lf (.N (.N (.N .lf (.L (Vw R))) .lf) (.N .lf (.L (U8 R)))))) (.N (.N (.N (.N .lf (.N (.L (Vd R)) .lf)) .lf) (.N .lf (.N (.N .lf (.L (VC R))) .lf))) (.N .lf (.N (.N .lf (.N (.L (Vj R)) .lf)) .lf)))) (.N (.N (.N (.L (UG R)) .lf) (.N (.N (.N (.N .lf (.L (Vt R))) .lf) .lf) .lf)) (.N (.N (.N (.N (.L (UU R)) .lf) .lf) .lf) (.N .lf (.L (UK R))))))) (.N (.N (.N (.N (.N (.N .lf (.N .lf (.N (.L (Vl R)) .lf))) .lf) (.N (.N (.N .lf (.N (.L (Ve R)) .lf)) .lf) .lf)) (.N (.N (.N .lf (.L (UP R))) (.N .lf (.N (.L (UZ R)) .lf))) (.N .lf (.N (.N (.L (UX R)) .lf) (.N .lf (.nd (some (U9 R)) (.L (Vp R)) .lf)))))) (.N (.N (.N (.N (.L (UL R)) .lf) .lf) (.N (.N (.N (.L (UV R)) .lf) (.N (.L (UY R)) .lf)) .lf)) (.N (.N (.L (UH R)) .lf) (.N (.N (.N (.N .lf (.L (Vu R))) .lf) (.N .lf (.N (.L (Vn R)) .lf))) .lf)))) (.N (.N (.N (.N .lf (.N .lf (.N (.N .lf (.L (Vz R))) .lf))) (.N .lf (.N (.N .lf (.N (.L (Vi R)) .lf)) .lf))) (.N (.N .lf (.N .lf (.nd (some (US R)) .lf (.L (U7 R))))) (.N (.L (UI R)) .lf))) (.N (.N (.N (.N (.N (.nd (some (UT R)) .lf (.L (Vr R))) .lf) .lf) .lf) (.N (.N .lf (.N (.N .lf (.L (Vx R))) .lf)) (.L (UJ R)))) (.N (.N (.N (.N (.N .lf (.L (Vs R))) .lf) .lf) (.N (.L (UN R)) (.N (.N .lf (.N .lf .lf)) .lf))) .lf)))))
end
end
def n_:List Nat:=[6448223,7368560,7628135,7628147,1684956531,bO,cn,bH,la,1952802655,1952805727,435727460464,pD,cx,fI,499984920691,517097156201,mo,gw,0x646e65747865,0x657461647075,rq,nH,0x737473697865,fj,0x74616d726f66,ip,mj,pE,iM,gu,lc,rB,0x737365636f7270,dK,iL,jb,0x6874697773646e65,nL,iq,tM,fq,gd,rE,wF,tI,0x6b7361745f6464615f,pC,tO,aN0,wC,0x6e6f736165725f746573,pz,0x737065645f74696e695f,mn,0x7375746174735f746567,0x79646165725f6464615f,rC,wL,pF,AP,AJ,rD,AW,AK,wE,tH,AY,AL,jN,wD,AZ,AX,AU,AT,AN,AQ,AR,wG,AS]
def xM:List Nat:=[6448223,bO,cn,bH,435727460464,pD,cx,fI,mo,nH,fj,ip,0x6465736f6c635f,mj,pE,iM,gu,lc,tL,rB,0x736e6f73616572,dK,0x6465747563657865,jb,nL,iq,tM,fq,gd,rE,pC,tO,rz,pz,mn,rt,rA,rC,wL,A0,pF,0x737065645f6465726f6e6769,A3,rD,jN]
def p6:iJ:=[(0x656c6946676e697373694d,.glo 31),(72861678007114,.glo 100),(0x72656b6365684335444d,.glo 177),(AI,.glo 203),(0x73757461745379636e65646e65706544,.glo 244),(0x79636e65646e65706544,.glo 363),(1802723668,.glo 569),(0x6c6f72746e6f436b736154,.glo 714),(0x65646f4e63657845,.glo 742),(0x726568637461707369446b736154,.glo 820),(0x73656d616e5f77616c5f,.glo 825),(0x73646165725f77616c5f,.glo 826),(0x73656e696c5f77616c5f,.glo 847),(0x7365686374616d,.glo 635),(0x6564616d5f77616c5f,.glo 854),(0x686374617263735f77616c5f,.glo 859),(0x64656465656e5f77616c5f,.glo 866),(0x657275746369705f77616c5f,.glo 873),(0x6e75725f77616c5f,.glo 878),(0x73656b616d5f77616c5f,.str aB0)]
def un:List (Nat×BI):=[(7234924,.len),(0x65636e6174736e697369,.isinst),(1953720684,.lst),(435611006324,.tup),(7628147,.set),(0x646574726f73,.sorted),(7173491,.sum),(0x65746172656d756e65,.enum),(435526984050,.range),(0x6465737265766572,.rev),(7500915,.tyStr)]
section
variable {X:Fx}
def mP:Nat:=0x5f5f67756265645f5f
def uo:Nat:=0x5f5f746369647373616c635f5f
theorem VH:am mP=("__debug__" : Str):=by decide +kernel
theorem VI:am uo=("__classdict__" : Str):=by decide +kernel
def Jo:List bv->Option (Str×AA×List bv×gM)
 |.FunctionDef name params body _ _ _ scope _ _ _::_=>some (name,params,body,scope)
 |_::r=>Jo r
 | []=>none
def Cy(K:cj)(g:bI):Option (Str×AA×List bv×gM):=match K.lookup g with
 |some ⟨_,_,.func fd,_⟩=>(match fd.body with
  |.stmts b=>Jo b
  |_=>none)
 |_=>none
def p7:Nat:=aQ0
def Jp(K:cj)(g q:Nat)(w:tu):Prop:=g=1000001/\q=p7/\∃z params body scope,Cy K 690=some (z,params,body,scope)/\∃clos x v u y,w=fnX z (am q) params body scope clos .none .none x v none (.ref u) y
structure bG(X:Fx):Prop where
 O:X.Ok
 CS:ef X
 NS:∀n,a5 n_ n=true->iU X n/\nC.contains (am n)=false
 SS:∀n,a5 xM n=true->xt X n
 G:∀n a,ae p6 n=some a->∃v,X.mg (am n)=some v/\∀ρ,aE ρ X.σ a v
 B:∀n b,ae un n=some b->X.mg (am n)=none/\X.mb (am n)=some (mG b)
 EX:xG X 31
 CH:CodeHd X.h₀ 689 X.σ.tp
 gP:jK≠X.σ.tp
 blt:X.h₀.BuiltinsAt X.mg X.σ.tp
 nf:X.σ.nf=Jp X.K
theorem bG.NI(Z:bG X):iU X nQ:=(Z.NS nQ rfl).1
theorem bG.BO(Z:bG X):∀b,iW X b:=Tn Z.O Z.CS
theorem sg(hx:x=am c)(z:Nat.beq c mP=false):(x == ("__debug__" : Str))=false:=by
 rw[hx,<-VH]
 simpa using mF (Nat.ne_of_beq_eq_false z)
theorem VJ(hx:x=am c)(z:Nat.beq c uo=false):(x == ("__classdict__" : Str))=false:=by
 rw[hx,<-VI]
 simpa using mF (Nat.ne_of_beq_eq_false z)
theorem VK(hx:x=am c)(y:Nat.beq c mP=false):SE X w (.Name x z) (aa c):=Pi hx (sg hx y)
theorem Jq(hx:x=am c)(v:w.names.lookup x=some .cell\/w.names.lookup x=some .free)(u:Nat.beq c mP=false)(y:Nat.beq c uo=false):SE X w (.Name x z) (bT c):=Pj hx v (VJ hx y) (sg hx u)
theorem Jr(Z:bG X)(hx:x=am c)(y:u.names.lookup x=some .globalImplicit)(s:Nat.beq c mP=false)(r:ae p6 c=some a):SE X u (.Name x z) (ah a):=by
 obtain⟨v,w,t⟩:=Z.G c a r;exact Hi Z.O y (sg hx s) (.inl<|by rw[hx];exact w) t
theorem Js(Z:bG X)(hx:x=am c)(w:u.names.lookup x=some .globalImplicit)(s:Nat.beq c mP=false)(r:ae un c=some b):SE X u (.Name x y) (ah (.bi b)):=by
 obtain⟨t,v⟩:=Z.B c b r;exact Hi Z.O w (sg hx s) (.inr ⟨by rw[hx];exact t,by rw[hx];exact v⟩) λz=>rfl
theorem VL(Z:bG X)(hx:x=am c)(y:u.names.lookup x=some .globalImplicit)(s:Nat.beq c mP=false)(r:ae p6 c=some (.glo C)):xH X u x (.ref C):=by
 obtain⟨v,w,t⟩:=Z.G c _ r;have e:=t λz=>none;exact T8 Z.O y (sg hx s) (.inl<|by rw[hx,<-e];exact w)
theorem VM(Z:bG X)(t:y=am n)(w:a5 n_ n=true)(u:nW x)(hx:SE X v x p):SE X v (.Attribute x y z) (aN p n):=
 Pq Z.O Z.CS t (Z.NS n w).1 (Z.NS n w).2 u hx
theorem VN(Z:bG X)(u:y=am c)(w:a5 xM c=true)(hx:SE X v x p):SP X v (.Attribute x y z) (bC p c):=
 Q9 Z.O Z.CS u (Z.SS c w) hx
theorem VO(Z:bG X)(l:y=am c)(q:a5 n_ c=true)(p:Cb o y v w u z)(r:kd<5->gz X y kd bm)(ho:SE X s o po)(t:pW w)(m:SL X s w x)(n:SK X s names u pk):SE X s (.Call (.Attribute o y v) w u z) (bb po c kd bm x pk):=
 RM Z.O Z.CS Z.NI l (Z.NS c q).1 (Z.NS c q).2 p r ho t m n
theorem VP(Z:bG X)(q:∀w:Env,gN (.Call g x v z) w=(do F_ z (<-gN g w) [] (nD z (l7 x w)) (ki z (kj v w))))(o:SE X t g r)(u:pW x)(p:SL X t x y)(s:SK X t names v pk):SE X t (.Call g x v z) (bB r y pk):=
 RO Z.O Z.CS Z.NI Z.BO q o u p s
theorem VQ(s:nW o)(t:(v.endLine == z.line)=true)(r:∀x,Oe (w.length+u.length) (nD z (l7 w x)) (ki z (kj u x))=true):Cb o y v w u z:=by
 refine⟨λx=>do return(<-importBound o x).getD true,λx=>?_⟩;rw[arm_eval_Call,s];delta methodCall calleeOf methodCallPos;rw[r,t];rfl
theorem VR{scope:gM}{free:List Nat}(u:(((scope.names.filter (·.2 == .free)).map (·.1)).all λx=>free.any λy=>decide (x=am y))=true)(v:(free.all λy=>((scope.names.filter (·.2 == .free)).map (·.1)).any λx=>decide (x=am y))=true):∀x,x∈(scope.names.filter (·.2 == .free)).map (·.1)↔∃y∈free,x=am y:=by
 intro x
 constructor
 .intro hx;obtain⟨y,w,e⟩:=List.any_eq_true.mp<|List.all_eq_true.mp u x hx;exact⟨y,w,br e⟩
 .rintro⟨y,w,e⟩;obtain⟨z,t,e2⟩:=List.any_eq_true.mp<|List.all_eq_true.mp v y w;rw[e,<-br e2];exact t
def Cz:iJ->List (Str×au)->Bool
 | [],[]=>true
 |p::ps,q::qs=>decide (q.1=am p.1) && (xL p.2 q.2 && Cz ps qs)
 |_,_=>false
theorem Jt:∀{z:iJ}{y:List (Str×au)},Cz z y=true->aD (fM u t) z y
 | [],[],_=>trivial
 |p::z,q::y,h=>by obtain⟨w,x⟩:=Bool.and_eq_true_iff.mp h;obtain⟨x,v⟩:=Bool.and_eq_true_iff.mp x;exact⟨⟨br w,Cv x⟩,Jt v⟩
 | [],_::_,h=>by cases h
 |_::_,[],h=>by cases h
def CB(y:List Nat)(dfl:iJ)(z:List au):Bool:=Nat.ble z.length y.length && Cz dfl (((y.map am).drop (y.length - z.length)).zip z)
theorem VS(h:CB y dfl z=true):Cj v u y dfl z:=by
 obtain⟨w,x⟩:=Bool.and_eq_true_iff.mp h;exact⟨Nat.le_of_ble_eq_true w,Jt x⟩
def Ju:Data->Option (Array au)
 |.fields vs=>some vs
 |_=>none
theorem VT(h:Ju d=some z):d=.fields z:=by
 cases d with
 |fields y=>exact aT Data.fields<|Option.some.inj h
 |_=>exact a6 h
def Jv(K:cj)(cd:au)(q:Str):Bool:=ad (um cd) false λc=>ad (K.lookup c) false λo=>ad (Ju o.data) false λz=>ad (z[1]?) false λv=>ad (xJ v) false λx=>decide (x=q)
theorem VU{K:cj}(x:K.In h)(e:Jv K cd q=true):h.CodeRec cd q:=
 dl e λc n e=>dl e λo s e=>dl e λz u e=>dl e λv r e=>dl e λy p e=>by obtain⟨t,w⟩:=Cu p;exact⟨c,o,z,t,xI n,x _ _ s,VT u,by rw[r,w,br e]⟩
def CC(z:List Str)(names:List (Str×NameKind))(x y:List Nat):Bool:=decide (z=x.map am) && (decide x.Nodup && (decide ((names.filter (·.2 == .cell)).map (·.1)=y.map am) && (decide y.Nodup &&
 ((x.all λp=>if p∈y then true else decide (names.lookup (am p)=some .local)) && y.all λc=>decide<|names.lookup (am c)=some .cell))))
theorem VV(s q:List Nat)(dfl:iJ)(e1:u.params=s)(e2:u.cells=q)(e:u.dfl=dfl)(keep:tw X.K (.ref g)=true)(ho:X.h₀.get? g=some o)(hd:o.data=.func x)(co:x.scope.isCoroutine=false)(gen:x.scope.isGenerator=false)(bd:x.body=.stmts body)(cr:X.h₀.CodeRec x.code x.qualname)(cl:x.closure=[])(glob:x.globals=jK)(blt:x.builtins=tv)(kind:x.scope.kind=.function)(p1:x.params.posonlyargs=[])(p2:x.params.kwonlyargs=[])(p3:x.params.vararg=none)(p4:x.params.kwarg=none)(z:CC (x.params.args.map (·.arg)) x.scope.names s q=true)(dv:(x.defaults=.none/\w=[])\/∃t n,x.defaults=.ref t/\X.h₀.get? t=some { cls:=.type "tuple",data:=.seq w.toArray n })(d:CB s dfl w=true)(sb:SB X ⟨x.scope,x.code,x.qualname++".<locals>."⟩ body u.body):mO X g u o x body w:=by
 subst e1 e2 e;delta CC at z;simp only[Bool.and_eq_true,decide_eq_true_eq] at z;obtain⟨k,m,i,l,j,f⟩:=z;have v:=λc r=>br<|List.all_eq_true.mp f c r;refine⟨keep,ho,hd,co,gen,bd,cr,cl,glob,blt,kind,p1,p2,p3,p4,k,m,dv,VS d,i,l,λp y=>⟨λh=>?_,λr=>v p r⟩,v,sb⟩;have b:=List.all_eq_true.mp j p y;rw[aq h] at b;exact br b
theorem VW(Z:bG X){u:bJ}{z:Str}(v:Cy X.K 690=some (z,params,body,scope))(k:u.cd=.ref 689)(o:u.ql++z=am p7)(g:u.names.lookup z≠some .globalExplicit)(m:w.line=l)(i:w.col=c)(f:params.defaults=[])(j:params.kw_defaults=[])(h:∀s,Oc params none s=[])(e:(((scope.names.filter (·.2 == .free)).map (·.1)).all λx=>free.any λy=>decide (x=am y))=true)(t:(free.all λy=>((scope.names.filter (·.2 == .free)).map (·.1)).any λx=>decide (x=am y))=true):Cl X u 1000001 p7 l c z params body scope w free:=
 ⟨⟨689,k,Z.CH⟩,o,g,m,i,f,j,h,λclos r p n q=>by rw[Z.nf];exact⟨rfl,rfl,z,params,body,scope,v,clos,r,p,n,q,rfl⟩,VR e t,Z.gP,Z.blt⟩
end
def cF(x:Str):Nat:=OA x.cps.toList
def hZ(x:Str):Bool:=decide (x=am (cF x))
def uq(x:Str):Bool:=J (hZ x) (J (Nat.beq (cF x) mP) false (J (Nat.beq (cF x) uo) false true)) false
abbrev kA{y:Type}(b x:Nat)(f:x=b->Option y):Option y:=@dite (Option y) (x=b) (instDecidableEqNat x b) f λz=>none
def eh(e:aS):Bool:=!(Nat.beq e.ctorIdx 22)
def CD(e:aS):Bool:=!(Nat.beq e.ctorIdx 26)
def ur(e:aS):Bool:=!(a5 [0,3,5,15] e.ctorIdx)
def mQ(e:aS):Bool:=!(Nat.beq e.ctorIdx 7)
structure VX where
 f:aS
 as:List aS
 ks:List k6
 pos:Pos
def iY(x:aS):Option (Str×Pos):=kA 23 x.ctorIdx λh=>aq3 x h λa b=>some (a,b)
def ut(x:aS):Option (aS×Str×Pos):=kA 20 x.ctorIdx λh=>aq4 x h λa b c=>some (a,b,c)
def p8(x:aS):Option VX:=kA 16 x.ctorIdx λh=>Of x h λa b c d=>some ⟨a,b,c,d⟩
def sh(x:aS):Option (aS×aS×Pos):=kA 21 x.ctorIdx λh=>aq5 x h λa b c=>some (a,b,c)
def Jw(x:aS):Option (Option aS×Option aS×Option aS×Pos):=kA 26 x.ctorIdx λh=>aq6 x h λa b c d=>some (a,b,c,d)
def CE(x:aS):Option (List aS×Nat×Pos):=kA 25 x.ctorIdx λh=>Og x h λa b c=>some (a,b,c)
def Jx(x:aS):Option (aS×List AB×gM×Pos):=kA 8 x.ctorIdx λh=>aq7 x h λa b c d=>some (a,b,c,d)
def Jy(x:bv):Option (List aS×aS×Pos):=kA 5 x.ctorIdx λh=>aq8 x h λa b c=>some (a,b,c)
def xN(x:aS):Bool:=ad (p8 x) true λq=>J (Nat.beq q.f.ctorIdx 20) true (!q.as.isEmpty)
def one{y:Type}:List y->Option y:=λl=>@List.casesOn y (λz=>Option y) l none λx r=>@List.casesOn y (λz=>Option y) r (some x) λz z=>none
def CF{y:Type}:List y->Option (y×List y):=λl=>@List.casesOn y (λz=>Option (y×List y)) l none λx r=>some (x,r)
def og(e:aS):Bool:=a5 [8,9,10] e.ctorIdx
def isTup(e:aS):Bool:=a5 [24,25] e.ctorIdx
section
variable (R:Type)
structure fN where
 e:bJ->aS->XE R
 t:bJ->aS->XB R
 p:bJ->aS->XP R
 s:bJ->bv->XS R
def uu:List (Nat×(Nat×XM R)):=[(0x646e65707061,(0,ge)),(0x646e65747865,(0,Bl)),(7368560,(0,tW)),(517097156201,(1,Bm)),(7628135,(2,tY)),(0x7365756c6176,(2,tZ)),(0x657461647075,(3,w_)),(0x65766f6d6572,(3,t0)),(499984920691,(4,Bo)),(aN0,(4,Bp)),(0x6874697773646e65,(4,Bq)),(0x74616d726f66,(4,Br))]
variable {R}
def CG:XL R:=λe z z z z=>e.stop
def sj:XK R:=λe z z z z=>e.stop
def lv:XB R:=λe z z z z=>e.stop
def lw:XP R:=λe z z z z z=>e.stop
def Jz:jP R:=λe z z z z z=>e.stop
def CJ(z:bJ)(x:Str):XE R:=J (uq x) (ad (z.names.lookup x) du λk=>match k with
 |.local=>aa<|cF x
 |.cell=>bT<|cF x
 |.free=>bT<|cF x
 |.globalImplicit=>ad (ae p6<|cF x) (ad (ae un<|cF x) du λb=>ah<|.bi b) λa=>ah a
 |_=>du) du
def cL(e:aS->XE R)(y:List aS):XL R:=@List.rec aS (λz=>XL R) az (λx z w=>J (eh x) (ao (e x) w) CG) y
def cK(e:aS->XE R)(ks:List k6):XK R:=@List.rec k6 (λz=>XK R) aC (λk z y=>ad k.arg sj λx=>J (hZ x) (rP (cF x) (e k.value) y) sj) ks
def cD(e:aS->XE R)(ks:List (Option aS)):List aS->XK R:=@List.rec (Option aS) (λz=>List aS->XK R) (λy=>@List.rec aS (λz=>XK R) aC (λz z z=>sj) y) (λk z w y=>@List.rec aS (λz=>XK R) sj (λv y z=>ad k sj λx=>t4 (e x) (e v) (w y)) y) ks
def JA(t:aS->XB R)(y:List aS):XB R:=@List.rec aS (λz=>XB R) d4 (λx z w=>dQ (t x) w) y
def JB(t:aS->XB R)(y:List aS):XB R:=@List.rec aS (λz=>XB R) nS (λx z w=>iR (t x) w) y
def cO(e:aS->XE R)(x:Option aS):XO R:=ad x iQ λx=>nR (e x)
def sk(p:aS->XP R)(ts:List aS):jP R:=@List.rec aS (λz=>jP R) xg (λx z y=>J (eh x) (nT (p x) y) Jz) ts
def cB(s:bv->XS R)(y:List bv):XS R:=@List.rec bv (λz=>XS R) ak (λx z w=>ac (s x) w) y
def p9(ks:List k6):Bool:=ks.all λk=>k.arg.isSome
def CK(scope:gM):List Nat:=(scope.names.filter (·.2 == .free)).map λp=>cF p.1
def xO(t z:aS)(scope:gM):Bool:=scope.names.all (λy=>y.2 != .cell) && (scope.kind == .function && (scope.names.all (λy=>y.2 != .local || scope.names.lookup y.1 == some .local) && (!isTup t && (mQ z && scope.names.all (λy=>y.2 != .free || hZ y.1)))))
def CL(t:aS->XB R):List aS->XB R
 | []=>d4
 | [c]=>dQ (t c) d4
 |_=>lv
def JC(c:fN R)(z:bJ)(y:aS)(scope:gM)(g:AB):XE R:=J (decide (g.is_async=0)) (J (xO g.target g.iter scope) (iS (c.e (jh z scope) y) (c.p (jh z scope) g.target) (c.e z g.iter) (CL (c.t (jh z scope)) g.ifs) (CK scope)) du) du
def CN(c:fN R)(x:bJ)(z:aS)(scope:gM)(y:List AB):XE R:=ad (one y) du (JC c x z scope)
def JD:Const->XE R
 |.none=>ah .none
 |.bool b=>ah<|.bool b
 |.int i=>ah<|.int i
 |.str x=>J (hZ x) (ah<|.str<|cF x) du
 |_=>du
def JE(f:aS)(as:List aS)(ks:List k6):Option (Str×Str×aS):=J ks.isEmpty (ad (iY f) none λa=>ad (one as) none λy=>ad (p8 y) none λq=>J q.ks.isEmpty (ad (iY q.f) none λb=>ad (one q.as) none λx=>some (a.1,b.1,x)) none) none
def mR(z:bJ)(x:Str)(b:BI):Bool:=J (uq x) (decide (z.names.lookup x=some .globalImplicit) && (!(ae p6 (cF x)).isSome && decide (ae un (cF x)=some b))) false
def CP(c:fN R)(z:bJ)(as:List aS)(ks:List k6)(pos:Pos)(f:aS):XE R:=ad (ut f) (ad (iY f) du λq=>J (as.all eh && p9 ks) (bB (CJ z q.1) (cL (c.e z) as) (cK (c.e z) ks)) du) λq=>J (hZ q.2.1 && (a5 n_ (cF q.2.1) && (xN q.1 && ((q.2.2.endLine == pos.line) && (as.all eh && (p9 ks && Nat.blt (as.length+ks.length+1) 30)))))) (bb (c.e z q.1) (cF q.2.1) (ad (ae (uu R) (cF q.2.1)) 9 λp=>p.1) (ad (ae (uu R) (cF q.2.1)) bP λp=>p.2) (cL (c.e z) as) (cK (c.e z) ks)) du
def JF(c:fN R)(z:bJ)(x y:aS):XE R:=ad (Jw y) (J (CD y) (bf (c.e z x) (c.e z y)) du) λq=>J q.2.2.1.isNone (kq (c.e z x) (cO (c.e z) q.1) (cO (c.e z) q.2.1)) du
def JG(c:fN R)(x:bJ)(l:aS)(z:List q8)(w:List aS):XE R:=ad (one z) du λy=>ad (one w) du λr=>J (Am y r) du (a8 y (c.e x l) (c.e x r))
def CQ(c:fN R)(y:bJ)(ks:List (Option aS))(z:List aS):XE R:=J (ks.isEmpty && z.isEmpty) (gj aC) (J (!ks.isEmpty && (Nat.ble ks.length 15 && (ks.all (λk=>k.isSome) && Nat.beq ks.length z.length))) (gj (cD (c.e y) ks z)) du)
def JH(c:fN R)(z:bJ)(f:aS)(as:List aS)(ks:List k6)(pos:Pos):XE R:=ad (JE f as ks) (CP c z as ks pos f) λq=>J (mR z q.1 .lst && (mR z q.2.1 .rev && eh q.2.2)) (Bv (c.e z q.2.2)) (CP c z as ks pos f)
def JI(c:fN R)(w:bJ)(v:nE)(x:List aS):XE R:=ad (CF x) du λq=>ad (one q.2) du λy=>@aq9 (λz=>XE R) v (t6 (c.e w q.1) (c.e w y)) (xd (c.e w q.1) (c.e w y))
def cE(c:fN R)(z:bJ):aS->XE R
 |.Constant v _ _=>JD v
 |.Name x _=>CJ z x
 |.Attribute x nm _=>J (hZ nm && (a5 n_ (cF nm) && xN x)) (aN (c.e z x)<|cF nm) du
 |.Subscript x y _=>JF c z x y
 |.Call f as ks pos=>JH c z f as ks pos
 |.Compare l ops rs _=>JG c z l ops rs
 |.BoolOp op xs _=>JI c z op xs
 |.UnaryOp op x _=>match op with
  |.Not=>t8<|c.e z x
  |_=>du
 |.IfExp t x y _=>lj (c.t z t) (c.e z x)<|c.e z y
 |.BinOp x op y _=>bQ op (c.e z x)<|c.e z y
 |.List xs _=>dL<|cL (c.e z) xs
 |.Tuple xs _ _=>hX<|cL (c.e z) xs
 |.Dict ks vs _=>CQ c z ks vs
 |.ListComp elt gs scope _=>CN c z elt scope gs
 |_=>du
def cT(c:fN R)(w:bJ):aS->XB R
 |.UnaryOp v x _=>match v with
  |.Not=>iu<|c.t w x
  |_=>lv
 |.BoolOp v xs _=>@aq9 (λz=>XB R) v (JA (c.t w) xs)<|JB (c.t w) xs
 |.IfExp a x y _=>GV (c.t w a) (c.t w x)<|c.t w y
 |.Compare l ops rs _=>ad (one ops) lv λv=>ad (one rs) lv λr=>J (Am v r) lv<|aO<|a8 v (c.e w l)<|c.e w r
 |x=>J (ur x) (aO<|c.e w x) lv
def VY(z:bJ)(x:Str):XP R:=J (hZ x) (ad (z.names.lookup x) lw λk=>match k with
  |.local=>aQ<|cF x
  |.cell=>kr<|cF x
  |_=>lw) lw
def cP(c:fN R)(z:bJ)(x:aS):XP R:=ad (iY x) (ad (ut x) (ad (sh x) (ad (CE x) lw λq=>J (q.1.all eh) (By q.1.length (sk (c.p z) q.1)) lw) λq=>dC (c.e z q.1) (c.e z q.2.1))
 λq=>J (hZ q.2.1 && a5 xM (cF q.2.1)) (bC (c.e z q.1)<|cF q.2.1) lw) λq=>VY z q.1
structure JJ where
 t:aS
 it:aS
 b:List bv
 oe:List bv
 p:Pos
@[irreducible] def p_(x:bv):Option JJ:=kA 9 x.ctorIdx λh=>ar0 x h λa b c d e=>some ⟨a,b,c,d,e⟩
def CR(x:Str)(s:bv):Option Nat:=ad (p_ s) none λf=>J f.oe.isEmpty (ad (ut f.it) none λq=>ad (iY q.1) none λy=>J (decide (y.1=x) && (hZ q.2.1 && a5 n_ (cF q.2.1))) (some (cF q.2.1)) none) none
def cZ(x:Str)(b:List bv):Option (List Nat):=@List.rec bv (λz=>Option (List Nat)) (some []) (λs z y=>ad (CR x s) none λa=>ad y none λl=>some (a::l)) b
def JK(x:aS):Bool:=ad (p8 x) false λq=>ad (ut q.f) false λa=>J (q.as.isEmpty && q.ks.isEmpty) (Nat.beq (cF a.2.1) 0x7365756c6176) false
structure CW where
 n:Str
 it:aS
 ts:List aS
def uv(t it:aS):Option CW:=ad (CE t) none λt=>ad (p8 it) none λq=>J q.ks.isEmpty (ad (iY q.f) none λn=>ad (one q.as) none λit=>some ⟨n.1,it,t.1⟩) none
def CX(c:fN R)(z:bJ)(t it:aS)(b:List bv):XS R:=ad (iY t)
 (ad (uv t it) (J (mQ it) (t_<|c.e z it) bc) λq=>J (mR z q.n .enum) (J (eh q.it && (Nat.beq q.ts.length 2 && q.ts.all eh)) (ku (sk (c.p z) q.ts) (c.e z q.it)<|cB (c.s z) b) bc)<|J (mQ it) (t_<|c.e z it) bc)
 λx=>J (JK it) (ad (cZ x.1 b) bc λl=>J (uq x.1 && (decide (z.names.lookup x.1=some .local) && mQ it)) (xj (cF x.1) (c.e z it) l) bc)<|J (mQ it) (cR (c.p z t) (c.e z it)<|cB (c.s z) b) bc
def CY(z:bJ)(x:Str)(a:Nat):Bool:=J (uq x) (decide (z.names.lookup x=some .globalImplicit) && ad (ae p6 (cF x)) false λv=>match v with|.glo b=>Nat.beq b a|_=>false) false
def xP(z:bJ)(t x:aS):Bool:=J (og x) (sh t).isSome true && ((!isTup t || !isTup x) && eh t)
def JL(c:fN R)(z:bJ)(t x:aS):XS R:=ad (Jx x) (J (xP z t x) (aA (c.p z t) (c.e z x)) bc) λl=>ad (iY t) (J (xP z t x) (aA (c.p z t) (c.e z x)) bc) λq=>
 J (hZ q.1 && (decide (z.names.lookup q.1=some .local) && ((q.2.line == l.2.2.2.line) && !(l.2.2.1.names.any λ(n,k)=>n == q.1 && (k == .local || k == .cell))))) (aA (aQ<|cF q.1)<|CN c z l.1 l.2.2.1 l.2.1) bc
def oh:tC->Option aS×Option Str×List bv×Pos
 |.ExceptHandler t n b p=>(t,n,b,p)
structure VZ where
 y:Str
 yp:Pos
 ex:aS
 ap:Pos
 t:Str
 tp:Pos
 b0:bv
 su:List bv
 hp:Pos
def JM(b:List bv)(z:List tC):Option VZ:=ad (one b) none λs=>ad (Jy s) none λa=>ad (one a.1) none λt=>ad (iY t) none λy=>ad (one z) none λh=>ad (oh h).1 none λt=>ad (iY t) none λt=>J (oh h).2.1.isNone (ad (CF (oh h).2.2.1) none λq=>some ⟨y.1,y.2,a.2.1,a.2.2,t.1,t.2,q.1,q.2,(oh h).2.2.2⟩) none
def bd(z:on)(p:Pos)(s:XS R):XS R:=J (z.contains (p.line,p.col)) bc s
def cS(z:on)(c:fN R)(w:bJ):bv->XS R
 |.Expr x p=>bd z p<|J (og x) bc<|bZ<|c.e w x
 |.Return x p=>bd z p<|ad x (b_<|ah .none) λx=>b_<|c.e w x
 |.Assign ts x p=>bd z p<|ad (one ts) bc λt=>JL c w t x
 |.Delete ts p=>bd z p<|ad (one ts) bc λt=>ad (sh t) bc λq=>nU (c.e w q.1)<|c.e w q.2.1
 |.For t it b oe p=>bd z p<|J oe.isEmpty (CX c w t it b) bc
 |.While t b oe p=>bd z p<|J oe.isEmpty (rT (c.t w t)<|cB (c.s w) b) bc
 |.If t a b p=>bd z p<|aY (c.t w t) (cB (c.s w) a)<|cB (c.s w) b
 |.Break _=>Bz
 |.Continue _=>rR
 |.Pass _=>GX
 |.Assert t _ p=>bd z p<|xh<|c.t w t
 |.Raise x y p=>bd z p<|ad x bc λx=>ad (p8 x) bc λq=>ad (iY q.f) bc λn=>J (y.isNone && (q.ks.isEmpty && (CY w n.1 31 && q.as.all eh))) (BA 31<|cL (c.e w) q.as) bc
 |.Try b hs oe fi p=>bd z p<|ad (JM b hs) bc λq=>J (fi.isEmpty && (CY w q.t 31 && (hZ q.y && (decide (w.names.lookup q.y=some .local) && !og q.ex)))) (BB (cF q.y) (c.e w q.ex) 31 (cB (c.s w)<|q.b0::q.su)<|cB (c.s w) oe) bc
 |_=>bc
def CZ(y:on)(n:Nat):fN R:=@Nat.rec (λz=>fN R) ⟨λz z=>du,λz z=>lv,λz z=>lw,λz z=>bc⟩ (λz c=>⟨cE c,cT c,cP c,cS y c⟩) n
end
section
variable {X:Fx}
structure gY(X:Fx)(c:fN X.R):Prop where
 e:∀sc x,SE X sc x<|c.e sc x
 t:∀sc x,ST X sc x<|c.t sc x
 p:∀sc x,SP X sc x<|c.p sc x
 s:∀sc x,SS X sc x<|c.s sc x
theorem ft{G:Prop}(h:false=true):G:=Bool.noConfusion h
theorem ns{G:Prop}(h:none=some x):G:=nomatch h
theorem si{G:Prop}(h:some x=some y)(g:x=y->G):G:=g (Option.some.inj h)
theorem C0{G:Prop}(h:J b p false=true)(g:b=true->p=true->G):G:=by
 cases b with|true=>exact g rfl h|false=>exact ft h
theorem JN{G:Prop}(h:J b false p=true)(g:b=false->p=true->G):G:=by
 cases b with|false=>exact g rfl h|true=>exact ft h
theorem sq{G:Prop}(h:J b p none=some r)(g:b=true->p=some r->G):G:=by
 cases b with|true=>exact g rfl h|false=>exact ns h
theorem e7{G:Prop}(h:ad o none f=some r)(g:∀a,o=some a->f a=some r->G):G:=by
 cases o with|some a=>exact g a rfl h|none=>exact ns h
theorem qd{G:Prop}(h:ad o false f=true)(g:∀a,o=some a->f a=true->G):G:=by
 cases o with|some a=>exact g a rfl h|none=>exact ft h
theorem lx(h:(a && b)=true):a=true/\b=true:=Bool.and_eq_true_iff.mp h
theorem uw:ST X w x lv:=λz z y z z z z z z h=>aP h y.stop
theorem bt{G:Prop}(h:(a && b)=true)(g:a=true->b=true->G):G:=g (lx h).1 (lx h).2
theorem xQ:SP X w x lw:=λz z y z z z z z z z h=>aP h y.stop
theorem V5:SL X w x CG:=λz z y z z z z z z h=>aP h y.stop
theorem ly(h:kA b x f=some q){G:Prop}(g:∀e,f e=some q->G):G:=by
 by_cases e:x=b
 .exact g e<|(dif_pos e).symm.trans h
 .exact a6<|(dif_neg e).symm.trans h
theorem ji(h:iY x=some q):x=.Name q.1 q.2:=
 ly h λe=>aq3 x e (λa b z h=>dR h rfl) e
theorem C5(h:ut x=some q):x=.Attribute q.1 q.2.1 q.2.2:=
 ly h λe=>aq4 x e (λa b c z h=>dR h rfl) e
theorem xR(h:p8 x=some q):x=.Call q.f q.as q.ks q.pos:=
 ly h λe=>Of x e (λa b c d z h=>dR h rfl) e
theorem C6(h:sh x=some q):x=.Subscript q.1 q.2.1 q.2.2:=
 ly h λe=>aq5 x e (λa b c z h=>dR h rfl) e
theorem V7(h:Jw x=some q):x=.Slice q.1 q.2.1 q.2.2.1 q.2.2.2:=
 ly h λe=>aq6 x e (λa b c d z h=>dR h rfl) e
theorem JO(h:CE x=some q):x=.Tuple q.1 q.2.1 q.2.2:=
 ly h λe=>Og x e (λa b c z h=>dR h rfl) e
theorem V8(h:Jx x=some q):x=.ListComp q.1 q.2.1 q.2.2.1 q.2.2.2:=
 ly h λe=>aq7 x e (λa b c d z h=>dR h rfl) e
theorem V9(h:Jy x=some q):x=.Assign q.1 q.2.1 q.2.2:=
 ly h λe=>aq8 x e (λa b c z h=>dR h rfl) e
theorem C7(h:p_ x=some q):x=.For q.t q.it q.b q.oe q.p:=
 by
 delta p_ at h;exact ly h λe=>ar0 x e (λa b c d e z h=>dR h rfl) e
structure PA(x:aS):Prop where
 i:eh x=true->ue x
 s:CD x=true->nX x
 t:ur x=true->BR x
 f:mQ x=true->∀env v,rh x env v=pure v
 u:(!isTup x)=true->∀i v,l_ x i v=pure ()
 a:eh x=true->∀env(rest:List aS),l9 (x::rest) env=(false,l8 x env)::l9 rest env
 b:Nat.beq x.ctorIdx 16=false->nW x
 b1:Nat.beq x.ctorIdx 20=true->∀as ks p,nW<|.Call x as ks p
 b2:∀a as ks p,nW<|.Call x (a::as) ks p
 w1:(!isTup x)=true->∀y env,wl [x] y env=pure none
 w2:(!isTup x)=true->∀ts k p env,wl [.Tuple ts k p] x env=pure none
 w3:(!isTup x)=true->∀ts p env,wl [.List ts p] x env=pure none
 o1:og x=false->∀t l env,Ar [t] x l env=pure false
 o2:∀a b c l env,Ar [.Subscript a b c] x l env=pure false
 o3:og x=false->∀l env,Ao x none l env=pure false
theorem pa(x:aS):PA x:=by
 cases x<;>exact⟨by first|exact λz z z=>rfl|exact ft,by first|exact λz z z=>rfl|exact ft,by first|exact λz z z=>rfl|exact ft,by first|exact λz z z=>rfl|exact ft,by first|exact λz z z=>rfl|exact ft,by first|exact λz z z=>rfl|exact ft,
  by first|exact λz z z=>rfl|exact λh=>ft h.symm,by first|exact λz z z z z z=>rfl|exact ft,λz z z z z z=>rfl,by first|exact λz z z=>rfl|exact ft,by first|exact λz z z z z=>rfl|exact ft,by first|exact λz z z z=>rfl|exact ft,
  by first|exact λz z z z=>rfl|exact λh=>ft h.symm,λz z z z z=>rfl,by first|exact λz z z=>rfl|exact λh=>ft h.symm⟩
theorem JP{x:aS}(h:xN x=true):nW x:=by
 cases hq:p8 x with
 |none=>
  refine(pa x).b ?_;cases e:Nat.beq x.ctorIdx 16 with|false=>rfl|true=>have e:=Nat.eq_of_beq_eq_true e;exact Of x e (λy y y y h=>Oz h) hq
 |some q=>
  delta xN at h;rw[hq] at h;rw[xR hq];cases e:Nat.beq q.f.ctorIdx 20 with|true=>exact(pa q.f).b1 e _ _ _|false=>
   have h:J (Nat.beq q.f.ctorIdx 20) true (!q.as.isEmpty)=true:=h;rw[e] at h;cases z:q.as with|nil=>rw[z] at h;exact ft h|cons a as=>exact(pa q.f).b2 _ _ _ _
theorem ux(h:eh x=true):ue x:=(pa x).i h
theorem V_(h:CD x=true):nX x:=(pa x).s h
theorem Wa(h:ur x=true):BR x:=(pa x).t h
theorem uy(h:mQ x=true):∀z v,rh x z v=pure v:=(pa x).f h
theorem jj(h:hZ x=true):x=am (cF x):=br h
theorem jk{x:Str}(h:uq x=true):x=am (cF x)/\Nat.beq (cF x) mP=false/\Nat.beq (cF x) uo=false:=by
 exact C0 h λw h=>JN h λy h=>JN h λv z=>⟨jj w,y,v⟩
theorem lz(h:b=true->SE X z x p):SE X z x (J b p du):=by
 cases b with|true=>exact h rfl|false=>exact ky
theorem Wb(h:b=false->SE X z x p):SE X z x (J b du p):=by
 cases b with|false=>exact h rfl|true=>exact ky
theorem oj(h:∀a,o=some a->SE X z x (p a)):SE X z x (ad o du p):=by
 cases o with|some a=>exact h a rfl|none=>exact ky
theorem xS(g:o=none->SE X z x q)(h:∀a,o=some a->SE X z x (p a)):SE X z x (ad o q p):=by
 cases o with|some a=>exact h a rfl|none=>exact g rfl
theorem JQ(Z:bG X)(u:bJ)(x:Str)(pos:Pos):SE X u (.Name x pos) (CJ u x):=by
 refine lz λh=>oj λk v=>?_;have w:=(jk h).1;have y:=(jk h).2.1;cases k with| «local»=>exact VK w y|cell=>exact Jq w (.inl v) y (jk h).2.2|free=>exact Jq w (.inr v) y (jk h).2.2|globalExplicit=>exact ky|globalImplicit=>exact xS (λz=>oj λb t=>Js Z w v y t) λa s=>Jr Z w v y s
theorem xT(Z:bG X){x:Str}(h:mR y x b=true)(pos:Pos):SE X y (.Name x pos) (ah (.bi b)):=by
 exact C0 h λz h=>bt h λw h=>Js Z (jk z).1 (br w) (jk z).2.1<|br (lx h).2
theorem JR(Z:bG X){x:Str}{a:Nat}(h:CY y x a=true):(∀pos,SE X y (.Name x pos) (ah (.glo a)))/\xH X y x (.ref a):=by
 refine C0 h λz h=>bt h λw h=>qd h λv u h=>?_;cases v with|glo b=>cases Nat.eq_of_beq_eq_true h;exact⟨λpos=>Jr Z (jk z).1 (br w) (jk z).2.1 u,VL Z (jk z).1 (br w) (jk z).2.1 u⟩|_=>exact ft h
theorem uz(h:∀x,SE X y x (e x)):∀z,SL X y z (cL e z):=by
 intro v
 induction v with|nil=>exact Ql|cons x z w=>
  show SL X y (x::z) (J (eh x) (ao (e x)<|cL e z) CG);cases hp:eh x with|false=>exact V5|true=>exact Qm (ux hp) (h x)<|w
theorem C8(h:∀x,SE X s x (e x)):∀ks,p9 ks=true->∃names,SK X s names ks (cK e ks)
 | [],_=>⟨[],RA⟩
 |⟨none,y,r⟩::ks,v=>ft v
 |⟨some x,y,r⟩::ks,v=>by
  obtain⟨names,t⟩:=C8 h ks (lx<|by rw[p9,List.all_cons] at v;exact v).2;refine⟨x::names,?_⟩;show SK X s (x::names) _ (J (hZ x) (rP (cF x) (e y)<|cK e ks) sj);cases hx:hZ x with|true=>exact RB (jj hx) (h y) t|false=>exact⟨(λpos u=>by obtain⟨a,b⟩:=t.1 pos u;exact⟨by show(_ && _)=true;rw[Bool.and_eq_true];exact⟨rfl,a⟩,by rw[b.symm];rfl⟩),λz z w z z z z z z h=>aP h w.stop⟩
theorem JS(h:∀x,SE X u x (e x)):∀(ks:List (Option aS))(z:List aS),ks.all (λk=>k.isSome)=true->Nat.beq ks.length z.length=true->SD X u ks z (cD e ks z)
 | [],[],_,_=>Tt
 | [],_::_,_,y=>ft y
 |_::_,[],_,y=>ft y
 |none::_,_::_,w,_=>ft w
 |some x::ks,v::z,w,y=>Tv (h x) (h v) (JS h ks z (by rw[List.all_cons] at w;exact(lx w).2) y)
theorem JT{as:List aS}(h:as.all eh=true):∀z,l7 as z=as.map λx=>(false,gN x z):=by
 intro z
 induction as with|nil=>rfl|cons x as y=>rw[List.all_cons] at h;refine bt h λv w=>?_;rw[ux v as z,y w];rfl
theorem C9(h:as.all eh=true):pW as:=λpos z=>by
 rw[JT h z];delta nD;rw[List.map_map,List.any_map,List.any_eq_false];intro x _ q;cases q
theorem Wc{ks:List k6}(h:p9 ks=true):∀z,(kj ks z).all (·.1.isSome)=true:=by
 intro z
 induction ks with|nil=>rfl|cons k ks y=>obtain⟨a,v,p⟩:=k;rw[p9,List.all_cons] at h;refine bt h λw x=>?_;rw[List.all_cons,y x,Bool.and_true];exact w
theorem Wd(v:as.all eh=true)(w:p9 ks=true)(y:Nat.blt (as.length+ks.length+1) 30=true):∀z,Oe (as.length+ks.length) (nD pos (l7 as z)) (ki pos (kj ks z))=true:=by
 intro z;have y:=Nat.le_of_ble_eq_true y;delta Oe;rw[Bool.and_eq_true,Bool.and_eq_true];refine⟨⟨?_,?_⟩,?_⟩
 .rw[JT v z];delta nD;rw[List.map_map,List.all_map,List.all_eq_true];intro x _;rfl
 .delta ki;rw[List.all_map];exact Wc w z
 .rw[decide_eq_true_eq]
  split<;>omega
def JU{z:Type}(P:Nat->z->Prop):List (Nat×z)->Prop
 | []=>True
 |p::l=>P p.1 p.2/\JU P l
theorem We:∀{l:List (Nat×(Nat×XM R))},JU P l->∀{n q},ae l n=some q->P n q:=by
 intro x
 induction x with|nil=>intro _ _ _ h;exact ns h|cons z l y=>
  obtain⟨m,q⟩:=z;intro hp n r h;have h:J (Nat.beq m n) (some q) (ae l n)=some r:=h;cases e:Nat.beq m n with|true=>rw[e] at h;cases Nat.eq_of_beq_eq_true e;cases h;exact hp.1|false=>rw[e] at h;exact y hp.2 h
theorem jU(e:decide (x=am m)=true)(b:gz X x kd bm):gz X (am m) kd bm:=br e▸b
theorem Wf(O:X.Ok)(h:ae (uu X.R) n=some (kd,bm)):gz X (am n) kd bm:=We (P:=λn q=>gz X (am n) q.1 q.2) (l:=uu X.R) (.intro (jU (m:=0x646e65707061) (by decide +kernel) Sa) (.intro (jU (m:=0x646e65747865) (by decide +kernel) Sd) (.intro (jU (x:="pop") (m:=7368560) (by decide +kernel) Sh) (.intro (jU (x:="index") (m:=517097156201) (by decide +kernel) (Ts O)) (.intro (jU (x:="get") (m:=7628135) (by decide +kernel) (Sb O)) (.intro (jU (x:="values") (m:=0x7365756c6176) (by decide +kernel) (Sc O)) (.intro (jU (x:="update") (m:=0x657461647075) (by decide +kernel) Td) (.intro (jU (x:="remove") (m:=0x65766f6d6572) (by decide +kernel) Tc) (.intro (jU (x:="split") (m:=499984920691) (by decide +kernel) Sp) (.intro (jU (x:="startswith") (m:=aN0) (by decide +kernel) Sl) (.intro (jU (x:="endswith") (m:=0x6874697773646e65) (by decide +kernel) Sm) (.intro (jU (x:="format") (m:=0x74616d726f66) (by decide +kernel) Sr) trivial)))))))))))) h
theorem JV(Z:bG X){c:fN X.R}(C:gY X c)(y:bJ)(as:List aS)(ks:List k6)(pos:Pos)(f:aS):SE X y (.Call f as ks pos) (CP c y as ks pos f):=by
 refine xS (λz=>oj λq u=>lz λh=>bt h λw t=>?_) λq u=>lz λh=>bt h λw h=>bt h λt h=>bt h λo h=>bt h λr h=>bt h λx h=>bt h λs p=>(C8 (C.e y) ks s).elim λnames v=>?_
 .rw[ji u];exact(C8 (C.e y) ks t).elim λnames v=>VP Z (λz=>rfl) (JQ Z y q.1 q.2) (C9 w) (uz (C.e y) as) v
 .rw[C5 u];refine VO Z (jj w) t (VQ (JP o) r<|Wd x s p) (λx=>?_) (C.e y q.1) (C9 x) (uz (C.e y) as) v;cases hb:ae (uu X.R) (cF q.2.1) with|none=>rw[hb] at x;exact aP x (by decide)|some q=>rw[jj w];exact Wf Z.O hb
theorem iy(h:one l=some a):l=[a]:=by
 match l,h with
 | [_],h=>cases h;rfl
theorem JW(h:CF l=some a):l=a.1::a.2:=by
 match l,h with
 |_::_,h=>cases h;rfl
theorem gZ(h:l.isEmpty=true):l=[]:=List.isEmpty_iff.mp h
theorem qe(h:o.isNone=true):o=none:=Option.isNone_iff_eq_none.mp h
theorem xU(h:(!b)=true):b=false:=by
 cases b with|false=>rfl|true=>exact ft h
theorem Wg(h:scope.names.all (λy=>y.2 != .free || hZ y.1)=true):∀x,x∈(scope.names.filter (·.2 == .free)).map (·.1)↔∃y∈CK scope,x=am y:=by
 intro x;have key:∀p∈scope.names.filter (·.2 == .free),p.1=am (cF p.1):=λp hp=>by
  obtain⟨v,z⟩:=List.mem_filter.mp hp;have:=List.all_eq_true.mp h p v;have z:p.2=.free:=by simpa using z
  rw[z] at this;exact jj (by simpa using this)
 constructor
 .intro hx;refine mf hx λp hp=>?_;exact⟨_,List.mem_map.mpr ⟨p,hp,rfl⟩,key p hp⟩
 .rintro⟨y,w,rfl⟩;refine mf w λp hp=>?_;exact List.mem_map.mpr ⟨p,hp,key p hp⟩
theorem Wh(h:∀x,ST X v x (t x)):∀y,SI X v y (CL t y)
 | []=>Ui
 | [c]=>Uk<|h c
 |_::_::_=>λz z w z z z z z z h=>aP h w.stop
theorem Wi(h:(!isTup t)=true):∀i v,l_ t i v=pure ():=(pa t).u h
theorem JX(C:gY X c)(v:bJ)(h:xO t x scope=true):Cp X v z t x w scope (CK scope) (c.e (jh v scope) z) (c.p (jh v scope) t) (CL (c.t (jh v scope)) w):=by
 refine bt h λo h=>bt h λr h=>bt h λm h=>bt h λq h=>bt h λn s=>?_;refine⟨λy u e=>?_,by simpa using r,λy u e=>?_,Wi q,uy n,Wg s,C.p _ t,C.e _ z,Wh (C.t _) w⟩
 .have:=List.all_eq_true.mp o y u;rw[e] at this;exact ft this
 .have:=List.all_eq_true.mp m y u;rw[e] at this
  simpa using this
theorem JY{g:AB}(h:g.is_async=0):g=⟨g.target,g.iter,g.ifs,0⟩:=by
 cases g;exact aT (aA4 _ _ _) h
theorem Wj(Z:bG X){c:fN X.R}(C:gY X c)(y:bJ)(z:aS)(scope:gM)(pos:Pos)(x:List AB):SE X y (.ListComp z x scope pos) (CN c y z scope x):=by
 refine oj λg v=>lz λw=>lz λh=>?_;rw[iy v,JY<|br w];exact Uq Z.O (JX C y h)<|C.e y g.iter
theorem Wk(h:∀x,ST X v x (t x)):∀z,SA X .And v z (JA t z):=by
 intro w
 induction w with|nil=>exact Qd|cons x z y=>exact Qf (h x)<|y
theorem Wl(h:∀x,ST X v x (t x)):∀z,SA X .Or v z (JB t z):=by
 intro w
 induction w with|nil=>exact Qe|cons x z y=>exact Qg (h x)<|y
theorem JZ(h:∀x,SE X z x (e x)):∀x,SO X z x (cO e x)
 |none=>QA
 |some x=>QB<|h x
theorem Wm:∀v,SE X z (.Constant v n p) (JD v)
 |.none=>Pg
 |.bool _=>Ph
 |.int _=>Pe
 |.str _=>lz λh=>Pf<|jj h
 |.bytes ..=>ky
 |.float ..=>ky
 |.complex ..=>ky
 |.ellipsis ..=>ky
theorem Wn(h:JE f as ks=some q):∃p1 p2 p3,f=.Name q.1 p1/\as=[.Call (.Name q.2.1 p2) [q.2.2] [] p3]/\ks=[]:=
 sq h λe1 h=>e7 h λa z h=>e7 h λy w h=>e7 h λc u h=>sq h λe2 h=>e7 h λb v h=>e7 h λx hx h=>si h λh=>by subst h;refine⟨_,b.2,c.pos,ji z,?_,gZ e1⟩;rw[iy w,xR u,ji v,iy hx,gZ e2]
theorem Wo(Z:bG X)(C:gY X c)(y:bJ)(f:aS)(as:List aS)(ks:List k6)(pos:Pos):SE X y (.Call f as ks pos) (JH c y f as ks pos):=by
 refine xS (λz=>JV Z C y as ks pos f) λq w=>?_;cases h:mR y q.1 .lst && (mR y q.2.1 .rev && eh q.2.2) with|false=>exact JV Z C y as ks pos f|true=>obtain⟨_,_,_,rfl,rfl,rfl⟩:=Wn w;exact bt h λv h=>bt h λx u=>R8 (xT Z v _) (xT Z x _) (ux u)<|C.e y _
theorem Wp(Z:bG X)(C:gY X c):SE X w (.Subscript x y p) (JF c w x y):=
 xS (λz=>lz λh=>P8 Z.O (V_ h) (C.e w _)<|C.e w _) λq v=>lz λh=>by rw[V7 v,qe h];exact QE (C.e w _) (JZ (C.e w) _)<|JZ (C.e w) _
theorem Wq(Z:bG X)(C:gY X c):SE X y (.Compare l z x p) (JG c y l z x):=
 oj λv ho=>oj λr w=>Wb λh=>by rw[iy ho,iy w];exact P9 Z.O h (C.e y _)<|C.e y _
theorem Wr(Z:bG X)(C:gY X c):SE X y (.BoolOp x z p) (JI c y x z):=
 oj λq w=>oj λr v=>by
  rw[JW w,iy v];cases x with
  |And=>exact Qh Z.O Z.CS (C.e y _)<|C.e y _
  |Or=>exact Qi Z.O Z.CS (C.e y _)<|C.e y _
theorem Ws(C:gY X c):SE X y (.Dict ks z p) (CQ c y ks z):=by
 delta CQ;cases h0:ks.isEmpty && z.isEmpty with|true=>rw[gZ (lx h0).1,gZ (lx h0).2];exact Ty|false=>exact lz λh=>bt h λx h=>bt h λw h=>bt h λu v=>Tx (JS (C.e y) ks z u v) (λe=>by rw[e] at x;exact ft x)<|Nat.le_of_ble_eq_true w
theorem Wt(Z:bG X)(C:gY X c)(y:bJ)(x:aS):SE X y x (cE c y x):=by
 cases x with
 |Constant v _ _=>exact Wm v
 |Name=>exact JQ Z y _ _
 |Attribute x z _=>exact lz λh=>bt h λs h=>bt h λu r=>VM Z (jj s) u (JP r)<|C.e y _
 |Subscript=>exact Wp Z C
 |Call=>exact Wo Z C _ _ _ _ _
 |Compare=>exact Wq Z C
 |BoolOp=>exact Wr Z C
 |UnaryOp w=>cases w with
  |Not=>exact Qj Z.O Z.CS<|C.e y _
  |_=>exact ky
 |IfExp=>exact Qk (C.t y _) (C.e y _)<|C.e y _
 |BinOp=>exact Qz Z.O (C.e y _)<|C.e y _
 |List=>exact Qo<|uz (C.e y) _
 |Tuple=>exact Qp<|uz (C.e y) _
 |Dict=>exact Ws C
 |ListComp=>exact Wj Z C y _ _ _ _
 |_=>exact ky
theorem Wu(Z:bG X)(C:gY X c):ST X z x (J (ur x) (aO (c.e z x)) lv):=by
 cases h:ur x with|false=>exact uw|true=>exact Qa Z.O Z.CS (Wa h)<|C.e z _
theorem J0(h:∀a,o=some a->ST X z x (p a)):ST X z x (ad o lv p):=by
 cases o with|some a=>exact h a rfl|none=>exact uw
theorem Wv(Z:bG X)(C:gY X c)(z:bJ)(x:aS):ST X z x (cT c z x):=by
 cases x with
 |UnaryOp y=>cases y with
  |Not=>exact Qb<|C.t z _
  |_=>exact uw
 |BoolOp y=>cases y with
  |And=>exact HO<|Wk (C.t z) _
  |Or=>exact HO<|Wl (C.t z) _
 |IfExp=>exact Qc (C.t z _) (C.t z _)<|C.t z _
 |Compare l w u _=>
  refine J0 λy ho=>J0 λr v=>?_;cases h:Am y r with|true=>exact uw|false=>rw[iy ho,iy v];exact P_ Z.O h (C.e z _)<|C.e z _
 |_=>exact Wu Z C
theorem J1(h:eh x=true):∀y(z:List aS),l9 (x::z) y=(false,l8 x y)::l9 z y:=(pa x).a h
theorem C_(h:∀x,SP X y x (p x)):∀z,z.all eh=true->mM X y z (sk p z):=by
 intro t
 induction t with|nil=>intro _;exact Ra|cons x z v=>intro hx;rw[List.all_cons] at hx;refine bt hx λw u=>?_;show mM X y (x::z) (J (eh x) (nT (p x)<|sk p z) Jz);rw[w];exact Rb (J1 w) (h x)<|v u
theorem Da(h:b=true->SP X z x p):SP X z x (J b p lw):=by
 cases b with|true=>exact h rfl|false=>exact xQ
theorem J2(h:∀a,o=some a->SP X z x (p a)):SP X z x (ad o lw p):=by
 cases o with|some a=>exact h a rfl|none=>exact xQ
theorem Db(g:SP X z x q)(h:∀a,o=some a->SP X z x (p a)):SP X z x (ad o q p):=by
 cases o with|some a=>exact h a rfl|none=>exact g
theorem Ww(Z:bG X)(C:gY X c)(y:bJ)(x:aS):SP X y x (cP c y x):=by
 refine Db (Db (Db (J2 λq z=>Da λh=>?_) λq z=>?_) λq z=>Da λh=>bt h λu v=>?_) λq z=>?_
 .rw[JO z];exact Rc Z.O<|C_ (C.p y) q.1 h
 .rw[C6 z];exact Q_ Z.O (C.e y _)<|C.e y _
 .rw[C5 z];exact VN Z (jj u) v<|C.e y _
 .rw[ji z];refine Da λh=>J2 λk w=>?_;cases k with| «local»=>exact HT (jj h) w|cell=>exact QO (jj h) w|_=>exact xQ
theorem lA(h:b=true->SS X z x p):SS X z x (J b p bc):=by
 cases b with|true=>exact h rfl|false=>exact uf
theorem J3(h:b=false->SS X z x p):SS X z x (J b bc p):=by
 cases b with|true=>exact uf|false=>exact h rfl
theorem ol(h:∀a,o=some a->SS X z x (p a)):SS X z x (ad o bc p):=by
 cases o with|some a=>exact h a rfl|none=>exact uf
theorem Dc(g:SS X z x q)(h:∀a,o=some a->SS X z x (p a)):SS X z x (ad o q p):=by
 cases o with|some a=>exact h a rfl|none=>exact g
theorem kB(h:SS X w x p):SS X w x (bd y q p):=J3 λz=>h
theorem kC(h:∀x,SS X v x (s x)):∀z,SB X v z (cB s z):=by
 intro w
 induction w with|nil=>exact jg|cons x z y=>exact cV (h x)<|y
theorem Wx(h:(!isTup t || !isTup x)=true)y:wl [t] x y=pure none:=by
 cases ht:isTup t with|false=>exact(pa t).w1 (by rw[ht];rfl) x y|true=>rw[ht] at h;exact f_ ((br<|(dh _ _).symm.trans ht)) (λe=>(aS.List.elim t e λz z=>(pa x).w3 h _ _ _)) λe=>(Og t (List.mem_singleton.mp e) λz z z=>(pa x).w2 h _ _ _ _)
theorem J4(h:J (og x) (sh t).isSome true=true)z:Ar [t] x l z=pure false:=by
 cases hc:og x with|false=>exact(pa x).o1 hc t l z|true=>
  rw[hc] at h;cases hq:sh t with|none=>rw[hq] at h;exact ft h|some q=>rw[C6 hq];exact(pa x).o2 _ _ _ l z
theorem Wy(C:gY X c)(h:xP z t x=true):SS X z (.Assign [t] x p) (aA (c.p z t) (c.e z x)):=
 bt h λv h=>bt h λw u=>Rd (J4 v) (Wx w) (λy=>J1 u y []) (C.p z t)<|C.e z x
theorem Wz(Z:bG X)(C:gY X c)w(t x)p:SS X w (.Assign [t] x p) (JL c w t x):=by
 have d:SS X w (.Assign [t] x p) (J (xP w t x) (aA (c.p w t)<|c.e w x) bc):=lA λh=>Wy C h;refine Dc d λl s=>Dc d λq u=>lA λh=>bt h λn h=>bt h λv h=>bt h λo r=>?_;rw[V8 s,ji u];show SS X w _ (aA _<|ad (one l.2.1) du<|JC c w l.1 l.2.2.1);cases ho:one l.2.1 with|none=>exact λz z y z z z z z z h=>aP h y.stop|some g=>
  rw[iy ho];show SS X w _ (aA _<|J (decide<|g.is_async=0) (J (xO g.target g.iter l.2.2.1) _ du) du);cases ha:decide (g.is_async=0) with|false=>exact λz z y z z z z z z h=>aP h y.stop|true=>
   cases hc:xO g.target g.iter l.2.2.1 with|false=>exact λz z y z z z z z z h=>aP h y.stop|true=>rw[JY<|br ha];exact Ur Z.O (JX C w hc) (C.e w g.iter) (Us (br v) o<|xU r) (jj n)<|br v
theorem WA(h:CR x s=some a):∃t z y u pa B pos,s=.For t (.Attribute (.Name y u) z pa) B [] pos/\a=cF z/\(decide (y=x) && (hZ z && a5 n_ (cF z)))=true:=
 e7 h λf w h=>sq h λo h=>e7 h λq v h=>e7 h λy r h=>sq h λp h=>si h λh=>⟨_,_,_,_,_,_,_,by rw[C7 w,C5 v,ji r,gZ o],h.symm,p⟩
theorem WB(Z:bG X):∀{b:List bv}{l:List Nat},cZ x b=some l->pV X x b l:=by
 intro t
 induction t with|nil=>intro _ h;exact si h λh=>by subst h;exact .nil|cons s b u=>intro l h;exact e7 (show ad (CR x s) none (λa=>ad (cZ x b) none λl=>some<|a::l)=some l from h) λa w h=>e7 h λas r h=>si h λh=>by subst h;obtain⟨_,_,_,_,_,_,_,rfl,rfl,v⟩:=WA w;refine bt v λw y=>?_;clear v;cases br w;exact .cons (jj (lx y).1) (Z.NS _ (lx y).2).1 (Z.NS _ (lx y).2).2 (λz z=>rfl)<|u r
theorem J5(h:uv t it=some q):∃k p1 p2 p3,t=.Tuple q.ts k p1/\it=.Call (.Name q.n p2) [q.it] [] p3:=
 e7 h λa z h=>e7 h λc w h=>sq h λe2 h=>e7 h λb y h=>e7 h λx hx h=>si h λh=>by subst h;refine⟨_,_,b.2,c.pos,JO z,?_⟩;rw[xR w,ji y,iy hx,gZ e2]
theorem WC(Z:bG X)(C:gY X c)y(t it)b p:SS X y (.For t it b [] p) (CX c y t it b):=by
 have v:SS X y (.For t it b [] p) (J (mQ it) (t_<|c.e y it) bc):=lA λh=>Rs Z.O (uy h)<|C.e y it;delta CX;cases ht:iY t with
 |none=>
  show SS X y _ (ad (uv t it) _ _);refine Dc v λq o=>?_;cases w:mR y q.n .enum with|false=>exact v|true=>clear v ht;obtain⟨_,_,_,_,rfl,rfl⟩:=J5 o;exact lA λh=>bt h λu h=>bt h λr m=>IM Z.O (xT Z w _) (ux u) (C_ (C.p y) _ m) (Nat.eq_of_beq_eq_true r) (λz z=>rfl) (C.e y _)<|kC (C.s y) b
 |some x=>
  rw[ji ht];cases hv:JK it with
  |false=>exact lA λh=>Ib Z.O (uy h) (λz z=>rfl) (C.p y _) (C.e y it)<|kC (C.s y) b
  |true=>exact ol λl k=>lA λh=>bt h λw h=>bt h λu r=>Ry Z.O Z.CS (jk w).1 (br u) (sg (jk w).1 (jk w).2.1) (uy r) (C.e y it)<|WB Z k
theorem WD(h:tC):h=.ExceptHandler (oh h).1 (oh h).2.1 (oh h).2.2.1 (oh h).2.2.2:=by
 cases h;rfl
theorem J6(h:JM b l=some q):b=[.Assign [.Name q.y q.yp] q.ex q.ap]/\l=[.ExceptHandler (some (.Name q.t q.tp)) none (q.b0::q.su) q.hp]:=
 e7 h λs z h=>e7 h λa v h=>e7 h λt m h=>e7 h λy r h=>e7 h λp x h=>e7 h λj w h=>e7 h λn k h=>sq h λe h=>e7 h λu o h=>si h λh=>by
  subst h;refine⟨?_,?_⟩
  .rw[iy z,V9 v,iy m,ji r]
  .rw[iy x,WD p,w,qe e,JW o,ji k];rfl
theorem WE(h:og x=false):∀z,Ao x none l z=pure false:=(pa x).o3 h l
theorem WF(Z:bG X)(C:gY X c)v x:SS X v x (cS w c v x):=by
 cases x with
 |Expr x p=>exact kB<|J3 λh=>QM (WE h)<|C.e v x
 |Return x p=>
  cases x with|none=>exact kB QK|some x=>exact kB<|QJ<|C.e v x
 |Assign=>exact kB (ol λt o=>by rw[iy o];exact Wz Z C v _ _ _)
 |Delete=>exact kB (ol λt o=>ol λq u=>by rw[iy o,C6 u];exact Re Z.O (C.e v _)<|C.e v _)
 |For=>exact kB (lA λh=>by rw[gZ h];exact WC Z C v _ _ _ _)
 |While=>exact kB (lA λh=>by rw[gZ h];exact Rq (C.t v _)<|kC (C.s v) _)
 |If=>exact kB<|HR (C.t v _) (kC (C.s v) _)<|kC (C.s v) _
 |Break=>exact QH
 |Continue=>exact QI
 |Pass=>exact QG
 |Assert=>exact kB<|QN<|C.t v _
 |Raise x y p=>refine kB<|ol λx hx=>ol λq u=>ol λn i=>lA λh=>bt h λl h=>bt h λr h=>bt h λk m=>?_;rw[hx,qe l,xR u,gZ r,ji i];exact TZ Z.EX ((JR Z k).1 _) (C9 m)<|uz (C.e v) _
 |Try b g oe f p=>refine kB<|ol λq u=>lA λh=>bt h λj h=>bt h λl h=>bt h λr h=>bt h λk m=>?_;rw[(J6 u).1,(J6 u).2,gZ j];exact T_ Z.EX (J4<|by rw[xU m]) (λz=>rfl) (λz=>rfl) (HT (jj r)<|br k) (C.e v q.ex) (JR Z l).2 (kC (C.s v) _)<|kC (C.s v) _
 |_=>exact uf
theorem iz(Z:bG X)y:∀n,gY X (CZ y n)
 |0=>⟨λz z=>ky,λz z=>uw,λz z=>xQ,λz z=>uf⟩
 |n+1=>⟨Wt Z<|iz Z y n,Wv Z<|iz Z y n,Ww Z<|iz Z y n,WF Z<|iz Z y n⟩
def WG:Data->Option tu
 |.func fd=>some fd
 |_=>none
def xV(K:cj)(g:Nat):Option tu:=ad (K.lookup g) none λo=>WG o.data
def uA(z:tu):Option (List bv):=match z.body with
 |.stmts b=>some b
 |_=>none
def gC(K:cj)(g:Nat):List bv:=ad (xV K g) [] λz=>ad (uA z) [] λb=>b
def jV(K:cj)(g:Nat):bJ:=ad (xV K g) ⟨⟨.module,[],false,false,[]⟩,.none,""⟩ λz=>⟨z.scope,z.code,z.qualname++".<locals>."⟩
def WH(K:cj)(t:bI):Option (List au):=ad (K.lookup t) none λo=>ad (Cx o.data) none λq=>J (decide (o.cls=.type "tuple")) (J (decide (o.dict=none)) (J o.slots.isEmpty (some q.1.toList) none) none) none
def Dd(K:cj)(v:au):Option (List au):=J (xK v) (some []) (ad (um v) none (WH K))
def sr(K:cj)(g:Nat)(x w:List Nat)(dfl:iJ):Bool:=ad (xV K g) false λz=>tw K (.ref g) && (!z.scope.isCoroutine && (!z.scope.isGenerator && ((uA z).isSome && (Jv K z.code z.qualname && (z.closure.isEmpty && (decide (z.globals=jK) && (decide (z.builtins=tv) && (z.scope.kind == .function &&
 (z.params.posonlyargs.isEmpty && (z.params.kwonlyargs.isEmpty && (z.params.vararg.isNone && (z.params.kwarg.isNone && (CC (z.params.args.map (·.arg)) z.scope.names x w && ad (Dd K z.defaults) false λy=>CB x dfl y)))))))))))))
theorem WI(y:X.K.In X.h₀)(h:Dd X.K v=some z):(v=.none/\z=[])\/∃t n,v=.ref t/\X.h₀.get? t=some { cls:=.type "tuple",data:=.seq z.toArray n }:=by
 delta Dd at h;cases hn:xK v with|true=>rw[hn] at h;exact .inl ⟨Jd hn,(Option.some.inj h).symm⟩|false=>
  rw[hn] at h;exact ba h λt s h=>ba h λo ho h=>ba h λq x h=>lm h λu h=>lm h λw h=>lm h λr h=>
   .inr ⟨t,q.2,xI s,by rw[<-Option.some.inj h,wh,<-Jh (br u) (br w) (Jf x) (aq2.mp r)];exact y _ _ ho⟩
theorem WJ{K:cj}(h:xV K g=some y):∃c d z,K.lookup g=some ⟨c,d,.func y,z⟩:=by
 refine ba h λo ho h=>?_;obtain⟨c,d,x,z⟩:=o;cases x with|func f=>cases h;exact⟨c,d,z,ho⟩|_=>exact a6 h
theorem WK(h:uA z=some b):z.body=.stmts b:=by
 delta uA at h;cases e:z.body with
 |stmts c=>rw[e] at h;exact aT _<|Option.some.inj h
 |_=>rw[e] at h;exact a6 h
theorem J7(Z:bG X){g:Nat}(h:sr X.K g x.params x.cells x.dfl=true)(u:SB X (jV X.K g) (gC X.K g) x.body):∃o z body y,mO X g x o z body y:=by
 refine qd h λz v h=>(WJ v).elim λc w=>w.elim λd w=>w.elim λb w=>?_;refine bt h λf h=>bt h λe h=>bt h λn h=>bt h λl h=>bt h λm h=>bt h λi h=>bt h λq h=>bt h λs h=>bt h λk h=>bt h λb1 h=>bt h λb2 h=>bt h λp h=>bt h λj h=>bt h λr h=>qd h λy hd h=>(Option.isSome_iff_exists.mp l).elim λbody t=>?_;have e1:gC X.K g=body:=by delta gC;rw[v];show ad (uA z) [] _=body;rw[t]
 have e2:jV X.K g=⟨z.scope,z.code,z.qualname++".<locals>."⟩:=by delta jV;rw[v]
 rw[e1,e2] at u;exact⟨_,z,body,y,VV x.params x.cells x.dfl rfl rfl rfl f (Z.O.inK _ _ w) rfl (xU e) (xU n) (WK t) (VU Z.O.inK m) (gZ i) (br q) (br s) (by simpa using k) (gZ b1) (gZ b2) (qe p) (qe j) r (WI Z.O.inK hd) h u⟩
def jm:on:=[(91,12),(93,12),(99,12),(134,12),(136,12),(182,12),(184,12),(194,12),(195,12),(196,12),(202,16),(203,16),(204,16),(205,16),(253,12),(260,12),(265,12),(282,12),(285,12),(293,16),(299,12),(301,12),(315,16),(406,8),(408,8),(411,8),(412,8),(414,8),(427,16),(428,16),(430,16),(431,16),(456,20),(457,20),(504,12),(539,12),(559,12),(560,12),(561,12),(579,20),(595,16),(608,12),(613,12),(620,12),(640,12),(641,12),(642,12),(644,12),(652,16),(653,16),(654,16),(655,16),(679,24),(746,20),(749,16),(765,8),(769,12),(771,12),(810,16)]
def xW{R:Type}(z:bJ)(x:bv):XS R:=(CZ jm 30).s z x
def De{R:Type}(K:cj)(g:Nat):XS R:=cB (xW (jV K g)) (gC K g)
theorem WL(Z:bG X){K:cj}:SB X (jV K g) (gC K g) (De K g):=kC ((iz Z jm 30).s _) _
end
def av(fl:Nat->Nat)(va:Nv):AV->AV
 |.ref j=>.ref<|fl j
 |.atm k n=>.int<|va k n
 |.gla k=>.glo (va 1000 k).toNat
 |a=>a
def aG(fl:Nat->Nat)(va:Nv):AO->AO
 |.inst C d=>.inst C<|fl d
 |.dict es=>.dict<|es.map λp=>(p.1,av fl va p.2)
 |.umap es=>.umap<|es.map λp=>(p.1,p.2.map<|av fl va)
 |.list xs=>.list<|xs.map<|av fl va
 |.tup xs=>.tup<|xs.map<|av fl va
 |.set xs=>.set xs
 |.cell v=>.cell<|v.map<|av fl va
 |.rng n=>.rng n
 |.rev s i=>.rev (fl s) i
 |.dvals s=>.dvals<|fl s
 |.fn f q ci caps=>.fn f q (fl ci)<|caps.map λp=>(p.1,fl p.2)
 |.tab l c i=>.tab l c<|i.map fl
 |.code q=>.code q
 |.frz xs=>.frz<|xs.map<|av fl va
def kD(σ:de)(va:Nv)(fr:bu):de:={ σ with va:=va,fr:=fr }
section
variable {prog:dY}{w:dZ}{ρ:bu}{σ:de}{fl:Nat->Nat}{va:Nv}{fr:bu}
theorem om:aE ρ σ (av fl va a) v↔aE (λj=>ρ (fl j)) (kD σ va fr) a v:=by
 cases a<;>exact hM
theorem aD.map_iff{S:t->q->Prop}(e:∀a c,R (f a) c↔S a c):∀{z:List t}{y:List q},aD R (z.map f) y↔aD S z y:=by
 intro u
 induction u with
 |nil=>
  intro x;cases x with|nil=>exact hM|cons _ _=>exact hM
 |cons _ _ v=>
  intro r;cases r with|nil=>exact hM|cons _ _=>exact and_congr (e _ _)<|v
theorem Df:dD ρ σ (a.map (av fl va)) v↔dD (λj=>ρ (fl j)) (kD σ va fr) a v:=by
 cases a<;>cases v<;>first|exact hM|exact om
theorem qg:∀{es:List (Nat×x)},ae (es.map λp=>(p.1,f p.2)) c=(ae es c).map f:=by
 intro y
 induction y with|nil=>exact rfl|cons p es z=>show J (Nat.beq p.1 c) (some<|f p.2) (ae (es.map λp=>(p.1,f p.2)) c)=Option.map f (J (Nat.beq p.1 c) (some p.2)<|ae es c);rw[z];cases Nat.beq p.1 c<;>rfl
theorem WM:∀{es:List (Nat×Option AV)},d_ (es.map λp=>(p.1,p.2.map (av fl va)))=d_ es:=by
 intro y
 induction y with|nil=>exact rfl|cons p es z=>show(if(p.2.map<|av fl va).isSome then 1 else 0)+d_ (es.map λp=>(p.1,p.2.map<|av fl va))=(if p.2.isSome then 1 else 0)+d_ es;rw[z,Option.isSome_map]
theorem WN{f:t->u}{P:u->Prop}:(∃y,o.map f=some y/\P y)↔∃x,o=some x/\P (f x):=by
 cases o with|some x=>exact⟨λv=>v.elim λy z=>z.elim λe p=>⟨x,rfl,by cases e;exact p⟩,λv=>v.elim λy z=>z.elim λe p=>⟨f x,rfl,by cases e;exact p⟩⟩|none=>exact⟨λv=>v.elim λ_ z=>z.elim λe _=>(nomatch e),λv=>v.elim λ_ z=>z.elim λe _=>(nomatch e)⟩
theorem J8:(y.length<=d_ (es.map λp=>(p.1,p.2.map (av fl va)))/\(∀c x,ae (es.map λp=>(p.1,p.2.map (av fl va))) c=some x->dD ρ σ x (cQ y (am c)))/\∀p∈y,∃c x,ae (es.map λp=>(p.1,p.2.map (av fl va))) c=some x/\p.1=am c)
  ↔(y.length<=d_ es/\(∀c x,ae es c=some x->dD (λj=>ρ<|fl j) (kD σ va fr) x (cQ y<|am c))/\∀p∈y,∃c x,ae es c=some x/\p.1=am c):=by
 rw[WM];refine and_congr hM<|and_congr (forall_congr' λc=>?_)<|forall_congr' λp=>forall_congr' λz=>exists_congr λc=>?_
 .rw[qg];cases ae es c with
  |none=>exact⟨λz z e=>(nomatch e),λz z e=>(nomatch e)⟩
  |some o=>exact⟨λh x e=>by cases e;exact Df.mp<|h _ rfl,λh x e=>by cases e;exact Df.mpr<|h _ rfl⟩
 .rw[qg];exact WN
theorem J9:lk ρ (y.map λp=>(p.1,fl p.2)) cl↔lk (λj=>ρ (fl j)) y cl:=by
 delta lk;refine forall_congr' λx=>?_;rw[qg];cases ae y x with|some o=>exact⟨λh i e=>by cases e;exact h _ rfl,λh i e=>by cases e;exact h _ rfl⟩|none=>exact⟨λz z e=>(nomatch e),λz z e=>(nomatch e)⟩
theorem ss{o:AO}:cb prog w ρ σ h a (aG fl va o)↔cb prog w (λj=>ρ (fl j)) (kD σ va fr) h a o:=by
 have L:∀(y:tY0)(u:List au),aD (aE ρ σ) (y.map<|av fl va) u↔aD (aE (λj=>ρ<|fl j)<|kD σ va fr) y u:=λz z=>aD.map_iff λz z=>om;have X:∀(y:tY0)(u:List au),(aD (aE ρ σ) (y.map<|av fl va) u/\(y.map<|av fl va).length<=5000)↔(aD (aE (λj=>ρ<|fl j)<|kD σ va fr) y u/\y.length<=5000):=λy u=>and_congr (L y u) (by rw[List.length_map]);cases o with
 |inst C d=>exact⟨λr=>by obtain⟨x,e,r⟩:=r;exact⟨x,e,r⟩,λr=>by obtain⟨x,e,r⟩:=r;exact⟨x,e,r⟩⟩
 |dict es=>have X:∀m:List (Str×au),(aD (fx ρ σ) (es.map λp=>(p.1,av fl va p.2)) m/\(es.map λp=>(p.1,av fl va p.2)).length<=5000)↔(aD (fx (λj=>ρ<|fl j)<|kD σ va fr) es m/\es.length<=5000):=λm=>and_congr (aD.map_iff λp q=>(and_congr hM om:fx ρ σ (p.1,av fl va p.2) q↔fx (λj=>ρ<|fl j) (kD σ va fr) p q)) (by rw[List.length_map]);exact⟨λr=>by obtain⟨k,t,r⟩:=r;exact⟨k,t,(X k).mp r⟩,λr=>by obtain⟨k,t,r⟩:=r;exact⟨k,t,(X k).mpr r⟩⟩
 |umap es=>exact⟨λr=>by obtain⟨k,t,r⟩:=r;exact⟨k,t,J8.mp r⟩,λr=>by obtain⟨k,t,r⟩:=r;exact⟨k,t,J8.mpr r⟩⟩
 |list y=>exact⟨λr=>by obtain⟨k,t,r⟩:=r;exact⟨k,t,(X y k).mp r⟩,λr=>by obtain⟨k,t,r⟩:=r;exact⟨k,t,(X y k).mpr r⟩⟩
 |tup y=>exact⟨λr=>by obtain⟨k,t,r⟩:=r;exact⟨k,t,(X y k).mp r⟩,λr=>by obtain⟨k,t,r⟩:=r;exact⟨k,t,(X y k).mpr r⟩⟩
 |set y=>exact hM
 |cell v=>exact exists_congr λx=>and_congr hM Df
 |rng n=>exact hM
 |rev s i=>exact hM
 |dvals s=>exact hM
 |fn f q b g=>exact⟨λr=>by obtain⟨k,x,e,n,c,d,r⟩:=r;exact⟨k,x,e,n,c,d,J9.mp r⟩,λr=>by obtain⟨k,x,e,n,c,d,r⟩:=r;exact⟨k,x,e,n,c,d,J9.mpr r⟩⟩
 |tab l c i=>cases i<;>exact hM
 |code q=>exact hM
 |frz y=>exact and_congr hM (exists_congr λu=>exists_congr λn=>and_congr hM (and_congr hM (and_congr (L _ _)<|by rw[List.length_map])))
end
open Classical in
def mS(h:cm)(p:bI->Prop):cm:=⟨Array.ofFn (n:=h.objs.size) λi=>if p i.1 then { h.objs[i] with data:=.freed } else h.objs[i],h.life⟩
theorem uB:(mS h p).get? b=some o↔¬p b/\h.get? b=some o:=by
 rw[ar1,ar1];delta mS;rw[Array.getElem?_ofFn]
 by_cases z:b<h.objs.size
 .rw[dif_pos z,NT z]
  by_cases q:p b
  .rw[aw q];exact⟨λh=>by have e:=Option.some.inj h.1;subst e;exact bg h.2,λh=>aP q h.1⟩
  .rw[aq q];exact⟨λh=>⟨q,h⟩,λh=>h.2⟩
 .rw[dif_neg z,Array.getElem?_eq_none<|Nat.le_of_not_lt z];exact⟨λh=>a6 h.1,λh=>a6 h.2.1⟩
structure xX(fl:Nat->Nat)(va:Nv)(Hs H:AH):Prop where
 inj:∀i j,fl i=fl j->i=j
 top:∀j,Hs.n<=j->H.n<=fl j
 cell:∀j o,Hs.get j=some o->H.get (fl j)=some (aG fl va o)
def qh(ρ:bu)(fl:Nat->Nat)(Hs:AH)(ls:Lo)(b:bI):Prop:=(∃j o,Hs.get j=some o/\ρ (fl j)=some b)\/b∈ls.map (·.1)
def cv(o z:AO):Prop:=∀(prog:dY)(w:dZ)(ρ:bu)(σ:de)(h:cm)(a:bI),cb prog w ρ σ h a o->cb prog w ρ σ h a z
theorem cv.refl(o:AO):cv o o:=λz z z z z z h=>h
section
variable {prog:dY}{w:dZ}{h₀:cm}{os₀:l6}{ρ:bu}{σ:de}{fl:Nat->Nat}{va:Nv}{H Hs:AH}{ls:Lo}{s:aU}
theorem St.part(S:St prog w h₀ os₀ ρ σ H ls s)(M:xX fl va Hs H):St prog w (mS s.heap (qh ρ fl Hs ls)) os₀ (λj=>ρ (fl j)) (kD σ va λj=>ρ (fl j)) Hs ls s where
 keep:=λb o e=>(uB.mp e).2
 cell:=λj o e=>(S.cell _ _<|M.cell j o e).elim λa zz0=>zz0.elim λx r=>⟨a,x,ss.mp r⟩
 new:=λj a e=>⟨⟨.inr e,λo g=>by
  cases q:(mS s.heap<|qh ρ fl Hs ls).get? a with|none=>rfl|some o'=>exact aP (.inl ⟨j,o,g,e⟩) (uB.mp q).1⟩,(S.new _ a e).2⟩
 inj:=λi j a e1 e2=>M.inj _ _<|S.inj _ _ a e1 e2
 top:=λj hj=>S.top _<|M.top j hj
 loc:=λp hp=>⟨(S.loc p hp).1,by
  cases q:(mS s.heap<|qh ρ fl Hs ls).get? p.1 with|none=>rfl|some o=>exact aP (.inr<|List.mem_map.mpr ⟨p,hp,rfl⟩) (uB.mp q).1,λi=>(S.loc p hp).2.2 _⟩
 apart:=S.apart
 gens:=S.gens
 os:=S.os
theorem St.under(S:St prog w h₀ os₀ ρ σ H ls s)(M:xX fl va Hs H)(e:h₀.get? b=some o):(mS s.heap (qh ρ fl Hs ls)).get? b=some o:=by
 refine uB.mpr ⟨λq=>?_,S.keep b o e⟩;rcases q with ⟨j,y,g,q⟩|q
 .rw[(S.new _ b q).1.2 _<|M.cell j y g] at e;cases e
 .obtain⟨p,z,rfl⟩:=List.mem_map.mp q;rw[(S.loc p z).2.1] at e;cases e
open Classical in
def sv(fl:Nat->Nat)(ρ z:bu):bu:=λi=>if h:∃j,fl j=i then z h.choose else ρ i
theorem jW(inj:∀i j,fl i=fl j->i=j)(j:Nat):sv fl ρ z (fl j)=z j:=by
 delta sv;have h:∃y,fl y=fl j:=⟨j,rfl⟩;rw[dif_pos h,inj _ _ h.choose_spec]
theorem mT(h:∀j,fl j≠i):sv fl ρ y i=ρ i:=dif_neg λz=>z.elim λj e=>h j e
structure J_(fl:Nat->Nat)(va:Nv)(Hs Hs' H H':AH):Prop where
 cell:∀i o,H'.get i=some o->(∃j o',fl j=i/\Hs'.get j=some o'/\cv (aG fl va o') o)\/((∀j o',Hs.get j=some o'->fl j≠i)/\∃o',H.get i=some o'/\cv o' o)
 top:∀i,H'.n<=i->H.n<=i/\∀j,fl j=i->Hs'.n<=j
theorem St.whole(S:St prog w h₀ os₀ ρ σ H ls s)(M:xX fl va Hs H)(r:St prog w (mS s.heap (qh ρ fl Hs ls)) os₀ u (kD σ va λj=>ρ (fl j)) A P s')(F:P.map (·.1)=ls.map (·.1))(x:bU (λj=>ρ (fl j)) u)(v:J_ fl va Hs A H H'):∃c,bU ρ c/\(∀j,c (fl j)=u j)/\St prog w h₀ os₀ c σ H' P s':=by
 have t:bU ρ (sv fl ρ u):=λi a e=>by
  by_cases q:∃j,fl j=i
  .obtain⟨j,rfl⟩:=q;rw[jW M.inj];exact x j a e
  .rw[mT λj e=>q ⟨j,e⟩];exact e
 refine⟨sv fl ρ u,t,jW M.inj,?_⟩;have fe:(λj=>sv fl ρ u<|fl j)=u:=funext<|jW M.inj;have h:∀i a,(∀j n,Hs.get j=some n->fl j≠i)->ρ i=some a->∀o,s.heap.get? a=some o->(mS s.heap<|qh ρ fl Hs ls).get? a=some o:=λi a q e o g=>
  uB.mpr ⟨λm=>by
   rcases m with ⟨j,n,X,m⟩|m
   .exact q j n X<|S.inj _ _ a m e
   .clear g;obtain⟨p,y,rfl⟩:=List.mem_map.mp m;exact(S.loc p y).2.2 i e,g⟩
 have f:=λi a q e o g=>r.keep a o<|h i a q e o g;have Q:∀i a,(∀j,fl j≠i)->ρ i=some a->∀j,u j≠some a:=λi a q e j e2=>by
  obtain⟨o,g⟩:=(S.new i a e).2;rcases(r.new j a e2).1.1 with h1|h1
  .rw[h i a (λj z z=>q j) e o g] at h1;cases h1
  .exact q j<|S.inj _ _ a h1 e
 have N:=λp y=>List.mem_map.mp (by rw[<-F];exact List.mem_map.mpr ⟨p,y,rfl⟩);refine⟨λb o e=>r.keep b o<|S.under M e,λi o e=>?_,λi a e=>?_,λi j a e1 e2=>?_,λi hi=>?_,λp y=>⟨(r.loc p y).1,?_,λi e=>?_⟩,by have Y:=S.apart;rwa [<-F] at Y,r.gens,r.os⟩
 .rcases v.cell i o e with ⟨j,n,rfl,g,le⟩|⟨q,n,g,le⟩
  .obtain⟨a,h1,R⟩:=r.cell j n g;exact⟨a,by rw[jW M.inj];exact h1,le _ _ _ _ _ _ (ss.mpr<|by rw[fe];exact R)⟩
  .obtain⟨a,h1,R⟩:=S.cell i n g;exact⟨a,t i a h1,le _ _ _ _ _ _<|(R.at<|f i a q h1).ext t⟩
 .refine⟨⟨?_,λo g=>?_⟩,?_⟩
  .by_cases q:∃j,fl j=i
   .obtain⟨j,rfl⟩:=q;rw[jW M.inj] at e;rcases(r.new j a e).1.1 with h1|h1
    .left
     cases g:h₀.get? a with|none=>rfl|some o=>rw[S.under M g] at h1;cases h1
    .exact(S.new _ a h1).1.1
   .rw[mT λj e=>q ⟨j,e⟩] at e;exact(S.new i a e).1.1
  .cases q:h₀.get? a with|none=>rfl|some ob=>
    exfalso
    rcases v.cell i o g with ⟨j,n,rfl,X,_⟩|⟨_,n,X,_⟩
    .rw[jW M.inj] at e;have Y:=(r.new j a e).1.2 _ X;rw[S.under M q] at Y;cases Y
    .obtain⟨a',h1,_⟩:=S.cell i n X;have Y:=t i a' h1;rw[e] at Y;cases Y;rw[(S.new i a h1).1.2 _ X] at q;cases q
  .by_cases q:∃j,fl j=i
   .obtain⟨j,rfl⟩:=q;rw[jW M.inj] at e;exact(r.new j a e).2
   .have d:=λj e=>q ⟨j,e⟩;rw[mT d] at e;obtain⟨_,o,g⟩:=S.new i a e;exact⟨o,f i a (λj z z=>d j) e o g⟩
 .by_cases E:∃k,fl k=i<;>by_cases q2:∃k,fl k=j
  .obtain⟨k,rfl⟩:=E;obtain⟨l,rfl⟩:=q2;rw[jW M.inj] at e1 e2;rw[r.inj _ _ a e1 e2]
  .obtain⟨k,rfl⟩:=E;rw[jW M.inj] at e1;have d:=λl e=>q2 ⟨l,e⟩;rw[mT d] at e2;exact aP e1<|Q j a d e2 k
  .obtain⟨k,rfl⟩:=q2;rw[jW M.inj] at e2;have d:=λl e=>E ⟨l,e⟩;rw[mT d] at e1;exact aP e2<|Q i a d e1 k
  .rw[mT λl e=>E ⟨l,e⟩] at e1;rw[mT λl e=>q2 ⟨l,e⟩] at e2;exact S.inj i j a e1 e2
 .obtain⟨h1,R⟩:=v.top i hi
  by_cases q:∃j,fl j=i
  .clear hi h1;obtain⟨j,rfl⟩:=q;rw[jW M.inj];exact r.top j<|R j rfl
  .rw[mT λj e=>q ⟨j,e⟩];exact S.top i h1
 .obtain⟨p0,Z,C⟩:=N p y;rw[<-C];exact(S.loc p0 Z).2.1
 .obtain⟨p0,Z,C⟩:=N p y
  by_cases q:∃j,fl j=i
  .obtain⟨j,rfl⟩:=q;rw[jW M.inj] at e;exact(r.loc p y).2.2 j e
  .rw[mT λj e=>q ⟨j,e⟩,<-C] at e;exact(S.loc p0 Z).2.2 i e
theorem St.wf(S:St prog w h₀ os₀ ρ σ H ls s):∀i o,H.get i=some o->i<H.n:=λi o e=>by
 obtain⟨a,h,_⟩:=S.cell i o e;exact Nat.lt_of_not_le λq=>by rw[S.top i q] at h;cases h
end
def Fx.to(X:Fx)R(holds:R->Prop)(h:cm)(va:Nv)(fr:bu):Fx:=⟨R,holds,X.prog,X.w,h,X.os₀,kD X.σ va fr,X.K,X.mg,X.mb⟩
structure qi K:Prop where
 st:Jg K (iX iP)=true
 gb:Jj K p6=true
theorem bG.to(Z:bG X)(c:qi X.K)(k:∀b o,X.h₀.get? b=some o->h.get? b=some o)(inj:∀k x y,va k x=va k y->x=y):bG (X.to R holds h va fr) where
 O:=⟨Z.O.inK.keeps k,Z.O.nolimit.keeps k,Z.O.hmg.keeps k,Z.O.hmb.keeps k,Z.O.sys.imp λz e=>k _ _ e,inj,Ji c.st<|Z.O.inK.keeps k⟩
 CS:=⟨Z.CS.isi,λC ci e=>let c:=Z.CS.cls C ci e;{ c with }⟩
 NS:=Z.NS
 SS:=Z.SS
 G:=Jl c.gb (Z.O.inK.keeps k)<|Z.O.hmg.keeps k
 B:=Z.B
 EX:=by obtain⟨nm,q,N,bs,bm,hdct,sn,sub,ab,col,dd,k0,k1,k2,k3,k5,B,newId,initId,mN,FF,hni,hN,hC⟩:=Z.EX;exact⟨nm,q,N,bs,bm,hdct,sn,sub,ab,col,dd,k0,k1,k2,k3,k5,B,newId,initId,mN,FF,hni,hN.keeps k,k _ _ hC⟩
 CH:=Z.CH.keeps k
 gP:=Z.gP
 blt:=Z.blt.elim λbm zz0=>zz0.elim λo zz1=>zz1.elim λh1 zz2=>zz2.elim λh2 zz3=>zz3.elim λh3 zz4=>zz4.elim λh4 zz5=>zz5.elim λh5 h6=>⟨bm,o,h1,h2,h3,h4,k _ _ h5,h6⟩
 nf:=Z.nf
def vis:AO->Nat->Prop
 |.inst _ d,j=>j=d
 |.dict es,j=>∃p∈es,p.2=.ref j
 |.umap es,j=>∃p∈es,p.2=some (.ref j)
 |.list xs,j=>.ref j∈xs
 |.tup xs,j=>.ref j∈xs
 |.frz xs,j=>.ref j∈xs
 |.cell v,j=>v=some (.ref j)
 |.rev s _,j=>j=s
 |.dvals s,j=>j=s
 |.fn _ _ ci caps,j=>j=ci\/∃p∈caps,p.2=j
 |.tab _ _ i,j=>i=some j
 |_,_=>False
theorem aD.monoM:∀{z:List u}{y:List v},aD R z y->(∀a b,a∈z->R a b->S a b)->aD S z y
 | [],[],_,_=>trivial
 |_::_,_::_,x,h=>⟨h _ _ (.head _) x.1,x.2.monoM λa b m=>h a b<|.tail _ m⟩
theorem aD.memL:∀{z:List u}{y:List v},aD R z y->∀a∈z,∃b,R a b
 |_::_,b::_,x,a,m=>by
  refine bk m ?_ λm=>?_
  .exact⟨b,x.1⟩
  .exact x.2.memL a m
section
variable {prog:dY}{w:dZ}{ρ ρ':bu}{σ:de}{h:cm}{a:bI}
theorem aE.vis(x:∀j,b=.ref j->∀y,ρ j=some y->ρ' j=some y)(r:aE ρ σ b v):aE ρ' σ b v:=by
 cases b<;>try exact r
 obtain⟨y,e,rfl⟩:=r;exact⟨y,x _ rfl _ e,rfl⟩
theorem dD.vis(x:∀j,b=some (.ref j)->∀y,ρ j=some y->ρ' j=some y)(r:dD ρ σ b v):dD ρ' σ b v:=by
 cases b<;>cases v<;>first|exact r|exact aE.vis (λj e=>x j<|by rw[e]) r
theorem cb.vis(x:∀j,vis o j->∀y,ρ j=some y->ρ' j=some y)(r:cb prog w ρ σ h a o):cb prog w ρ' σ h a o:=by
 cases o with
 |inst C d=>obtain⟨y,e,g⟩:=r;exact⟨y,x _ rfl _ e,g⟩
 |dict es=>obtain⟨Z,d,l,z⟩:=r;exact⟨Z,d,l.monoM λp u m q=>⟨q.1,q.2.vis λj e=>x j ⟨p,m,e⟩⟩,z⟩
 |umap es=>obtain⟨Z,d,z,l,m⟩:=r;exact⟨Z,d,z,λc S e=>(l c S e).vis λj e2=>x j ⟨(c,S),bA e,e2⟩,m⟩
 |list f=>obtain⟨t,d,l,z⟩:=r;exact⟨t,d,l.monoM λb u m q=>q.vis λj e=>x j (by clear q;subst e;exact m),z⟩
 |tup f=>obtain⟨t,d,l,z⟩:=r;exact⟨t,d,l.monoM λb u m q=>q.vis λj e=>x j (by clear q;subst e;exact m),z⟩
 |set f=>exact r
 |cell v=>obtain⟨y,g,l⟩:=r;exact⟨y,g,l.vis λj e=>x j e⟩
 |rng n=>exact r
 |rev s i=>obtain⟨l,e,g⟩:=r;exact⟨l,x _ rfl _ e,g⟩
 |dvals s=>obtain⟨d,e,g⟩:=r;exact⟨d,x _ rfl _ e,g⟩
 |fn g q Q c=>obtain⟨R,y,g,n,e,cd,k⟩:=r;exact⟨R,y,g,n,x _ (.inl rfl) _ e,cd,λz i e2=>(k z i e2).elim λb X=>X.elim λp q=>⟨b,x _ (.inr ⟨(z,i),bA e2,rfl⟩) _ p,q⟩⟩
 |tab l c i=>cases i with|none=>exact r|some i=>obtain⟨z,y,e,g⟩:=r;exact⟨z,y,x _ rfl _ e,g⟩
 |code q=>exact r
 |frz f=>obtain⟨g,t,n,c,d,k,z⟩:=r;exact⟨g,t,n,c,d,k.monoM λb u m q=>q.vis λj e=>x j (by clear q;subst e;exact m),z⟩
end
def Dg(o z:AO):Prop:=∀f va,cv (aG f va o) (aG f va z)
theorem Dg.refl o:Dg o o:=λz z=>cv.refl _
theorem cv.trans(x:cv a b)(y:cv b c):cv a c:=λp w r s h d z=>y p w r s h d (x p w r s h d z)
theorem xY(h:∀j,vis o j->f j=t j):cv (aG f va o) (aG t va o):=λprog w ρ σ x a r=>by
 have u:=(ss (fr:=λz=>none)).mp r;exact(ss).mpr (u.vis λj v y e=>by rw[<-h j v];exact e)
theorem uC(h:∀j,a=.ref j->f j=z j):av f va a=av z va a:=by
 cases a<;>first|rfl|exact aT _<|h _ rfl
theorem jn:∀{l:List u},(∀x∈l,f x=g x)->l.map f=l.map g:=by
 intro v
 induction v with|nil=>intro _;exact rfl|cons x l z=>intro h;rw[List.map_cons,List.map_cons,h x<|.head _,z λy m=>h y<|.tail _ m]
theorem Ka(h:∀j,x=some (.ref j)->f j=z j):x.map (av f va)=x.map (av z va):=by
 cases x with|none=>rfl|some a=>exact aT some (uC λj e=>h j<|by rw[e])
theorem uD(h:∀j,vis o j->f j=f' j):aG f va o=aG f' va o:=by
 cases o with
 |inst C d=>exact aT _<|h d rfl
 |dict es=>exact aT AO.dict<|jn λp z=>aT (kl p.1)<|uC λj e=>h j ⟨p,z,e⟩
 |umap es=>exact aT AO.umap<|jn λp z=>aT (kl p.1)<|Ka λj e=>h j ⟨p,z,e⟩
 |list y=>exact aT AO.list (jn λa u=>uC λj e=>h j<|by subst e;exact u)
 |tup y=>exact aT AO.tup (jn λa u=>uC λj e=>h j<|by subst e;exact u)
 |frz y=>exact aT AO.frz (jn λa u=>uC λj e=>h j<|by subst e;exact u)
 |cell v=>exact aT AO.cell<|Ka λj e=>h j e
 |rev s i=>exact aT (AO.rev · i)<|h s rfl
 |dvals s=>exact aT _<|h s rfl
 |fn a b t r=>have e1:=h t<|.inl rfl;have e2:=jn λp z=>aT (kl p.1)<|h p.2<|.inr ⟨p,z,rfl⟩;show AO.fn a b (f t) _=AO.fn a b (f' t) _;rw[e1,e2]
 |tab l c i=>
  cases i with|none=>rfl|some j=>exact aT (λx=>AO.tab l c<|some x)<|h j rfl
 |_=>rfl
theorem g0:av f z (av g va a)=av (λj=>f (g j)) va a:=by cases a<;>rfl
theorem qj{f:v->z}{g:z->u}{h:v->u}(e:∀x,g (f x)=h x):List.map g (List.map f l)=l.map h:=by
 induction l with|nil=>rfl|cons x l y=>show g (f x)::_=h x::_;rw[e,y]
theorem Kb:(Option.map (av g va) x).map (av f z)=x.map (av (λj=>f (g j)) va):=by
 cases x with|none=>rfl|some a=>exact aT some g0
theorem jo:aG f y (aG g va o)=aG (λj=>f (g j)) va o:=by
 cases o with
 |dict es=>exact aT AO.dict<|qj λp=>aT (kl p.1) g0
 |umap es=>exact aT AO.umap<|qj λp=>aT (kl p.1) Kb
 |list es=>exact aT AO.list<|qj λp=>g0
 |tup es=>exact aT AO.tup<|qj λp=>g0
 |frz es=>exact aT AO.frz<|qj λp=>g0
 |cell v=>exact aT AO.cell Kb
 |fn a b x z=>exact aT (AO.fn a b _)<|qj λp=>rfl
 |tab l c i=>exact aT (AO.tab l c) (by cases i<;>rfl)
 |_=>rfl
section
def WO(i:Int)(r:Bool):Bool:=J (Nat.blt i.natAbs (2 ^ 62)) r false
def oq(i:Int)(r:Prop):Prop:=i.natAbs<2 ^ 62/\r
structure sw K where
 tab:(R:Type)->TR (FI R)
 ok:∀X:Fx,bG X->X.K=K->Cq X (tab X.R)
section
variable (T:(R:Type)->TR (FI R))
def xZ(fuel n:Nat):EV Bool:=ev false WO (T Bool) fuel n
def mU(fuel n:Nat):EV Prop:=ev False oq (T Prop) fuel n
def cW(a x:AV):Prop:=∀z y v,aE z y a v->aE z y x v
def mV(a y:Fl):Prop:=match a with
 |.ret v=>∃z,y=.ret z/\cW v z
 |_=>y=a
def eJ(z:Nat->Nat)(va:Nv):Fl->Fl
 |.ret a=>.ret<|av z va a
 |a=>a
structure x0(r:Fl)(f:aK)(H:AH):Prop where
 cell:∀i o,H.get i=some o->i<H.n
 loc:∀x j,ae f.loc x=some (.ref j)->j<H.n
 cel:∀x i,ae f.cel x=some i->i<H.n
 ret:∀j,r=.ret (.ref j)->j<H.n
def cX{R:Type}(holds:R->Prop)(e:EV R)(s:XS R)(w:R)(f:aK)(H:AH)(k:KS Prop):Prop:=
 ∃(va:Nv)(t:Nat->Nat)(q:AH)(fs:aK)(c:KS R),(∀k x y,va k x=va k y->x=y)/\xX t va q H/\
  (∀x a,ae fs.loc x=some a->∃h,ae f.loc x=some h/\cW h (av t va a))/\(∀x i,ae fs.cel x=some i->ae f.cel x=some (t i))/\holds (s e fs q c λz z=>w)/\
  ∀r v u,holds (c r v u)->(∀i o,H.get i=some o->i<H.n)->x0 r v u->∃p f2 m,J_ t va q u H m/\mV (eJ t va r) p/\
   (∀x l,ae f2.loc x=some l->∃a,ae v.loc x=some a/\cW (av t va a) l)/\(∀x i,ae f2.cel x=some i->∃j,ae v.cel x=some j/\i=t j)/\k p f2 m
def bF(s:(R:Type)->XS R):XS Prop:=λe f H k z=>s Prop e f H k z\/(e.hd=false/\(cX (· = true) (xZ T e.fuel e.lvl) (s Bool) false f H k\/cX (λp:Prop=>p) (mU T e.fuel e.lvl) (s Prop) False f H k))
end
variable {fuel:Nat}
theorem WP{K:cj}{F:sw K}(Z:bG X)(v:X.K=K)(c:qi X.K)(k:∀b o,X.h₀.get? b=some o->h.get? b=some o)(inj:∀k x y,va k x=va k y->x=y)(n:Nat):bD (X.to Bool (· = true) h va fr) (xZ F.tab fuel n) n:=by
 have w:=Z.to c (holds:=(· = true)) (fr:=fr) k inj;refine Cr w.O (λe=>Bool.noConfusion e) (λi r e=>?_) (F.ok _ w v) fuel n;have z:J (Nat.blt i.natAbs<|2 ^ 62) r false=true:=e;cases q:Nat.blt i.natAbs (2 ^ 62) with|true=>rw[q] at z;exact⟨Nat.le_of_ble_eq_true q,z⟩|false=>rw[q] at z;cases z
theorem WQ{K:cj}{F:sw K}(Z:bG X)(w:X.K=K)(c:qi X.K)(k:∀b o,X.h₀.get? b=some o->h.get? b=some o)(inj:∀k x y,va k x=va k y->x=y)(n:Nat):bD (X.to Prop (λp=>p) h va fr) (mU F.tab fuel n) n:=by
 have z:=Z.to c (holds:=λp=>p) (fr:=fr) k inj;exact Cr z.O (λe=>e) (λi r e=>e) (F.ok _ z w) fuel n
theorem cC.less(h:cC A fs n hd)(le:m<=n):cC A fs m hd:=⟨by have z:=h.1;exact(lin [m,n,A.depth,pj] 0x129308a0a42811611b08a0a42811621b441) le z,by have z:=h.2.1;exact(lin [m,n,A.units,gp] 0x129308a5842881611b08a5842881621b441) le z,h.2.2⟩
abbrev jp(prog:dY)(w:dZ)(h₀:cm)(os₀:l6)(z:de)(K:cj)(mg mb:Str->Option au):Fx:=⟨Prop,λp=>p,prog,w,h₀,os₀,z,K,mg,mb⟩
theorem St.lowR(S:X.St u H k s)(F:dg X u f t m)(l:BU u X.σ r w):x0 r f H:=by
 have z:∀j a,u j=some a->j<H.n:=λj a e=>Nat.lt_of_not_le λq=>by rw[S.top j q] at e;cases e
 refine⟨λi o e=>S.wf i o e,λx j e=>?_,λx i e=>?_,λj e=>?_⟩
 .obtain⟨_,v,_,y,q,_⟩:=F.loc x _ e;exact z _ _ q
 .obtain⟨a,p,_⟩:=F.cel x i e;exact z _ _ p
 .subst e;obtain⟨v,_,y,q,_⟩:=l;exact z _ _ q
def SC(X:Fx)(v:bJ)(u:Env->Sem pr)(p:XS X.R):Prop:=∀e n,bD X e n->∀z,cU v z->∀f H k w,X.holds (p e f H k w)->∀y m x s A Q E,cC A (z.frame,z.locals::df x) n e.hd->X.St y H ((z.locals,.ns m)::x) s->dg X y f z m->
 jT X k z x y Q->mL X w z x A y E->aF X.M A (u z) Q E s
theorem Kc{K:cj}{R:Type}{holds:R->Prop}{e':EV R}{s':XS R}{u:R}(hb:¬holds u)(hs:∀h va fr,(∀b o,h₀.get? b=some o->h.get? b=some o)->(∀k x y,va k x=va k y->x=y)->bD ((jp prog w h₀ os₀ σ K mg mb).to R holds h va fr) e' m/\SC ((jp prog w h₀ os₀ σ K mg mb).to R holds h va fr) sc x s')(h0:e'.hd=false)(hf:cX holds e' s' u f H k)(n:cU sc d)(g:cC A (d.frame,d.locals::df ls) m false)(S:(jp prog w h₀ os₀ σ K mg mb).St N H ((d.locals,.ns mm)::ls) s)(F:dg (jp prog w h₀ os₀ σ K mg mb) N f d mm)(PV:jT (jp prog w h₀ os₀ σ K mg mb) k d ls N Q):aF (jp prog w h₀ os₀ σ K mg mb).M A (x d) Q E s:=by
 obtain⟨va,fl,Hs,fs,c,inj,M,f1,f2,t,P⟩:=hf;obtain⟨EV,SX⟩:=hs (mS s.heap<|qh N fl Hs<|(d.locals,.ns mm)::ls) va (λj=>N<|fl j) (λb o e=>S.under M e) inj;refine SX e' m EV d n fs Hs c (λz z=>u) t (λj=>N<|fl j) mm ls s A Q E (by rw[h0];exact g) (S.part M) ⟨λy a e=>?_,λy i e=>?_⟩ (λρs r fs' Hs' m' s' l x' S' F' X hk=>?_) ⟨λz z z z z z z z z h=>aP h hb,λz z z z z z z z z z z h=>aP h hb⟩
 .obtain⟨a',ha',le⟩:=f1 y a e;obtain⟨p,v,q,r⟩:=F.loc y _ ha';exact⟨p,v,q,om.mp<|le _ _ _ r⟩
 .exact F.cel y _<|f2 y i e
 .obtain⟨r2,g2,H2,B,lr,l1,l2,Z⟩:=P r fs' Hs' hk S.wf<|St.lowR S' F' X;obtain⟨ρ',x2,fe,S2⟩:=S.whole M S' rfl x' B;have C:=funext fe;refine PV ρ' r2 g2 H2 m' s' l x2 S2 ⟨λy a2 e=>?_,λy i e=>?_⟩ ?_ Z
  .obtain⟨a,ha,le⟩:=l1 y a2 e;obtain⟨p,v,q,r⟩:=F'.loc y a ha;exact⟨p,v,q,le _ _ _ (om.mpr<|by rw[C];exact r)⟩
  .obtain⟨j,hj,rfl⟩:=l2 y i e;obtain⟨a,p,q⟩:=F'.cel y j hj;exact⟨a,(fe j).trans p,q⟩
  .cases r with|nxt=>clear Z;cases lr;exact X|brk=>clear Z;cases lr;exact X|cnt=>clear Z;cases lr;exact X|ret a=>obtain⟨v,ev,ra⟩:=X;clear Z;obtain⟨v',rfl,le⟩:=lr;exact⟨v,ev,le _ _ _ (om.mpr<|by rw[C];exact ra)⟩
theorem Kd{h₀:cm}{K:cj}(F:sw K)(Z:bG (jp prog w h₀ os₀ P K mg mb))(c:qi K){j:bJ}{x:Env->Sem pr}{s:(R:Type)->XS R}(p:∀X:Fx,bG X->X.K=K->SC X j x (s X.R)):SC (jp prog w h₀ os₀ P K mg mb) j x (bF F.tab s):=by
 intro e n y u z f H k g hh b m l i A Q E v S o r a;rcases hh with hh|⟨d,hh⟩
 .exact p _ Z rfl e n y u z f H k g hh b m l i A Q E v S o r a
 .have t:cC A (u.frame,u.locals::df l) e.lvl false:=by have Y:=v.less y.lvl;rwa [d] at Y
  rcases hh with hh|hh
  .refine Kc (holds:=(· = true)) (λh=>Bool.noConfusion h) (λh va fr k inj=>⟨WP Z rfl c k inj _,?_⟩) (by cases q:e.lvl<;>rfl) hh z t S o r;exact p _ (Z.to c k inj) rfl
  .refine Kc (λh=>h) (λh va fr k inj=>⟨WQ Z rfl c k inj _,?_⟩) (by cases q:e.lvl<;>rfl) hh z t S o r;exact p _ (Z.to c k inj) rfl
theorem WR{K:cj}(F:sw K)(Z:bG (jp prog w h₀ os₀ v K mg mb))(c:qi K)(y:∀X:Fx,bG X->X.K=K->SS X z x (s X.R)):SS (jp prog w h₀ os₀ v K mg mb) z x (bF F.tab s):=Kd F Z c y
theorem WS{K:cj}(F:sw K)(Z:bG (jp prog w h₀ os₀ v K mg mb))(c:qi K)(y:∀X:Fx,bG X->X.K=K->SB X z x (s X.R)):SB (jp prog w h₀ os₀ v K mg mb) z x (bF F.tab s):=Kd F Z c y
theorem WT(r:Γ.In A):∀y p s,Sem.wp M Γ (pt y u) (λf z v=>match f with|.next=>aF M A (pt w u) Q E v|f=>Q f v) (λe z v=>E e v) p s->Sem.wp M Γ (pt (y++w) u) (λa z v=>Q a v) (λe z v=>E e v) p s:=by
 intro o
 induction o with|nil=>intro p s h;exact h Γ p r|cons x y q=>intro p s h;rw[List.cons_append,execs_cons,ar2];rw[execs_cons,ar2] at h;refine Sem.wp_mono M Γ _ (λf n v t=>?_) (λz z z t=>t) _ _ h;cases f<;>first|exact t|exact q n v t
theorem ou{X:Fx}{d:bJ}{x u:List bv}{p r:XS X.R}(hx:SB X d x p)(hr:SB X d u r):SB X d (x++u) (ac p r):=by
 intros;intro Γ q l
 refine WT l x q s<|hx e n G W Y f H _ M Z R m I s A _ E V S F (λg fl f1 H1 m1 s1 t j y h z i=>?_) B Γ q l;cases fl with
 |nxt=>have o:=z;clear z;subst o;exact hr e n G W Y f1 H1 k M i g m1 I s1 A Q E V y h (λb a f2 H2 m2 s2 C x2 N P o c=>K _ _ _ _ _ _ _ (j.trans x2) N P o c)<|B.ext j
 |brk=>have o:=z;clear z;subst o;exact K _ .brk _ _ _ _ _ j y h rfl i
 |cnt=>have o:=z;clear z;subst o;exact K _ .cnt _ _ _ _ _ j y h rfl i
 |ret v=>obtain⟨w,rfl,o⟩:=z;exact K _ (.ret v) _ _ _ _ _ j y h ⟨w,rfl,o⟩ i
end
def iA(m:Nat->Nat)(a:AV):AV:=match a with
 |.ref j=>.ref<|m j
 |a=>a
def uE(m:Nat->Nat)(o:AO):AO:=match o with
 |.inst C d=>.inst C<|m d
 |.dict es=>.dict<|bX (λp=>(p.1,iA m p.2)) es
 |.umap es=>.umap<|bX (λp=>(p.1,ad p.2 none λa=>some<|iA m a)) es
 |.list xs=>.list<|bX (iA m) xs
 |.tup xs=>.tup<|bX (iA m) xs
 |.set xs=>.set xs
 |.cell v=>.cell<|ad v none λa=>some<|iA m a
 |.rng n=>.rng n
 |.rev s i=>.rev (m s) i
 |.dvals s=>.dvals<|m s
 |.fn f q ci caps=>.fn f q (m ci)<|bX (λp=>(p.1,m p.2)) caps
 |.tab l c i=>.tab l c<|ad i none λa=>some<|m a
 |.code q=>.code q
 |.frz xs=>.frz<|bX (iA m) xs
theorem fA(f:w->v):∀l:List w,bX f l=l.map f:=by
 intro y
 induction y with|nil=>exact rfl|cons x l z=>show f x::bX f l=_;rw[z];rfl
theorem sx{f:w->z}{g:z->y}{h:w->y}(e:∀x,g (f x)=h x):List.map g (bX f l)=l.map h:=by rw[fA];exact qj e
theorem qk:av f va (iA m a)=av (λj=>f (m j)) va a:=by cases a<;>rfl
theorem Dh:aG f va (uE m o)=aG (λj=>f (m j)) va o:=by
 have ho:∀x:Option AV,(ad x none λa=>some<|iA m a).map (av f va)=x.map (av (λj=>f<|m j) va):=λx=>by
  cases x with|none=>rfl|some a=>exact aT some qk
 cases o with
 |dict es=>exact aT AO.dict<|sx λp=>aT (kl p.1) qk
 |umap es=>exact aT AO.umap<|sx λp=>aT (kl p.1)<|ho p.2
 |list es=>exact aT AO.list<|sx λp=>qk
 |tup es=>exact aT AO.tup<|sx λp=>qk
 |frz es=>exact aT AO.frz<|sx λp=>qk
 |cell v=>exact aT AO.cell<|ho v
 |fn a b y z=>exact aT (AO.fn a b _)<|sx λp=>rfl
 |tab l c i=>cases i<;>rfl
 |_=>rfl
theorem au5(h:vis o j):vis (uE m o) (m j):=by
 cases o with
 |inst C d=>cases h;rfl
 |dict es=>obtain⟨p,z,e⟩:=h;exact⟨(p.1,iA m p.2),by rw[fA];exact List.mem_map.mpr ⟨p,z,rfl⟩,by rw[e];rfl⟩
 |umap es=>obtain⟨p,z,e⟩:=h;exact⟨(p.1,ad p.2 none λa=>some<|iA m a),by rw[fA];exact List.mem_map.mpr ⟨p,z,rfl⟩,by rw[e];rfl⟩
 |list y=>show _∈bX _ _;rw[fA];exact List.mem_map.mpr ⟨_,h,rfl⟩
 |tup y=>show _∈bX _ _;rw[fA];exact List.mem_map.mpr ⟨_,h,rfl⟩
 |frz y=>show _∈bX _ _;rw[fA];exact List.mem_map.mpr ⟨_,h,rfl⟩
 |cell v=>cases h;rfl
 |rev s i=>cases h;rfl
 |dvals s=>cases h;rfl
 |fn f q u w=>
  rcases h with rfl|⟨x,e⟩
  .exact .inl rfl
  .exact .inr ⟨(x.1,m x.2),by rw[fA];exact List.mem_map.mpr ⟨x,e.1,rfl⟩,by rw[<-e.2]⟩
 |tab l c i=>cases h;rfl
 |set _=>exact h.elim
 |rng _=>exact h.elim
 |code _=>exact h.elim
def Ke(a b:AV):Bool:=match a with
 |.none=>AV.m false b (none:=true)
 |.bool x=>AV.m false b (bool:=λy=>J x y<|!y)
 |.int x=>AV.m false b (int:=λy=>km x y)
 |.str x=>AV.m false b (str:=λy=>Nat.beq x y) (one:=λw=>a5 w x)
 |.ref x=>AV.m false b (ref:=λy=>Nat.beq x y)
 |.glo x=>AV.m false b (glo:=λy=>Nat.beq x y)
 |.one xs=>AV.m false b (one:=λz=>hV xs z)
 |.atm k x=>AV.m false b (atm:=λl y=>J (Nat.beq k l) (Nat.beq x y) false)
 |.bi _=>false
 |.unk=>false
 |.gla x=>AV.m false b (gla:=λy=>Nat.beq x y)
def g7(a b:AV):Bool:=AV.m (Ke a b) b (unk:=true)
def ow(a b:Option AV):Bool:=ad a (ad b true λz=>false) λx=>ad b false λy=>g7 x y
def gl{u v:Type}(p:u->v->Bool)(l:List u):List v->Bool:=@List.rec u (λz=>List v->Bool) (λm=>@List.rec v (λz=>Bool) true (λz z z=>false) m) (λx z t m=>@List.rec v (λz=>Bool) false (λy w z=>J (p x y) (t w) false) m) l
def aV{y:Type}(p:y->Bool)(l:List y):Bool:=@List.rec y (λz=>Bool) true (λx z w=>J (p x) w false) l
def uF(es:List (Nat×Option AV)):Nat:=@List.rec (Nat×Option AV) (λz=>Nat) 0 (λp z y=>ad p.2 y λz=>Nat.succ y) es
def x_(o s:AO):Bool:=match o with
 |.inst C d=>AO.m false (s) (inst:=λt e=>J (Nat.beq C t) (Nat.beq d e) false)
 |.dict es=>AO.m false (s) (dict:=λfs=>gl (λp q=>J (Nat.beq p.1 q.1) (g7 p.2 q.2) false) es fs) (umap:=λfs=>J (Nat.ble (len es)<|uF fs) (J (aV (λq=>ow (ae es q.1) q.2) fs) (aV (λp=>ad (ae fs p.1) false λz=>true) es) false) false)
 |.umap es=>AO.m false (s) (umap:=λfs=>gl (λp q=>J (Nat.beq p.1 q.1) (ow p.2 q.2) false) es fs)
 |.list xs=>AO.m false (s) (list:=λu=>gl g7 xs u)
 |.tup xs=>AO.m false (s) (tup:=λu=>gl g7 xs u)
 |.set xs=>AO.m false (s) (set:=λu=>gl Nat.beq xs u)
 |.cell v=>AO.m false (s) (cell:=λw=>ow v w)
 |.rng n=>AO.m false (s) (rng:=λm=>Nat.beq n m)
 |.code n=>AO.m false (s) (code:=λm=>Nat.beq n m)
 |.tab l c i=>match s with|.tab l' c' i'=>J (Nat.beq l l') (J (Nat.beq c c') (ad i (ad i' true λz=>false) λx=>ad i' false λy=>Nat.beq x y) false) false|_=>false
 |_=>false
theorem cI(h:J b c false=true):b=true/\c=true:=by
 cases b with|true=>exact⟨rfl,h⟩|false=>exact bg h
theorem Kf(h:hV w v=true):∀x∈w,x∈v:=by
 induction w with
 |nil=>exact λy m=>(nomatch m)
 |cons z l t=>refine bx (h) λu s=>?_;rw[dh] at u;exact λx m=>(List.mem_cons.mp m).elim (λe=>e▸br u)<|t s x
theorem cW.of_eq(h:a=b):cW a b:=h▸λz z z r=>r
theorem Kg(h:J x y (!y)=true):x=y:=by
 cases x with|true=>exact h.symm|false=>cases y with|true=>exact bg h|false=>rfl
theorem Kh(h:km x y=true):x=y:=by rw[xm] at h;exact br h
theorem WU(h:Ke a b=true):cW a b:=by
 cases a with
 |none=>cases b with|none=>exact λz z z r=>r|_=>exact bg h
 |bool x=>cases b with
  |bool y=>exact .of_eq<|aT AV.bool<|Kg h
  |_=>exact bg h
 |int x=>cases b with
  |int y=>exact .of_eq<|aT AV.int<|Kh h
  |_=>exact bg h
 |str x=>cases b with
  |str y=>exact .of_eq<|aT AV.str<|Nat.eq_of_beq_eq_true h
  |one s=>exact λz z z r=>⟨x,br<|(dh s x).symm.trans h,r⟩
  |_=>exact bg h
 |ref x=>cases b with
  |ref y=>exact .of_eq<|aT AV.ref<|Nat.eq_of_beq_eq_true h
  |_=>exact bg h
 |glo x=>cases b with
  |glo y=>exact .of_eq<|aT AV.glo<|Nat.eq_of_beq_eq_true h
  |_=>exact bg h
 |one v=>cases b with|one w=>exact λz z z r=>r.elim λc u=>u.elim λq t=>⟨c,Kf h c q,t⟩|_=>exact bg h
 |atm k x=>cases b with
  |atm l y=>exact .of_eq<|congr (aT AV.atm<|Nat.eq_of_beq_eq_true (cI h).1)<|Nat.eq_of_beq_eq_true (cI h).2
  |_=>exact bg h
 |gla x=>cases b with
  |gla y=>exact .of_eq<|aT AV.gla<|Nat.eq_of_beq_eq_true h
  |_=>exact bg h
 |_=>exact bg h
theorem lB(h:g7 a b=true):cW a b:=by
 cases b with
 |unk=>
  intro z w v r;cases a with
  |none=>cases r;rfl
  |bool b=>cases r;rfl
  |int i=>obtain⟨t,rfl⟩:=r;rfl
  |str c=>obtain⟨t,rfl⟩:=r;rfl
  |ref i=>obtain⟨y,_,rfl⟩:=r;rfl
  |glo a=>cases r;rfl
  |bi b=>cases r;cases b<;>first|rfl|decide +kernel
  |one x=>obtain⟨c,_,t,rfl⟩:=r;rfl
  |atm k n=>obtain⟨t,rfl⟩:=r;rfl
  |unk=>exact r
  |gla k=>cases r;rfl
 |_=>exact WU h
theorem Di(h:ow a b=true)(r:dD z y a v):dD z y b v:=by
 cases a<;>cases b<;>cases v<;>first|exact r|exact r.elim|cases h|exact lB h _ _ _ r
theorem qm:∀{l:List u}{m:List v},gl p l m=true->aD (λa b=>p a b=true) l m
 | [],[],_=>trivial
 | [],_::_,h=>bg h
 |_::_,[],h=>bg h
 |x::l,y::m,h=>(cI (show J (p x y) (gl p l m) false=true from h)).elim λw z=>⟨w,qm z⟩
theorem bq:∀{l:List s},aV p l=true->∀x∈l,p x=true:=by
 intro u
 induction u with
 |nil=>intro r q z;exact nomatch z
 |cons y l w=>
  intro h x m;refine bx h λt v=>?_;clear h;refine bk m ?_ λm=>?_
  .exact t
  .exact w v x m
theorem aD.via{S:v->z->Prop}{Q:w->z->Prop}(h:∀a b c,R a b->S a c->Q b c):∀{l:List v}{m:List w}{n:List z},aD R l m->aD S l n->aD Q m n
 | [],[],[],_,_=>trivial
 |_::_,_::_,_::_,x,y=>⟨h _ _ _ x.1 y.1,aD.via h x.2 y.2⟩
theorem WV:∀es:List (Nat×Option AV),uF es=d_ es:=by
 intro x
 induction x with|nil=>exact rfl|cons p es y=>
  show ad p.2 (uF es) (λz=>Nat.succ<|uF es)=_+d_ es;rw[y];cases h:p.2 with|none=>simp|some a=>simp;exact lin [d_ es] 0x3941014280501
theorem Ki:∀{es fs:List (Nat×Option AV)},aD (λp q=>J (Nat.beq p.1 q.1) (ow p.2 q.2) false=true) es fs->d_ es=d_ fs/\∀c,(∀y,ae fs c=some y->∃v,ae es c=some v/\ow v y=true)/\∀v,ae es c=some v->∃y,ae fs c=some y
 | [],[],_=>⟨rfl,λc=>⟨λz e=>(nomatch e),λz e=>(nomatch e)⟩⟩
 |p::es,q::fs,x=>by
  obtain⟨u,s⟩:=Ki x.2;refine bx x.1 λt w=>?_;have t:=Nat.eq_of_beq_eq_true t;refine⟨?_,λc=>?_⟩
  .show(if p.2.isSome then 1 else 0)+d_ es=(if q.2.isSome then 1 else 0)+d_ fs;rw[u];have r:p.2.isSome=q.2.isSome:=by revert w;cases p.2<;>cases q.2<;>intro w<;>first|rfl|cases w
   rw[r]
  .rw[b3,b3,t]
   by_cases e:q.1=c
   .rw[aw e,aw e];exact⟨λy e=>⟨_,rfl,by cases e;exact w⟩,λz z=>⟨_,rfl⟩⟩
   .rw[aq e,aq e];exact s c
theorem cv.of_eq(h:a=b):cv a b:=h▸λz z z z z z r=>r
theorem WW{es fs:iJ}(h:gl (λp q=>J (Nat.beq p.1 q.1) (g7 p.2 q.2) false) es fs=true):cv (.dict es) (.dict fs):=by
 intro prog w o m y a r;have x:=qm h;obtain⟨v,d,l,z⟩:=r;exact⟨v,d,aD.via (λp q n y u=>(cI y).elim λs t=>⟨by rw[u.1,Nat.eq_of_beq_eq_true s],lB t _ _ _ u.2⟩) x l,by rw[<-x.length];exact z⟩
theorem WX:∀{es:iJ}{z:List (Str×au)},aD (fx v u) es z->p∈z->∃q∈es,p.1=am q.1:=by
 intro es
 induction es with
 |nil=>intro z l m;cases z with|nil=>exact nomatch m|cons _ _=>exact l.elim
 |cons q es y=>
  intro z l m;cases z with
  |nil=>exact nomatch m
  |cons t z=>
   refine f_ m (λe=>(⟨q,.head _,e▸l.1.1⟩)) λm=>?_
   .obtain⟨x,w,e⟩:=y l.2 m;exact⟨x,.tail _ w,e⟩
theorem WY(h:J (Nat.ble (len es) (uF fs)) (J (aV (λq=>ow (ae es q.1) q.2) fs) (aV (λp=>ad (ae fs p.1) false λy=>true) es) false) false=true):cv (.dict es) (.umap fs):=by
 refine bx h λv h=>?_;refine bx h λs n=>?_;have v:=Nat.le_of_ble_eq_true v;rw[fL,WV] at v;intro prog w m k x a r;obtain⟨u,d,l,z⟩:=r;refine⟨u,d,l.length▸v,λc t e=>Di (bq s _<|bA e)<|nV c l,λp x=>?_⟩;obtain⟨q,o,e⟩:=WX l x;have j:=bq n q o;cases g:ae fs q.1 with|none=>rw[g] at j;exact bg j|some t=>exact⟨q.1,t,g,e⟩
theorem WZ(h:gl (λp q=>J (Nat.beq p.1 q.1) (ow p.2 q.2) false) es fs=true):cv (.umap es) (.umap fs):=by
 obtain⟨k,o⟩:=Ki<|qm h;intro prog w j i y a r;obtain⟨v,d,z,l,m⟩:=r;exact⟨v,d,by rw[<-k];exact z,λc t e=>((o c).1 t e).elim λu x=>x.elim λe1 e2=>Di e2<|l c u e1,λp y=>(m p y).elim λc x=>x.elim λu s=>s.elim λe1 e2=>((o c).2 u e1).elim λt n=>⟨c,t,n,e2⟩⟩
theorem Kj{x z:tY0}{y:List au}(h:gl g7 x z=true)(l:aD (aE u t) x y):aD (aE u t) z y:=aD.via (S:=aE u t) (Q:=aE u t) (λp q v w s=>lB w _ _ _ s) (qm h) l
theorem W7(h:gl g7 v w=true):cv (.list v) (.list w):=λy y y y y y r=>let⟨x,d,l,z⟩:=r;⟨x,d,Kj h l,(qm h).length▸z⟩
theorem W9(h:gl g7 v w=true):cv (.tup v) (.tup w):=λy y y y y y r=>let⟨x,d,l,z⟩:=r;⟨x,d,Kj h l,(qm h).length▸z⟩
theorem W_:∀{v w:List Nat},aD (λa b=>Nat.beq a b=true) v w->v=w:=by
 intro v
 induction v with
 |nil=>intro w x;cases w with|nil=>rfl|cons _ _=>exact x.elim
 |cons z v u=>intro w x;cases w with|nil=>exact x.elim|cons y w=>rw[Nat.eq_of_beq_eq_true x.1,u x.2]
theorem Xa(h:(ad i (ad w true λz=>false) λx=>ad w false λy=>Nat.beq x y)=true):i=w:=by
 cases i with
 |none=>cases w with|none=>rfl|some _=>exact bg h
 |some x=>cases w with|none=>exact bg h|some y=>exact aT some<|Nat.eq_of_beq_eq_true h
theorem Dj(h:x_ o t=true):cv o t:=by
 cases o with
 |inst C d=>cases t with
  |inst u e=>exact .of_eq<|congr (aT AO.inst<|Nat.eq_of_beq_eq_true (cI h).1)<|Nat.eq_of_beq_eq_true (cI h).2
  |_=>exact bg h
 |dict es=>cases t with|dict fs=>exact WW h|umap fs=>exact WY h|_=>exact bg h
 |umap es=>cases t with|umap fs=>exact WZ h|_=>exact bg h
 |list y=>cases t with|list w=>exact W7 h|_=>exact bg h
 |tup y=>cases t with|tup w=>exact W9 h|_=>exact bg h
 |set y=>cases t with
  |set w=>exact .of_eq<|aT AO.set<|W_<|qm h
  |_=>exact bg h
 |cell v=>cases t with|cell q=>exact λz z z z z z r=>r.elim λx s=>s.elim λg l=>⟨x,g,Di h l⟩|_=>exact bg h
 |rng n=>cases t with
  |rng m=>exact .of_eq<|aT AO.rng<|Nat.eq_of_beq_eq_true h
  |_=>exact bg h
 |code n=>cases t with
  |code m=>exact .of_eq<|aT AO.code<|Nat.eq_of_beq_eq_true h
  |_=>exact bg h
 |tab l c i=>cases t with
  |tab k p j=>exact .of_eq<|congr (congr (aT AO.tab<|Nat.eq_of_beq_eq_true (cI h).1)<|Nat.eq_of_beq_eq_true (cI (cI h).2).1)<|Xa (cI (cI h).2).2
  |_=>exact bg h
 |_=>exact bg h
theorem cv.toA(h:cv o y):Dg o y:=λz z z z z z z z r=>(ss).mpr (h _ _ _ _ _ _ ((ss (fr:=λz=>none)).mp r))
theorem cW.toA(h:cW a b)(f:Nat->Nat)(va:Nv):cW (av f va a) (av f va b):=λz z z r=>(om).mpr (h _ _ _ ((om (fr:=λz=>none)).mp r))
theorem Dk(e:a5 l j=true)(h:aV p l=true):p j=true:=bq h j (br ((dh l j).symm.trans e))
theorem uG[DecidablePred p](e:a5 l j=true)(h:aV (λj=>decide (p j)) l=true):p j:=br (Dk e h)
theorem Dl(e:a5 l j=true)(h:hV l m=true):a5 m j=true:=(dh m j).trans (bR (Kf h j (br ((dh l j).symm.trans e))))
def fill(g:Nat->Option AO):Nat->AH
 |0=>⟨.lf,0⟩
 |n+1=>ad (g n) ⟨(fill g n).t,n+1⟩ λo=>(fill g n).new o
theorem Kk{g:Nat->Option AO}:fill g (n+1)=ad (g n) ⟨(fill g n).t,n+1⟩ λo=>(fill g n).new o:=rfl
theorem uH(g:Nat->Option AO):∀n,(fill g n).n=n
 |0=>rfl
 |n+1=>by
  rw[Kk];cases g n with|some o=>rw[AH.n_new,uH]|none=>rfl
theorem Kl g:∀n i,(fill g n).get i=if i<n then g i else none
 |0,i=>rfl
 |n+1,i=>by
  rw[Kk];have z:=Kl g n i;cases q:g n with
  |some o=>
   rw[AH.get_new,uH,z]
   by_cases e:i=n
   .clear z;subst e;rw[aw rfl,aw<|Nat.lt_succ_self _,q]
   .rw[aq e]
    by_cases e2:i<n
    .rw[aw e2,aw<|by exact(lin [i,n] 5174852820447297) e2]
    .rw[aq e2,aq<|by exact(lin [i,n] 0x949ec500a0417b0417b841) e e2]
  |none=>
   refine z.trans ?_
   by_cases e:i=n
   .clear z;subst e;rw[aq<|Nat.lt_irrefl _,aw<|Nat.lt_succ_self _,q]
   .by_cases e2:i<n
    .rw[aw e2,aw<|by exact(lin [i,n] 5174852820447297) e2]
    .rw[aq e2,aq<|by exact(lin [i,n] 0x949ec500a0417b0417b841) e e2]
theorem Dm(y:Nat->Nat):∀n,∃N,∀j,j<n->y j<N
 |0=>⟨0,λz h=>aP h<|Nat.not_lt_zero _⟩
 |n+1=>by
  obtain⟨N,h⟩:=Dm y n;refine⟨N+y n+1,λj x=>?_⟩
  by_cases e:j=n
  .clear h x;subst e;exact lin [y j,N] 3384476501057
  .have w:=h j<|(lin [j,n] 0x2526082f7082c500a041) x e;exact(lin [y j,N,y n] 0x498a01428620b041) w
def v0:Nat->Nat->Int:=λz n=>n
def ar(z:Nat->Nat)(va:Nv)(f:aK):aK:=⟨f.loc.map λp=>(p.1,av z va p.2),f.cel.map λp=>(p.1,z p.2)⟩
theorem eD:ae (ar z va f).loc x=(ae f.loc x).map (av z va):=qg
theorem iZ:ae (ar z va f).cel x=(ae f.cel x).map z:=qg
structure aR(fl:Nat->Nat)(w:Nat->Option AO)N(H:AH):Prop where
 inj:∀i j,fl i=fl j->i=j
 top:∀i,N<=i->H.n<=fl i
 cell:∀i o,w i=some o->H.get (fl i)=some (aG fl v0 o)
 low:∀i o,w i=some o->i<N/\∀j,vis o j->j<N
 lt:∀i,i<N->fl i<H.n
def Km(o z:AO):Prop:=∀f,cv (aG f v0 o) (aG f v0 z)
structure Xb g va(w:Nat->Option AO)(B B':AH)(fs':aK)(r:Fl)(w2:Nat->Option AO)(N2:Nat)(m:Nat->Nat)(r2:Fl)(F2:aK):Prop where
 inj:∀i j,i<N2->j<N2->m i=m j->i=j
 cell:∀i o2,w2 i=some o2->(i<N2/\∀j,vis o2 j->j<N2)/\((∃j o,g j=m i/\B'.get j=some o/\Km (aG g va o) (aG m v0 o2))\/((∀j o,B.get j=some o->g j≠m i)/\∃o1,w (m i)=some o1/\Km o1 (aG m v0 o2)))
 ret:mV (eJ g va r) (eJ m v0 r2)/\∀j,r2=.ret (.ref j)->j<N2
 loc:∀x a2,ae F2.loc x=some a2->(∀j,a2=.ref j->j<N2)/\∃a,ae fs'.loc x=some a/\cW (av g va a) (av m v0 a2)
 cel:∀x i,ae F2.cel x=some i->i<N2/\∃j,ae fs'.cel x=some j/\g j=m i
theorem sy(h:∀j,a=.ref j->f j=f' j):av f va a=av f' va a:=by
 cases a<;>first|rfl|exact aT _<|h _ rfl
theorem mV.via{g m x y:Nat->Nat}(w:∀i,i<v->y i=x (m i))(h:mV (eJ g va r) (eJ m v0 z))(l:∀j,z=.ret (.ref j)->j<v):mV (eJ (λj=>x (g j)) va r) (eJ y v0 z):=by
 cases r with
 |ret a=>
  obtain⟨u,e,le⟩:=h;cases z with
  |ret b=>
   injection e with e
   subst e;refine⟨_,rfl,?_⟩;have t:=le.toA x v0;rw[g0,g0] at t;rw[sy λj e=>w j (l j<|by rw[e])];exact t
  |_=>cases e
 |nxt=>clear l;cases z<;>first|rfl|cases h
 |brk=>clear l;cases z<;>first|rfl|cases h
 |cnt=>clear l;cases z<;>first|rfl|cases h
theorem Kn(E:aR fl w N H)(inj:∀k x y,va k x=va k y->x=y)(gi:∀i j,g i=g j->i=j)(gt:∀j,B.n<=j->N<=g j)(gc:∀j o,B.get j=some o->w (g j)=some (aG g va o))(f1:∀x a,ae fs.loc x=some a->∃a',ae F.loc x=some a'/\cW a' (av g va a))(f2:∀x i,ae fs.cel x=some i->ae F.cel x=some (g i))(Q:holds (s' e' fs B c λz z=>R))(res:∀r fs' B',holds (c r fs' B')->x0 r fs' B'->∃Z N2 m r2 F2,Xb g va w B B' fs' r Z N2 m r2 F2/\∀C H2,aR C Z N2 H2->(∀i,i<N2->C i=fl (m i))->k (eJ C v0 r2) (ar C v0 F2) H2):cX holds e' s' R (ar fl v0 F) H k:=by
 classical
 refine⟨va,λj=>fl<|g j,B,fs,c,inj,⟨λi j e=>gi _ _<|E.inj _ _ e,λj hj=>E.top _<|gt j hj,λj o e=>?_⟩,λx a e=>?_,λx i e=>?_,Q,λr fs' B' hc wH L=>?_⟩
 .rw[E.cell _ _<|gc j o e,jo]
 .obtain⟨a',ha',le⟩:=f1 x a e;have Y:=le.toA fl v0;rw[g0] at Y;exact⟨_,by rw[eD,ha',Option.map_some],Y⟩
 .rw[iZ,f2 x i e];rfl
 obtain⟨Z,N2,m,r2,F2,X,S⟩:=res r fs' B' hc L;obtain⟨p,hb1⟩:=Dm (λi=>fl<|m i) N2;obtain⟨d,hb2⟩:=Dm (λj=>fl<|g j) B'.n
 let Nb:=p+d+H.n
 let C:Nat->Nat:=λi=>if i<N2 then fl (m i) else Nb+i
 have t:∀i,i<N2->C i=fl (m i):=λi A=>aw A;have s:∀i j,C i=C j->i=j:=λi j e=>by
  by_cases A:i<N2<;>by_cases hj:j<N2
  .rw[t i A,t j hj] at e;exact X.inj i j A hj<|E.inj _ _ e
  .have h1:=hb1 i A;have e:=e.trans<|aq hj;rw[t i A] at e
   dsimp only[Nb] at e
   exact((lin [i,N2,j,fl<|m i,p,d,H.n] 0x94a529b94351d462918523d821b041) A hj h1 e).elim
  .have h1:=hb1 j hj;have e:=(aq A).symm.trans e;rw[t j hj] at e
   dsimp only[Nb] at e
   exact((lin [i,N2,j,fl<|m j,p,d,H.n] 0x94a529b88a0a8ea31585230437b041) A hj h1 e).elim
  .have e:=((aq A).symm.trans e).trans<|aq hj;exact(lin [Nb,i,j] aC0) e
 let gg:Nat->Option AO:=λi'=>if h:∃i,i<N2/\C i=i' then(Z h.choose).map (aG C v0) else none
 have gg1:∀i,i<N2->gg (C i)=(Z i).map (aG C v0):=λi A=>by have h:∃i',i'<N2/\C i'=C i:=⟨i,A,rfl⟩;show(if h:∃i',i'<N2/\C i'=C i then _ else _)=_;rw[dif_pos h,s _ _ h.choose_spec.2]
 have gg2:∀i' o,gg i'=some o->∃i u,i<N2/\C i=i'/\Z i=some u/\o=aG C v0 u:=λi' o e=>by
  by_cases h:∃i,i<N2/\C i=i'
  .obtain⟨i,A,rfl⟩:=h;rw[gg1 i A] at e;cases q:Z i with|none=>rw[q] at e;cases e|some u=>rw[q] at e;cases e;exact⟨i,u,A,rfl,q,rfl⟩
  .rw[show gg i'=none from dif_neg h] at e;cases e
 have get:∀i',(fill gg Nb).get i'=if i'<Nb then gg i' else none:=Kl gg Nb
 have agree:∀u,(∀j,vis u j->j<N2)->cv (aG (λj=>fl<|m j) v0 u) (aG C v0 u):=λu h=>xY λj v=>(t j<|h j v).symm;refine⟨eJ C v0 r2,ar C v0 F2,fill gg Nb,⟨λi' o e=>?_,λi' A=>?_⟩,mV.via t X.ret.1 X.ret.2,λx a2 e=>?_,λx i e=>?_,S C _ ⟨s,λi A=>?_,λi o e=>?_,λi o e=>(X.cell i o e).1,λi A=>?_⟩ t⟩
 .have e:gg i'=some o:=by
   rw[get] at e
   by_cases q:i'<Nb
   .rw[aw q] at e;exact e
   .rw[aq q] at e;cases e
  obtain⟨i,u,A,rfl,h2,rfl⟩:=gg2 i' o e;rcases(X.cell i u h2).2 with ⟨j,o',hj,hg,le⟩|⟨hn,P,h1,le⟩
  .refine .inl ⟨j,o',by rw[t i A,hj],hg,?_⟩;have Y:=le fl;rw[jo,jo] at Y;exact Y.trans<|agree u (X.cell i u h2).1.2
  .refine .inr ⟨λj o' hb q=>hn j o' hb<|E.inj _ _<|q.trans<|t i A,aG fl v0 P,?_,?_⟩
   .rw[t i A];exact E.cell _ _ h1
   .have Y:=le fl;rw[jo] at Y;exact Y.trans<|agree u (X.cell i u h2).1.2
 .have A:Nb<=i':=by rw[uH] at A;exact A
  refine⟨by dsimp only[Nb] at A;exact(lin [p,d,H.n,i'] 0x49a41b48a1a841) A,λj e=>Nat.le_of_not_lt λq=>?_⟩;have Y:=hb2 j q
  dsimp only[Nb] at A
  exact(lin [p,d,H.n,i',fl<|g j] 0x1294a6c115c42b48a1a841) A e Y
 .rw[eD] at e;cases q:ae F2.loc x with|none=>rw[q] at e;cases e|some b=>rw[q] at e;cases e;obtain⟨l,a,ha,le⟩:=X.loc x b q;refine⟨a,ha,?_⟩;have Y:=le.toA fl v0;rw[g0,g0] at Y;rw[sy (f:=C) (f':=λj=>fl<|m j) λj e=>t j<|l j e];exact Y
 .rw[iZ] at e;cases q:ae F2.cel x with|none=>rw[q] at e;cases e|some b=>rw[q] at e;cases e;obtain⟨l,j,hj,ej⟩:=X.cel x b q;exact⟨j,hj,by show C b=fl (g j);rw[t b l,ej]⟩
 .rw[uH,show C i=Nb+i from aq<|Nat.not_lt.mpr A];exact(lin [N2,i,Nb] 20248693683265) A
 .have A:=(X.cell i o e).1.1;have Y:C i<Nb:=by rw[t i A];have Y:=hb1 i A;dsimp only[Nb];exact(lin [fl<|m i,p,d,H.n] 0x498a228620b041) Y
  rw[get,aw Y,gg1 i A,e];rfl
 .rw[uH,t i A];have Y:=hb1 i A
  dsimp only[Nb]
  exact(lin [fl<|m i,p,d,H.n] 0x498a228620b041) Y
theorem aR.less(z:aR x w N H)(h:∀i o,y i=some o->w i=some o):aR x y N H:=
 ⟨z.inj,z.top,λi o e=>z.cell i o<|h i o e,λi o e=>z.low i o<|h i o e,z.lt⟩
theorem aR.grow(y:aR u w N H)(o:AO):∃t,aR t w N (H.new o)/\∀i,i<N->t i=u i:=by
 have z:∀i,i<N->(if i<N then u i else H.n+1+i)=u i:=λi h=>aw h;refine⟨λi=>if i<N then u i else H.n+1+i,⟨λi j e=>?_,λi x=>?_,λi s e=>?_,y.low,λi x=>?_⟩,z⟩
 .by_cases a:i<N<;>by_cases b:j<N
  .rw[aw a,aw b] at e;exact y.inj _ _ e
  .rw[aw a,aq b] at e;have q:=y.lt i a;exact((lin [u i,H.n,j] 0x1294d820b943500a041) e q).elim
  .rw[aq a,aw b] at e;have q:=y.lt j b;exact((lin [H.n,i,u j,N] 0x25294d811bd841386a1280501) e a q).elim
  .rw[aq a,aq b] at e;exact(lin [H.n,i,j] 0x49c313943500a02a1280501) e
 .rw[AH.n_new];rw[aq<|Nat.not_lt.mpr x];exact(lin [N,i,H.n] 0x126a84a0140d40281b441) x
 .have x:=(y.low i s e).1;rw[aw x,AH.get_new,aq (by have q:=y.lt i x;exact(lin [u i,H.n] 635053322305) q),y.cell i s e]
  congr 1
  have r:=(y.low i s e).2;exact uD λj v=>(z j<|r j v).symm
 .rw[AH.n_new];rw[aw x];have q:=y.lt i x;exact(lin [u i,H.n] 5174852820447297) q
def bh(p:Nat->Bool)(a:AV):Bool:=AV.m true a (ref:=λj=>p j)
def dT(p:Nat->Bool)(o:AO):Bool:=AO.m true o (inst:=λz d=>p d) (dict:=λes=>aV (λq=>bh p q.2) es) (umap:=λes=>aV (λq=>ad q.2 true (bh p)) es) (list:=λy=>aV (bh p) y) (tup:=λy=>aV (bh p) y) (frz:=λy=>aV (bh p) y) (cell:=λv=>ad v true (bh p)) (rev:=λs z=>p s) (dvals:=λs=>p s) (fn:=λz z w x=>J (p w) (aV (λq=>p q.2) x) false) (tab:=λz z i=>ad i true p)
theorem lC{p:Nat->Bool}{o:AO}(h:dT p o=true){j:Nat}(v:vis o j):p j=true:=by
 cases o with
 |inst C d=>cases v;exact h
 |dict es=>obtain⟨q,m,e⟩:=v;have n:=bq h q m;rw[e] at n;exact n
 |umap es=>obtain⟨q,m,e⟩:=v;have n:=bq h q m;rw[e] at n;exact n
 |list z=>exact bq h _ v
 |tup z=>exact bq h _ v
 |frz z=>exact bq h _ v
 |cell w=>cases v;exact h
 |rev s i=>cases v;exact h
 |dvals s=>cases v;exact h
 |fn f q r y=>
  refine bx h λt u=>?_;clear h;rcases v with rfl|⟨x,e⟩
  .exact t
  .have n:=bq u x e.1;rw[e.2] at n;exact n
 |tab l c i=>cases v;exact h
 |set _=>exact v.elim
 |rng _=>exact v.elim
 |code _=>exact v.elim
theorem au6(h:∀j,a=.ref j->f j=y j):cW (av f va a) (av y va a):=by rw[sy h];exact λz z z r=>r
theorem Dn(e:av f va b=.ref j){G:Prop}(g:∀i,b=.ref i->f i=j->G):G:=by
 cases b with
 |ref i=>injection e with q;exact g i rfl q
 |_=>exact AV.noConfusion e
def gD(p N j:Nat):Nat:=if j<254 then j else if j=254 then p else N+j
def bj(mv:on)(i:Nat):Nat:=ad (ae mv i) i λt=>t
def Do(m:Nat->Nat)(r:Fl):Fl:=match r with
 |.ret a=>.ret<|iA m a
 |r=>r
structure Ko(mv:on)(r2:Fl)(fs2:aK)(B2:ld)(r:Fl)(fs':aK)(B':AH):Prop where
 ret:mV r (Do (bj mv) r2)
 loc:∀x a2,ae fs2.loc x=some a2->∃a,ae fs'.loc x=some a/\cW a (iA (bj mv) a2)
 cel:∀x i,ae fs2.cel x=some i->ae fs'.cel x=some (bj mv i)
 cell:∀p∈B2,∃o,B'.get (bj mv p.1)=some o/\∀f va,cv (aG f va o)<|aG (λj=>f<|bj mv j) va p.2
def Kp(r z:Fl):Bool:=match r with
 |.ret a=>match z with|.ret b=>g7 a b|_=>false
 |.nxt=>match z with|.nxt=>true|_=>false
 |.brk=>match z with|.brk=>true|_=>false
 |.cnt=>match z with|.cnt=>true|_=>false
theorem Xc(h:Kp r z=true):mV r z:=by
 cases r with
 |ret a=>cases z with|ret b=>exact⟨b,rfl,lB h⟩|_=>cases h
 |nxt=>cases z<;>first|rfl|cases h
 |brk=>cases z<;>first|rfl|cases h
 |cnt=>cases z<;>first|rfl|cases h
def i0(mv:on)(w:Fl)(y:aK)(z:ld):KS Bool:=λr x v=>
 J (Kp r<|Do (bj mv) w) (J (aV (λp=>ad (ae x.loc p.1) false λa=>g7 a<|iA (bj mv) p.2) y.loc) (J (aV (λp=>ad (ae x.cel p.1) false λi=>Nat.beq i<|bj mv p.2) y.cel)
  (aV (λp=>ad (v.get<|bj mv p.1) false λo=>x_ o<|uE (bj mv) p.2) z) false) false) false
theorem Dp(h:i0 mv t v y r w u=true):Ko mv t v y r w u:=by
 refine bx h λn h=>?_;refine bx h λs h=>?_;refine bx h λm o=>?_;refine⟨Xc n,λx l e=>?_,λx i e=>?_,λp z=>?_⟩
 .have k:=bq s _<|bA e;cases q:ae w.loc x with|none=>rw[q] at k;cases k|some a=>rw[q] at k;exact⟨a,rfl,lB k⟩
 .have k:=bq m _<|bA e;cases q:ae w.cel x with|none=>rw[q] at k;cases k|some a=>rw[q] at k;rw[Nat.eq_of_beq_eq_true k]
 .have k:=bq o _ z;cases q:u.get (bj mv p.1) with|none=>rw[q] at k;cases k|some a=>rw[q] at k;exact⟨a,rfl,λf va=>by have k:=(Dj k).toA f va;rwa [Dh] at k⟩
def Dq(l:List Nat):Bool:=@List.rec Nat (λz=>Bool) true (λx r y=>J (a5 r x) false y) l
theorem Xd:∀{l:List Nat},Dq l=true->l.Nodup:=by
 intro w
 induction w with|nil=>intro _;exact .nil|cons x l y=>
  intro h;have z:J (a5 l x) false (Dq l)=true:=h;cases q:a5 l x with|true=>rw[q] at z;cases z|false=>rw[q] at z;rw[dh] at q;exact List.nodup_cons.mpr ⟨of_decide_eq_false q,y z⟩
def uI(mv:on):Bool:=J (aV (λp=>J (Nat.blt p.1 254) (J (Nat.blt 254 p.2) true (J (Nat.blt p.2 254) (ad (ae mv p.2) false λz=>true) false)) false) mv) (Dq (bX Nw mv)) false
def uJ(mv:on)(x:Fl)(y:aK)(z:ld):Bool:=
 J (uI mv) (J (aV (λp=>bh (λj=>Nat.ble j 254) p.2) y.loc) (J (aV (λp=>Nat.ble p.2 254) y.cel)
  (J (match x with|.ret a=>bh (λj=>Nat.ble j 254) a|_=>true) (aV (λp=>J (Nat.blt p.1 254) (dT (λj=>Nat.ble j 254) p.2) false) z) false) false) false) false
structure Kq(mv:on)(r2:Fl)(fs2:aK)(B2:ld):Prop where
 mv:uI mv=true
 loc:∀x a,ae fs2.loc x=some a->∀j,a=.ref j->j<=254
 cel:∀x i,ae fs2.cel x=some i->i<=254
 ret:∀a j,r2=.ret a->a=.ref j->j<=254
 cell:∀q∈B2,q.1<254/\∀j,vis q.2 j->j<=254
theorem au7(h:uJ mv w y z=true):Kq mv w y z:=by
 refine bx h λr h=>?_;refine bx h λt h=>?_;refine bx h λo h=>?_;obtain⟨s,p⟩:=cI h;refine⟨r,λx a e j q=>?_,λx i e=>Nat.le_of_ble_eq_true<|bq o _<|bA e,λa j e q=>?_,λq u=>?_⟩
 .subst q;exact Nat.le_of_ble_eq_true<|bq t _<|bA e
 .subst e q;exact Nat.le_of_ble_eq_true s
 .obtain⟨a,b⟩:=cI<|bq p _ u;exact⟨Nat.le_of_ble_eq_true a,λj v=>Nat.le_of_ble_eq_true<|lC b v⟩
theorem Kr(z:254<=p)(y:p<N)(e:gD p N i=gD p N j):i=j:=by
 delta gD at e
 by_cases a:i<254<;>by_cases b:j<254
 .rw[aw a,aw b] at e;exact e
 .rw[aw a,aq b] at e
  by_cases c:j=254
  .rw[aw c] at e;exact((lin [p,i] 0x1294a6cfe409c11343fc8) z e a).elim
  .rw[aq c] at e;exact((lin [p,N,i,j] 0x94a5294decfe4119fc81b94410d820b43fc8) z y e a b).elim
 .rw[aq a,aw b] at e
  by_cases c:i=254
  .rw[aw c] at e;exact((lin [p,j] 0x1294a6cfe409c20b43fc8) z e b).elim
  .rw[aq c] at e;exact((lin [p,N,i,j] 0x94a5294d9fc823d9fc81b88a189820b43fc8) z y e a b).elim
 .rw[aq a,aq b] at e
  by_cases c:i=254<;>by_cases d:j=254
  .exact(lin [i,j] 0x4a4e105dfc813bf901) c d
  .rw[aw c,aq d] at e;exact((lin [p,N,j] 0x4a53728620b041) y e).elim
  .rw[aq c,aw d] at e;exact((lin [p,N,i] 0x4a537054313041) y e).elim
  .rw[aq c,aq d] at e;exact(lin [N,i,j] aC0) e
theorem Xe{l:List (u×v)}(h:(l.map Nw).Nodup)(z:p∈l)(y:q∈l)(e:p.2=q.2):p=q:=by
 induction l with|nil=>cases z|cons x l w=>
  rw[List.map_cons,List.nodup_cons] at h;rcases List.mem_cons.mp z with rfl|hp'<;>rcases List.mem_cons.mp y with rfl|hq'
  .rfl
  .exact aP (List.mem_map.mpr ⟨q,hq',e.symm⟩) h.1
  .exact aP (List.mem_map |>.mpr ⟨p,hp',e⟩) h.1
  .exact w h.2 hp' hq'
theorem Xf{holds:R->Prop}{S:R}(U:aR fl w N H)(Q:254<=p)(hpN:p<N)(inj:∀k x y,va k x=va k y->x=y)(bn:B.n=255)(gc:∀j o,B.get j=some o->j<254/\w j=some (aG (gD p N) va o))(f1:∀x a,ae fs.loc x=some a->∃a',ae F.loc x=some a'/\cW a' (av (gD p N) va a))(f2:∀x i,ae fs.cel x=some i->ae F.cel x=some (gD p N i))(A:holds (s' e' fs B c λ_ _=>S))(hc:∀r fs' B',holds (c r fs' B')->Ko mv r2 fs2 B2 r fs' B')(st:Kq mv r2 fs2 B2)(hw:∀i o,w2 i=some o->(∃X,(i,X)∈B2/\o=aG (gD p N) va X)\/(w i=some o/\B.get i=none/\ae mv i=none/\∀j,vis o j->ae mv j=none))(Z:∀fl2 H2,aR fl2 w2 N H2->(∀i,i<N->ae mv i=none->fl2 i=fl i)->k (eJ fl2 v0 (eJ (gD p N) va r2)) (ar fl2 v0 (ar (gD p N) va fs2)) H2):cX holds e' s' S (ar fl v0 F) H k:=by
 obtain⟨P,E⟩:=cI st.mv;have nd:=Xd E;rw[fA] at nd;have hmv:∀i t,ae mv i=some t->i<254/\(254<t\/(t<254/\∃u,ae mv t=some u)):=λi t e=>by
  obtain⟨a,b⟩:=cI<|bq P _<|bA e;refine⟨Nat.le_of_ble_eq_true a,?_⟩;have b:=b;cases q:Nat.blt 254 t with
  |true=>exact .inl<|Nat.le_of_ble_eq_true q
  |false=>
   rw[q] at b;obtain⟨c,d⟩:=cI b;refine .inr ⟨Nat.le_of_ble_eq_true c,?_⟩;cases z:ae mv t with|none=>rw[z] at d;cases d|some u=>exact⟨u,rfl⟩
 have g1:∀j,j<254->gD p N j=j:=λj h=>aw h;have g2:gD p N 254=p:=rfl;have g3:∀j,254<j->gD p N j=N+j:=λj h=>by unfold gD;rw[aq (by exact(lin [j] 0x93d9fc80b03fc8) h),aq<|by exact(lin [j] 0x93ddfc80b03fc8) h]
 have glow:∀j,j<=254->gD p N j<N:=λj h=>by
  by_cases q:j<254
  .rw[g1 j q];exact(lin [p,N,gD p N 254,j] 0x4a5294982233f9046ff208e08d820b43fc8) Q hpN g2 h q
  .rw[show j=254 by exact(lin [j] 0x949dfc80bd9fc80b7f901) h q,g2];exact hpN
 let m:Nat->Nat:=λi=>gD p N<|bj mv i
 let mm:Nat->Nat:=λi=>match ae mv i with|some t=>gD p N t|none=>i
 have mg:∀j,j<=254->mm (gD p N j)=gD p N (bj mv j):=λj h=>by
  by_cases q:j<254
  .rw[g1 j q];show(match ae mv j with|some t=>gD p N t|none=>j)=gD p N (ad (ae mv j) j λt=>t)
   cases e:ae mv j with|none=>exact(g1 j q).symm|some t=>rfl
  .have Y:j=254:=by exact(lin [j] 0x949dfc80bd9fc80b7f901) h q
   subst Y;have e1:ae mv 254=none:=by
    cases e:ae mv 254 with|none=>rfl|some t=>exact aP (hmv _ _ e).1 (by exact(lin [] 0x127b3f91fc87b3f91fc8) q)
   have e2:ae mv p=none:=by
    cases e:ae mv p with|none=>rfl|some t=>exact aP (hmv _ _ e).1 (by exact(lin [p,gD p N 254] 0x949ecfe405c11343fc8) Q g2)
   rw[g2];show(match ae mv p with|some t=>gD p N t|none=>p)=gD p N (ad (ae mv 254) 254 λt=>t)
   rw[e1,e2];rfl
 refine Kn U inj (g:=gD p N) (B:=B) (fs:=fs) (c:=c) (λi j e=>Kr Q hpN e) (λj hj=>?_) (λj o e=>?_) f1 f2 A λr fs' B' hh L=>⟨w2,N,mm,eJ (gD p N) va r2,ar (gD p N) va fs2,?_,λfl2 H2 U2 hfl=>Z fl2 H2 U2 λi hi hm=>?_⟩
 .rw[bn] at hj;rw[g3 j<|by exact(lin [j] 0x4981fe4343fe8) hj];exact(lin [j,N] 5183656716156904) hj
 .obtain⟨hj,hw'⟩:=gc j o e;rw[g1 j hj];exact hw'
 .have C:=hc r fs' B' hh;have mix:∀i t,i<N->ae mv i=none->∀j,ae mv j=some t->i≠gD p N t:=λi t hi q1 j q2 e=>by
   rcases(hmv j t q2).2 with h|⟨h,u,hu⟩
   .rw[g3 t h] at e;exact(lin [i,N,t] 0x4a53728620b041) hi e
   .rw[g1 t h] at e;rw[e,hu] at q1;cases q1
  refine⟨λi j hi hj e=>?_,λi X e=>?_,?_,λx a2 e=>?_,λx i e=>?_⟩
  .dsimp only[mm] at e
   cases q1:ae mv i with
   |none=>
    cases q2:ae mv j with|none=>rw[q1,q2] at e;exact e|some t2=>rw[q1,q2] at e;exact aP e<|mix i t2 hi q1 j q2
   |some t1=>
    cases q2:ae mv j with
    |none=>rw[q1,q2] at e;exact aP e.symm<|mix j t1 hj q2 i q1
    |some t2=>rw[q1,q2] at e;have Y:=Xe nd (bA q1) (bA q2)<|Kr Q hpN e;exact aT Prod.fst Y
  .rcases hw i X e with ⟨o,ho,rfl⟩|⟨h1,h2,h3,h4⟩
   .obtain⟨hi,hv⟩:=st.cell _ ho;have hi:i<254:=hi;have hv:∀j,vis o j->j<=254:=hv;refine⟨⟨by exact(lin [p,N,gD p N 254,(i,o).fst] 0x4a529304467f208e08d820b43fc8) Q hpN g2 ‹_›,λj v=>?_⟩,.inl ?_⟩
    ·
     have key:∀{o:AO}{j:Nat},vis (aG (gD p N) va o) j->∃j',vis o j'/\gD p N j'=j:=by
      intro o j v;have hvr:∀{a:AV},av (gD p N) va a=.ref j->∃j',a=.ref j'/\gD p N j'=j:=by intro a h;exact Dn h λi h1 h2=>⟨i,h1,h2⟩
      cases o with
      |inst C d=>cases v;exact⟨d,rfl,rfl⟩
      |dict es=>refine fH λ_ oo=>?_;obtain⟨q,hq,e⟩:=v;obtain⟨q',hq',rfl⟩:=List.mem_map.mp hq;obtain⟨j',e1,e2⟩:=hvr e;exact oo<|⟨j',⟨q',hq',e1⟩,e2⟩
      |umap es=>
       refine fH λ_ oo=>?_;obtain⟨q,hq,e⟩:=v;obtain⟨q',hq',rfl⟩:=List.mem_map.mp hq;have e:q'.2.map (av (gD p N) va)=some (.ref j):=e;cases z:q'.2 with|none=>refine oo ?_;rw[z] at e;cases e|some a=>
        rw[z] at e;injection e with e
        obtain⟨j',e1,e2⟩:=hvr e;exact oo (⟨j',⟨q',hq',by rw[z,e1]⟩,e2⟩)
      |list xs=>obtain⟨a,ha,e⟩:=List.mem_map.mp v;obtain⟨j',e1,e2⟩:=hvr e;exact⟨j',by rw[e1] at ha;exact ha,e2⟩
      |tup xs=>obtain⟨a,ha,e⟩:=List.mem_map.mp v;obtain⟨j',e1,e2⟩:=hvr e;exact⟨j',by rw[e1] at ha;exact ha,e2⟩
      |frz xs=>obtain⟨a,ha,e⟩:=List.mem_map.mp v;obtain⟨j',e1,e2⟩:=hvr e;exact⟨j',by rw[e1] at ha;exact ha,e2⟩
      |set _=>exact v.elim
      |cell x=>
       have v:x.map (av (gD p N) va)=some (.ref j):=v;cases x with|none=>cases v|some a=>
        injection v with v
        obtain⟨j',e1,e2⟩:=hvr v;exact⟨j',by rw[e1];rfl,e2⟩
      |rng _=>exact v.elim
      |rev s i=>cases v;exact⟨s,rfl,rfl⟩
      |dvals s=>cases v;exact⟨s,rfl,rfl⟩
      |fn f q ci caps=>
       clear hvr;rcases v with rfl|⟨x,e⟩
       .exact⟨ci,.inl rfl,rfl⟩
       .obtain⟨q',hq',rfl⟩:=List.mem_map.mp e.1;exact⟨q'.2,.inr ⟨q',hq',rfl⟩,e.2⟩
      |tab l c i=>
       have v:i.map (gD p N)=some j:=v;cases i with|none=>cases v|some j'=>injection v with v;exact⟨j',rfl,v⟩
      |code _=>exact v.elim
     obtain⟨j',v',rfl⟩:=key v;exact glow j'<|hv j' v'
    .obtain⟨o',hb,le⟩:=C.cell _ ho;refine⟨bj mv i,o',?_,hb,λf=>?_⟩
     .rw[<-mg i (by exact(lin [(i,o).fst] 0x49bfc80b3f901) ‹_›),g1 i hi]
     .have Y:=le (λj=>f<|gD p N j) va;rw[jo,jo,jo];exact Y.trans (xY λj v=>by rw[(mg j<|hv j v).symm])
   .refine⟨U.low i X h1,.inr ⟨λj o hb q=>?_,X,?_,λf=>?_⟩⟩
    .obtain⟨hj,_⟩:=gc j o hb;rw[g1 j hj] at q;have Y:mm i=i:=by dsimp only[mm];rw[h3]
     rw[Y] at q;rw[q.symm,hb] at h2;cases h2
    .have Y:mm i=i:=by dsimp only[mm];rw[h3]
     rw[Y];exact h1
    .rw[jo];exact xY λj v=>by
      have Y:mm j=j:=by dsimp only[mm];rw[h4 j v]
      rw[Y]
  .refine⟨?_,λj e=>?_⟩
   .have h1:=C.ret;cases r with
    |ret a=>
     obtain⟨v',e,le⟩:=h1;cases r2 with
     |ret b=>
      injection e with e
      subst e;refine⟨_,rfl,?_⟩;have Y:=le.toA (gD p N) va;rw[qk] at Y;rw[g0,sy (f:=λj=>mm<|gD p N j) (f':=λj=>gD p N<|bj mv j) λj e=>mg j<|st.ret _ j rfl e];exact Y
     |_=>cases e
    |nxt=>clear hc st Z C;cases r2<;>first|rfl|cases h1
    |brk=>clear hc st Z C;cases r2<;>first|rfl|cases h1
    |cnt=>clear hc st Z C;cases r2<;>first|rfl|cases h1
   .cases r2 with
    |ret b=>
     have e:Fl.ret (av (gD p N) va b)=.ret (.ref j):=e;injection e with e
     exact Dn e λi h1 h2=>h2▸glow i (st.ret _ i rfl h1)
    |_=>cases e
  .rw[eD] at e;cases q:ae fs2.loc x with|none=>rw[q] at e;cases e|some b=>
    rw[q] at e;injection e with e
    have hb:∀j,b=.ref j->j<=254:=st.loc x b q;subst e;obtain⟨a,ha,le⟩:=C.loc x b q;refine⟨λj e=>(Dn e λi h1 h2=>h2▸glow i (hb i h1)),a,ha,?_⟩
    .have Y:=le.toA (gD p N) va;rw[qk] at Y;rw[g0,sy (f:=λj=>mm<|gD p N j) (f':=λj=>gD p N<|bj mv j) λj e=>mg j<|hb j e];exact Y
  .rw[iZ] at e;cases q:ae fs2.cel x with|none=>rw[q] at e;cases e|some b=>
    rw[q] at e;injection e with e
    subst e;have hb:b<=254:=st.cel x b q;exact⟨glow b hb,bj mv b,C.cel x b q,(mg b hb).symm⟩
 .rw[hfl i hi]
  dsimp only[mm]
  rw[hm]
def bE(j:Nat):Nat:=j
theorem Xg:ar z v0 (ar bE v0 F)=ar z v0 F:=by
 delta ar;simp only[List.map_map]
 congr 2
 funext p;simp only[Function.comp,g0];rfl
theorem au8:eJ z v0 (eJ bE v0 r)=eJ z v0 r:=by
 cases r with|ret a=>show Fl.ret _=Fl.ret _;rw[g0];rfl|_=>rfl
theorem Dr(v:vis (aG bE v0 o) j):vis o j:=by
 have t:∀{a:AV},av bE v0 a=.ref j->a=.ref j:=by intro a h;cases a<;>first|exact h|cases h
 cases o with
 |dict es=>obtain⟨q,p,e⟩:=v;obtain⟨r,w,rfl⟩:=List.mem_map.mp p;exact⟨r,w,t e⟩
 |umap es=>
  obtain⟨q,p,e⟩:=v;obtain⟨r,w,rfl⟩:=List.mem_map.mp p;have e:=e;cases z:r.2 with|none=>rw[z] at e;cases e|some a=>
   rw[z] at e;injection e with e
   exact⟨r,w,by rw[z,t e]⟩
 |list y=>obtain⟨a,u,e⟩:=List.mem_map.mp v;rw[t e] at u;exact u
 |tup y=>obtain⟨a,u,e⟩:=List.mem_map.mp v;rw[t e] at u;exact u
 |frz y=>obtain⟨a,u,e⟩:=List.mem_map.mp v;rw[t e] at u;exact u
 |cell x=>
  have v:=v;cases x with|none=>cases v|some a=>injection v with v;rw[t v];rfl
 |fn f q k n=>
  rcases v with rfl|⟨x,e⟩
  .exact .inl rfl
  .obtain⟨r,w,rfl⟩:=List.mem_map.mp e.1;exact .inr ⟨r,w,e.2⟩
 |tab l c i=>
  have v:=v;cases i with|none=>cases v|some m=>exact v
 |inst C d=>exact v
 |rev s i=>exact v
 |dvals s=>exact v
 |set _=>exact v.elim
 |rng _=>exact v.elim
 |code _=>exact v.elim
def fB(a:AV):Bool:=AV.m true a (atm:=λz z=>false) (gla:=λz=>false)
def ox(o:AO):Bool:=AO.m true o (dict:=λes=>aV (λq=>fB q.2) es) (umap:=λes=>aV (λq=>ad q.2 true fB) es) (list:=λz=>aV fB z) (tup:=λz=>aV fB z) (frz:=λz=>aV fB z) (cell:=λv=>ad v true fB)
theorem sA(h:fB a=true):av f va a=av f z a:=by
 cases a<;>first|rfl|cases h
theorem Ks(h:ad a true fB=true):a.map (av f va)=a.map (av f z):=by
 cases a with|none=>rfl|some a=>exact aT some<|sA h
theorem Ds(h:ox o=true):aG f va o=aG f vb o:=by
 cases o with
 |dict es=>exact aT AO.dict<|jn λp z=>aT (kl p.1)<|sA<|bq h p z
 |umap es=>exact aT AO.umap<|jn λp z=>aT (kl p.1)<|Ks<|bq h p z
 |list y=>exact aT AO.list<|jn λa x=>sA<|bq h a x
 |tup y=>exact aT AO.tup<|jn λa x=>sA<|bq h a x
 |frz y=>exact aT AO.frz<|jn λa x=>sA<|bq h a x
 |cell v=>exact aT AO.cell<|Ks h
 |_=>rfl
theorem Xh(g:aR fl w N H)(inj:∀k x y,va k x=va k y->x=y)(hn:Q.n=N)(l:∀j o,Q.get j=some o->ox o=true)(gc:∀j o,Q.get j=some o->w j=some (aG bE v0 o))(f1:∀x a,ae fs.loc x=some a->∃P,ae F.loc x=some P/\cW P (av bE va a))(f2:∀x a,ae fs.cel x=some a->ae F.cel x=some a)(m:holds (s' e' fs Q c λz z=>p))(C:∀r b d,holds (c r b d)->x0 r b d->N<=d.n/\(∀i o,d.get i=some o->ox o=true/\∀j,vis o j->j<d.n)/\∃s:Nat->Option AO,(∀i o,s i=some o->(∃S,d.get i=some S/\o=aG bE v0 S)\/(w i=some o/\Q.get i=none))/\
   ∀Z R,aR Z s d.n R->(∀i,i<d.n->Z i=fl i)->k (eJ Z v0<|eJ bE va r) (ar Z v0<|ar bE va b) R):cX holds e' s' p (ar fl v0 F) H k:=by
 rw[Xg.symm];refine Kn g inj (λi j e=>e) (λj hj=>by rw[hn] at hj;exact hj) (λj o e=>(gc j o e).trans<|aT some<|Ds<|l j o e) (λx a e=>(f1 x a e).elim λP A=>A.elim λh le=>⟨_,by rw[eD,h];rfl,by have Y:=le.toA bE v0;rwa [g0] at Y⟩) (λx i e=>by rw[iZ,f2 x i e];rfl) m λr b d hh L=>?_;obtain⟨hN,hl,s,hw,u⟩:=C r b d hh L;refine⟨s,d.n,bE,eJ bE va r,ar bE va b,⟨λi j z z e=>e,λi t e=>?_,?_,λx a2 e=>?_,λx i e=>?_⟩,λZ R U2 E=>u Z R U2 E⟩
 .rcases hw i t e with ⟨S,X,rfl⟩|⟨X,h2⟩
  .exact⟨⟨L.cell i S X,λj v=>(hl i S X).2 j<|Dr v⟩,.inl ⟨i,S,rfl,X,λf=>by rw[Ds (hl i S X).1,jo,jo,jo];exact cv.refl _⟩⟩
  .exact⟨⟨Nat.lt_of_lt_of_le (g.low i t X).1 hN,λj v=>Nat.lt_of_lt_of_le ((g.low i t X).2 j v) hN⟩,.inr ⟨λj o hb q=>(by cases q;rw[hb] at h2;cases h2),t,X,λf=>(by rw[jo];exact cv.refl _)⟩⟩
 .refine⟨?_,λj e=>L.ret j ?_⟩
  .cases r with|ret a=>exact⟨_,rfl,by rw[g0];exact λz z z h=>h⟩|_=>rfl
  .cases r with
   |ret a=>have e:=e;clear hh L u;cases a<;>first|exact e|cases e
   |_=>cases e
 .rw[eD] at e;cases q:ae b.loc x with|none=>rw[q] at e;cases e|some a=>
   rw[q] at e;injection e with e
   subst e;refine⟨λj e=>L.loc x j ?_,a,rfl,by rw[g0];exact λz z z h=>h⟩;cases a<;>first|(rw[q];exact aT _ e)|cases e
 .rw[iZ] at e;cases q:ae b.cel x with|none=>rw[q] at e;cases e|some a=>
   rw[q] at e;injection e with e
   subst e;exact⟨L.cel x a q,a,rfl,rfl⟩
section
open PySem (CmpOp Operator)
namespace G
section
variable {R:Type}
def L0:XS R:=(aA (aQ tR) (bB (ah (.glo 363)) (ao (aa pG) (ao (aa gu) az)) aC))
def L1:XS R:=(aA (aQ fI) (iS (bB (ah (.glo 569)) (ao (bf (ah (.glo 825)) (aa 106)) (ao (ah .none) az)) (rP fq (bf (bT fJ) (aa 106)) (rP dK (dL (ao (bf (ah (.str aB0)) (aa 106)) az)) aC))) (aQ 106) (bB (ah (.bi .range)) (ao (ah (.int 4)) az) aC) d4 [fJ]))
def L2:XS R:=(aA (aQ tS) (bB (ah (.glo 714)) (ao (bQ .Add (kq (aa fI) (nR (aa 1852403827)) iQ) (kq (aa fI) iQ (nR (aa 1852403827)))) az) aC))
def L3:XS R:=(bZ (bb (aa tS) 0x737365636f7270 9 bP (ao (lj (aO (a8 .Is (bf (aa 1701734764) (ah (.int 0))) (ah .none))) (ah .none) (bB (ah (.bi .lst)) (ao (bf (aa 1701734764) (ah (.int 0))) az) aC)) az) aC))
def L4:XS R:=(aA (aQ d9) (bB (ah (.glo 859)) (ao (bT cx) (ao (bT fJ) az)) aC))
def L5:XS R:=(aA (aQ wO) (bb (aa tS) AX 9 bP az aC))
def L6:XS R:=(aA (aQ 1953391987) (dL az))
def L7:XS R:=(aA (aQ 0x64656c696166) (dL az))
def L8:XS R:=(aA (aQ bO) (bb (aa wO) 1684956531 9 bP (ao (ah .none) az) aC))
def Dt:XS R:=(aA (aQ mw) (bB (ah (.glo 866)) (ao (bT fJ) (ao (bf (aa 1701734764) (ah (.int 1))) az)) aC))
def Du:XS R:=(aY (iR (aO (a8 .IsNot (aa bO) (ah .none))) (iR (aO (a8 .NotEq (bB (ah (.bi .sorted)) (ao (aa 1953391987) az) aC) (aa mw))) nS)) (ac bc ak) ak)
def Dv:XS R:=(cR (aQ 106) (aa mw) (ac (aA (aQ hU) (bf (ah (.str aB0)) (aa 106))) (ac (aY (aO (a8 .Eq (a8 .In (aa hU) (aa d9)) (a8 .In (aa 106) (aa 0x64656c696166)))) (ac bc ak) ak) (ac (aY (dQ (aO (a8 .In (aa hU) (aa d9))) (dQ (aO (a8 .NotEq (bf (bf (bT cx) (aa hU)) (ah (.int 2))) (bf (aa d9) (aa hU)))) d4)) (ac bc ak) ak) ak))))
def Xi:XS R:=(b_ (ah (.bool true)))
def Kt:XP R:=(aQ 1852994932)
def Xj:XE R:=(bB (ah (.bi .range)) (ao (ah (.int 9)) az) aC)
def T0:XS R:=(aY (aO (a8 .Is (aa bO) (ah .none))) (ac Bz ak) ak)
def T1:XS R:=(aA (aQ bH) (aN (aa bO) bH))
def T2:XS R:=(aA (aQ 106) (bb (ah (.glo 825)) 517097156201 1 Bm (ao (aN (aa bH) cn) az) aC))
def T3:XS R:=(bZ (bb (aa 1953391987) gw 0 ge (ao (aa 106) az) aC))
def T4:XS R:=(aA (aQ hU) (bf (ah (.str aB0)) (aa 106)))
def T5:XS R:=(aA (aQ nM) (bB (ah (.glo 873)) (ao (bT cx) (ao (bf (bT fJ) (aa 106)) (ao (aa my) az))) aC))
def T6:XS R:=(aA (aQ fj) (ah (.str tP)))
def T9:XS R:=(aA (bC (aa bO) mn) (aa fj))
def Xk:XS R:=(aA (aQ bO) (bb (aa wO) 1684956531 9 bP (ao (aa bO) az) aC))
def Dw:XB R:=(iu (aO (aN (aa bO) rE)))
def A1:XS R:=(aA (aQ fj) (aN (bb (aa tR) 0x7375746174735f746567 9 bP (ao (aa bH) (ao (aN (aa tS) fI) az)) aC) fj))
def A2:XS R:=(aY (aO (a8 .Lt (bB (ah (.bi .len)) (ao (aa nM) az) aC) (bB (ah (.bi .len)) (ao (bf (bT fJ) (aa 106)) az) aC))) (ac (aY (aO (a8 .NotEq (aa fj) (lj (aO (a8 .In (aa hU) (bT cx))) (ah (.str 491496043109)) (ah (.str 7239026))))) (ac bc ak) ak) (ac (aA (aQ fj) (ah (.str tP))) ak)) (ac (aY (aO (a8 .NotEq (aa fj) (lj (dQ (aO (a8 .In (aa hU) (bT cx))) (dQ (aO (a8 .Eq (bf (aa mz) (aa 106)) (aa nM))) d4)) (ah (.str 0x657461642d6f742d7075)) (ah (.str 7239026))))) (ac bc ak) ak) ak))
def Dx:XB R:=(aO (a8 .Eq (aa fj) (ah (.str tP))))
def B1:XS R:=(bZ (bb (aa tR) wD 9 bP (ao (aa bH) az) aC))
def B2:XS R:=(aA (dC (aa mz) (aa 106)) (ah .none))
def B3:XS R:=(bZ (bb (aa 0x64656c696166) gw 0 ge (ao (aa 106) az) aC))
def ya:XB R:=(aO (a8 .Eq (aa fj) (ah (.str 7239026))))
def R1:XS R:=(aA (dC (aa iO) (ah (.int 0))) (bQ .Add (bf (aa iO) (ah (.int 0))) (ah (.int 1))))
def R2:XS R:=(aA (aQ mu) (bB (ah (.glo 854)) (ao (aa 106) (ao (iS (bf (bf (bT cx) (aa 102)) (ah (.int 2))) (aQ 102) (bf (bT fJ) (aa 106)) d4 [cx]) az)) aC))
def R3:XS R:=(aA (dC (bT cx) (aa hU)) (hX (ao (bf (aa iO) (ah (.int 0))) (ao (bQ .Add (ah (.int 1)) (bQ .Mod (aa mu) (ah (.int 2)))) (ao (aa mu) az)))))
def R4:XS R:=(bZ (bb (aa tR) AJ 9 bP (ao (aa bH) az) aC))
def R5:XS R:=(aA (dC (aa mz) (aa 106)) (aa nM))
def R6:XS R:=(aA (aQ fj) (ah (.str 0x6c756673736563637573)))
def S0:XS R:=(aA (kr d9) (gj aC))
def S1:XS R:=(cR (aQ fu) (ah (.str 6513249)) (ac (aY (aO (a8 .In (aa fu) (aa cx))) (ac (aA (dC (bT d9) (aa fu)) (bf (bf (aa cx) (aa fu)) (ah (.int 2)))) ak) ak) ak))
def S3:XS R:=(b_ (bT d9))
def uK:XP R:=(aQ 106)
def Xl:XE R:=(bB (ah (.bi .range)) (ao (ah (.int 4)) az) aC)
def oy:XS R:=(aY (iu (aO (iS (aa 102) (aQ 102) (bf (aa fJ) (aa 106)) (dQ (aO (a8 .NotIn (aa 102) (bT d9))) d4) [d9]))) (ac (aA (dC (bT d9) (bf (ah (.str aB0)) (aa 106))) (bB (ah (.glo 854)) (ao (aa 106) (ao (iS (bf (bT d9) (aa 102)) (aQ 102) (bf (aa fJ) (aa 106)) d4 [d9]) az)) aC)) ak) ak)
def W0:XS R:=(aA (aQ cx) (gj (t4 (ah (.str 97)) (hX (ao (ah (.int 1)) (ao (ah (.int 2)) (ao (ah (.int 1)) az)))) (t4 (ah (.str 98)) (hX (ao (ah (.int 2)) (ao (ah (.int 1)) (ao (ah (.int 2)) az)))) (t4 (ah (.str 99)) (hX (ao (ah (.int 3)) (ao (ah (.int 2)) (ao (ah (.int 3)) az)))) aC)))))
def W1:XS R:=(aA (aQ iO) (dL (ao (ah (.int 3)) az)))
def W2:XS R:=(aA (aQ pG) (bB (ah (.glo 100)) (ao (gj aC) az) aC))
def W3:XS R:=(aA (aQ my) (lj (aO (a8 .Eq (bQ .Mod (bB (ah (.bi .sum)) (ao (kq (aa 0x747069726373) iQ (nR (ah (.int 8)))) az) aC) (ah (.int 2))) (ah (.int 1)))) (ah (.int 0)) (ah (.int 2))))
def W4:XS R:=(aA (aQ gu) (lj (aO (a8 .Eq (aa my) (ah (.int 0)))) (bB (ah (.glo 203)) (ao (aa cx) az) aC) (bB (ah (.glo 177)) (ao (aa cx) az) aC)))
def W5:XS R:=(aA (aQ fJ) (iS (iS (aa 102) (aQ 102) (aa 7827314) d4 []) (aQ 7827314) (ah (.glo 826)) d4 []))
def W6:XS R:=(aA (aQ mz) (iS (ah .none) (aQ 106) (bB (ah (.bi .range)) (ao (ah (.int 4)) az) aC) d4 []))
def kE:jP R:=(nT (aQ 105) (nT (aQ 110) xg))
def jX:XE R:=(kq (aa 0x747069726373) iQ (nR (ah (.int 8))))
def V0:XS R:=(aA (aQ 113) (bQ .Add (bQ .FloorDiv (aa 110) (ah (.int 7))) (aa 105)))
def V1:XS R:=(aA (aQ 1684957547) (bQ .Mod (bQ .Add (aa 110) (aa 105)) (ah (.int 7))))
def V2:XS R:=(aA (aQ fu) (bf (ah (.str 6513249)) (bQ .Mod (aa 113) (ah (.int 3)))))
def V3:XS R:=(aY (aO (a8 .Lt (aa 1684957547) (ah (.int 2)))) (ac (aA (dC (aa iO) (ah (.int 0))) (bQ .Add (bf (aa iO) (ah (.int 0))) (ah (.int 1)))) (ac (aA (aQ mu) (bQ .Mod (bQ .FloorDiv (aa 113) (ah (.int 3))) (ah (.int 4)))) (ac (aA (dC (aa cx) (aa fu)) (hX (ao (bf (aa iO) (ah (.int 0))) (ao (bQ .Add (ah (.int 1)) (bQ .Mod (aa mu) (ah (.int 2)))) (ao (aa mu) az))))) ak))) (ac (aY (aO (a8 .Eq (aa 1684957547) (ah (.int 2)))) (ac (aA (aQ fu) (bf (ah (.str 0x777a7978636261)) (bQ .Mod (aa 113) (ah (.int 7))))) (ac (aY (aO (a8 .In (aa fu) (aa cx))) (ac (aA (dC (aa iO) (ah (.int 0))) (bQ .Add (bf (aa iO) (ah (.int 0))) (ah (.int 1)))) (ac (aA (dC (aa cx) (aa fu)) (hX (ao (bf (aa iO) (ah (.int 0))) (ao (bf (bf (aa cx) (aa fu)) (ah (.int 1))) (ao (bf (bf (aa cx) (aa fu)) (ah (.int 2))) az))))) ak)) ak) ak)) (ac (aY (aO (a8 .Eq (aa 1684957547) (ah (.int 3)))) (ac (aY (aO (a8 .In (aa fu) (aa cx))) (ac (nU (aa cx) (aa fu)) ak) ak) ak) (ac (aY (aO (a8 .Eq (aa 1684957547) (ah (.int 4)))) (ac (aA (aQ fu) (bf (ah (.str aB0)) (bQ .Mod (aa 113) (ah (.int 4))))) (ac (aY (aO (a8 .In (aa fu) (aa cx))) (ac (nU (aa cx) (aa fu)) ak) ak) ak)) (ac (aY (aO (a8 .Eq (aa 1684957547) (ah (.int 5)))) (ac (aA (kr 7827314) (bf (ah (.glo 826)) (bQ .Mod (aa 113) (ah (.int 4))))) (ac (aA (kr 1802723693) (bQ .Add (ah (.int 1)) (bQ .Mod (bQ .FloorDiv (aa 113) (ah (.int 4))) (ah (.int 3))))) (ac (aA (dC (aa fJ) (bQ .Mod (aa 113) (ah (.int 4)))) (iS (bf (bT 7827314) (aa 106)) (aQ 106) (bB (ah (.bi .range)) (ao (ah (.int 2)) az) aC) (dQ (aO (a8 .Eq (bQ .Mod (bQ .RShift (bT 1802723693) (aa 106)) (ah (.int 2))) (ah (.int 1)))) d4) [1802723693,7827314])) ak))) (ac (bZ (bb (bB (ah (.glo 363)) (ao (aa pG) (ao (aa gu) az)) aC) wD 9 bP (ao (bB (ah (.glo 569)) (ao (bf (ah (.glo 825)) (bQ .Mod (aa 113) (ah (.int 4)))) (ao (ah .none) az)) aC) az) aC)) (ac (aA (dC (aa mz) (bQ .Mod (aa 113) (ah (.int 4)))) (ah .none)) ak))) ak)) ak)) ak)) ak))
def V4:XS R:=(aY (aO (a8 .Eq (bQ .Mod (aa 105) (ah (.int 3))) (ah (.int 2)))) (ac (aY (iu (aO (bB (ah (.glo 878)) (ao (aa cx) (ao (aa pG) (ao (aa gu) (ao (aa my) (ao (aa fJ) (ao (aa mz) (ao (aa iO) (ao (bf (ah (.glo 847)) (bQ .Mod (bQ .FloorDiv (aa 113) (ah (.int 2))) (ah (.int 7)))) (ao (bQ .Mod (aa 110) (ah (.int 4))) az))))))))) aC))) (ac bc ak) ak) ak) ak)
def W8:XS R:=(b_ (t6 (bB (ah (.glo 878)) (ao (aa cx) (ao (aa pG) (ao (aa gu) (ao (aa my) (ao (aa fJ) (ao (aa mz) (ao (aa iO) (ao (bf (ah (.glo 847)) (ah (.int 0))) (ao (ah (.int 1)) az))))))))) aC) (bB (ah (.glo 878)) (ao (aa cx) (ao (aa pG) (ao (aa gu) (ao (aa my) (ao (aa fJ) (ao (aa mz) (ao (aa iO) (ao (bf (ah (.glo 847)) (ah (.int 0))) (ao (ah (.int 2)) az))))))))) aC)))
end
end G
end
section
open G
abbrev jY:Nat:=pG
abbrev jq:Nat:=gu
abbrev lD:Nat:=my
abbrev lE:Nat:=mz
abbrev jr:Nat:=iO
abbrev uL:Nat:=1701734764
abbrev qn:Nat:=1852403827
abbrev dw:Nat:=cx
abbrev fO:Nat:=fJ
abbrev uM:Nat:=tR
abbrev qo:Nat:=fI
abbrev Dy:Nat:=tS
abbrev lF:Nat:=d9
abbrev Xm:Nat:=wO
abbrev Xn:Nat:=1953391987
abbrev Xo:Nat:=0x64656c696166
abbrev dy:Nat:=bO
abbrev gm:Nat:=1852994932
abbrev qp:Nat:=bH
abbrev lG:Nat:=106
abbrev sB:Nat:=hU
abbrev g8:Nat:=nM
abbrev b5:Nat:=fj
abbrev yb:Nat:=mu
abbrev uN:Nat:=mw
abbrev Xp:Nat:=cn
abbrev Xr:Nat:=rB
abbrev Xs:Nat:=rC
abbrev Xt:Nat:=tL
abbrev Xu:Nat:=rt
abbrev Xv:Nat:=fq
abbrev Xw:Nat:=gd
abbrev Xx:Nat:=tM
abbrev Xy:Nat:=iq
abbrev Xz:Nat:=lc
abbrev XA:Nat:=A3
abbrev XC:Nat:=jb
abbrev sC:Nat:=dK
abbrev XD:Nat:=rz
abbrev XF:Nat:=rA
abbrev XG:Nat:=ip
abbrev XH:Nat:=nH
abbrev XI:Nat:=0x6465747563657865
abbrev lH:Nat:=7827314
abbrev lI:Nat:=1802723693
abbrev jZ:Nat:=0x747069726373
abbrev gF:Nat:=fu
abbrev uO:Nat:=1684957547
abbrev yd:Nat:=113
abbrev oz:Nat:=105
abbrev qq:Nat:=110
abbrev sD:Nat:=rE
abbrev au9:Nat:=mn
abbrev ye:Nat:=pz
abbrev uP:Nat:=jN
abbrev Dz:Nat:=mj
abbrev DB:Nat:=0x6465736f6c635f
abbrev DC:Nat:=6448223
abbrev v_f:Nat:=102
abbrev av0:Nat:=12612
abbrev av1:Nat:=12868
abbrev av2:Nat:=13124
abbrev av3:Nat:=13380
abbrev gG:Nat:=tP
abbrev js:Nat:=0x6c756673736563637573
abbrev oA:Nat:=7239026
abbrev sE:Nat:=0x657461642d6f742d7075
abbrev av4:Nat:=491496043109
abbrev mW:Nat:=0x3a5f7365756c61765f
abbrev mX:Nat:=0x3a72656b63656863
abbrev mY:Nat:=251044848996
abbrev sF:Nat:=0x72656b6365684335444d
abbrev sG:Nat:=AI
def bo(R:Type):TR (FI R):=VG (R:=R)
abbrev fP:EV Bool:=xZ bo 60 12
def putL(l:ld):TR AO:=@List.rec (Nat×AO) (λz=>TR AO) .lf (λp z y=>y.put (Nat.succ p.1) p.1 (some p.2)) l
def bM(l:ld):AH:=⟨putL l,255⟩
def fQ(_:Nat)(_:AH):Bool:=false
def uQ(p:Nat->Bool):Bool:=J (p 0) (p 1) false
def cY(p:Nat->Bool):Bool:=J (p 0) (J (p 1) (p 2) false) false
def fC(p:Nat->Bool):Bool:=J (p 0) (J (p 1) (J (p 2) (p 3) false) false) false
def uR(p:Bool->Bool):Bool:=J (p true) (p false) false
def cJ{y:Type}(a b c d:y)(j:Nat):y:=@Nat.rec (λz=>y) a (λn z=>@Nat.rec (λz=>y) b (λn z=>@Nat.rec (λz=>y) c (λz z=>d) n) n) j
def e8{y:Type}(a b c:y)(j:Nat):y:=@Nat.rec (λz=>y) a (λn z=>@Nat.rec (λz=>y) b (λz z=>c) n) j
def dN(j:Nat):Nat:=cJ 12612 12868 13124 13380 j
def gH(j:Nat):Nat:=cJ 120 121 122 119 j
def r0(j:Nat):Nat:=cJ 97 98 120 97 j
def r1(j:Nat):Nat:=cJ 98 99 121 122 j
def cf(j m:Nat):tY0:=e8 [.str (r0 j)] [.str (r1 j)] [.str (r0 j),.str (r1 j)] m
def iB(j:Nat)(o w:AV):iJ:=[(Xp,.str (dN j)),(Xr,o),(Xs,.ref (Nat.add 92 j)),(Xt,.unk),(Xu,.unk),(Xv,.ref (Nat.add 68 j)),(Xw,.ref (Nat.add 84 j)),(Xx,w),(Xy,.ref (Nat.add 88 j)),
 (Xz,.unk),(XA,.unk),(XC,.ref<|Nat.add 76 j),(sC,.ref<|Nat.add 72 j),(XD,.none),(XF,.bool false),(XG,.none),(XH,.ref<|Nat.add 80 j),(XI,.bool false)]
def sH(z y:AV):iJ:=[(jY,.ref 12),(jq,.ref 35),(lD,z),(lE,.ref 42),(jr,.ref 11),(uL,y)]
def bl:on:=[(dw,51),(fO,52)]
abbrev aW:AV:=.atm 100 0
abbrev aL:AV:=.gla 0
def uS(m:Nat->Nat):ld:=[(52,.cell (some (.ref 37))),(37,.list [.ref 38,.ref 39,.ref 40,.ref 41]),(38,.list (cf 0 (m 0))),(39,.list (cf 1 (m 1))),(40,.list (cf 2 (m 2))),(41,.list (cf 3 (m 3)))]
def yf(j m:Nat):ld:=[(Nat.add 60 j,.inst 569 (Nat.add 64 j)),(Nat.add 64 j,.dict (iB j .none (.ref (Nat.add 110 j)))),(Nat.add 68 j,.list (cf j m)),(Nat.add 72 j,.list [.str (gH j)]),(Nat.add 76 j,.list []),(Nat.add 84 j,.list []),(Nat.add 88 j,.list []),(Nat.add 92 j,.list []),(Nat.add 110 j,.list [])]
def XJ(j:Nat):on:=let b:=Nat.add 259 (Nat.mul 15 j)
 [(Nat.add 64 j,Nat.add b 1),(Nat.add 60 j,Nat.add b 2),(Nat.add 92 j,Nat.add b 4),(Nat.add 68 j,Nat.add b 6),(Nat.add 84 j,Nat.add b 7),(Nat.add 110 j,Nat.add b 8),(Nat.add 88 j,Nat.add b 9),(Nat.add 76 j,Nat.add b 12),(Nat.add 72 j,Nat.add b 13),(Nat.add 80 j,Nat.add b 14)]
def oB:ld:=[(53,.inst 363 54),(54,.dict [(DB,.bool false),(jq,.ref 35),(Dz,.ref 12)])]
def jt{z:Type}(f:Nat->List z):List z:=ax (f 0) (ax (f 1) (ax (f 2) (f 3)))
end
abbrev KK(P:db):cj:=hd9.heap_39 P
def e9(b:List bv)(i:Nat):bv:=ad (gR b i) (.Pass ⟨0,0,0,0⟩) λs=>s
def lJ(s:bv):Str:=match s with|.FunctionDef n ..=>n|_=>""
def kF(s:bv):AA:=match s with|.FunctionDef _ a ..=>a|_=>⟨[],[],none,[],[],none,[]⟩
def uT(s:bv):List bv:=match s with|.FunctionDef _ _ b ..=>b|_=>[]
def kG(s:bv):gM:=match s with|.FunctionDef _ _ _ _ _ _ c ..=>c|_=>⟨.module,[],false,false,[]⟩
def yg(s:bv):Pos:=match s with|.FunctionDef _ _ _ _ _ _ _ _ _ p=>p|_=>⟨0,0,0,0⟩
abbrev dm(P:db):bv:=e9 (gC (KK P) 690) 1
abbrev DE{z:Type}(q:Nat×z):Bool:=J (Nat.beq q.1 690) false (J (Nat.beq q.1 1000001) false true)
theorem XN(R:Type)(P:db):bX (λq=>q.2.body) ((iX (bo R)).filter DE)=bX (λq=>De (KK P) q.1) ((iX (bo R)).filter DE):=by kernel_rfl
theorem XQ(R:Type)(P:db):aV (λq=>J (Nat.beq q.1 1000001) true (sr (KK P) q.1 q.2.params q.2.cells q.2.dfl)) (iX (bo R))=true:=by kernel_rfl
theorem XR(P:db):gC (KK P) 690=e9 (gC (KK P) 690) 0::.FunctionDef (lJ (dm P)) (kF (dm P)) (uT (dm P)) [] none [] (kG (dm P)) none (lJ (dm P)) (yg (dm P))::rK (gC (KK P) 690) 2:=by kernel_rfl
theorem Ku(P:db):Cy (KK P) 690=some (lJ (dm P),kF (dm P),uT (dm P),kG (dm P)):=by kernel_rfl
theorem XT(R:Type)(P:db):ad ((bo R).get 690) bc (λz=>z.body)=ac (xW (jV (KK P) 690) (e9 (gC (KK P) 690) 0)) (ac (xi (aQ aR0) 1000001 p7 478 8 [0x7473696c5f7265746c6966,1718379891]) (cB (xW (jV (KK P) 690)) (rK (gC (KK P) 690) 2))):=by kernel_rfl
section
theorem Kv:∀{l:List v},bX f l=bX g l->∀x∈l,f x=g x
 |y::l,h,x,m=>by
  injection (show f y::bX f l=g y::bX g l from h) with w z
  clear h;refine bk m ?_ λm=>?_
  .exact w
  .exact Kv z x m
variable {X:Fx}{P:db}
abbrev c6(P:db):bJ:=jV (KK P) 690
theorem n1:(c6 P).cd=.ref 689:=by kernel_rfl
theorem qa:(c6 P).ql=k4 "TaskControl._process_filter.<locals>.":=by kernel_rfl
theorem qb:lJ (dm P)=k4 "add_filtered_task":=by kernel_rfl
theorem qc:k4 "TaskControl._process_filter.<locals>."++k4 "add_filtered_task" = am p7:=by decide +kernel
theorem n2:(c6 P).ql++lJ (dm P)=am p7:=(congr (aT HAppend.hAppend qa) qb).trans qc
theorem n3:decide ((c6 P).names.lookup (lJ (dm P))≠some .globalExplicit)=true:=by kernel_rfl
theorem n4:(yg (dm P)).line=478:=by kernel_rfl
theorem n5:(yg (dm P)).col=8:=by kernel_rfl
theorem n6:(kF (dm P)).defaults=[]:=by kernel_rfl
theorem n7:(kF (dm P)).kw_defaults=[]:=by kernel_rfl
theorem n8 z:Oc (kF (dm P)) none z=[]:=by kernel_rfl
abbrev f6:List Nat:=[0x7473696c5f7265746c6966,1718379891]
theorem n9:((((kG (dm P)).names.filter (·.2 == .free)).map (·.1)).all λx=>f6.any λy=>decide (x=am y))=true:=by kernel_rfl
theorem XU:(f6.all λy=>(((kG (dm P)).names.filter (·.2 == .free)).map (·.1)).any λx=>decide (x=am y))=true:=by kernel_rfl
theorem XV:lJ (dm P)=am aR0:=by kernel_rfl
theorem XW:(c6 P).names.lookup (lJ (dm P))=some .local:=by kernel_rfl
theorem XY(Z:bG X)(z:X.K=KK P):SS X (c6 P) (.FunctionDef (lJ (dm P)) (kF (dm P)) (uT (dm P)) [] none [] (kG (dm P)) none (lJ (dm P)) (yg (dm P))) (xi (aQ aR0) 1000001 p7 478 8 f6):=
 Ud Z.O (VW Z (by rw[z];exact Ku P) n1 n2 (br n3) n4 n5 n6 n7 n8 n9 XU) XV XW
theorem Kw(v:y=z)(x:p=q)(h:SB X w z q):SB X w y p:=by
 subst v x;exact h
theorem XZ(u:SS X w x p)(v:SS X w y q)(t:SB X w z r):SB X w (x::y::z) (ac p (ac q r)):=cV u (cV v t)
theorem X0(Z:bG X)(y:X.K=KK P):SB X (c6 P) (gC (KK P) 690) (ad ((bo X.R).get 690) bc λz=>z.body):=
 Kw (XR P) (XT X.R P) (XZ ((iz Z jm 30).s (c6 P)<|e9 (gC (KK P) 690) 0) (XY Z y)<|kC ((iz Z jm 30).s<|c6 P)<|rK (gC (KK P) 690) 2)
theorem Kx(Z:bG X)(x:X.K=KK P)(h:(bo X.R).get g=some w)(u:g<1000000):∃o t body y,mO X g w o t body y:=by
 have m:=sf h;have z:=bq (XQ X.R P) _ m;have v:Nat.beq g 1000001=false:=by
  cases q:Nat.beq g 1000001 with|false=>rfl|true=>have s:=Nat.eq_of_beq_eq_true q;exact((lin [g] 0x4a53703d090521603d090121) u s).elim
 have z:=z;rw[v] at z;refine J7 Z (by rw[x];exact z) ?_;rw[x];cases q:Nat.beq g 690 with|true=>clear u m v;cases Nat.eq_of_beq_eq_true q;have s:=X0 Z x;rw[h] at s;exact s|false=>
  have o:DE (g,w)=true:=by show J (Nat.beq g 690) false (J (Nat.beq g 1000001) false true)=true;rw[q,v]
  rw[show w.body=De (KK P) g from Kv (XN X.R P) _<|List.mem_filter.mpr ⟨m,o⟩];exact WL Z
end
section
variable {X:Fx}{P:db}
abbrev Ky R:FI R:=Jn R
theorem X4 R:(bo R).get 1000001=some (Ky R):=by kernel_rfl
theorem X5 R cd ql:(Ky R).body=cB (xW ⟨kG (dm P),cd,ql⟩) (uT (dm P)):=by kernel_rfl
def X6(K:cj)(s:bv)(z:List Nat):Bool:=!(kG s).isCoroutine && (!(kG s).isGenerator && ((kG s).kind == .function && ((kF s).posonlyargs.isEmpty && ((kF s).kwonlyargs.isEmpty && ((kF s).vararg.isNone && ((kF s).kwarg.isNone && (decide ((kF s).args.map (·.arg)=z.map am) && (decide z.Nodup && ((kG s).names.all (λx=>x.2 != .cell) && z.all λp=>decide ((kG s).names.lookup (am p)=some .local))))))))))
theorem X7:X6 (KK P) (dm P) [7431539,0x656d616e5f66]=true:=by kernel_rfl
theorem Kz(Z:bG X)(o:X.K=KK P)(h:X.σ.nf g q S)(v:(bo X.R).get g=some a):∃body,∀w,X.σ.nf g q w->Cm X q a w body:=by
 refine⟨uT<|dm P,λw u=>?_⟩;rw[Z.nf,o] at u;obtain⟨rfl,rfl,z,params,body,scope,y,clos,j,Q,N,c,rfl⟩:=u;rw[Ku P] at y;injection y with y
 injection y with e1 y
 injection y with e2 y
 injection y with f b
 subst e1 e2 f b;rw[X4 X.R] at v;cases v;have h:=X7 (P:=P);refine bt h λd h=>?_;refine bt h λe h=>?_;refine bt h λn h=>?_;refine bt h λl h=>?_;refine bt h λm h=>?_;refine bt h λi h=>?_;refine bt h λr h=>?_;refine bt h λt h=>?_;refine bt h λk h=>?_;refine bt h λb1 b2=>?_;refine⟨by simpa using d,by simpa using e,rfl,rfl,rfl,rfl,by simpa using n,gZ l,gZ m,qe i,qe r,br t,br k,rfl,rfl,λx hx=>?_,rfl,λp hp=>br<|List.all_eq_true.mp b2 p hp,?_⟩
 .have:=List.all_eq_true.mp b1 x hx
  simpa using this
 .exact Kw rfl (X5 X.R _ _)<|kC ((iz Z jm 30).s _) _
def KA(P:db):sw (KK P):=⟨bo,λX Z y=>⟨λg x h z=>Kx Z y h z,λg q w x h z=>Kz Z y h z⟩⟩
end
def eK(i:Nat):Bool:=J (Nat.beq i 56) true (J (Nat.beq i 57) true (J (Nat.blt i 60) false (J (Nat.blt i 68) true (J (Nat.blt i 84) false (J (Nat.blt i 96) true (J (Nat.blt i 98) false true))))))
abbrev LL:=List (Nat×Option AO)
def wA(L:LL)(i:Nat):Option AO:=ad (ae L i) none λo=>o
def cq(c:Bool)(L:LL)(z:AH)(i:Nat):Option AO:=J (J c (eK i) false) ((z.get i).map (aG bE v0)) (wA L i)
def lK(j:Nat):List Nat:=J (Nat.blt j 2) [] (J (Nat.blt j 3) [0] (J (Nat.blt j 4) [36,51] (J (Nat.blt j 11) [3] (J (Nat.blt j 12) [] (J (Nat.blt j 13) [54] (J (Nat.blt j 16) [Nat.sub j 1] (J (Nat.blt j 19) [14] (J (Nat.blt j 23) [Nat.sub j 4] (J (Nat.blt j 25) [15] (J (Nat.blt j 27) [16] (J (Nat.blt j 29) [17] (J (Nat.blt j 31) [18] (J (Nat.blt j 35) [] (J (Nat.blt j 36) [54] (J (Nat.blt j 37) [35] (J (Nat.blt j 38) [52] (J (Nat.blt j 42) [37] (J (Nat.blt j 43) [] (J (Nat.blt j 47) [42] (J (Nat.blt j 54) [] (J (Nat.blt j 55) [53] (J (Nat.blt j 56) [120] (J (Nat.blt j 60) [] (J (Nat.blt j 64) [59,98] (J (Nat.blt j 72) [Nat.sub j 4] (J (Nat.blt j 76) [Nat.sub j 8] (J (Nat.blt j 80) [Nat.sub j 12] (J (Nat.blt j 84) [Nat.sub j 16] (J (Nat.blt j 88) [Nat.sub j 20] (J (Nat.blt j 92) [Nat.sub j 24] (J (Nat.blt j 96) [Nat.sub j 28] (J (Nat.blt j 97) [] (J (Nat.blt j 98) [96] (J (Nat.blt j 101) [97,103] (J (Nat.blt j 103) [] (J (Nat.blt j 105) [Nat.sub j 1] (J (Nat.blt j 108) [103] (J (Nat.blt j 110) [] (J (Nat.blt j 114) [Nat.sub j 46] (J (Nat.blt j 122) [] ([])))))))))))))))))))))))))))))))))))))))))
def dj(i:Nat)(j:Nat):Bool:=J (Nat.blt j 254) (a5 (lK j) i) true
def h_(L:LL):Bool:=aV (λq=>ad q.2 true λo=>dT (dj q.1) o) L
def j0(g:Nat->Nat)(va:Nv)(B2:ld)(z:List Nat)(L:LL):LL:=bX (λq=>(q.1,J (a5 z q.1) none (ad (ae B2 q.1) q.2 λo=>some (aG g va o)))) L
theorem X8:∀{L:LL},ae (j0 g va B2 z L) i=(ae L i).map λx=>J (a5 z i) none (ad (ae B2 i) x λo=>some (aG g va o)):=by
 intro w
 induction w with|nil=>exact rfl|cons q L y=>
  show ae ((q.1,J (a5 z q.1) none<|ad (ae B2 q.1) q.2 λo=>some<|aG g va o)::j0 g va B2 z L) i=_;rw[b3,b3,y]
  by_cases e:q.1=i
  .simp only[e,if_true,Option.map_some]
  .simp only[e,if_false]
theorem yh:∀{l:ld}{i:Nat}{o:AO},(putL l).get i=some o->(i,o)∈l:=by
 intro x
 induction x with|nil=>intro i o h;cases h|cons q l y=>
  intro i o h;have z:(AH.set ⟨putL l,0⟩ q.1 q.2).get i=some o:=h;rw[AH.get_set] at z
  by_cases e:i=q.1
  .rw[aw e] at z;cases z;clear h;subst e;exact .head _
  .rw[aq e] at z;exact .tail _<|y z
def ia(_:Nat)(_:AH):Prop:=False
def yi(x:AH)(l:ld):Prop:=@List.rec (Nat×AO) (λz=>Prop) True (λp z y=>x.get p.1=some p.2/\y) l
def DF(l:ld):Prop:=@List.rec (Nat×AO) (λz=>Prop) True (λp z y=>some p.2=some p.2/\y) l
def yj(f:aK)(l:iJ):Prop:=@List.rec (Nat×AV) (λz=>Prop) True (λp z y=>ae f.loc p.1=some p.2/\y) l
def DG(l:iJ):Prop:=@List.rec (Nat×AV) (λz=>Prop) True (λp z y=>some p.2=some p.2/\y) l
def yk(mv:on)(w:Fl)(z:iJ)(y:aK)(S B2:ld):KS Prop:=λr f x=>i0 mv w y B2 r f x=true/\yj f z/\yi x S
def yl(z:iJ)(S:ld):Prop:=(true=true)/\DG z/\DF S
theorem sI:yl z S:=by
 refine⟨rfl,?_,?_⟩
 .induction z with|nil=>trivial|cons _ _ y=>exact⟨rfl,y⟩
 .induction S with|nil=>trivial|cons _ _ y=>exact⟨rfl,y⟩
theorem DH:∀{l:ld},yi y l->∀p∈l,y.get p.1=some p.2:=by
 intro w
 induction w with|cons q l x=>intro h p m;have h:=h;exact bk m h.1 λm=>(x h.2 p m)|nil=>intro v u z;exact nomatch z
theorem DI:∀{l:iJ},yj f l->∀p∈l,ae f.loc p.1=some p.2:=by
 intro x
 induction x with|cons q l y=>intro h p m;have h:=h;exact bk m h.1 λm=>(y h.2 p m)|nil=>intro w v z;exact nomatch z
def dz(mv:on)(i:Nat):Bool:=ad (ae mv i) true λz=>false
def isIn(l:ld)(i:Nat):Bool:=ad (ae l i) false λz=>true
def X9(p:Nat->Bool)(r:Fl):Bool:=match r with|.ret a=>bh p a|_=>true
def sJ(w:Bool)(mv:on)(v:Fl)(z:iJ)(y:aK)(S O B2:ld)(x:List Nat):Bool:=
 aV (λb=>b) [uI mv,aV (λq=>bh (λj=>J (Nat.ble j 254) (dz mv j) false) q.2) z,aV (λq=>bh (λj=>Nat.ble j 254) q.2) y.loc,aV (λq=>Nat.ble q.2 254) y.cel,X9 (λj=>Nat.ble j 254) v,
  aV (λq=>J (Nat.blt q.1 254) (dT (λj=>Nat.ble j 254) q.2) false) B2,aV (λq=>dz mv q.1) S,aV (λq=>J (isIn B2 q.1) true<|a5 x q.1) O,
  aV (λq=>J (J w (Nat.blt q.1 60)<|Nat.blt q.1 254) (J (J (isIn B2 q.1) true<|a5 x q.1) (aV (λi=>J (isIn B2 i) (J (isIn S i) false true)<|a5 x i)<|lK q.1) false) false) mv,aV (λi=>J (J w (J (eK i) false<|Nat.blt i 60) true) (J (isIn B2 i) false<|J (isIn S i) false true) false) x]
theorem ct:∀{l m:List z},a∈ax l m↔a∈l\/a∈m:=by intro l m;rw[eX,List.mem_append]
theorem dA:∀{l m:List (Nat×w)},ae (ax l m) x=ad (ae l x) (ae m x) some:=by
 intro y
 induction y with|nil=>intro m;exact rfl|cons q l z=>
  intro m;show ae (q::ax l m) x=ad (ae (q::l) x) (ae m x) some;rw[b3,b3,z]
  by_cases e:q.1=x
  .rw[aw e,aw e]
  .rw[aq e,aq e]
theorem X_(h:vis o j):vis (aG g va o) (g j):=by
 cases o with
 |inst C d=>cases h;rfl
 |dict es=>obtain⟨p,y,e⟩:=h;exact⟨(p.1,av g va p.2),List.mem_map.mpr ⟨p,y,rfl⟩,by rw[e];rfl⟩
 |umap es=>obtain⟨q,u,e⟩:=h;exact⟨(q.1,q.2.map<|av g va),List.mem_map.mpr ⟨q,u,rfl⟩,by rw[e];rfl⟩
 |list z=>exact List.mem_map.mpr ⟨_,h,rfl⟩
 |tup z=>exact List.mem_map.mpr ⟨_,h,rfl⟩
 |frz z=>exact List.mem_map.mpr ⟨_,h,rfl⟩
 |cell v=>cases h;rfl
 |rev s i=>cases h;rfl
 |dvals s=>cases h;rfl
 |fn f q t w=>
  rcases h with rfl|⟨x,e⟩
  .exact .inl rfl
  .exact .inr ⟨(x.1,g x.2),List.mem_map.mpr ⟨x,e.1,rfl⟩,aT g e.2⟩
 |tab l c i=>cases h;rfl
 |set _=>exact h.elim
 |rng _=>exact h.elim
 |code _=>exact h.elim
theorem KC(h:isIn l i=true):∃o,ae l i=some o:=by
 delta isIn at h;cases q:ae l i with|none=>rw[q] at h;cases h|some o=>exact⟨o,rfl⟩
theorem DJ{q:Nat×AO}(h:q∈l):∃o,ae l q.1=some o:=by
 induction l with|nil=>cases h|cons x l z=>
  rw[b3]
  by_cases e:x.1=q.1
  .exact⟨_,aw e⟩
  .rcases List.mem_cons.mp h with rfl|h
   .exact aP rfl e
   .rw[aq e];exact z h
structure ym(mv:on)(r2:Fl)(V:iJ)(fs2:aK)(S B2:ld)(r:Fl)(fs':aK)(B':AH):Prop where
 ret:mV r (Do (bj mv) r2)
 keep:∀q∈V,ae fs'.loc q.1=some q.2
 loc:∀x a2,ae fs2.loc x=some a2->∃a,ae fs'.loc x=some a/\cW a (iA (bj mv) a2)
 cel:∀x i,ae fs2.cel x=some i->ae fs'.cel x=some (bj mv i)
 same:∀q∈S,B'.get q.1=some q.2
 cell:∀q∈B2,∃o,B'.get (bj mv q.1)=some o/\∀f va,cv (aG f va o)<|aG (λj=>f<|bj mv j) va q.2
theorem Ya(h:yk mv w z y S B2 r x v):ym mv w z y S B2 r x v:=
 let C:=Dp h.1
 ⟨C.ret,DI h.2.1,C.loc,C.cel,DH h.2.2,C.cell⟩
theorem oC{holds:R->Prop}(X:aR fl (cq ph L Cs) N H)(m:254<=p)(hpN:p<N)(inj:∀k x y,va k x=va k y->x=y)(gc:∀q∈ax O S,q.1<254/\cq ph L Cs q.1=some (aG (gD p N) va q.2))(f1:∀x a,ae fs.loc x=some a->∃a',ae F.loc x=some a'/\cW a' (av (gD p N) va a))(f2:∀x i,ae fs.cel x=some i->ae F.cel x=some (gD p N i))(l:holds (s' e' fs (bM (ax O S)) c λu u=>n))(told:∀r fs' B',holds (c r fs' B')->ym mv r2 V fs2 S B2 r fs' B')(st:sJ ph mv r2 V fs2 S O B2 dr=true)(hct:ph=true->∀q∈B2,eK q.1=true->cq ph L Cs q.1=some (aG (gD p N) va q.2))(hr:h_ L=true)(hcr:ph=true->∀i o,Cs.get i=some o->∀j,vis o j->60<=j)(hL:L2=j0 (gD p N) va B2 dr L)(w:∀fl2 H2,aR fl2 (cq ph L2 Cs) N H2->(∀i,i<N->ae mv i=none->fl2 i=fl i)->k (eJ fl2 v0 (eJ (gD p N) va r2)) (ar fl2 v0 (ar (gD p N) va ⟨ax V fs2.loc,fs2.cel⟩)) H2):cX holds e' s' n (ar fl v0 F) H k:=by
 have P:=bq st;have c1:=P _<|.head _;have c2:=P _<|.tail _<|.head _;have c3:=P _<|mT2<|.head _;have c4:=P _<|mT3<|.head _;have c5:=P _<|mT4<|.head _;have Z:=P _<|mT5<|.head _;have c7:=P _<|mT6<|.head _;have c8:=P _<|mT7<|.head _;have c9:=P _<|mT8<|.head _;have c10:=P _<|mT9<|.head _;have glow:∀j,gD p N j<N->j<=254:=λj h=>Nat.le_of_not_lt λq=>by delta gD at h;rw[aq (by exact(lin [j] 0x93d9fc80b03fc8) q),aq<|by exact(lin [j] 0x93ddfc80b03fc8) q] at h;exact(lin [N,j] 19977513025) h
 have g1:∀j,j<254->gD p N j=j:=λj h=>aw h;have nkey:∀{i:Nat},dz mv i=true->ae mv i=none:=λ{i}h=>by
  delta dz at h;cases q:ae mv i with|none=>rfl|some t=>rw[q] at h;cases h
 have inB:∀{i:Nat},J (isIn B2 i) true (a5 dr i)=true->(∃o,ae (ax S B2) i=some o)\/i∈dr:=λ{i}h=>by
  cases q:isIn B2 i with|false=>rw[q] at h;right;rw[show J false true (a5 dr i)=a5 dr i from rfl,dh] at h;exact br h|true=>
   obtain⟨o,ho⟩:=KC q
   left
   rw[dA];cases ae S i with|none=>exact⟨o,ho⟩|some x=>exact⟨x,rfl⟩
 have hmv:∀i t,ae mv i=some t->(i<254/\(ph=true->i<60))/\((∃o,ae (ax S B2) i=some o)\/i∈dr)/\∀r∈lK i,(∃o,ae B2 r=some o)/\ae S r=none\/r∈dr:=λi t e=>by
  refine bx ((bq c9 _<|bA e)) λa b=>?_;refine bx b λb d=>?_;have a':i<254/\(ph=true->i<60):=by
   refine fH λu oo=>?_;cases ph with|true=>refine oo ?_;have h:=Nat.le_of_ble_eq_true a;exact⟨(lin [i] 0x1267f202d3c4280501) h,λu=>h⟩|false=>exact oo (⟨Nat.le_of_ble_eq_true a,λh=>by cases h⟩)
  refine⟨a',inB b,λr hr=>?_⟩;have Y:=bq d r hr;cases q:isIn B2 r with|false=>rw[q] at Y;right;rw[show J false (J (isIn S r) false true) (a5 dr r)=a5 dr r from rfl,dh] at Y;exact br Y|true=>
   rw[q] at Y;refine .inl ⟨KC q,?_⟩;have Y:J (isIn S r) false true=true:=Y;unfold isIn at Y;cases z:ae S r with|none=>rfl|some _=>rw[z] at Y;cases Y
 have hdr:∀i∈dr,(ph=true->eK i=false)/\ae (ax S B2) i=none:=λi hi=>by
  refine fH λu oo=>?_;refine bx (bq c10 i hi) λa b=>?_;refine oo ?_;refine⟨λm=>?_,?_⟩
  .clear X gc st hct hcr w P c9 c10 hmv oo;subst m;cases q:eK i with|false=>rfl|true=>rw[q] at a;cases a
  unfold isIn at b;rw[dA];cases q:ae B2 i with|some o=>rw[q] at b;cases b|none=>
   rw[q] at b;have b:J (ad (ae S i) false λu=>true) false true=true:=b;cases z:ae S i with|some o=>rw[z] at b;cases b|none=>rfl
 have E:∀{q:Nat×AO},q∈S->q∈ax O S:=λh=>ct.mpr<|.inr h;have svis:∀q∈S,∀j,vis q.2 j->j<=254/\ae mv j=none:=λq hq j v=>by
  obtain⟨h1,Q⟩:=gc q<|E hq;have v':=X_ (g:=gD p N) (va:=va) v;have hj:=glow j<|(X.low _ _ Q).2 _ v';refine⟨hj,?_⟩;cases z:ae mv j with|none=>rfl|some t=>
   exfalso
   obtain⟨m1,_,m3⟩:=hmv j t z;have jl:=m1.1;rw[g1 j jl] at v';unfold cq at Q;cases y:J ph (eK q.1) false with
   |true=>
    rw[y] at Q;refine bx y λy1 y2=>?_;have Q:(Cs.get q.1).map (aG bE v0)=some (aG (gD p N) va q.2):=Q;cases x:Cs.get q.1 with|none=>rw[x] at Q;cases Q|some o'=>
     rw[x] at Q;injection Q with Q
     rw[<-Q] at v';have Y:=hcr y1 _ _ x j<|Dr v';have Y:=m1.2 y1;exact(lin [j] 0x1294a6c3c405a13c437f901) hj ‹_› Y
   |false=>
    rw[y] at Q;have Q:ad (ae L q.1) none (λo=>o)=some (aG (gD p N) va q.2):=Q;cases x:ae L q.1 with|none=>rw[x] at Q;cases Q|some o'=>
     rw[x] at Q;have Q:o'=some (aG (gD p N) va q.2):=Q;subst Q;have Y:=lC (p:=dj q.1) (bq hr _<|bA x) v';unfold dj at Y;rw[show Nat.blt j 254=true from Nat.ble_eq_true_of_le m1.1] at Y;have Y:a5 (lK j) q.1=true:=Y;rw[dh] at Y;rcases m3 q.1 (br Y) with ⟨_,h⟩|h
     .obtain⟨o,ho⟩:=DJ hq;rw[ho] at h;cases h
     .have Y:=(hdr _ h).2;rw[dA] at Y;obtain⟨o,ho⟩:=DJ hq;rw[ho] at Y;cases Y
 refine Xf X m hpN inj (B:=bM<|ax O S) (fs:=fs) (c:=c) (mv:=mv) (r2:=r2) (fs2:=⟨ax V fs2.loc,fs2.cel⟩) (B2:=ax S B2) rfl (λj o e=>gc _<|yh e) f1 f2 l (λr fs' B' hh=>?_) ⟨c1,λx a e j q=>?_,λx i e=>Nat.le_of_ble_eq_true<|bq c4 _<|bA e,λa j e q=>?_,λq hq=>?_⟩ (w2:=cq ph L2 Cs) (λi o e=>?_) w
 .have C:=told r fs' B' hh;refine⟨C.ret,λx a2 e=>?_,C.cel,λq hq=>?_⟩
  .rw[dA] at e;cases z:ae V x with|none=>rw[z] at e;exact C.loc x a2 e|some a=>
    rw[z] at e;cases(e);refine⟨a2,C.keep _<|bA z,?_⟩;cases a2 with
    |ref j=>have Y:=bq c2 _<|bA z;have Y:=nkey (cI (show J (Nat.ble j 254) (dz mv j) false=true from Y)).2;show cW (.ref j) (.ref<|bj mv j);rw[show bj mv j=j by unfold bj;rw[Y]];exact λu u u h=>h
    |_=>exact λu u u h=>h
  .rcases ct.mp hq with hq|hq
   .have e1:bj mv q.1=q.1:=by unfold bj;rw[nkey<|bq c7 q hq]
    refine⟨q.2,by rw[e1];exact C.same q hq,λf va=>xY λj v=>?_⟩;rw[show bj mv j=j by unfold bj;rw[(svis q hq j v).2]]
   .exact C.cell q hq
 .subst q;rw[dA] at e;cases z:ae V x with
  |none=>rw[z] at e;exact Nat.le_of_ble_eq_true<|bq c3 _<|bA e
  |some a=>rw[z] at e;cases e;exact Nat.le_of_ble_eq_true (cI (show J (Nat.ble j 254) (dz mv j) false=true from bq c2 _<|bA z)).1
 .clear told st w P;subst e q;exact Nat.le_of_ble_eq_true c5
 .rcases ct.mp hq with hq|hq
  .exact⟨(gc q<|E hq).1,λj v=>(svis q hq j v).1⟩
  .refine bx (bq Z _ hq) λa b=>?_;exact⟨Nat.le_of_ble_eq_true a,λj v=>Nat.le_of_ble_eq_true<|lC (p:=λj=>Nat.ble j 254) b v⟩
 .have noB:ae (ax S B2) i=none->i∉dr->(bM<|ax O S).get i=none:=λh1 Q=>by
   cases q:(bM<|ax O S).get i with|none=>rfl|some o'=>
    rcases ct.mp (yh q) with hq|hq
    .rcases inB (bq c8 _ hq) with ⟨x,hx⟩|h
     .rw[show ae (ax S B2) i=some x from hx] at h1;cases h1
     .exact aP h Q
    .obtain⟨x,hx⟩:=DJ hq;rw[dA,show ae S i=some x from hx] at h1;cases h1
  have noM:ae (ax S B2) i=none->i∉dr->ae mv i=none:=λh1 Q=>by
   cases q:ae mv i with|none=>rfl|some t=>
    rcases(hmv i t q).2.1 with ⟨x,hx⟩|h
    .rw[hx] at h1;cases h1
    .exact aP h Q
  cases q:J ph (eK i) false with
  |true=>
   refine bx q λq1 q2=>?_;have e2:cq ph L2 Cs i=cq ph L Cs i:=by unfold cq;rw[q]
   have e3:cq ph L2 Cs i=(Cs.get i).map (aG bE v0):=by unfold cq;rw[q]
   have A:i∉dr:=λh=>by rw[(hdr i h).1 q1] at q2;cases q2
   cases hi:ae (ax S B2) i with
   |some s=>
    refine .inl ⟨s,bA hi,?_⟩;have Y:cq ph L Cs i=some (aG (gD p N) va s):=by
     rcases ct.mp (bA hi) with h|h
     .exact(gc _<|E h).2
     .exact hct q1 _ h q2
    rw[e2,Y] at e;exact(Option.some.inj e).symm
   |none=>
    refine .inr ⟨by rw[<-e2];exact e,noB hi A,noM hi A,λj v=>?_⟩;rw[e3] at e;cases y:Cs.get i with|none=>rw[y] at e;cases e|some o'=>
     rw[y] at e;injection e with e
     subst e;have Y:=hcr q1 i o' y j<|Dr v;cases z:ae mv j with|none=>rfl|some t=>have Y:=(hmv j t z).1.2 q1;exact((lin [j] 0x1294d87880b42788) ‹_› Y).elim
  |false=>
   have h1:cq ph L2 Cs i=wA L2 i:=by unfold cq;rw[q]
   have Q:cq ph L Cs i=wA L i:=by unfold cq;rw[q]
   rw[h1,hL] at e;unfold wA at e;rw[X8] at e;cases y:ae L i with|none=>rw[y] at e;cases e|some x=>
    rw[y] at e;have e:J (a5 dr i) none (ad (ae B2 i) x λo=>some<|aG (gD p N) va o)=some o:=e;have A:i∉dr:=λh=>by rw[dh,bR h] at e;cases e
    have e:ad (ae B2 i) x (λo=>some<|aG (gD p N) va o)=some o:=by rw[dh,cA A] at e;exact e
    cases hi2:ae B2 i with
    |some s=>rw[hi2] at e;exact .inl ⟨s,ct.mpr<|.inr<|bA hi2,(Option.some.inj e).symm⟩
    |none=>
     rw[hi2] at e;have e:x=some o:=e;subst e;have hw:cq ph L Cs i=some o:=by rw[Q];unfold wA;rw[y]
     cases hs:ae S i with
     |some s=>have Y:=(gc _<|E<|bA hs).2;rw[hw] at Y;exact .inl ⟨s,ct.mpr<|.inl<|bA hs,Option.some.inj Y⟩
     |none=>
     have hi:ae (ax S B2) i=none:=by rw[dA,hs];exact hi2
     refine .inr ⟨hw,noB hi A,noM hi A,λj v=>?_⟩
     .cases z:ae mv j with|none=>rfl|some t=>
       exfalso
       obtain⟨m1,_,m3⟩:=hmv j t z;have Y:=lC (p:=dj i) (bq hr _<|bA y) v;unfold dj at Y;rw[show Nat.blt j 254=true from Nat.ble_eq_true_of_le m1.1] at Y;have Y:a5 (lK j) i=true:=Y;rw[dh] at Y;rcases m3 i (br Y) with ⟨⟨o',h⟩,h'⟩|h
       .rw[dA,h'] at hi;rw[show ad (none:Option AO) (ae B2 i) some=ae B2 i from rfl,h] at hi;cases hi
       .exact A h
theorem mZ(s:aR X (cq h L g) N H)(t:254<=p)(e:p<N)(inj:∀k x y,va k x=va k y->x=y)(A:∀q∈ax O S,q.1<254/\cq h L g q.1=some (aG (gD p N) va q.2))(f1:∀x a,ae fs.loc x=some a->∃Z,ae F.loc x=some Z/\cW Z (av (gD p N) va a))(f2:∀x i,ae fs.cel x=some i->ae F.cel x=some (gD p N i))(u:holds (Q P fs (bM (ax O S)) c λz z=>v))(l:∀r m b,holds (c r m b)->ym mv r2 V fs2 S B2 r m b)(st:sJ h mv r2 V fs2 S O B2 dr=true)(f:∀q∈B2,eK q.1=true->cq h L g q.1=some (aG (gD p N) va q.2))(C:h_ L=true)(d:h=true->∀i o,g.get i=some o->∀j,vis o j->60<=j)(E:L2=j0 (gD p N) va B2 dr L)(w:∀n R,aR n (cq h L2 g) N R->(∀i,i<N->ae mv i=none->n i=X i)->k (eJ n v0 (eJ (gD p N) va r2)) (ar n v0 (ar (gD p N) va ⟨ax V fs2.loc,fs2.cel⟩)) R):cX holds P Q v (ar X v0 F) H k:=
 oC s t e inj A f1 f2 u l st (λz=>f) C d E w
theorem KD(t:aR c (cq m L l) N H)(u:254<=p)(f:p<N)(inj:∀k x y,va k x=va k y->x=y)(E:∀q∈ax O S,q.1<254/\cq m L l q.1=some (aG (gD p N) va q.2))(f1:∀x a,ae fs.loc x=some a->∃d,ae F.loc x=some d/\cW d (av (gD p N) va a))(f2:∀x i,ae fs.cel x=some i->ae F.cel x=some (gD p N i))(v:X R fs (bM (ax O S)) (yk mv b s n S B2) ia)(st:sJ m mv b s n S O B2 dr=true)(g:∀q∈B2,eK q.1=true->cq m L l q.1=some (aG (gD p N) va q.2))(P:h_ L=true)(e:m=true->∀i o,l.get i=some o->∀j,vis o j->60<=j)(Q:L2=j0 (gD p N) va B2 dr L)(w:∀r Z,aR r (cq m L2 l) N Z->(∀i,i<N->ae mv i=none->r i=c i)->k (eJ r v0 (eJ (gD p N) va b)) (ar r v0 (ar (gD p N) va ⟨ax s n.loc,n.cel⟩)) Z):cX (λp=>p) R X False (ar c v0 F) H k:=
 mZ t u f inj E f1 f2 v (λz z z h=>Ya h) st g P e Q w
def ib(C:on)(z:iJ)(y:iJ)(S B2:ld):KS Prop:=λr f x=>r=.nxt/\f.cel=C/\yj f z/\yj f y/\yi x S/\yi x B2
def iC(C:on)(z:iJ)(y:iJ)(S B2:ld):Prop:=Fl.nxt=.nxt/\C=C/\DG z/\DG y/\DF S/\DF B2
theorem iD:iC C z w S B2:=
 let x:=(sI).2
 let y:=(sI).2
 ⟨rfl,rfl,x.1,y.1,x.2,y.2⟩
theorem ju(u:aV (λq=>dz mv q.2) C=true)(l:∀q∈Q,∃a,(q.1,a)∈W/\cW a (iA (bj mv) q.2))(n:∀q∈Z,∃o,(bj mv q.1,o)∈D/\∀f va,cv (aG f va o) (aG (λj=>f (bj mv j)) va q.2))(h:ib C w W S D r v s):ym mv .nxt w ⟨Q,C⟩ S Z r v s:=by
 refine fH λy X=>?_;obtain⟨d,p,b,g,c,R⟩:=h;subst d;refine X ?_;refine⟨rfl,DI b,λx P e=>?_,λx i e=>?_,DH c,λq k=>?_⟩
 .obtain⟨a,m,le⟩:=l _<|bA e;exact⟨a,DI g _ m,le⟩
 .have Y:=bq u _<|bA e;rw[p,show ae C x=some i from e]
  congr 1
  delta bj;unfold dz at Y;cases z:ae mv i with|none=>rfl|some t=>rw[show ae mv (x,i).2=some t from z] at Y;cases Y
 .obtain⟨o,m,le⟩:=n q k;exact⟨o,DH R _ m,le⟩
def qr(p:Nat->AO->Bool)(t:TR AO):Nat->Nat->Bool:=@TR.rec AO (λz=>Nat->Nat->Bool) (λz z=>true) (λv z z y x a b=>J (ad v true (p b)) (J (y (Nat.mul 2 a) (Nat.add a b)) (x (Nat.mul 2 a) (Nat.add (Nat.mul 2 a) b)) false) false) t
theorem DK:∀{t:TR AO}{a b:Nat},qr p t a b=true->∀{i o},t.get i=some o->p (a*i+b) o=true
 |.lf,_,_,_,i,o,e=>by cases e
 |.nd v l r,a,b,h,i,o,e=>by
  refine bx ((show J (ad v true<|p b) (J (qr p l (Nat.mul 2 a)<|Nat.add a b) (qr p r (Nat.mul 2 a)<|Nat.add (Nat.mul 2 a) b) false) false=true from h)) λw h=>?_;refine bx h λx u=>?_;cases i with|zero=>have e:=e;subst e;rw[Nat.mul_zero,Nat.zero_add];exact w|succ j=>
   have e:@Nat.rec (λy=>Option AO) (l.get<|Nat.div j 2) (λy y=>r.get<|Nat.div j 2) (Nat.mod j 2)=some o:=e;cases q:Nat.mod j 2 with
   |zero=>
    rw[q] at e;have s:=DK x e;have q:j % 2=0:=q;have e1:Nat.mul 2 a*Nat.div j 2+Nat.add a b=a*(j+1)+b:=by
     have s:j=2*(j / 2):=by omega
     rw[Nat.mul_add,Nat.mul_one]
     conv=>rhs;rw[s]
     rw[<-Nat.mul_assoc,Nat.mul_comm a 2];exact lin [2*a*(j / 2),a,b] 0x39435082a50c41
    rw[e1] at s;exact s
   |succ z=>
    rw[q] at e;have s:=DK u e;have q:j % 2=z+1:=q;have e1:Nat.mul 2 a*Nat.div j 2+Nat.add (Nat.mul 2 a) b=a*(j+1)+b:=by
     have s:j+1=2*(j / 2)+2:=by omega
     rw[s,Nat.mul_add,<-Nat.mul_assoc,Nat.mul_comm a 2];exact lin [2*a*(j / 2),a,b] 0xe50d404b1054a1812c41
    rw[e1] at s;exact s
def uU(n i:Nat)(o:AO):Bool:=J (eK i) (J (ox o) (dT (λj=>J (Nat.ble 60 j) (Nat.blt j n) false) o) false) false
structure d7(Cs:AH):Prop where
 dom:∀i o,Cs.get i=some o->eK i=true
 ref:∀i o,Cs.get i=some o->∀j,vis o j->60<=j/\j<Cs.n
 n:255<=Cs.n
 na:∀i o,Cs.get i=some o->ox o=true
theorem KG(h:qr (uU z.n) z.t 1 0=true)(n:255<=z.n):d7 z:=by
 have y:∀i o,z.get i=some o->uU z.n i o=true:=λi o e=>by have y:=DK h e;rwa [Nat.one_mul,Nat.add_zero] at y
 exact⟨λi o e=>(cI<|y i o e).1,λi o e j v=>let h:=cI<|lC (cI (cI<|y i o e).2).2 v;⟨Nat.le_of_ble_eq_true h.1,Nat.le_of_ble_eq_true h.2⟩,n,λi o e=>(cI (cI<|y i o e).2).1⟩
def Yb(r:Fl):Bool:=match r with|.nxt=>true|_=>false
def lL(h:AH)(k:aK->AH->Bool):KS Bool:=λr f z=>J (Yb r) (J (Nat.ble h.n z.n) (J (qr (uU z.n) z.t 1 0) (k f z) false) false) false
theorem yn(s:aR P (cq true L g) g.n H)(inj:∀k x y,va k x=va k y->x=y)(O:d7 g)(f1:∀x a,ae fs.loc x=some a->∃Q,ae F.loc x=some Q/\cW Q (av bE va a))(f2:∀x a,ae fs.cel x=some a->ae F.cel x=some a)(t:N A fs g (lL g E) fQ=true)(w:∀l p m d,E l p=true->d7 p->g.n<=p.n->aR m (cq true L p) p.n d->(∀i,i<p.n->m i=P i)->k .nxt (ar m v0 (ar bE va l)) d):cX (· = true) A N false (ar P v0 F) H k:=by
 refine Xh s inj rfl O.na (λj o e=>?_) f1 f2 t λr l p Z u=>?_
 .have Y:=O.dom j o e;delta cq;rw[Y,e];rfl
 .refine bx Z λf h=>?_;refine bx h λc h=>?_;refine bx h λh3 C=>?_;have R:=Nat.le_of_ble_eq_true c;have b:=KG h3<|Nat.le_trans O.n R;have hr:r=.nxt:=by clear Z;cases r<;>first|rfl|cases f
  clear Z f;subst hr;refine⟨R,λi o e=>⟨b.na i o e,λj v=>(b.ref i o e j v).2⟩,cq true L p,λi o e=>?_,λm d U2 X=>w l p m d C b R U2 X⟩;cases q:eK i with
  |true=>
   left
   have Y:cq true L p i=(p.get i).map (aG bE v0):=by delta cq;rw[q]
   rw[Y] at e;cases z:p.get i with|none=>rw[z] at e;cases e|some S=>rw[z] at e;exact⟨S,rfl,(Option.some.inj e).symm⟩
  |false=>
   right
   have f:cq true L p i=wA L i:=by delta cq;rw[q]
   have c:cq true L g i=wA L i:=by delta cq;rw[q]
   refine⟨by rw[c,<-f];exact e,?_⟩;cases z:g.get i with|none=>rfl|some S=>rw[O.dom i S z] at q;cases q
section
open G
def Yc(m:Nat->Nat):AH:=bM (uS m)
def yo:aK:=⟨ax (sH aW aL) [(qn,.atm 101 0)],bl⟩
def uV:aK:=⟨ax (sH aW aL) [(qn,.atm 101 0),(uM,.ref 53),(qo,.ref 59)],bl⟩
def DL(m:Nat->Nat):ld:=ax (uS m) (ax oB ((59,.list [.ref 60,.ref 61,.ref 62,.ref 63])::jt λj=>yf j (m j)))
def yq:on:=(53,256)::(54,255)::(59,258)::jt XJ
def uW(m:Nat->Nat):Bool:=(ac L0 (ac L1 ak)) fP yo (Yc m) (i0 yq .nxt uV (DL m)) fQ
def kH:Bool:=cY λy=>cY λx=>cY λz=>cY λw=>uW (cJ y x z w)
theorem av5:uW (cJ 2 2 2 2)=true:=by kernel_rfl
theorem c1S:uJ yq .nxt uV (DL (cJ 0 0 0 0))=true:=by kernel_rfl
def m0(j m:Nat):tY0:=cJ [] [] (e8 [.str 12612] [.str 12868] [.str 12612,.str 12868] m) (e8 [] [.str 13124] [.str 13124] m) j
def uX(o:AV)(j m:Nat):ld:=[(Nat.add 60 j,.inst 569 (Nat.add 64 j)),(Nat.add 64 j,.dict (iB j o .unk)),(Nat.add 68 j,.list (cf j m)),(Nat.add 72 j,.list [.str (gH j)]),(Nat.add 76 j,.list []),(Nat.add 84 j,.list (m0 j m)),(Nat.add 88 j,.list []),(Nat.add 92 j,.list [])]
def sK(y z:AV):ld:=[(96,.inst 714 97),(97,.dict [(qo,.ref 98),(sC,.ref 99),(ye,z),(uP,y)]),(98,.umap [(12612,some (.ref 60)),(12868,some (.ref 61)),(13124,some (.ref 62)),(13380,some (.ref 63))]),(99,.umap [(120,some (.str 12612)),(121,some (.str 12868)),(122,some (.str 13124)),(119,some (.str 13380))])]
def lM(s:Nat):tY0:=cJ [.str 12612,.str 12868,.str 13124,.str 13380] [.str 12868,.str 13124,.str 13380,.str 12612] [.str 13124,.str 13380,.str 12612,.str 12868] [.str 13380,.str 12612,.str 12868,.str 13124] s
def Yd(m:Nat->Nat):AH:=bM ((59,.list [.ref 60,.ref 61,.ref 62,.ref 63])::jt λj=>yf j (m j))
def KH(s:Nat):aK:=⟨ax (sH aW aL) [(qn,.int (.ofNat s)),(uM,.ref 53),(qo,.ref 59)],bl⟩
def uY:aK:=⟨ax (sH aW aL) [(uM,.ref 53),(Dy,.ref 96)],bl⟩
def DM(s:Nat)(m:Nat->Nat):ld:=ax (sK .none (.ref 100)) ((100,.list (lM s))::jt λj=>uX .none j (m j))
def yr:on:=[(96,259),(97,258),(98,260),(99,261),(100,262)]
def KI(s:Nat)(m:Nat->Nat):Bool:=L2 fP (KH s) (Yd m) (i0 yr .nxt uY (DM s m)) fQ
def kI:Bool:=fC λs=>cY λy=>cY λx=>cY λz=>cY λw=>KI s (cJ y x z w)
theorem c2S:uJ yr .nxt uY (DM 0 (cJ 0 0 0 0))=true:=by kernel_rfl
def KJ:Nat:=aQ0
def DN(z:Bool):ld:=J z [(0,.tab 478 8 (some 2)),(2,.code KJ)] [(0,.tab 478 8 none)]
def fR(l:Nat):Nat:=@Nat.rec (λz=>Nat) 828 (λn z=>Nat.add 831 (Nat.mul 3 n)) l
def uZ(l s:Nat):tY0:=cJ (lM s) [.str 13124] [.str 13380] (cJ [.str 12868,.str 12612] (lM s) [.str 12868,.str 12612] [.str 13124,.str 12868] (Nat.sub l 3)) l
def DO(o:AV):ld:=jt λj=>[(Nat.add 60 j,.inst 569 (Nat.add 64 j)),(Nat.add 64 j,.dict (iB j o .unk))]
def Ye(z:Bool)(s:Nat):AH:=bM (ax (DN z) (ax (sK .none (.ref 100)) ((100,.list (lM s))::DO .none)))
def ic(l:Nat):aK:=⟨ax (sH aW (.glo (fR l))) [(uM,.ref 53),(Dy,.ref 96)],bl⟩
def yu(l:Nat):Bool:=@Nat.rec (λz=>Bool) true (λz z=>false) l
def oD(z:Bool)(l s:Nat):ld:=ax (DN (J (yu l) z true)) (ax (sK (.ref 100) .unk) ((100,.list (uZ l s))::DO .unk))
def qu(z:Bool)(l:Nat):on:=J (yu l) [] (J z [(100,256)] [(100,256),(2,260)])
def u4(z:Bool)(l s:Nat):Bool:=J (L3 fP (ic l) (Ye z s) (i0 (qu z l) .nxt (ic l) (oD z l s)) fQ) (uJ (qu z l) .nxt (ic l) (oD z l s)) false
def oF(p:Nat->Bool):Bool:=J (fC p) (cY λn=>p (Nat.add 4 n)) false
def Yf:Bool:=uR λz=>oF λl=>fC λs=>u4 z l s
theorem Yg:Yf=true:=by kernel_rfl
def Yh:AO:=.dict [(qo,.ref 98),(sC,.ref 99),(uP,.ref 100),(495622319982,.ref 104),(0x676e6974696177,.ref 105),(521375147378,.ref 106),(0x6e75725f6f745f736b736174,.ref 107),(dy,.none)]
def oG:ld:=[(96,.inst 714 97),(97,.dict [(qo,.ref 98),(sC,.ref 99),(ye,.unk),(uP,.ref 100)])]
def yw(z:tY0):ld:=[(56,.list []),(57,.list []),(102,.inst 820 103),(103,Yh),(104,.dict []),(105,.dict []),(106,.list []),(107,.list (lh z))]
def Yi(z:tY0):AH:=bM ((100,.list z)::oG)
def KM(z y:AV):iJ:=ax (sH z y) [(uM,.ref 53),(Dy,.ref 96),(lF,.ref 55)]
def yx:aK:=⟨KM aW aL,bl⟩
def cg(z y:AV):iJ:=ax (KM z y) [(Xm,.ref 102),(Xn,.ref 56),(Xo,.ref 57)]
def u5:aK:=⟨cg aW aL,bl⟩
def DP(z:tY0):ld:=ax oG (yw z)
def yy:on:=[(102,256),(103,255),(104,257),(105,258),(106,259),(107,260),(56,261),(57,262)]
def Yj(z:tY0):Bool:=(ac L5 (ac L6 (ac L7 ak))) fP yx (Yi z) (i0 yy .nxt u5 (DP z)) fQ
def jw(i:Nat):tY0:=cJ (lM 0) (lM 1) (lM 2) (cJ (lM 3) [.str 13124] [.str 13380] (@Nat.rec (λz=>tY0) [.str 12868,.str 12612] (λz z=>[.str 13124,.str 12868]) (Nat.sub i 6)) (Nat.sub i 3)) i
def oH(p:Nat->Bool):Bool:=J (fC p) (fC λn=>p (Nat.add 4 n)) false
def Yk:Bool:=oH λi=>Yj (jw i)
theorem c4S:uJ yy .nxt u5 (DP [])=true:=by kernel_rfl
theorem Yl:Yk=true:=by kernel_rfl
def m5(a b:AV):Bool:=AV.m false a (none:=AV.m false b (none:=true)) (bool:=λx=>AV.m false b (bool:=λy=>J x y (!y))) (int:=λx=>AV.m false b (int:=λy=>km x y)) (str:=λx=>AV.m false b (str:=λy=>Nat.beq x y)) (ref:=λx=>AV.m false b (ref:=λy=>Nat.beq x y)) (unk:=AV.m false b (unk:=true))
def KN(a b:AO):Bool:=AO.m false a (inst:=λC d=>AO.m false b (inst:=λx e=>J (Nat.beq C x) (Nat.beq d e) false)) (dict:=λes=>AO.m false b (dict:=λfs=>gl (λp q=>J (Nat.beq p.1 q.1) (m5 p.2 q.2) false) es fs)) (list:=λy=>AO.m false b (list:=λz=>gl m5 y z))
def er(z y j:Nat):List Nat:=cJ [] [] (e8 [0] [1] [0,1] z) (e8 [] [2] [2] y) j
def m6{y:Type}(p:y->Bool)(l:List y):Bool:=@List.rec y (λz=>Bool) false (λx z w=>J (p x) true w) l
def dE(l:List Nat):tY0:=bX (λn=>.int (.ofNat n)) l
def KO(a:AV):Option Nat:=AV.m none a (ref:=λj=>some j)
def KP(a:AV):Option Nat:=AV.m none a (int:=λi=>mA i)
def DQ(x:Nat)(l:List Nat):List Nat:=@List.rec Nat (λz=>List Nat) [x] (λy r w=>J (Nat.blt x y) (x::y::r) (y::w)) l
def qv(l:List Nat):List Nat:=@List.rec Nat (λz=>List Nat) [] (λx z y=>DQ x y) l
def sL(h:AH)(i:Nat)(o:AO):Bool:=ad (h.get i) false λx=>KN x o
def yz(f:aK)(x:Nat)(a:AV):Bool:=ad (ae f.loc x) false λy=>m5 y a
def yC{R:Type}:XS R:=ac T1 (ac T2 (ac T3 (ac T4 ak)))
def qw{R:Type}:XS R:=ac T9 (ac Xk ak)
def yD(k:aK->AH->Bool)(f:aK)(h:AH):Bool:=B3 fP f h (lL h λf h=>qw fP f h (lL h k) fQ) fQ
def KQ(k:aK->AH->Bool)(f:aK)(h:AH):Bool:=qw fP f h (lL h k) fQ
def lN(nd:AV)(j:Nat)(a:AV):aK:=⟨ax (cg aW aL) [(dy,nd),(qp,.ref (Nat.add 60 j)),(lG,.int (.ofNat j)),(sB,.str (gH j)),(b5,a)],bl⟩
abbrev yE:AV:=.one [js,sE]
def Ym(h:AH)(n:Nat)(o:AO):Option AV:=AO.m none o (inst:=λz d=>ad (ir h d) none λes=>ae es n)
def KR(h:AH)(p n:Nat):Option AV:=ad (h.get p) none (Ym h n)
def yF(s r:Nat)(t:List Nat->List Nat->aK->AH->Bool)(u w:List Nat)(f:aK)(h:AH):Bool:=
 ad (ae f.loc dy) false λnd=>ad (KO nd) false λp=>ad (ae f.loc lG) false λx=>ad (KP x) false λj=>
 J (aV (λb=>b) [aV (λq=>ad (ae f.loc q.1) false λy=>g7 y q.2)<|cg aW aL,aV (λq=>ad (ae f.cel q.1) false λi=>Nat.beq i q.2) bl,Nat.blt j 4,Nat.blt 254 p,yz f qp<|.ref<|Nat.add 60 j,yz f sB<|.str<|gH j,J (a5 u j) false true,aV (a5 u)<|er s r j,sL h (Nat.add 60 j)<|.inst 569<|Nat.add 64 j,sL h (Nat.add 64 j)<|.dict<|iB j .unk .unk])
  (ad (KR h p sD) false λv=>ad (gx h v) false λz=>
   J (dk z) (J (m6 (a5 w)<|er s r j) (yD (t (ax u [j])<|ax w [j]) (lN nd j<|.str gG) h) false)
    (J (m6 (a5 w)<|er s r j) false<|J (yD (t (ax u [j])<|ax w [j]) (lN nd j<|.str gG) h) (KQ (t (ax u [j]) w) (lN nd j yE) h) false)) false
def j1:List (List Nat):=[[],[0],[1],[2],[3],[0,1],[0,2],[0,3],[1,0],[1,2],[1,3],[2,0],[2,1],[2,3],[3,0],[3,1],[3,2],[0,1,2],[0,1,3],[0,2,1],[0,2,3],[0,3,1],[0,3,2],[1,0,2],[1,0,3],[1,2,0],[1,2,3],[1,3,0],[1,3,2],[2,0,1],[2,0,3],[2,1,0],[2,1,3],[2,3,0],[2,3,1],[3,0,1],[3,0,2],[3,1,0],[3,1,2],[3,2,0],[3,2,1],[0,1,2,3],[0,1,3,2],[0,2,1,3],[0,2,3,1],[0,3,1,2],[0,3,2,1],[1,0,2,3],[1,0,3,2],[1,2,0,3],[1,2,3,0],[1,3,0,2],[1,3,2,0],[2,0,1,3],[2,0,3,1],[2,1,0,3],[2,1,3,0],[2,3,0,1],[2,3,1,0],[3,0,1,2],[3,0,2,1],[3,1,0,2],[3,1,2,0],[3,2,0,1],[3,2,1,0]]
def lO(a b:List Nat):Bool:=gl Nat.beq a b
def sM(w x z:List Nat)(f:aK)(h:AH):Bool:=aV (λb=>b) [aV (λq=>ad (ae f.loc q.1) false λy=>g7 y q.2) (cg aW aL),aV (λq=>ad (ae f.cel q.1) false λi=>Nat.beq i q.2) bl,lO (qv x) w,m6 (lO x) j1,m6 (lO z) j1,hV z w,sL h 56 (.list (dE x)),sL h 57 (.list (dE z))]
def KT(f:aK):Bool:=J (aV (λq=>ad (ae f.loc q.1) false λy=>g7 y q.2) (cg aW aL)) (aV (λq=>ad (ae f.cel q.1) false λi=>Nat.beq i q.2) bl) false
def qx(nd:AV):aK:=⟨ax (cg aW aL) [(dy,nd)],bl⟩
def qy(u t:Nat)(w:List Nat)(n:Nat):List Nat->List Nat->aK->AH->Bool:=@Nat.rec (λz=>List Nat->List Nat->aK->AH->Bool) (λz z z z=>false)
 (λz v x y f h=>ad (ae f.loc dy) false λnd=>J (isNone nd) (sM w x y f h)<|J (KT f) (yC fP (qx nd) h (lL h<|yF u t v x y) fQ) false) n
def iE(w v:Nat)(first:List Nat):List Nat:=
 let y:=a5 first 3
 let z:=J (a5 first 2) true<|J y (a5 (er w v 3) 2) false
 let x:=J (a5 first 1) true<|J z (a5 (er w v 2) 1) false
 let u:=J (a5 first 0) true<|J z (a5 (er w v 2) 0) false
 ax (J u [0] []) (ax (J x [1] [])<|ax (J z [2] [])<|J y [3] [])
def DR(i:Nat):List Nat:=J (Nat.blt i 4) [0,1,2,3] (cJ [2] [3] [1,0] [2,1] (Nat.sub i 4))
def yG(j m:Nat):ld:=[(Nat.add 60 j,.inst 569 (Nat.add 64 j)),(Nat.add 64 j,.dict (iB j .unk .unk)),(Nat.add 84 j,.list (m0 j m)),(Nat.add 88 j,.list []),(Nat.add 92 j,.list [])]
def lP(x:tY0)(z y:Nat):ld:=ax (yw x) ((98,.umap [(12612,some (.ref 60)),(12868,some (.ref 61)),(13124,some (.ref 62)),(13380,some (.ref 63))])::jt λj=>yG j (cJ 0 0 z y j))
def KU(i z y:Nat):Bool:=L8 fP ⟨cg aW aL,bl⟩ (bM (lP (jw i) z y)) (lL (bM []) (qy z y (iE z y (DR i)) 5 [] [])) fQ
def c5A:Bool:=oH λi=>cY λz=>uQ λy=>KU i z y
theorem av6:KU 0 2 1=true:=by kernel_rfl
abbrev eL(call:tY2):EV Prop:=⟨False,oq,60,false,call,12⟩
section
variable {call:tY2}{f:aK}{H:AH}{k:KS Prop}{ke:KE Prop}
theorem oJ(h:cX (· = true) fP (s Bool) false f H k):bF bo s (eL call) f H k ke:=.inr ⟨rfl,.inl h⟩
theorem lQ(h:cX (λp:Prop=>p) (mU bo 60 12) (s Prop) False f H k):bF bo s (eL call) f H k ke:=.inr ⟨rfl,.inr h⟩
def tB:XS Prop:=ac T0 (ac (bF bo λz=>yC) (ac (bF bo λz=>ac T5 (ac T6 ak)) (ac (aY Dw (bF bo λz=>ac A1 (ac A2 ak)) ak) (ac (aY Dx (ac (bF bo λz=>ac B1 (ac B2 ak)) (ac (bF bo λz=>B3) ak))
 (ac (aY ya (ac (bF bo λz=>R1)<|ac (bF bo λz=>ac R2<|ac R3 ak)<|bF bo λz=>ac R4<|ac R5<|ac R6 ak) ak) ak)) (bF bo λz=>qw)))))
theorem Yn(h:ae f.loc dy=some .none)(g:k .brk f H):T0 e f H k ke:=by
 show ad (ae f.loc dy) e.stop _;rw[h];exact g
theorem Yo(h:ae f.loc dy=some (.ref p))(g:k .nxt f H):T0 e f H k ke:=by
 show ad (ae f.loc dy) e.stop _;rw[h];exact g
theorem DT(h:ae f.loc b5=some (.str c))(g:J (Nat.beq c gG) (a e f H k ke) (b e f H k ke)):aY Dx a b e f H k ke:=by
 show ad (ae f.loc b5) e.stop _;rw[h];exact g
theorem KW(h:ae f.loc b5=some (.str c))(g:J (Nat.beq c oA) (a e f H k ke) (b e f H k ke)):aY ya a b e f H k ke:=by
 show ad (ae f.loc b5) e.stop _;rw[h];exact g
theorem Yp(h:ae f.loc dy=some (.ref p))(w:H.get p=some (.inst C d))(y:H.get d=some (.dict es))(u:ae es sD=some (.ref q))(x:H.get q=some (.list z))(g:J (dk z) (b e f H k ke) (a e f H k ke)):aY Dw a b e f H k ke:=by
 show ad (ae f.loc dy) e.stop λv=>ad (rL H sD v) e.stop _;rw[h];show ad (ad (H.get p) none<|GG H sD) e.stop _;rw[w];show ad (ad (ir H d) none _) e.stop _;have hd:ir H d=some es:=by delta ir;rw[y]
 rw[hd];show ad (ad (ae es sD) _ some) e.stop _;rw[u];show ad (ad (H.get q) none<|wP H) e.stop _;rw[x];show J (!(dk z)) _ _;cases hx:dk z with|true=>rw[hx] at g;exact g|false=>rw[hx] at g;exact g
end
theorem DU(h:m5 a b=true):a=b:=by
 cases a with
 |none=>cases b with|none=>rfl|_=>exact bg h
 |bool x=>cases b with
  |bool y=>exact aT AV.bool<|Kg h
  |_=>exact bg h
 |int x=>cases b with
  |int y=>exact aT AV.int<|Kh h
  |_=>exact bg h
 |str x=>cases b with
  |str y=>exact aT AV.str<|Nat.eq_of_beq_eq_true h
  |_=>exact bg h
 |ref x=>cases b with
  |ref y=>exact aT AV.ref<|Nat.eq_of_beq_eq_true h
  |_=>exact bg h
 |unk=>cases b with|unk=>rfl|_=>exact bg h
 |_=>exact bg h
theorem KY:∀{w z:tY0},gl m5 w z=true->w=z
 | [],[],_=>rfl
 | [],_::_,h=>by cases h
 |_::_,[],h=>by cases h
 |x::w,y::z,h=>by refine bx ((show J (m5 x y) (gl m5 w z) false=true from h)) λu v=>?_;rw[DU u,KY v]
theorem KZ:∀{w z:iJ},gl (λp q:Nat×AV=>J (Nat.beq p.1 q.1) (m5 p.2 q.2) false) w z=true->w=z
 | [],[],_=>rfl
 | [],_::_,h=>by cases h
 |_::_,[],h=>by cases h
 |(x,a)::w,(y,b)::z,h=>by refine bx ((show J (J (Nat.beq x y) (m5 a b) false) (gl _ w z) false=true from h)) λv u=>?_;obtain⟨v,t⟩:=cI v;rw[Nat.eq_of_beq_eq_true v,DU t,KZ u]
theorem Yq(h:KN a b=true):a=b:=by
 cases a with
 |inst C d=>cases b with
  |inst x e=>obtain⟨v,w⟩:=cI h;rw[Nat.eq_of_beq_eq_true v,Nat.eq_of_beq_eq_true w]
  |_=>cases h
 |dict es=>cases b with
  |dict fs=>exact aT _<|KZ h
  |_=>cases h
 |list y=>cases b with
  |list z=>exact aT _<|KY h
  |_=>cases h
 |_=>cases h
theorem yH(e:sL h i o=true):h.get i=some o:=by
 delta sL at e;cases q:h.get i with|none=>rw[q] at e;cases e|some x=>rw[q] at e;rw[Yq e]
theorem K0(e:yz f x a=true):ae f.loc x=some a:=by
 delta yz at e;cases q:ae f.loc x with|none=>rw[q] at e;cases e|some y=>rw[q] at e;rw[DU e]
structure qz(f:aK):Prop where
 loc:∀q∈cg aW aL,∃y,ae f.loc q.1=some y/\g7 y q.2=true
 cel:∀q∈bl,ae f.cel q.1=some q.2
theorem DV(v:aV (λq=>ad (ae f.loc q.1) false λy=>g7 y q.2) (cg aW aL)=true)(w:aV (λq=>ad (ae f.cel q.1) false λi=>Nat.beq i q.2) bl=true):qz f:=by
 refine⟨λq x=>?_,λq x=>?_⟩
 .have u:=bq v q x;cases z:ae f.loc q.1 with|none=>rw[z] at u;cases u|some y=>rw[z] at u;exact⟨y,rfl,u⟩
 .have u:=bq w q x;cases z:ae f.cel q.1 with|none=>rw[z] at u;cases u|some y=>rw[z] at u;rw[Nat.eq_of_beq_eq_true u]
structure K1(m2 m3:Nat)(sent failed:List Nat)(f:aK)(h:AH)(p j:Nat):Prop where
 nm:qz f
 j4:j<4
 p254:254<p
 node:ae f.loc dy=some (.ref p)
 jv:ae f.loc lG=some (.int<|.ofNat j)
 task:ae f.loc qp=some (.ref<|Nat.add 60 j)
 target:ae f.loc sB=some (.str<|gH j)
 new:j∉sent
 deps:∀d∈er m2 m3 j,d∈sent
 inst:h.get (Nat.add 60 j)=some (.inst 569<|Nat.add 64 j)
 dict:h.get (Nat.add 64 j)=some (.dict<|iB j .unk .unk)
theorem Yr:m6 p l=true↔∃x∈l,p x=true:=by
 induction l with|nil=>exact⟨(λh=>by cases h),(λv=>v.elim λ_ w=>w.elim λh _=>by cases h)⟩|cons y l u=>
  show J (p y) true (m6 p l)=true↔_;cases q:p y with|true=>exact⟨λz=>⟨y,.head _,q⟩,λz=>rfl⟩|false=>
   refine⟨λh=>(u.mp h).elim λx w=>w.elim λm e=>⟨x,.tail _ m,e⟩,λv=>v.elim λx w=>w.elim λm e=>?_⟩;rcases List.mem_cons.mp m with rfl|m
   .rw[q] at e;cases e
   .exact u.mpr ⟨x,m,e⟩
theorem lR(h:a5 l x=true):x∈l:=by rw[dh] at h;exact br h
inductive K2(m2 m3:Nat)(ih:List Nat->List Nat->aK->AH->Bool)(sent failed:List Nat)(f:aK)(h:AH):Prop
 |mk (p j:Nat) (d:Nat×Nat) (es:iJ) (q:Nat) (xs:tY0) (M:K1 m2 m3 sent failed f h p j) (hp:h.get p=some (.inst d.1 d.2)) (hd:h.get d.2=some (.dict es)) (he:ae es sD=some (.ref q)) (hq:h.get q=some (.list xs)) (bad:dk xs=true↔∃x∈er m2 m3 j,x∈failed)
   (F:yD (ih (ax sent [j])<|ax failed [j]) (lN (.ref p) j<|.str gG) h=true) (S:dk xs=false->KQ (ih (ax sent [j]) failed) (lN (.ref p) j yE) h=true):K2 m2 m3 ih sent failed f h
theorem Ys(h:KO a=some p):a=.ref p:=by
 cases a with
 |ref i=>exact aT AV.ref<|Option.some.inj h
 |_=>exact a6 h
theorem Yt(h:KP a=some j):a=.int (.ofNat j):=by
 cases a with
 |int i=>cases i with|negSucc _=>exact a6 h|ofNat n=>exact aT (λn=>AV.int<|.ofNat n)<|Option.some.inj h
 |_=>exact a6 h
theorem Yu(e:KR h p n=some v){G:Prop}(g:∀C d es,h.get p=some (.inst C d)->h.get d=some (.dict es)->ae es n=some v->G):G:=
 ba e λo ho e=>by
  cases o with|inst C d=>exact ba e λes hd e=>g C d es ho (gy hd) e|_=>exact a6 e
theorem lS(h:aV (λb=>b) l=true)(k:Nat)(e:gR l k=some b):b=true:=bq h b (List.mem_of_getElem? ((pM l k).symm.trans e))
theorem Yv(e:J (dk y) (J A F false) (J A false (J F S false))=true):(dk y=true↔A=true)/\F=true/\(dk y=false->S=true):=by
 generalize dk y=b at e ⊢;cases b with|true=>exact⟨⟨λz=>(cI e).1,λz=>rfl⟩,(cI e).2,λh=>bg h.symm⟩|false=>cases A with|true=>exact bg e|false=>exact⟨⟨λh=>h,λh=>h⟩,(cI e).1,λz=>(cI e).2⟩
theorem Yw{f:aK}(e:yF i g Q t u f h=true):K2 i g Q t u f h:=by
 refine dl e λnd l e=>dl e λp X e=>dl e λjv k e=>dl e λj a e=>bx e λs e=>dl e λv n e=>dl e λw Z e=>?_;rw[Ys X] at l e;rw[Yt a] at k;obtain⟨q,ev,c⟩:=jS Z;rw[ev] at n;obtain⟨b,F,S⟩:=Yv e;exact Yu n λC d es z hd R=>⟨p,j,(C,d),es,q,w,⟨DV (lS s 0 rfl)<|lS s 1 rfl,Nat.le_of_ble_eq_true<|lS s 2 rfl,Nat.le_of_ble_eq_true<|lS s 3 rfl,l,k,K0<|lS s 4 rfl,K0<|lS s 5 rfl,λm=>by
   have x:=lS s 6 rfl;rw[show a5 t j=true from(dh t j).trans (bR m)] at x;exact bg x,λd hd=>lR<|bq (lS s 7 rfl) d hd,yH<|lS s 8 rfl,yH<|lS s 9 rfl⟩,z,hd,R,c,
  b.trans (Yr.trans ⟨λo=>o.elim λx r=>r.elim λm y=>⟨x,m,lR y⟩,λo=>o.elim λx r=>r.elim λm y=>⟨x,m,(dh u x).trans<|bR y⟩⟩),F,S⟩
end
theorem aR.name(y:aR t w N H)(r:c<N)(s:∀i o,w i=some o->¬vis o c)(ho:∀j,vis oc j->j<N/\j≠c):∃x,aR x (λi=>if i=c then some oc else w i) N (H.new (aG t v0 oc))/\(∀i,i<N->i≠c->x i=t i)/\x c=H.n:=by
 let x:Nat->Nat:=λi=>if i=c then H.n else if i<N then t i else H.n+1+i
 have e1:∀i,i<N->i≠c->x i=t i:=λi h l=>by show(if i=c then _ else _)=_;rw[aq l,aw h]
 have e2:x c=H.n:=aw rfl;have u:∀i,N<=i->x i=H.n+1+i:=λi h=>by show(if i=c then _ else _)=_;rw[aq (by exact(lin [c,N,i] 0x949ee08da313041) r h),aq<|by exact(lin [N,i] 634985198657) h]
 have lt:∀i,i<N->x i<H.n+1:=λi h=>by
  by_cases q:i=c
  .clear r s ho e1 u;subst q;rw[e2];exact lin [H.n] 3305152545
  .rw[e1 i h q];have k:=y.lt i h;exact(lin [t i,H.n] 5174852820447297) k
 refine⟨x,⟨λi j e=>?_,λi m=>?_,λi o e=>?_,λi o e=>?_,λi m=>?_⟩,e1,e2⟩
 .by_cases a:i<N<;>by_cases b:j<N
  .by_cases p:i=c<;>by_cases q:j=c
   .exact(lin [i,c,j] 0x4a4e185c21b841) p q
   .clear r s ho u lt;subst p;rw[e2,e1 j b q] at e;have k:=y.lt j b;exact((lin [H.n,t j] 20430489466945) e k).elim
   .clear r s ho u lt;subst q;rw[e2,e1 i a p] at e;have k:=y.lt i a;exact((lin [t i,H.n] 20430490482753) e k).elim
   .rw[e1 i a p,e1 j b q] at e;exact y.inj _ _ e
  .have k:=lt i a;rw[u j<|by exact(lin [j,N] 632470089793) b] at e;exact((lin [x i,H.n,j] 0x4a5362805020b943500a041) e k).elim
  .have k:=lt j b;rw[u i<|by exact(lin [i,N] 632470089793) a] at e;exact((lin [H.n,i,x j] 0x4a5362805011b86a1280501) e k).elim
  .rw[u i (by exact(lin [i,N] 632470089793) a),u j<|by exact(lin [j,N] 632470089793) b] at e;exact(lin [H.n,i,j] 0x49c313943500a02a1280501) e
 .rw[AH.n_new,u i m];exact lin [H.n,i] 0xd50940280a80501
 .have e:(if i=c then some oc else w i)=some o:=e
  by_cases q:i=c
  .clear r s u lt;subst q;rw[aw rfl] at e;cases e;rw[e2,AH.get_new,aw rfl];exact aT some<|uD λj v=>(e1 j (ho j v).1 (ho j v).2).symm
  .rw[aq q] at e;have m:=(y.low i o e).1;rw[e1 i m q,AH.get_new,aq (by have k:=y.lt i m;exact(lin [t i,H.n] 635053322305) k),y.cell i o e];exact aT some<|uD λj v=>(e1 j ((y.low i o e).2 j v) (λz=>s i o e<|z▸v)).symm
 .have e:(if i=c then some oc else w i)=some o:=e
  by_cases q:i=c
  .clear s x e1 e2 u lt;subst q;rw[aw rfl] at e;cases e;exact⟨r,λj v=>(ho j v).1⟩
  .rw[aq q] at e;exact y.low i o e
 .rw[AH.n_new];exact lt i m
def qA(a b:Int)(n:Nat):Int:=if n=0 then a else if n=1/\b≠a then b else((a.natAbs+b.natAbs+1+n:Nat):Int)
theorem Yx(a b:Int)(x y:Nat)(h:qA a b x=qA a b y):x=y:=by
 have z:∀{c:Int}{n:Nat},c.natAbs<=a.natAbs+b.natAbs->((a.natAbs+b.natAbs+1+n:Nat):Int)≠c:=λs e=>by rw[<-e,Int.natAbs_natCast] at s;exact Nat.not_succ_le_self _<|Nat.le_trans (Nat.le_add_right _ _) s
 have u:=Nat.le_add_right a.natAbs b.natAbs;have t:=Nat.le_add_left b.natAbs a.natAbs;delta qA at h
 by_cases v:x=0
 .by_cases w:y=0
  .exact v.trans w.symm
  .rw[aw v,aq w] at h
   by_cases q:y=1/\b≠a
   .rw[aw q] at h;exact aP h.symm q.2
   .rw[aq q] at h;exact aP h.symm<|z u
 .by_cases w:y=0
  .rw[aq v,aw w] at h
   by_cases q:x=1/\b≠a
   .rw[aw q] at h;exact aP h q.2
   .rw[aq q] at h;exact aP h<|z u
  .rw[aq v,aq w] at h
   by_cases p:x=1/\b≠a
   .by_cases q:y=1/\b≠a
    .exact p.1.trans q.1.symm
    .rw[aw p,aq q] at h;exact aP h.symm<|z t
   .by_cases q:y=1/\b≠a
    .rw[aq p,aw q] at h;exact aP h<|z t
    .rw[aq p,aq q] at h;exact Nat.add_left_cancel<|Int.ofNat.inj h
theorem av7(a b):qA a b 0=a:=rfl
theorem Yy(h:b≠a):qA a b 1=b:=by delta qA;rw[aq (by decide),aw ⟨rfl,h⟩]
section
open G
def aZ(j d:Nat):Nat:=@Nat.rec (λz=>Nat) (cJ 0 1 3 0 j) (λz z=>cJ 1 2 4 5 j) d
def cG(po:wg):AO:=.umap [(97,po 0),(98,po 1),(99,po 2),(120,po 3),(121,po 4),(122,po 5),(119,po 6)]
def dM(po:wg):AO:=.umap [(12612,po 0),(12868,po 1),(13124,po 2),(13380,po 3)]
def dp(po:Nat->AV):AO:=.list [po 0,po 1,po 2,po 3]
def a9{z:Type}(f:Nat->z)(k:Nat)(a:z)(i:Nat):z:=J (Nat.beq i k) a (f i)
def ie(kd:Bool)(j:Nat)(z y:Option AV):AO:=.umap [(mW,some .unk),(mX,some (.str (J kd sG sF))),(r0 j,z),(r1 j,y),(mY,some (.ref (Nat.add 19 j)))]
def m_(j m:Nat)(a b:AV):AO:=.dict (e8 [(r0 j,a)] [(r1 j,b)] [(r0 j,a),(r1 j,b)] m)
def K3(kd:Bool):ld:=[(35,.inst (J kd 203 177) 36),(36,.dict [(dw,.ref 3)])]
def oK:ld:=[(12,.inst 100 13),(13,.dict [(DC,.ref 14)])]
def yB(y:Nat)(a b:Bool):Bool:=J (Nat.blt y 5) a (J (Nat.beq y 7) a b)
def there(y:Nat):Bool:=J (Nat.blt y 5) true (Nat.beq y 7)
def b2(b:Bool):Nat:=J b 1 0
def yt(y:Nat):Nat:=b2 (Nat.blt 1 y)
def ys(y:Nat):Nat:=b2 (Nat.beq y 2)
def yc(y:Nat):Nat:=b2 (J (Nat.beq y 2) true (Nat.beq y 3))
def qB(j d y:Nat)(z:wg):Option AV:=J (there y) (some (.ref (Nat.add 4 (aZ j d)))) (J (Nat.beq y 5) none (z (aZ j d)))
def kJ(d:Nat):AO:=.tup [.atm (Nat.add 10 d) 0,.atm (Nat.add 30 d) 0,.atm (Nat.add 20 d) 0]
def u6(j d y:Nat):ld:=J (there y) [(Nat.add 4 (aZ j d),kJ d)] []
def qC(y:Nat):Bool:=J (Nat.blt 0 y) (Nat.blt y 5) false
def sN(kd:Bool)(j d y:Nat)(so:wg):Option AV:=J (qC y) (some (J kd (.atm (Nat.add 10 d) (yt y)) (.ref (Nat.add (Nat.add 23 (Nat.mul 2 j)) d)))) (J (Nat.beq y 0) none (so d))
def DW(kd:Bool)(j d y:Nat):ld:=J (J kd false (qC y)) [(Nat.add (Nat.add 23 (Nat.mul 2 j)) d,.tup [.atm (Nat.add 10 d) (yt y),.atm (Nat.add 30 d) (ys y),.atm (Nat.add 20 d) (yc y)])] []
def sO(kd:Bool)(d y:Nat)(z:Nat->AV):AV:=J (qC y) (J kd (.atm (Nat.add 10 d) (yt y)) (.atm (Nat.add 20 d) (yc y))) (z d)
def gn(kd:Bool)(d:Nat):AV:=J kd (.atm (Nat.add 10 d) 0) (.atm (Nat.add 20 d) 0)
def di(kd:Bool)(j m z y:Nat):AO:=let a:=J (there z) [(r0 j,gn kd 0)] [];let b:=J (there y) [(r1 j,gn kd 1)] [];.dict (e8 a b (ax a b) m)
def aM(d m:Nat):Bool:=@Nat.rec (λz=>Bool) (@Nat.rec (λz=>Bool) true (λn z=>Nat.beq n 1) m) (λz z=>Nat.blt 0 m) d
def cM(z y:AV)(j:Nat):iJ:=ax (cg z y) [(dy,.ref 254),(qp,.ref (Nat.add 60 j)),(lG,.int (.ofNat j)),(sB,.str (gH j))]
def aX(kd:Bool):AV:=J kd (.int 0) (.int 2)
def yI:ld:=[(51,.cell (some (.ref 3))),(52,.cell (some (.ref 37))),(37,.list [.ref 38,.ref 39,.ref 40,.ref 41])]
def u7(j m:Nat):ld:=[(Nat.add 38 j,.list (cf j m))]
def K4(j m:Nat):ld:=[(Nat.add 60 j,.inst 569 (Nat.add 64 j)),(Nat.add 68 j,.list (cf j m)),(Nat.add 72 j,.list [.str (gH j)]),(Nat.add 76 j,.list [])]
def K5(j:Nat):ld:=[(Nat.add 64 j,.dict (iB j .unk .unk))]
abbrev fD:EV Prop:=mU bo 60 12
def ig(p:Bool->Prop):Prop:=p true/\p false
def av8(p:Nat->Prop):Prop:=p 0/\p 1
def gJ(p:Nat->Prop):Prop:=p 0/\p 1/\p 2
def eM(p:Nat->Prop):Prop:=p 0/\p 1/\p 2/\p 3
def g9(l:List Nat)(p:Nat->Prop):Prop:=@List.rec Nat (λz=>Prop) True (λx z y=>p x/\y) l
def K6{R:Type}:XS R:=ac T5 (ac T6 ak)
def sP(kd:Bool)(j m y x:Nat)(z:wg):ld:=ax yI (ax (u7 j m) ((3,cG (a9 (a9 z (aZ j 1) (qB j 1 x z)) (aZ j 0) (qB j 0 y z)))::ax (u6 j 0 y) (u6 j 1 x)))
def DX(kd:Bool)(j m z y:Nat):ld:=[(59,di kd j m z y)]
def DY:on:=[(59,255)]
def DZ(j:Nat):aK:=⟨[(g8,.ref 59),(b5,.str gG)],bl⟩
def D1(w v:AV)(kd:Bool)(j m z y:Nat)(x:wg):Prop:=K6 fD ⟨cM w v j,bl⟩ (bM (sP kd j m z y x)) (yk DY .nxt (cM w v j) (DZ j) (sP kd j m z y x) (DX kd j m z y)) ia
def oL(Q:Bool->Nat->Nat->Nat->Nat->Prop):Prop:=ig λkd=>eM λj=>(g9 [7,5] λy=>Q kd j 0 y 6)/\(g9 [7,5] λy=>Q kd j 1 6 y)/\(g9 [7,5] λy=>g9 [7,5] λz=>Q kd j 2 y z)
theorem bp1:∀y z,D1 (aX true) y true 0 2 7 7 z=yl (cM (aX true) y 0) (sP true 0 2 7 7 z):=by intro y z;kernel_rfl
theorem Yz:∀w x,(oL λkd j m y z=>D1 (aX kd) w kd j m y z x)=(oL λkd j m y z=>yl (cM (aX kd) w j) (sP kd j m y z x)):=by intro w x;kernel_rfl
def D2{R:Type}:XS R:=ac A1 (ac A2 ak)
def oM(z y:AV)(j:Nat):iJ:=ax (cM z y j) [(g8,.ref 59)]
def YA(z y:AV)(j:Nat):aK:=⟨ax (oM z y j) [(b5,.str gG)],bl⟩
def D3(kd:Bool)(j m:Nat):ld:=ax oB (ax oG (ax oK (ax (K3 kd) (K4 j m))))
def yJ(kd:Bool)(j m z x:Nat)(w:Option AV)(y:wg):ld:=
 ax yI (ax (u7 j m)<|ax (D3 kd j m)<|(59,di kd j m z x)::(3,cG<|a9 (a9 (a9 y (Nat.add 3 j) w) (aZ j 1)<|qB j 1 x y) (aZ j 0)<|qB j 0 z y)::ax (u6 j 0 z) (u6 j 1 x))
def yK(j:Nat)(b:Bool):Option AV:=J b (some (.ref (Nat.add 7 j))) none
def K7(kd:Bool)(j m z y:Nat)(x:wg):ld:=yJ kd j m z y none x
def D4(kd:Bool)(j m z v:Nat)(y x:wg)(w:Nat->AV):ld:=ax (yJ kd j m z v (yK j true) y) [(14,dM (a9 x j none)),(42,dp (a9 w j .none))]
def D5(kd:Bool)(j m z y w:Nat)(v u so:wg)(t x:Nat->AV):ld:=ax (yJ kd j m z y (yK j true) v) (ax [(14,dM (a9 u j (some (.ref (Nat.add 15 j))))),(42,dp (a9 t j (.ref (Nat.add 43 j)))),(Nat.add 15 j,ie kd j (sN kd j 0 z so) (sN kd j 1 y so)),(Nat.add 19 j,.tup (cf j w)),(Nat.add 43 j,m_ j w (sO kd 0 z x) (sO kd 1 y x))]
 (ax (DW kd j 0 z)<|DW kd j 1 y))
def kK(m z y:Nat):Bool:=e8 (there z) (there y) (J (there z) (there y) false) m
def nc(kd:Bool)(y:Nat):Bool:=J (Nat.beq y 1) true (J kd false (Nat.beq y 4))
def same(kd:Bool)(m z y:Nat):Bool:=e8 (nc kd z) (nc kd y) (J (nc kd z) (nc kd y) false) m
def oN(c:Bool)(z:Bool):AV:=.str (J z (J c sE oA) gG)
def oO(y z:AV)(j:Nat)(S:ld)(st:AV):Prop:=D2 fD (YA y z j) (bM (ax (K5 j) S)) (yk [] .nxt (oM y z j) ⟨[(b5,st)],bl⟩ S (K5 j)) ia
def D6(z y:AV)(j:Nat)(S:ld):Prop:=yl (oM z y j) S
def D7(Q:AV->Nat->ld->AV->Prop)(x:wg):Prop:=oL λkd j m y z=>Q (aX kd) j (K7 kd j m y z x) (oN false (kK m y z))
def D8(Q:AV->Nat->ld->AV->Prop)(x w:wg)(v:Nat->AV):Prop:=oL λkd j m y z=>Q (aX kd) j (D4 kd j m y z x w v) (oN false (kK m y z))
def i2(kd:Bool)(d z:Nat):List Nat:=5::1::2::ax (J (aM d z) [] [0]) (J kd [] [3,4])
def u9(kd:Bool)(m x:Nat)(Q:Nat->Nat->Prop):Prop:=e8 (g9 (i2 kd 0 x) λy=>Q y 6) (g9 (i2 kd 1 x) λy=>Q 6 y) (g9 (i2 kd 0 x) λy=>g9 (J (Nat.beq y 5) [5,7] (i2 kd 1 x)) λz=>Q y z) m
def D9(Q:AV->Nat->ld->AV->Prop)(kd:Bool)(j:Nat)(w v so:wg)(u t:Nat->AV):Prop:=gJ λm=>gJ λx=>u9 kd m x λy z=>Q (aX kd) j (D5 kd j m y z x w v so u t) (oN (J (Nat.beq m x) (same kd m y z) false) (kK m y z))
theorem YB:∀x y,D7 (λw j S st=>oO w x j S st) y=D7 (λw j S z=>D6 w x j S) y:=by intro x y;kernel_rfl
theorem YC:∀u y x w,D8 (λv j S st=>oO v u j S st) y x w=D8 (λv j S z=>D6 v u j S) y x w:=by intro u y x w;kernel_rfl
def K8{R:Type}:XS R:=ac B1 (ac B2 ak)
def yL(j:Nat):ld:=ax oB (ax oK [(Nat.add 60 j,.inst 569 (Nat.add 64 j)),(Nat.add 64 j,.dict (iB j .unk .unk))])
def yM(j:Nat)(e:Bool)(z:wg)(y:Nat->AV):ld:=[(14,dM (a9 z j (J e (some (.ref (Nat.add 15 j))) none))),(42,dp y)]
def oP(j:Nat)(z:wg)(y:Nat->AV):ld:=[(14,dM (a9 z j none)),(42,dp (a9 y j .none))]
def u_(z y:AV)(j:Nat):iJ:=ax (cM z y j) [(b5,.str gG)]
def K9(x w:AV)(j:Nat)(e:Bool)(z:wg)(y:Nat->AV):Prop:=K8 fD ⟨u_ x w j,bl⟩ (bM (ax (yM j e z y) (yL j))) (ib bl (u_ x w j) [] (yL j) (oP j z y)) ia
theorem YD:∀w v y x,(eM λj=>ig λe=>K9 w v j e y x)=(eM λj=>ig λz=>iC bl (u_ w v j) [] (yL j) (oP j y x)):=by intro w v y x;kernel_rfl
def jx(z y:AV)(j:Nat):iJ:=ax (cM z y j) [(g8,.ref 59),(b5,.str oA)]
def K_(z y:AV)(j:Nat)(t:Int):Prop:=R1 fD ⟨jx z y j,bl⟩ (bM [(11,.list [.int t])]) (ib bl (jx z y j) [] [] [(11,.list [.int (Int.add t 1)])]) ia
theorem YE:∀z y t,(eM λj=>K_ z y j t)=(eM λj=>iC bl (jx z y j) [] [] [(11,.list [.int (Int.add t 1)])]):=by intro z y t;kernel_rfl
def La{R:Type}:XS R:=ac R2 (ac R3 ak)
def ve(d c:Nat):AO:=.tup [.atm (Nat.add 10 d) 0,.atm (Nat.add 30 d) 0,.int (.ofNat c)]
def j3(j m:Nat)(z:wg):Nat->Option AV:=a9 (a9 z (aZ j 1) (J (aM 1 m) (some (.ref (Nat.add 4 (aZ j 1)))) (z (aZ j 1)))) (aZ j 0) (J (aM 0 m) (some (.ref (Nat.add 4 (aZ j 0)))) (z (aZ j 0)))
def yN(j m z y:Nat):ld:=ax yI (ax (u7 j m) ((11,.list [.atm 40 0])::ax (J (aM 0 m) [(Nat.add 4 (aZ j 0),ve 0 z)] []) (J (aM 1 m) [(Nat.add 4 (aZ j 1),ve 1 y)] [])))
def Lc(j m:Nat)(z:wg):ld:=[(3,cG (j3 j m z))]
def e_(j m z y:Nat):Nat:=Nat.mod (e8 (Nat.add (Nat.mul j 2) z) (Nat.add (Nat.mul j 2) y) (Nat.add (Nat.mul (Nat.add (Nat.mul j 2) z) 2) y) m) 3
def yO(j m y x:Nat)(z:wg)(t:Nat):ld:=[(3,cG (a9 (j3 j m z) (Nat.add 3 j) (some (.ref t))))]
def yQ(c:Nat):AO:=.tup [.atm 40 0,.int (.ofNat (Nat.add 1 (Nat.mod c 2))),.int (.ofNat c)]
def D_(w v:AV)(j m z y:Nat)(x:wg)(t:Nat):Prop:=La fD ⟨jx w v j,bl⟩ (bM (ax (Lc j m x) (yN j m z y))) (ib bl (jx w v j) [] (yN j m z y) ((t,yQ (e_ j m z y))::yO j m z y x t)) ia
def YF(w v:AV)(j m z y:Nat)(x:wg)(t:Nat):Prop:=iC bl (jx w v j) [] (yN j m z y) ((t,yQ (e_ j m z y))::yO j m z y x t)
def yR(j m y:Nat)(z:Prop):Prop:=oq (.ofNat j) (e8 z z (oq (.ofNat (Nat.add (Nat.mul j 2) y)) z) m)
def Ea(Q:Nat->Nat->Nat->Nat->Prop):Prop:=eM λj=>(eM λc=>Q j 0 c 0)/\(eM λc=>Q j 1 0 c)/\(eM λc=>eM λd=>Q j 2 c d)
theorem YG:∀x y z,(Ea λj m c d=>D_ x y j m c d z 256)=(Ea λj m c d=>yR j m c (YF x y j m c d z 256)):=by intro x y z;kernel_rfl
def yT{R:Type}:XS R:=ac R4 (ac R5 (ac R6 ak))
def ng(z y:AV)(j:Nat):iJ:=cM z y j
def vf(z y:AV)(j:Nat):aK:=⟨ax (cM z y j) [(g8,.ref 59),(b5,.str oA)],bl⟩
def nh(kd:Bool)(j m:Nat)(z:wg):ld:=
 ax (D3 kd j m) ((Nat.add 64 j,.dict<|iB j .unk .unk)::(3,cG<|j3 j m z)::ax (J (aM 0 m) [(Nat.add 4<|aZ j 0,kJ 0)] []) (J (aM 1 m) [(Nat.add 4<|aZ j 1,kJ 1)] []))
def nw(kd:Bool)(d m y:Nat):Bool:=J kd false (J (aM d m) (J (Nat.beq y 1) false true) false)
def oQ(kd:Bool)(m x y d:Nat):Nat:=@Nat.rec (λz=>Nat) y (λz z=>Nat.add y (b2 (nw kd 0 m x))) d
def jy(kd:Bool)(m y x z:Nat):Nat:=Nat.add z (Nat.add (b2 (nw kd 0 m y)) (b2 (nw kd 1 m x)))
def YH(kd:Bool)(j m w v x d:Nat)(so:wg):Option AV:=let y:=@Nat.rec (λz=>Nat) w (λz z=>v) d
 J (aM d m) (some<|J kd (.atm (Nat.add 10 d) 0)<|.ref<|J (nw kd d m y) (oQ kd m w x d)<|Nat.add (Nat.add 23<|Nat.mul 2 j) d) (so d)
def Eb(kd:Bool)(m y x z:Nat):ld:=ax (J (nw kd 0 m y) [(oQ kd m y z 0,kJ 0)] []) (J (nw kd 1 m x) [(oQ kd m y z 1,kJ 1)] [])
def yV(j:Nat)(x:wg)(y:Nat->AV)(z:AO):ld:=[(14,dM (a9 x j none)),(42,dp y),(59,z)]
def Ld(kd:Bool)(j m:Nat)(vals z y:AV)(x:Nat):AO:=.dict (ax [(mW,vals),(mX,.str (J kd sG sF))] (ax (J (aM 0 m) [(r0 j,z)] []) (ax (J (aM 1 m) [(r1 j,y)] []) [(mY,.ref x)])))
def yW(kd:Bool)(m z d:Nat):AV:=J kd (.atm (Nat.add 10 d) 0) (.ref (oQ kd m 0 z d))
def Ec(kd:Bool)(j m:Nat)(x:wg)(y:Nat->AV)(z:AO):ld:=ax [(14,dM (a9 x j (some (.ref 255)))),(42,dp (a9 y j (.ref 59))),(255,Ld kd j m (.ref (Nat.add 80 j)) (yW kd m 256 0) (yW kd m 256 1) (jy kd m 0 0 256)),(jy kd m 0 0 256,.tup (cf j m)),(59,z)] (Eb kd m 0 0 256)
def Le(u v:AV)(kd:Bool)(j m:Nat)(y x:wg)(w:Nat->AV)(z:AO):Prop:=yT fD (vf u v j) (bM (ax (yV j x w z) (nh kd j m y))) (ib bl (ng u v j) [(b5,.str js)] (nh kd j m y) (Ec kd j m x w z)) ia
def YI(u v:AV)(kd:Bool)(j m:Nat)(y x:wg)(w:Nat->AV)(z:AO):Prop:=iC bl (ng u v j) [(b5,.str js)] (nh kd j m y) (Ec kd j m x w z)
theorem YJ:∀u v y x w z,(ig λkd=>eM λj=>gJ λm=>Le u v kd j m y x w z)=(ig λkd=>eM λj=>gJ λm=>YI u v kd j m y x w z):=by intro u v y x w z;kernel_rfl
def qD(kd:Bool)(y:Nat):Bool:=J kd false (J (Nat.beq y 1) true (Nat.beq y 2))
def qE(kd:Bool)(j d y:Nat)(so:wg):Option AV:=J (qD kd y) (some (.ref (Nat.add (Nat.add 23 (Nat.mul 2 j)) d))) (J (J kd false (Nat.beq y 0)) none (so d))
def qF(j d y:Nat):ld:=[(Nat.add (Nat.add 23 (Nat.mul 2 j)) d,.tup [.atm (Nat.add 10 d) (yt y),.atm (Nat.add 50 d) 0,.atm (Nat.add 60 d) 0])]
def yX(kd:Bool)(j z x:Nat)(so:wg)(w:Nat->AV)(y:AO):ld:=ax [(42,dp w),(Nat.add 15 j,ie kd j (qE kd j 0 z so) (qE kd j 1 x so)),(59,y)] (ax (J (qD kd z) (qF j 0 z) []) (J (qD kd x) (qF j 1 x) []))
def oR(kd:Bool)(j m:Nat)(y z:wg):ld:=(14,dM (a9 z j (some (.ref (Nat.add 15 j)))))::nh kd j m y
def vg(kd:Bool)(j:Nat)(vals:AV)(z y:Option AV)(x:Nat):AO:=.umap [(mW,some vals),(mX,some (.str (J kd sG sF))),(r0 j,z),(r1 j,y),(mY,some (.ref x))]
def lT(kd:Bool)(j m y x d:Nat)(so:wg):Option AV:=J (aM d m) (YH kd j m y x 255 d so) (qE kd j d (@Nat.rec (λz=>Nat) y (λz z=>x) d) so)
def yY(kd:Bool)(d m y:Nat):Bool:=J kd false (J (aM d m) (Nat.beq y 1) false)
def vh(kd:Bool)(j m z y:Nat)(so:wg)(w:Nat->AV)(x:AO):ld:=ax [(42,dp (a9 w j (.ref 59))),(Nat.add 15 j,vg kd j (.ref (Nat.add 80 j)) (lT kd j m z y 0 so) (lT kd j m z y 1 so) (jy kd m z y 255)),(jy kd m z y 255,.tup (cf j m)),(59,x)]
 (ax (Eb kd m z y 255)<|ax (J (yY kd 0 m z) (qF j 0 z) [])<|J (yY kd 1 m y) (qF j 1 y) [])
def Lg(t u:AV)(kd:Bool)(j m y s:Nat)(x w so:wg)(v:Nat->AV)(z:AO):Prop:=yT fD (vf t u j) (bM (ax (yX kd j y s so v z) (oR kd j m x w))) (ib bl (ng t u j) [(b5,.str js)] (oR kd j m x w) (vh kd j m y s so v z)) ia
def YK(t u:AV)(kd:Bool)(j m y s:Nat)(x w so:wg)(v:Nat->AV)(z:AO):Prop:=iC bl (ng t u j) [(b5,.str js)] (oR kd j m x w) (vh kd j m y s so v z)
def j5(Q:Bool->Nat->Nat->Nat->Nat->Prop):Prop:=eM λj=>(gJ λm=>Q true j m 6 6)/\(gJ λy=>Q false j 0 y 6)/\(gJ λy=>Q false j 1 6 y)/\(gJ λy=>gJ λz=>Q false j 2 y z)
theorem YL:∀t s w v so u x,(j5 λkd j m y z=>Lg t s kd j m y z w v so u x)=(j5 λkd j m y z=>YK t s kd j m y z w v so u x):=by intro t s w v so u x;kernel_rfl
def Ed(z y:AV):iJ:=ax (cg z y) [(dy,.none)]
def kL(l:Nat):List Nat:=cJ [0,1,2,3] [2] [3] (cJ [1,0] [0,1,2,3] [1,0] [2,1] (Nat.sub l 3)) l
def Ee(m:Nat->Nat):ld:=uS m
def kM(l:Nat)(m:Nat->Nat):Nat:=Nat.add 257 (len (iE (m 2) (m 3) (kL l)))
def Ef(l:Nat)(m:Nat->Nat):ld:=[(kM l m,.list (dE (iE (m 2) (m 3) (kL l))))]
def vk(z:AV)(l:Nat):iJ:=Ed z (.glo (fR l))
def YM(z:AV)(l:Nat)(m:Nat->Nat):Prop:=Dt fD ⟨vk z l,bl⟩ (bM (Ee m)) (ib bl (vk z l) [(uN,.ref (kM l m))] (Ee m) (Ef l m)) ia
def YN(z:AV)(l:Nat)(m:Nat->Nat):Prop:=iC bl (vk z l) [(uN,.ref (kM l m))] (Ee m) (Ef l m)
def yZ(Q:Nat->(Nat->Nat)->Prop):Prop:=g9 [0,1,2,3,4,5,6] λl=>gJ λy=>gJ λw=>gJ λz=>gJ λx=>Q l (cJ y w z x)
def j6(z y:AV):iJ:=ax (Ed z y) [(uN,.ref 58)]
def Eg(s:List Nat):ld:=[(56,.list (dE s)),(58,.list (dE (qv s)))]
def YO(z y:AV)(s:List Nat):Prop:=Du fD ⟨j6 z y,bl⟩ (bM (Eg s)) (ib bl (j6 z y) [] (Eg s) []) ia
def qG(l:List (List Nat))(p:List Nat->Prop):Prop:=@List.rec (List Nat) (λz=>Prop) True (λx z y=>p x/\y) l
def vm:List (List Nat):=[[],[0],[1],[2],[3],[0,1],[0,2],[0,3],[1,2],[1,3],[2,3],[0,1,2],[0,1,3],[0,2,3],[1,2,3],[0,1,2,3]]
def vn(y z:List Nat)(j:Nat):Bool:=J (a5 y j) (J (a5 z j) false true) false
def cH(po:wg):AO:=.umap [(97,po 0),(98,po 1),(99,po 2),(120,po 3),(121,po 4),(122,po 5),(119,po 6)]
def kO(y z:List Nat)(x:wg)(k:Nat):Option AV:=J (Nat.blt k 3) (x k) (J (a5 y (Nat.sub k 3)) (J (a5 z (Nat.sub k 3)) none (some (.atm (Nat.add 70 k) 0))) (x k))
def Eh(y z:List Nat)(x:wg)(k:Nat):Option AV:=J (Nat.blt k 3) (x k) (J (vn y z (Nat.sub k 3)) (some (.ref (Nat.add 4 k))) (x k))
def Lh(y z:List Nat)(x w:Nat->AV)(j:Nat):ld:=J (vn y z j) [(Nat.add 7 j,.tup [x j,w j,.atm (Nat.add 73 j) 0])] []
def vp(y z:List Nat)(w u:wg)(x v:Nat->AV):ld:=ax [(51,.cell (some (.ref 3))),(57,.list (dE z)),(58,.list (dE y)),(3,cG (Eh y z w)),(55,cH (kO y z u))] (jt (Lh y z x v))
def Ei(t u:AV)(y z:List Nat)(w s:wg)(x v:Nat->AV):Prop:=Dv fD ⟨j6 t u,bl⟩ (bM (vp y z w s x v)) (ib bl (j6 t u) [] (vp y z w s x v) []) ia
def YP(t u:AV)(y z:List Nat)(w s:wg)(x v:Nat->AV):Prop:=iC bl (j6 t u) [] (vp y z w s x v) []
def y3(Q:List Nat->List Nat->Prop):Prop:=qG vm λn=>qG j1 λf=>J (hV f n) (Q n f) True
def i3:iJ:=[(dw,.ref 3),(fO,.ref 37)]
def fb:on:=[(lF,120)]
def Li:Prop:=S0 (mU bo 60 11) ⟨i3,fb⟩ (bM [(120,.cell none)]) (ib fb i3 [] [] [(120,.cell (some (.ref 255))),(255,.dict [])]) ia
def Ej(p:Nat->Bool)(z:wg)(k:Nat):Option AV:=J (Nat.blt k 3) (J (p k) (some (.ref (Nat.add 4 k))) none) (z k)
def vu(p:Nat->Bool)(z y:Nat->AV)(k:Nat):ld:=J (p k) [(Nat.add 4 k,.tup [z k,y k,.atm (Nat.add 20 k) 0])] []
def y4(p:Nat->Bool)(x:wg)(z y:Nat->AV):ld:=(120,.cell (some (.ref 55)))::(3,cG (Ej p x))::ax (vu p z y 0) (ax (vu p z y 1) (vu p z y 2))
def ii(p:Nat->Bool)(k:Nat):Option AV:=J (Nat.blt k 3) (J (p k) (some (.atm (Nat.add 20 k) 0)) none) none
def Ek(p:Nat->Bool)(x:wg)(y w:Nat->AV):Prop:=S1 (mU bo 60 11) ⟨i3,fb⟩ (bM (ax [(55,cH λz=>none)] (y4 p x y w))) (ib fb i3 [] (y4 p x y w) [(55,cH (ii p))]) ia
def El(a b c:Bool)(k:Nat):Bool:=e8 a b c k
def y6(Q:(Nat->Bool)->Prop):Prop:=ig λa=>ig λb=>ig λc=>Q (El a b c)
def qH(y:Nat):Option AV:=@Nat.rec (λz=>Option AV) none (λn z=>some (.int (.ofNat n))) y
def oS(j:Nat):iJ:=ax i3 [(lG,.int (.ofNat j))]
def qI(j m y x:Nat)(z:wg):Nat->Option AV:=a9 (a9 z (aZ j 1) (J (aM 1 m) (qH x) (z (aZ j 1)))) (aZ j 0) (J (aM 0 m) (qH y) (z (aZ j 0)))
def sQ(j m:Nat):ld:=ax [(120,.cell (some (.ref 55))),(37,.list [.ref 38,.ref 39,.ref 40,.ref 41])] (u7 j m)
def pos(y:Nat):Bool:=Nat.blt 0 y
def oT(j m z y:Nat)(x:wg):Nat->Option AV:=J (e8 (pos z) (pos y) (J (pos z) (pos y) false) m) (a9 (qI j m z y x) (Nat.add 3 j) (some (.int (.ofNat (e_ j m (Nat.sub z 1) (Nat.sub y 1)))))) (qI j m z y x)
def Em(j m z x:Nat)(y:wg):Prop:=oy (mU bo 60 11) ⟨oS j,fb⟩ (bM (ax [(55,cH (qI j m z x y))] (sQ j m))) (ib fb (oS j) [] (sQ j m) [(55,cH (oT j m z x y))]) ia
def Lj(j m z y:Nat)(x:wg):Prop:=let u:=iC fb (oS j) [] (sQ j m) [(55,cH (oT j m z y x))];J (e8 (pos z) (pos y) (J (pos z) (pos y) false) m) (yR j m (Nat.sub z 1) u) u
def i4(p:Nat->Prop):Prop:=g9 [0,1,2,3,4] p
def y7(Q:Nat->Nat->Nat->Nat->Prop):Prop:=eM λj=>(i4 λy=>Q j 0 y 0)/\(i4 λy=>Q j 1 0 y)/\(i4 λy=>i4 λz=>Q j 2 y z)
theorem YQ:∀z y,(qG j1 λs=>YO z y s)=(qG j1 λs=>iC bl (j6 z y) [] (Eg s) []):=by intro z y;kernel_rfl
theorem YR:∀v w y u z x,(y3 λn f=>Ei v w n f y u z x)=(y3 λn f=>YP v w n f y u z x):=by intro v w y u z x;kernel_rfl
theorem YS:Li=iC fb i3 [] [] [(120,.cell (some (.ref 255))),(255,.dict [])]:=by kernel_rfl
theorem YT:∀x z y,(y6 λp=>Ek p x z y)=(y6 λp=>iC fb i3 [] (y4 p x z y) [(55,cH (ii p))]):=by intro x z y;kernel_rfl
theorem YU:∀x,(y7 λj m y z=>Em j m y z x)=(y7 λj m y z=>Lj j m y z x):=by intro x;kernel_rfl
theorem YV:∀z,(yZ λl m=>YM z l m)=(yZ λl m=>YN z l m):=by intro z;kernel_rfl
end
structure FV where
 t:Int
 c:Nat
structure EN where
 m:Nat
 s:Nat->Option FV
structure aH where
 fv:Nat->Option FV
 en:Nat->Option EN
 ck:Int
 ms:Nat->Nat
 kd:Bool
 tb:Bool
 xs:List Int
 rw:Option Nat
 mq:Option Nat
 lp:Bool
def c_(c:Nat):Int:=.ofNat (Nat.add 1 (Nat.mod c 2))
def dU(v:FV):AO:=.tup [.int v.t,.int (c_ v.c),.int (.ofNat v.c)]
def aB(st:aH)(k:Nat):Option AV:=(st.fv k).map λz=>.ref (Nat.add 4 k)
def a_(st:aH)(j:Nat):Option AV:=(st.en j).map λz=>.ref (Nat.add 15 j)
def bp(st:aH)(j:Nat):AV:=match st.en j with|none=>.none|some _=>.ref (Nat.add 43 j)
def bV(kd:Bool)(j d:Nat)(v:FV):AV:=J kd (.int v.t) (.ref (Nat.add (Nat.add 23 (Nat.mul 2 j)) d))
def gL(kd:Bool)(x:Option FV):AV:=match x with|some v=>J kd (.int v.t) (.int (.ofNat v.c))|none=>.none
def kP(kd:Bool)(j:Nat)(e:EN):AO:=ie kd j ((e.s 0).map (bV kd j 0)) ((e.s 1).map (bV kd j 1))
def qJ(j:Nat)(e:EN):AO:=.tup (cf j e.m)
def ni(kd:Bool)(j:Nat)(e:EN):AO:=m_ j e.m (gL kd (e.s 0)) (gL kd (e.s 1))
def i5(kd:Bool)(e:Option EN)(d:Nat):Option AO:=e.bind λe=>J kd none ((e.s d).map dU)
def Lb(st:aH):LL:=
 ax [(0,some<|.tab 478 8<|J st.tb (some 2) none),(1,some<|.frz<|st.xs.map .int),(2,J st.tb (some<|.code KJ) none),(3,some<|cG<|aB st),(4,(st.fv 0).map dU),(5,(st.fv 1).map dU),(6,(st.fv 2).map dU),(7,(st.fv 3).map dU),(8,(st.fv 4).map dU),(9,(st.fv 5).map dU),(10,(st.fv 6).map dU),(11,some<|.list [.int st.ck]),(12,some<|.inst 100 13),(13,some<|.dict [(DC,.ref 14)]),(14,some<|dM<|a_ st)]
  (ax [(15,(st.en 0).map<|kP st.kd 0),(16,(st.en 1).map<|kP st.kd 1),(17,(st.en 2).map<|kP st.kd 2),(18,(st.en 3).map<|kP st.kd 3),(19,(st.en 0).map<|qJ 0),(20,(st.en 1).map<|qJ 1),(21,(st.en 2).map<|qJ 2),(22,(st.en 3).map<|qJ 3),
   (23,i5 st.kd (st.en 0) 0),(24,i5 st.kd (st.en 0) 1),(25,i5 st.kd (st.en 1) 0),(26,i5 st.kd (st.en 1) 1),(27,i5 st.kd (st.en 2) 0),(28,i5 st.kd (st.en 2) 1),(29,i5 st.kd (st.en 3) 0),(30,i5 st.kd (st.en 3) 1)]
  [(35,some<|.inst (J st.kd 203 177) 36),(36,some<|.dict [(dw,.ref 3)]),(37,some<|.list [.ref 38,.ref 39,.ref 40,.ref 41]),(38,some<|.list<|cf 0<|st.ms 0),(39,some<|.list<|cf 1<|st.ms 1),(40,some<|.list<|cf 2<|st.ms 2),(41,some<|.list<|cf 3<|st.ms 3),
   (42,some<|dp<|bp st),(43,(st.en 0).map<|ni st.kd 0),(44,(st.en 1).map<|ni st.kd 1),(45,(st.en 2).map<|ni st.kd 2),(46,(st.en 3).map<|ni st.kd 3),(47,some<|.cell<|st.rw.map AV.str),(48,some<|.cell<|st.mq.map λm=>AV.int<|.ofNat m),(49,J st.lp (some<|.list<|cu (st.xs.map AV.int) 8) none)])
def a7(val:Nat->Option Nat)(k:Nat):Option AV:=(val k).map λc=>.int (.ofNat c)
def LB(st:aH)(val:Nat->Option Nat)(z nd:Option AO):LL:=
 ax (Lb st) (ax [(51,some<|.cell<|some<|.ref 3),(52,some<|.cell<|some<|.ref 37),(53,some<|.inst 363 54),(54,some<|.dict [(DB,.bool false),(jq,.ref 35),(Dz,.ref 12)]),(55,some<|cH<|a7 val),(58,nd),(59,z),
   (68,some<|.list<|cf 0<|st.ms 0),(69,some<|.list<|cf 1<|st.ms 1),(70,some<|.list<|cf 2<|st.ms 2),(71,some<|.list<|cf 3<|st.ms 3),(72,some<|.list [.str<|gH 0]),(73,some<|.list [.str<|gH 1]),(74,some<|.list [.str<|gH 2]),(75,some<|.list [.str<|gH 3]),(76,some<|.list []),(77,some<|.list []),(78,some<|.list []),(79,some<|.list [])]
  [(96,some<|.inst 714 97),(97,some<|.dict [(qo,.ref 98),(sC,.ref 99),(ye,.unk),(uP,.ref 100)])])
def bY(st:aH)(j d:Nat):FV:=(st.fv (aZ j d)).getD ⟨0,0⟩
def g_(st:aH)(j d:Nat):FV:=((st.en j).bind λe=>e.s d).getD ⟨0,0⟩
abbrev wB(st:aH)(val:Nat->Option Nat)(aJ nd:Option AO)(Cs:AH):Nat->Option AO:=cq true (LB st val aJ nd) Cs
def kQ(w:Nat->Option AO)(p N:Nat)(va:Nv)(q:Nat×AO):Prop:=q.1<254/\w q.1=some (aG (gD p N) va q.2)
def bS(w:Nat->Option AO)(p N:Nat)(va:Nv)(l:ld):Prop:=∀q∈l,kQ w p N va q
section
variable {w:Nat->Option AO}{p N:Nat}{va:Nv}
theorem bS.nil:bS w p N va []:=λz h=>by cases h
theorem bS.cons{q:Nat×AO}{l:ld}(h:kQ w p N va q)(t:bS w p N va l):bS w p N va (q::l):=λr m=>by
 exact bk m h λm=>(t r m)
theorem bS.app(h:bS w p N va a)(t:bS w p N va b):bS w p N va (ax a b):=λr m=>by
 rcases ct.mp m with m|m
 .exact h r m
 .exact t r m
theorem bS.cno(h:c=true->bS w p N va a):bS w p N va (J c a []):=by
 cases c with|true=>exact h rfl|false=>exact bS.nil
end
section
variable {st:aH}{val:Nat->Option Nat}{aJ nd:Option AO}{Cs:AH}{p N:Nat}{va:Nv}
theorem y8(h:k<7):wB st val aJ nd Cs (Nat.add 4 k)=(st.fv k).map dU:=by
 refine c7 (j:=k) ‹_› ?_ ?_ ?_ ?_ ?_ ?_ ?_<;>kernel_rfl
theorem Lk(h:j<4):wB st val aJ nd Cs (Nat.add 15 j)=(st.en j).map (kP st.kd j):=by
 refine c4 (j:=j) ‹_› ?_ ?_ ?_ ?_<;>kernel_rfl
theorem YW(h:j<4):wB st val aJ nd Cs (Nat.add 19 j)=(st.en j).map (qJ j):=by
 refine c4 (j:=j) ‹_› ?_ ?_ ?_ ?_<;>kernel_rfl
theorem Ll(h:j<4)(hd:d<2):wB st val aJ nd Cs (Nat.add (Nat.add 23 (Nat.mul 2 j)) d)=i5 st.kd (st.en j) d:=by
 rcases d with _|_|d<;>rcases j with _|_|_|_|k<;>first|(exact(by omega:False).elim)|kernel_rfl
theorem YX(h:j<4):wB st val aJ nd Cs (Nat.add 43 j)=(st.en j).map (ni st.kd j):=by
 refine c4 (j:=j) ‹_› ?_ ?_ ?_ ?_<;>kernel_rfl
theorem YY(h:j<4):wB st val aJ nd Cs (Nat.add 38 j)=some (.list (cf j (st.ms j))):=by
 refine c4 (j:=j) ‹_› ?_ ?_ ?_ ?_<;>kernel_rfl
theorem En:bS (wB st val aJ nd Cs) p N va yI:=.cons ⟨by decide,by kernel_rfl⟩ (.cons ⟨by decide,by kernel_rfl⟩ (.cons ⟨by decide,by kernel_rfl⟩ .nil))
theorem j7:(cf j m).map (av g va)=cf j m:=by
 rcases m with _|_|m<;>rfl
theorem Eo(z:j<4)(y:m=st.ms j):bS (wB st val aJ nd Cs) p N va (u7 j m):=by
 subst y;refine .cons ⟨(lin [j] 0x1267f2141264301101) z,(YY z).trans ?_⟩ .nil;show _=some (AO.list _);rw[j7]
theorem Ep(z:j<4)(hd:d<2):aZ j d<7:=by
 have y:∀j,j<4->∀d,d<2->aZ j d<7:=by decide +kernel
 exact y j z d hd
theorem vx(h:∀k,k<7->(po k).map (av (gD p N) va)=aB st k):kQ (wB st val aJ nd Cs) p N va (3,cG po):=by
 refine⟨by decide,?_⟩;have e:aG (gD p N) va (cG po)=cG (aB st):=by show AO.umap [(97,(po 0).map _),(98,(po 1).map _),(99,(po 2).map _),(120,(po 3).map _),(121,(po 4).map _),(122,(po 5).map _),(119,(po 6).map _)]=_;rw[h 0 (by decide),h 1 (by decide),h 2 (by decide),h 3 (by decide),h 4 (by decide),h 5 (by decide),h 6<|by decide];rfl
 rw[e];kernel_rfl
theorem i6(z:k<7):(aB st k).map (av (gD p N) va)=aB st k:=by
 delta aB;cases st.fv k with|none=>rfl|some v=>show some (AV.ref<|gD p N<|Nat.add 4 k)=_;rw[show gD p N (Nat.add 4 k)=Nat.add 4 k from aw<|by show 4+k<254;exact(lin [k] aH0) z];rfl
theorem i7(h:a=f k)i:a9 f k a i=f i:=by
 delta a9;rw[d6]
 by_cases q:i=k
 .rw[bR q,q];exact h
 .rw[cA q]
structure jz(st:aH)(va:Nv)(j d y):Prop where
 yes:there y=true->∃v,st.fv (aZ j d)=some v/\va (Nat.add 10 d) 0=v.t/\va (Nat.add 30 d) 0=c_ v.c/\va (Nat.add 20 d) 0=.ofNat v.c
 no:y=5->st.fv (aZ j d)=none
theorem vy(C:jz st va j d y):qB j d y (aB st)=aB st (aZ j d):=by
 delta qB;cases h:there y with
 |true=>obtain⟨v,e,_⟩:=C.yes h;(delta aB;rw[e]);try rfl
 |false=>
  rw[d6]
  by_cases q:y=5
  .rw[bR q];(delta aB;rw[C.no q]);try rfl
  .rw[cA q]
theorem y9(u:j<4)(hd:d<2)(C:jz st va j d y):bS (wB st val aJ nd Cs) p N va (u6 j d y):=.cno λh=>by
 obtain⟨v,e,e1,e2,x⟩:=C.yes h;have z:=Ep u hd;refine .cons ⟨(lin [aZ j d] aH0) z,(y8 z).trans ?_⟩ .nil;rw[e];show some (AO.tup [.int v.t,.int<|c_ v.c,.int<|.ofNat v.c])=some (AO.tup [.int<|va (Nat.add 10 d) 0,.int<|va (Nat.add 30 d) 0,.int<|va (Nat.add 20 d) 0]);rw[e1,e2,x]
end
section
open G
inductive lU:Nat->Nat->Nat->Prop where
 |a (y:Nat):y∈[7,5]->lU 0 y 6
 |b (y:Nat):y∈[7,5]->lU 1 6 y
 |c (y z:Nat):y∈[7,5]->z∈[7,5]->lU 2 y z
theorem nj(h:g9 l p):∀x∈l,p x:=by
 induction l with|nil=>intro x m;cases m|cons y l z=>intro x m;have h:p y/\g9 l p:=h;exact bk m h.1 λm=>(z h.2 x m)
theorem cN(h:∀x∈l,p x):g9 l p:=by
 induction l with|nil=>trivial|cons y l z=>exact⟨h y<|.head _,z λx m=>h x<|.tail _ m⟩
theorem jA{p:Nat->Prop}(h:eM p){j:Nat}(z:j<4):p j:=by
 exact c4 (j:=j) ‹_› h.1 h.2.1 h.2.2.1 h.2.2.2
theorem hB{p:Nat->Prop}(h:gJ p){j:Nat}(z:j<3):p j:=by
 exact c3 (j:=j) ‹_› h.1 h.2.1 h.2.2
theorem oU{p:Bool->Prop}(h:ig p)(b):p b:=by
 cases b
 .exact h.2
 .exact h.1
theorem y_{Q:Bool->Nat->Nat->Nat->Nat->Prop}(h:oL Q){kd:Bool}{j m y z:Nat}(w:j<4)(C:lU m y z):Q kd j m y z:=by
 obtain⟨u,v,t⟩:=jA (oU h kd) w;cases C with|a _ x=>exact nj u _ x|b _ x=>exact nj v _ x|c _ _ x s=>exact nj (nj t _ x) _ s
theorem za(h:∀kd j m y z,Q kd j m y z):oL Q:=
 ⟨⟨⟨cN λu u=>h _ _ _ _ _,cN λu u=>h _ _ _ _ _,cN λu u=>cN λu u=>h _ _ _ _ _⟩,⟨cN λu u=>h _ _ _ _ _,cN λu u=>h _ _ _ _ _,cN λu u=>cN λu u=>h _ _ _ _ _⟩,⟨cN λu u=>h _ _ _ _ _,cN λu u=>h _ _ _ _ _,cN λu u=>cN λu u=>h _ _ _ _ _⟩,⟨cN λu u=>h _ _ _ _ _,cN λu u=>h _ _ _ _ _,cN λu u=>cN λu u=>h _ _ _ _ _⟩⟩,
  ⟨⟨cN λu u=>h _ _ _ _ _,cN λu u=>h _ _ _ _ _,cN λu u=>cN λu u=>h _ _ _ _ _⟩,⟨cN λu u=>h _ _ _ _ _,cN λu u=>h _ _ _ _ _,cN λu u=>cN λu u=>h _ _ _ _ _⟩,⟨cN λu u=>h _ _ _ _ _,cN λu u=>h _ _ _ _ _,cN λu u=>cN λu u=>h _ _ _ _ _⟩,⟨cN λu u=>h _ _ _ _ _,cN λu u=>h _ _ _ _ _,cN λu u=>cN λu u=>h _ _ _ _ _⟩⟩⟩
theorem YZ(x:j<4)(C:lU m y z):D1 (aX kd) w kd j m y z fo:=
 y_ (by rw[Yz w fo];exact za λu u u u u=>sI) x C
def eO(F:aK)(z:iJ)(g:Nat->Nat)(va:Nv):Prop:=∀x a,ae z x=some a->∃y,ae F.loc x=some y/\cW y (av g va a)
theorem eO.f1(h:eO F z g va):∀x a,ae z x=some a->∃y,ae F.loc x=some y/\cW y (av g va a):=h
theorem af(h:p a=true)(t:aV p l=true):aV p (a::l)=true:=by
 show J (p a) (aV p l) false=true;rw[h];exact t
theorem da:aV p []=true:=rfl
theorem dO:∀{l:List z},(∀x∈l,p x=true)->aV p l=true
 | [],_=>rfl
 |_::_,h=>af (h _<|.head _)<|dO λx m=>h x<|.tail _ m
def b6(q:Nat×Option AO):Bool:=ad q.2 true λo=>dT (dj q.1) o
theorem zb:aV (bh r) (cf j m)=true:=by rcases m with _|_|m<;>rfl
theorem zc:∀{l:List z}{n:Nat},a∈cu l n->a∈l
 | [],_,h=>h
 |x::l,0,h=>by cases h
 |x::l,n+1,h=>by
  refine bk (show a∈x::cu l n from h) ?_ λh=>?_
  .exact .head _
  .exact .tail _<|zc h
theorem kR{st:aH}(y:b6 (59,aJ)=true)(X:b6 (58,nd)=true):h_ (LB st val aJ nd)=true:=by
 have Z:b6 (1,some<|.frz<|st.xs.map .int)=true:=by exact dO λx m=>by obtain⟨i,_,rfl⟩:=List.mem_map.mp m;rfl
 have b:b6 (3,some<|cG<|aB st)=true:=by
  show aV (λq:Nat×Option AV=>ad q.2 true<|bh<|dj 3) [(97,aB st 0),(98,aB st 1),(99,aB st 2),(120,aB st 3),(121,aB st 4),(122,aB st 5),(119,aB st 6)]=true;refine af ?_<|af ?_<|af ?_<|af ?_<|af ?_<|af ?_<|af ?_ da
  .show ad (aB st 0) true (bh<|dj 3)=true;delta aB;cases st.fv 0<;>kernel_rfl
  .show ad (aB st 1) true (bh<|dj 3)=true;delta aB;cases st.fv 1<;>kernel_rfl
  .show ad (aB st 2) true (bh<|dj 3)=true;delta aB;cases st.fv 2<;>kernel_rfl
  .show ad (aB st 3) true (bh<|dj 3)=true;delta aB;cases st.fv 3<;>kernel_rfl
  .show ad (aB st 4) true (bh<|dj 3)=true;delta aB;cases st.fv 4<;>kernel_rfl
  .show ad (aB st 5) true (bh<|dj 3)=true;delta aB;cases st.fv 5<;>kernel_rfl
  .show ad (aB st 6) true (bh<|dj 3)=true;delta aB;cases st.fv 6<;>kernel_rfl
 have c:b6 (14,some<|dM<|a_ st)=true:=by
  show aV (λq:Nat×Option AV=>ad q.2 true<|bh<|dj 14) [(12612,a_ st 0),(12868,a_ st 1),(13124,a_ st 2),(13380,a_ st 3)]=true;refine af ?_<|af ?_<|af ?_<|af ?_ da
  .show ad (a_ st 0) true (bh<|dj 14)=true;delta a_;cases st.en 0<;>kernel_rfl
  .show ad (a_ st 1) true (bh<|dj 14)=true;delta a_;cases st.en 1<;>kernel_rfl
  .show ad (a_ st 2) true (bh<|dj 14)=true;delta a_;cases st.en 2<;>kernel_rfl
  .show ad (a_ st 3) true (bh<|dj 14)=true;delta a_;cases st.en 3<;>kernel_rfl
 have S:b6 (42,some<|dp<|bp st)=true:=by
  refine af ?_<|af ?_<|af ?_<|af ?_ da
  .show bh (dj 42) (bp st 0)=true;delta bp;cases st.en 0<;>kernel_rfl
  .show bh (dj 42) (bp st 1)=true;delta bp;cases st.en 1<;>kernel_rfl
  .show bh (dj 42) (bp st 2)=true;delta bp;cases st.en 2<;>kernel_rfl
  .show bh (dj 42) (bp st 3)=true;delta bp;cases st.en 3<;>kernel_rfl
 have a:b6 (55,some<|cH<|a7 val)=true:=by
  have h:∀k,ad (a7 val k) true (bh<|dj 55)=true:=λk=>by delta a7;cases val k<;>rfl
  show aV (λq:Nat×Option AV=>ad q.2 true<|bh<|dj 55) [(97,a7 val 0),(98,a7 val 1),(99,a7 val 2),(120,a7 val 3),(121,a7 val 4),(122,a7 val 5),(119,a7 val 6)]=true;exact af (h 0)<|af (h 1)<|af (h 2)<|af (h 3)<|af (h 4)<|af (h 5)<|af (h 6) da
 have p:∀j,j<4->b6 (Nat.add 15 j,(st.en j).map<|kP st.kd j)=true:=λj R=>by
  cases st.en j with|none=>rfl|some e=>
   show aV (λq:Nat×Option AV=>ad q.2 true<|bh<|dj<|Nat.add 15 j) [(mW,some .unk),(mX,some<|.str<|J st.kd sG sF),(r0 j,(e.s 0).map<|bV st.kd j 0),(r1 j,(e.s 1).map<|bV st.kd j 1),(mY,some<|.ref<|Nat.add 19 j)]=true;have f:∀d,d<2->ad ((e.s d).map<|bV st.kd j d) true (bh<|dj<|Nat.add 15 j)=true:=λd hd=>by
    cases e.s d with|none=>rfl|some v=>
     cases st.kd
     .rcases j with _|_|_|_|j<;>rcases d with _|_|d<;>first|(exact(by omega:False).elim)|kernel_rfl
     .rfl
   refine af rfl (af rfl (af (f 0<|by decide) (af (f 1<|by decide)<|af ?_ da)));refine c4 (j:=j) ‹_› ?_ ?_ ?_ ?_<;>kernel_rfl
 have r:∀j,b6 (Nat.add 19 j,(st.en j).map<|qJ j)=true:=λj=>by
  cases st.en j with|none=>rfl|some e=>exact zb
 have u:∀j d,b6 (Nat.add (Nat.add 23<|Nat.mul 2 j) d,i5 st.kd (st.en j) d)=true:=λj d=>by
  delta i5;cases st.en j with|none=>rfl|some e=>
   cases st.kd
   .show b6 (_,(e.s d).map dU)=true;cases e.s d<;>rfl
   .rfl
 have t:∀j,b6 (Nat.add 43 j,(st.en j).map<|ni st.kd j)=true:=λj=>by
  cases st.en j with|none=>rfl|some e=>
   have o:∀x,bh (dj<|Nat.add 43 j) (gL st.kd x)=true:=λx=>by cases x<;>cases st.kd<;>rfl
   show dT _ (m_ j e.m _ _)=true;delta m_;rcases e.m with _|_|m
   .exact af (o _) da
   .exact af (o _) da
   .exact af (o _)<|af (o _) da
 have w:∀j i,b6 (i,some<|.list<|cf j<|st.ms j)=true:=λz z=>zb;have n:b6 (47,some<|.cell<|st.rw.map AV.str)=true:=by cases st.rw<;>rfl
 have g:b6 (48,some<|.cell<|st.mq.map λm=>AV.int<|.ofNat m)=true:=by cases st.mq<;>rfl
 have l:b6 (49,J st.lp (some<|.list<|cu (st.xs.map AV.int) 8) none)=true:=by
  cases st.lp with|false=>rfl|true=>show aV (bh<|dj 49) (cu (st.xs.map AV.int) 8)=true;exact dO λx m=>by obtain⟨i,_,rfl⟩:=List.mem_map.mp<|zc m;rfl
 refine af (by cases st.tb<;>kernel_rfl) (af (Z) (af (by cases st.tb<;>kernel_rfl) (af (b) (af (by cases st.fv 0<;>kernel_rfl) (af (by cases st.fv 1<;>kernel_rfl) (af (by cases st.fv 2<;>kernel_rfl) (af (by cases st.fv 3<;>kernel_rfl) (af (by cases st.fv 4<;>kernel_rfl) (af (by cases st.fv 5<;>kernel_rfl) (af (by cases st.fv 6<;>kernel_rfl) (af (by kernel_rfl) (af (by kernel_rfl) (af (by kernel_rfl) (af (c) (af (p 0<|by decide) (af (p 1<|by decide) (af (p 2<|by decide) (af (p 3<|by decide) (af (r 0) (af (r 1) (af (r 2) (af (r 3) (af (u 0 0) (af (u 0 1) (af (u 1 0) (af (u 1 1) (af (u 2 0) (af (u 2 1) (af (u 3 0) (af (u 3 1) (af (by cases st.kd<;>kernel_rfl) (af (by kernel_rfl) (af (by kernel_rfl) (af (w 0 _) (af (w 1 _) (af (w 2 _) (af (w 3 _) (af (S) (af (t 0) (af (t 1) (af (t 2) (af (t 3) (af n (af g (af l (af (by kernel_rfl) (af (by kernel_rfl) (af (by kernel_rfl) (af (by kernel_rfl) (af (a) (af (X) (af (y) (af (w 0 _) (af (w 1 _) (af (w 2 _) (af (w 3 _) (af (by kernel_rfl) (af (by kernel_rfl) (af (by kernel_rfl) (af (by kernel_rfl) (af (by kernel_rfl) (af (by kernel_rfl) (af (by kernel_rfl) (af (by kernel_rfl) (af (by kernel_rfl) (af (by kernel_rfl)<|rfl))))))))))))))))))))))))))))))))))))))))))))))))))))))))))))))))))
theorem dc(h:i<254):gD p N i=i:=aw h
theorem kS(e:ae bl x=some i):i<254:=by
 refine gQ ((bA e)) ?_ λh=>?_
 .decide
 .refine eW h ?_;decide
theorem Y0(w:j<4)(C:lU m y z):sJ true DY .nxt (cM (aX kd) (.glo v) j) (DZ j) (sP kd j m y z x) [] (DX kd j m y z) []=true:=by
 have h:(oL λkd j m y z=>sJ true DY .nxt (cM (aX kd) (.glo v) j) (DZ j) (sP kd j m y z x) [] (DX kd j m y z) []=true)=(oL λu u u u u=>true=true):=by kernel_rfl
 exact y_ (by rw[h];exact za λu u u u u=>rfl) w C
theorem Y1{st:aH}(s:aR S (wB st val d nd m) m.n H)(O:d7 m)(t:254<=p)(b:p<m.n)(inj:∀k x y,va k x=va k y->x=y)(l:j<4)(C:lU (st.ms j) y z)(R:jz st va j 0 y)(a:jz st va j 1 z)(Q:eO F (cM (aX st.kd) (.glo A) j) (gD p m.n) va)(hc:∀x i,ae bl x=some i->ae F.cel x=some i)(f:b6 (59,d)=true)(X:b6 (58,nd)=true)(w:∀r g,aR r (wB st val (some (aG (gD p m.n) va (di st.kd j (st.ms j) y z))) nd m) m.n g->(∀i,i<m.n->i≠59->r i=S i)->k .nxt (ar r v0 (ar (gD p m.n) va ⟨ax (cM (aX st.kd) (.glo A) j) [(g8,.ref 59),(b5,.str gG)],bl⟩)) g):cX (λp=>p) fD K6 False (ar S v0 F) H k:=by
 refine KD (O:=[]) s t b inj (λq c=>?_) Q.f1 (λx i e=>?_) (YZ (fo:=aB st) l C) (Y0 l C) (λq c h=>?_) (kR f X) (λu i o e j v=>(O.ref i o e j v).1) ?_ λr g N Z=>w r g N λi E h=>Z i E ?_
 .refine bS.app En (bS.app (Eo l rfl) (.cons (vx λk P=>?_) (.app (y9 l (by decide) R) (y9 l (by decide) a)))) q c;rw[i7 (by rw[vy R,i7<|vy a]),i7<|vy a,i6 P]
 .rw[dc<|kS e];exact hc x i e
 .cases List.mem_singleton.mp c;cases h
 .kernel_rfl
 .show J (Nat.beq 59 i) (some 255) none=none;rw[d6,cA λe=>h e.symm]
structure ij(Cs:AH)j:Prop where
 inst:Cs.get (Nat.add 60 j)=some (.inst 569<|Nat.add 64 j)
 dict:Cs.get (Nat.add 64 j)=some (.dict<|iB j .unk .unk)
section
variable {st:aH}{val:Nat->Option Nat}{aJ nd:Option AO}{Cs:AH}{p N:Nat}{va:Nv}
theorem vz(h:eK i=true):wB st val aJ nd Cs i=(Cs.get i).map (aG bE v0):=by
 show J (J true (eK i) false) _ _=_;rw[h]
theorem Lm(y:j<4)(z:ij Cs j):kQ (wB st val aJ nd Cs) p N va (Nat.add 60 j,.inst 569 (Nat.add 64 j)):=by
 refine⟨(lin [j] 0x1267f21413c4301101) y,?_⟩;have x:eK (Nat.add 60 j)=true:=by refine c4 (j:=j) ‹_› ?_ ?_ ?_ ?_<;>rfl
 rw[vz x,z.inst];show some (AO.inst 569<|Nat.add 64 j)=some (AO.inst 569<|gD p N<|Nat.add 64 j);rw[dc<|by exact(lin [j] 0x1267f2141404301101) y]
theorem Ln(h:∀i,i<254->g i=i)(z:j<4):(iB j .unk .unk).map (λq=>(q.1,av g va q.2))=iB j .unk .unk:=by
 have e:∀n,n+j<254->g (Nat.add n j)=Nat.add n j:=λn y=>h _ y;show[_,_,(_,.ref<|g<|Nat.add 92 j),_,_,(_,.ref<|g<|Nat.add 68 j),(_,.ref<|g<|Nat.add 84 j),_,(_,.ref<|g<|Nat.add 88 j),_,_,(_,.ref<|g<|Nat.add 76 j),(_,.ref<|g<|Nat.add 72 j),_,_,_,(_,.ref<|g<|Nat.add 80 j),_]=iB j .unk .unk;rw[e 92<|(lin [j] 0x1267f21415c4301101) z,e 68<|(lin [j] 0x1267f2141444301101) z,e 84<|(lin [j] 0x1267f2141544301101) z,e 88<|(lin [j] 0x1267f2141584301101) z,e 76<|(lin [j] 0x1267f21414c4301101) z,e 72<|(lin [j] 0x1267f2141484301101) z,e 80<|(lin [j] 0x1267f2141504301101) z];rfl
theorem zd(x:j<4)(y:ij Cs j):kQ (wB st val aJ nd Cs) p N va (Nat.add 64 j,.dict (iB j .unk .unk)):=by
 refine⟨(lin [j] 0x1267f2141404301101) x,?_⟩;have w:eK (Nat.add 64 j)=true:=by refine c4 (j:=j) ‹_› ?_ ?_ ?_ ?_<;>rfl
 rw[vz w,y.dict];show some (AO.dict _)=some (AO.dict _);rw[Ln (λz z=>rfl) x,Ln (λz h=>dc h) x]
theorem Y2(y:j<4)(x:m=st.ms j)(z:ij Cs j):bS (wB st val aJ nd Cs) p N va (K4 j m):=by
 subst x;refine .cons (Lm y z)<|.cons ⟨(lin [j] 0x1267f2141444301101) y,?_⟩<|.cons ⟨(lin [j] 0x1267f2141484301101) y,?_⟩<|.cons ⟨(lin [j] 0x1267f21414c4301101) y,?_⟩ .nil
 .show _=some (AO.list _);rw[j7];refine c4 (j:=j) ‹_› ?_ ?_ ?_ ?_<;>kernel_rfl
 .refine c4 (j:=j) ‹_› ?_ ?_ ?_ ?_<;>kernel_rfl
 .refine c4 (j:=j) ‹_› ?_ ?_ ?_ ?_<;>kernel_rfl
theorem Lp:bS (wB st val aJ nd Cs) p N va oB:=.cons ⟨by decide,by kernel_rfl⟩ (.cons ⟨by decide,by kernel_rfl⟩ .nil)
theorem Y3:bS (wB st val aJ nd Cs) p N va oG:=.cons ⟨by decide,by kernel_rfl⟩ (.cons ⟨by decide,by kernel_rfl⟩ .nil)
theorem Lq:bS (wB st val aJ nd Cs) p N va oK:=.cons ⟨by decide,by kernel_rfl⟩ (.cons ⟨by decide,by kernel_rfl⟩ .nil)
theorem Y4:bS (wB st val aJ nd Cs) p N va (K3 st.kd):=.cons ⟨by decide,by kernel_rfl⟩ (.cons ⟨by decide,by kernel_rfl⟩ .nil)
theorem Lr(y:j<4)(x:m=st.ms j)(z:ij Cs j):bS (wB st val aJ nd Cs) p N va (D3 st.kd j m):=.app Lp (.app Y3 (.app Lq (.app Y4 (Y2 y x z))))
theorem nk(z:k<4):(a_ st k).map (av (gD p N) va)=a_ st k:=by
 delta a_;cases st.en k with|none=>rfl|some v=>show some (AV.ref<|gD p N<|Nat.add 15 k)=_;rw[dc<|by exact(lin [k] aE0) z];rfl
theorem lV(z:k<4):av (gD p N) va (bp st k)=bp st k:=by
 delta bp;cases st.en k with|none=>rfl|some v=>show AV.ref (gD p N<|Nat.add 43 k)=_;rw[dc<|by exact(lin [k] aK0) z]
theorem sR(h:∀k,k<4->(po k).map (av (gD p N) va)=a_ st k):kQ (wB st val aJ nd Cs) p N va (14,dM po):=by
 refine⟨by decide,?_⟩;have e:aG (gD p N) va (dM po)=dM (a_ st):=by show AO.umap [(12612,(po 0).map _),(12868,(po 1).map _),(13124,(po 2).map _),(13380,(po 3).map _)]=_;rw[h 0 (by decide),h 1 (by decide),h 2 (by decide),h 3<|by decide];rfl
 rw[e];kernel_rfl
theorem sS(h:∀k,k<4->av (gD p N) va (po k)=bp st k):kQ (wB st val aJ nd Cs) p N va (42,dp po):=by
 refine⟨by decide,?_⟩;have e:aG (gD p N) va (dp po)=dp (bp st):=by show AO.list [av _ _<|po 0,av _ _<|po 1,av _ _<|po 2,av _ _<|po 3]=_;rw[h 0 (by decide),h 1 (by decide),h 2 (by decide),h 3<|by decide];rfl
 rw[e];kernel_rfl
theorem Ls{b:Nat->AV}(z:av g va a=b k)i(h:av g va (f i)=b i):av g va (a9 f k a i)=b i:=by
 delta a9;rw[d6]
 by_cases q:i=k
 .rw[bR q,q];exact z
 .rw[cA q];exact h
theorem sT{a:Option AV}{b:wg}(z:a.map (av g va)=b k)i(h:(f i).map (av g va)=b i):(a9 f k a i).map (av g va)=b i:=by
 delta a9;rw[d6]
 by_cases q:i=k
 .rw[bR q,q];exact z
 .rw[cA q];exact h
structure kT kd(va:Nv)(e:EN)(d y):Prop where
 yes:qC y=true->∃u,e.s d=some u/\va (Nat.add 10 d) (yt y)=u.t/\(kd=false->va (Nat.add 30 d) (ys y)=c_ u.c/\va (Nat.add 20 d) (yc y)=.ofNat u.c)
 no:y=0->e.s d=none
theorem Lu(w:j<4)(hd:d<2)(C:kT st.kd va e d y):(sN st.kd j d y λd=>(e.s d).map (bV st.kd j d)).map (av (gD p N) va)=(e.s d).map (bV st.kd j d):=by
 have x:gD p N (Nat.add (Nat.add 23<|Nat.mul 2 j) d)=Nat.add (Nat.add 23<|Nat.mul 2 j) d:=dc<|(lin [j,d] aL0) w hd;have z:((e.s d).map<|bV st.kd j d).map (av (gD p N) va)=(e.s d).map (bV st.kd j d):=by
  cases e.s d with|none=>rfl|some u=>
   show some (av _ _<|bV st.kd j d u)=some (bV st.kd j d u);delta bV;cases st.kd with|true=>rfl|false=>show some (AV.ref<|gD p N _)=_;rw[x]
 delta sN;cases h:qC y with
 |true=>
  obtain⟨u,e1,e2,_⟩:=C.yes h;rw[e1];show some (av _ _ _)=some (bV st.kd j d u);delta bV;cases st.kd with
  |true=>show some (AV.int<|va _ _)=some (AV.int _);rw[e2]
  |false=>show some (AV.ref<|gD p N _)=_;rw[x]
 |false=>
  rw[d6]
  by_cases q:y=0
  .rw[bR q,C.no q];rfl
  .rw[cA q];exact z
theorem Lv(C:kT st.kd va e d y):av (gD p N) va (sO st.kd d y λd=>gL st.kd (e.s d))=gL st.kd (e.s d):=by
 delta sO;cases h:qC y with
 |true=>
  obtain⟨u,e1,e2,z⟩:=C.yes h;rw[e1];delta gL;cases q:st.kd with|true=>show AV.int (va _ _)=AV.int _;rw[e2]|false=>show AV.int (va _ _)=AV.int _;rw[(z q).2]
 |false=>
  show av _ _ (gL st.kd<|e.s d)=_;delta gL;cases e.s d with|none=>rfl|some u=>cases st.kd<;>rfl
theorem Y5(x:j<4)(v:st.en j=some e)(w:kT st.kd va e 0 y)(u:kT st.kd va e 1 z):kQ (wB st val aJ nd Cs) p N va (Nat.add 15 j,ie st.kd j (sN st.kd j 0 y λd=>(e.s d).map (bV st.kd j d)) (sN st.kd j 1 z λd=>(e.s d).map (bV st.kd j d))):=by
 refine⟨(lin [j] aE0) x,(Lk x).trans ?_⟩;rw[v];show some (kP st.kd j e)=some (AO.umap [(mW,some .unk),(mX,some<|av _ _<|.str _),(r0 j,_),(r1 j,_),(mY,some<|.ref<|gD p N<|Nat.add 19 j)]);rw[Lu x (by decide) w,Lu x (by decide) u,dc<|by exact(lin [j] aO0) x];rfl
theorem Y6(z:j<4)(y:st.en j=some e):kQ (wB st val aJ nd Cs) p N va (Nat.add 19 j,.tup (cf j e.m)):=by
 refine⟨(lin [j] aO0) z,(YW z).trans ?_⟩;rw[y];show some (AO.tup _)=some (AO.tup _);rw[j7]
theorem Y7(x:j<4)(v:st.en j=some e)(w:kT st.kd va e 0 y)(u:kT st.kd va e 1 z):kQ (wB st val aJ nd Cs) p N va (Nat.add 43 j,m_ j e.m (sO st.kd 0 y λd=>gL st.kd (e.s d)) (sO st.kd 1 z λd=>gL st.kd (e.s d))):=by
 refine⟨(lin [j] aK0) x,(YX x).trans ?_⟩;rw[v];show some (m_ j e.m (gL st.kd<|e.s 0)<|gL st.kd<|e.s 1)=some _;rw[<-Lv w,<-Lv u];delta m_;rcases e.m with _|_|m<;>rfl
theorem Lw(w:j<4)(hd:d<2)(v:st.en j=some e)(C:kT st.kd va e d y):bS (wB st val aJ nd Cs) p N va (DW st.kd j d y):=.cno λh=>by
 have z:st.kd=false:=by cases q:st.kd with|false=>rfl|true=>rw[q] at h;cases h
 rw[z] at h;obtain⟨u,e1,e2,x⟩:=C.yes h;obtain⟨x,t⟩:=x z;refine .cons ⟨(lin [j,d] aL0) w hd,(Ll w hd).trans ?_⟩ .nil;delta i5;rw[z,v];show(e.s d).map dU=some (AO.tup [.int<|va _ _,.int<|va _ _,.int<|va _ _]);rw[e1,e2,x,t];rfl
end
end
theorem Y8:∀t y x so w v,(ig λkd=>eM λj=>D9 (λu j S st=>oO u t j S st) kd j y x so w v)=(ig λkd=>eM λj=>D9 (λu j S z=>D6 u t j S) kd j y x so w v):=by intro t y x so w v;kernel_rfl
section
open G
theorem Y9(v:j<4){p:AV->Bool}(z:∀i,i<255->p (.ref i)=true)(y:∀x,(∀i,x≠.ref i)->p x=true)(h:aV (λq=>p q.2) a=true):aV (λq=>p q.2) (ax (cM (aX kd) (.glo u) j) a)=true:=by
 have w:p (aX kd)=true:=y _ λi e=>by cases kd<;>cases e
 refine af (z _<|by decide) (af (z _<|by decide) (af w (af (z _<|by decide) (af (z _<|by decide) (af (y _ λi e=>by cases e) (af (z _<|by decide) (af (z _<|by decide) (af (z _<|by decide) (af (z _<|by decide) (af (z _<|by decide) (af (z _<|by decide)
  (af (z _<|by decide) (af (z _<|(lin [j] 0x1267fa1413c4301101) v) (af (y _ λi e=>by cases e) (af (y _ λi e=>by cases e) h)))))))))))))))
section
variable {fl:Nat->Nat}{st:aH}{val:Nat->Option Nat}{aJ nd:Option AO}{Cs:AH}{H:AH}{F:aK}{p:Nat}{va:Nv}
theorem Er(s:aR fl (wB st val aJ nd Cs) Cs.n H)(O:d7 Cs)(t:254<=p)(d:p<Cs.n)(inj:∀k x y,va k x=va k y->x=y)(X:j<4)(r:ij Cs j)(N:bS (wB st val aJ nd Cs) p Cs.n va S)(u:oO (aX st.kd) (.glo g) j S (.str c))(R:eO F (ax (oM (aX st.kd) (.glo g) j) [(b5,.str gG)]) (gD p Cs.n) va)(E:∀x i,ae bl x=some i->ae F.cel x=some i)(f:b6 (59,aJ)=true)(a:b6 (58,nd)=true)(w:∀m l,aR m (wB st val aJ nd Cs) Cs.n l->(∀i,i<Cs.n->m i=fl i)->k .nxt (ar m v0 (ar (gD p Cs.n) va ⟨ax (oM (aX st.kd) (.glo g) j) [(b5,.str c)],bl⟩)) l):cX (λp=>p) fD D2 False (ar fl v0 F) H k:=by
 refine KD s t d inj (dr:=[]) (bS.app (.cons (zd X r) .nil) N) R.f1 (λx i e=>?_) u ?_ (λq Q h=>?_) (kR f a) (λz i o e j v=>(O.ref i o e j v).1) ?_ λm l P b=>w m l P λi Z=>b i Z rfl
 .rw[dc<|kS e];exact E x i e
 .refine af rfl<|af ?_<|af rfl<|af rfl<|af rfl<|af ?_<|af ?_<|af ?_<|af rfl<|af rfl rfl
  .have Y:oM (aX st.kd) (.glo g) j=ax (cM (aX st.kd) (.glo g) j) [(g8,.ref 59)]:=rfl;rw[Y];refine Y9 X (λi Z=>?_) (λx hx=>?_) rfl
   .show J (Nat.ble i 254) true false=true;rw[show Nat.ble i 254=true from Nat.ble_eq_true_of_le<|(lin [i] 0x49bfc80b3fd01) Z]
   .cases x<;>first|rfl|exact aP rfl<|hx _
  .refine c4 (j:=j) ‹_› ?_ ?_ ?_ ?_<;>kernel_rfl
  .exact dO λz z=>rfl
  .refine c4 (j:=j) ‹_› ?_ ?_ ?_ ?_<;>kernel_rfl
 .clear h;refine dJ Q ?_;exact(zd X r).2
 .refine c4 (j:=j) ‹_› ?_ ?_ ?_ ?_<;>kernel_rfl
theorem Es(w:j<4)(u:m=st.ms j)(x:ij Cs j)(t:jz st va j 0 y)(s:jz st va j 1 z)(q:ot=aB st (Nat.add 3 j))(v:aJ=some (aG (gD p Cs.n) va (di st.kd j m y z))):bS (wB st val aJ nd Cs) p Cs.n va (yJ st.kd j m y z ot (aB st)):=by
 refine .app En (.app (Eo w u) (.app (Lr w u x) (.cons ⟨by decide,?_⟩ (.cons (vx λk r=>?_) (.app (y9 w (by decide) t) (y9 w (by decide) s))))))
 .subst v;kernel_rfl
 .have e1:=i7 q;have e2:∀i,a9 (a9 (aB st) (Nat.add 3 j) ot) (aZ j 1) (qB j 1 z<|aB st) i=aB st i:=λi=>by rw[i7 (by rw[vy s,e1]),e1]
  rw[i7 (by rw[vy t,e2]),e2,i6 r]
theorem Y_(w:j<4)(C:lU m y z):oO (aX kd) v j (K7 kd j m y z x) (oN false (kK m y z)):=
 y_ (by have h:=YB v x;unfold D7 at h;rw[h];exact za λu u u u u=>sI) w C
theorem Za(w:j<4)(C:lU m y z):oO (aX kd) s j (D4 kd j m y z x v t) (oN false (kK m y z)):=
 y_ (by have h:=YC s x v t;unfold D8 at h;rw[h];exact za λu u u u u=>sI) w C
inductive vA kd m':Nat->Nat->Nat->Prop where
 |a y:y∈i2 kd 0 m'->vA kd m' 0 y 6
 |b y:y∈i2 kd 1 m'->vA kd m' 1 6 y
 |c (y z):y∈i2 kd 0 m'->z∈J (Nat.beq y 5) [5,7] (i2 kd 1 m')->vA kd m' 2 y z
theorem ze{p:Bool->Prop}(h:∀b,p b):ig p:=⟨h _,h _⟩
theorem qK{p:Nat->Prop}(h:∀b,p b):eM p:=⟨h _,h _,h _,h _⟩
theorem jB{p:Nat->Prop}(h:∀b,p b):gJ p:=⟨h _,h _,h _⟩
theorem Lx:u9 kd 0 z Q=g9 (i2 kd 0 z) λy=>Q y 6:=rfl
theorem Ly:u9 kd 1 z Q=g9 (i2 kd 1 z) λy=>Q 6 y:=rfl
theorem Lz:u9 kd (m+2) x Q=g9 (i2 kd 0 x) λy=>g9 (J (Nat.beq y 5) [5,7] (i2 kd 1 x)) λz=>Q y z:=rfl
theorem Zb(h:∀y z,Q y z):u9 kd m x Q:=by
 rcases m with _|_|m
 .rw[Lx];exact cN λu u=>h _ _
 .rw[Ly];exact cN λu u=>h _ _
 .rw[Lz];exact cN λu u=>cN λu u=>h _ _
theorem Zc(r:j<4)(w:s<3)(C:vA kd s m y z):oO (aX kd) ln j (D5 kd j m y z s fo eo so ro ra) (oN (J (Nat.beq m s) (same kd m y z) false) (kK m y z)):=by
 have h:ig λkd=>eM λj=>D9 (λq j S st=>oO q ln j S st) kd j fo eo so ro ra:=by rw[Y8 ln fo eo so ro ra];exact ze λu=>qK λu=>jB λu=>jB λu=>Zb λu u=>sI
 have t:=jA (oU h kd) r;cases C with
 |a _ v=>have x:=hB (hB t (j:=0)<|by decide) w;rw[Lx] at x;exact nj x _ v
 |b _ v=>have x:=hB (hB t (j:=1)<|by decide) w;rw[Ly] at x;exact nj x _ v
 |c _ _ v o=>have x:=hB (hB t (j:=2)<|by decide) w;rw[Lz] at x;exact nj (nj x _ v) _ o
theorem Zd(o:j<4)(r:m=st.ms j)(x:ij Cs j)(l:jz st va j 0 y)(i:jz st va j 1 z)(w:(st.fv (Nat.add 3 j)).isSome=true)(s:st.en j=none)(t:aJ=some (aG (gD p Cs.n) va (di st.kd j m y z))):bS (wB st val aJ nd Cs) p Cs.n va (D4 st.kd j m y z (aB st) (a_ st) (bp st)):=by
 have w:yK j true=aB st (Nat.add 3 j):=by
  delta aB;cases q:st.fv (Nat.add 3 j) with|none=>rw[q] at w;cases w|some v=>show some (AV.ref<|7+j)=some (AV.ref<|4+(3+j));congr 2;exact lin [j] 0xe52820680442820e8
 refine .app (Es o r x l i w t)<|.cons (sR λk u=>?_)<|.cons (sS λk u=>?_) .nil
 .exact sT (by delta a_;rw[s];rfl) k<|nk u
 .exact Ls (by delta bp;rw[s];rfl) k<|lV u
theorem Ze(w:j<4)(h:m=st.ms j)(x:ij Cs j)(g:jz st va j 0 y)(f:jz st va j 1 z)(l:kT st.kd va e 0 y)(i:kT st.kd va e 1 z)(t:(st.fv (Nat.add 3 j)).isSome=true)(u:st.en j=some e)(o:aJ=some (aG (gD p Cs.n) va (di st.kd j m y z))):bS (wB st val aJ nd Cs) p Cs.n va (D5 st.kd j m y z e.m (aB st) (a_ st) (λd=>(e.s d).map (bV st.kd j d)) (bp st) λd=>gL st.kd (e.s d)):=by
 have t:yK j true=aB st (Nat.add 3 j):=by
  delta aB;cases q:st.fv (Nat.add 3 j) with|none=>rw[q] at t;cases t|some v=>show some (AV.ref<|7+j)=some (AV.ref<|4+(3+j));congr 2;exact lin [j] 0xe52820680442820e8
 refine .app (Es w h x g f t o) (.app (.cons (sR λk r=>?_)<|.cons (sS λk r=>?_)<|.cons (Y5 w u l i)<|.cons (Y6 w u)<|.cons (Y7 w u l i) .nil) (.app (Lw w (by decide) u l) (Lw w (by decide) u i)))
 .exact sT (by delta a_;rw[u];show some (AV.ref<|gD p Cs.n<|Nat.add 15 j)=some (.ref<|Nat.add 15 j);rw[dc<|by exact(lin [j] aE0) w]) k<|nk r
 .exact Ls (by delta bp;rw[u];show AV.ref (gD p Cs.n<|Nat.add 43 j)=.ref (Nat.add 43 j);rw[dc<|by exact(lin [j] aK0) w]) k<|lV r
end
def zf(B2:ld)(z:List Nat)(L:LL):LL:=bX (λq=>(q.1,J (a5 z q.1) none (ad (ae B2 q.1) q.2 some))) L
theorem sU{B2 B2r:ld}(h:B2.map (λq=>(q.1,aG g va q.2))=B2r):j0 g va B2 y L=zf B2r y L:=by
 subst h;delta j0 zf;rw[fA,fA];refine List.map_congr_left λq z=>?_;rw[qg];cases ae B2 q.1<;>rfl
theorem av9:bj [] i=i:=rfl
theorem qL{y:ld}:∀q∈y,∃o,(bj [] q.1,o)∈y/\∀f va,cv (aG f va o) (aG (λj=>f (bj [] j)) va q.2):=λq x=>⟨q.2,x,λz z=>cv.refl _⟩
abbrev fT(j:Nat):Bool:=Nat.ble j 254
theorem lW(h:i<=254):fT i=true:=Nat.ble_eq_true_of_le h
def zg(i:Nat):Bool:=J (Nat.blt i 14) (Nat.blt 10 i) (J (Nat.blt i 43) (Nat.blt 30 i) (J (Nat.blt i 59) (Nat.blt 46 i) (Nat.blt 59 i)))
theorem Et(h:zg i=true)(y:j<4){P:Prop}(g:i≠7+j->i≠15+j->i≠19+j->i≠43+j->i≠59->i≠23+2*j->i≠23+2*j+1->P):P:=
 have z:∀{k},zg k=false->i≠k:=λx e=>by rw[e,x] at h;exact bg h
 g (z<|by refine c4 y ?_ ?_ ?_ ?_<;>rfl) (z<|by refine c4 y ?_ ?_ ?_ ?_<;>rfl) (z<|by refine c4 y ?_ ?_ ?_ ?_<;>rfl) (z<|by refine c4 y ?_ ?_ ?_ ?_<;>rfl) (z rfl) (z<|by refine c4 y ?_ ?_ ?_ ?_<;>rfl) (z<|by refine c4 y ?_ ?_ ?_ ?_<;>rfl)
theorem vB(y:j<4)(w:∀i,zg i=true->dz mv i=true)(h:aV (λq=>bh (λj=>J (Nat.ble j 254) (dz mv j) false) q.2) a=true):aV (λq=>bh (λj=>J (Nat.ble j 254) (dz mv j) false) q.2) (ax (cM (aX kd) (.glo t) j) a)=true:=by
 have z:∀i,zg i=true->Nat.ble i 254=true->bh (λj=>J (Nat.ble j 254) (dz mv j) false) (.ref i)=true:=λi u v=>by show J (Nat.ble i 254) (dz mv i) false=true;rw[v];exact w i u
 have x:bh (λj=>J (Nat.ble j 254) (dz mv j) false) (aX kd)=true:=by cases kd<;>rfl
 refine af (z _ rfl rfl) (af (z _ rfl rfl) (af x (af (z _ rfl rfl) (af (z _ rfl rfl) (af rfl (af (z _ rfl rfl) (af (z _ rfl rfl) (af (z _ rfl rfl) (af (z _ rfl rfl) (af (z _ rfl rfl) (af (z _ rfl rfl)
  (af (z _ rfl rfl) (af (z (60+j) (by refine c4 y ?_ ?_ ?_ ?_<;>rfl)<|Nat.ble_eq_true_of_le<|(lin [j] 0x126ff21413c4301101) y)<|af rfl<|af rfl h)))))))))))))
theorem Eu{st:aH}(ho:ad o true (bh fT)=true):dT fT (dM (a9 (a_ st) j o))=true:=by
 have h:∀k,k<4->ad (a9 (a_ st) j o k) true (bh fT)=true:=λk z=>by
  delta a9;cases Nat.beq k j with|true=>exact ho|false=>
   delta a_;cases st.en k with|none=>rfl|some e=>exact lW<|(lin [k] 0x126ff21410f4301101) z
 show aV (λq:Nat×Option AV=>ad q.2 true<|bh fT) [(12612,a9 (a_ st) j o 0),(12868,a9 (a_ st) j o 1),(13124,a9 (a_ st) j o 2),(13380,a9 (a_ st) j o 3)]=true;exact af (h 0<|by decide) (af (h 1<|by decide) (af (h 2<|by decide) (af (h 3<|by decide) da)))
theorem zh{st:aH}(ho:bh fT o=true):dT fT (dp (a9 (bp st) j o))=true:=by
 have h:∀k,k<4->bh fT (a9 (bp st) j o k)=true:=λk z=>by
  delta a9;cases Nat.beq k j with|true=>exact ho|false=>
   delta bp;cases st.en k with|none=>rfl|some e=>exact lW<|(lin [k] 0x126ff21412b4301101) z
 exact af (h 0<|by decide) (af (h 1<|by decide) (af (h 2<|by decide) (af (h 3<|by decide) da)))
section
variable {fl:Nat->Nat}{st:aH}{val:Nat->Option Nat}{aJ nd:Option AO}{Cs:AH}{H:AH}{F:aK}{p:Nat}{va:Nv}
def fE(st:aH)(j:Nat):aH:={ st with en:=a9 st.en j none }
theorem fc:a9 f k a k=a:=by delta a9;rw[d6,bR rfl]
theorem ff(h:i≠k):a9 f k a i=f i:=by delta a9;rw[d6,cA h]
theorem vC:(fE st j).en j=none:=fc
theorem vD(h:k≠j):(fE st j).en k=st.en k:=ff h
theorem LA(h:∀k,k<4->(a9 (a_ st) j o k).map (av (gD p N) va)=a_ z k):aG (gD p N) va (dM (a9 (a_ st) j o))=dM (a_ z):=by
 show AO.umap [(12612,(a9 (a_ st) j o 0).map _),(12868,(a9 (a_ st) j o 1).map _),(13124,(a9 (a_ st) j o 2).map _),(13380,(a9 (a_ st) j o 3).map _)]=_;rw[h 0 (by decide),h 1 (by decide),h 2 (by decide),h 3<|by decide];rfl
theorem LC(h:∀k,k<4->av (gD p N) va (a9 (bp st) j o k)=bp z k):aG (gD p N) va (dp (a9 (bp st) j o))=dp (bp z):=by
 show AO.list [av _ _<|a9 (bp st) j o 0,av _ _<|a9 (bp st) j o 1,av _ _<|a9 (bp st) j o 2,av _ _<|a9 (bp st) j o 3]=_;rw[h 0 (by decide),h 1 (by decide),h 2 (by decide),h 3<|by decide];rfl
theorem Zf(y:j<4)e:K9 v u j e x w:=
 oU (jA (by rw[YD v u x w];exact qK λz=>ze λz=>iD) y) e
theorem Zg(t:aR fl (wB st val aJ nd Cs) Cs.n H)(O:d7 Cs)(u:254<=p)(Z:p<Cs.n)(inj:∀k x y,va k x=va k y->x=y){j P:Nat}(g:j<4)(s:ij Cs j)(b:eO F (u_ (aX st.kd) (.glo P) j) (gD p Cs.n) va)(A:∀x i,ae bl x=some i->ae F.cel x=some i)(c:b6 (59,aJ)=true)(R:b6 (58,nd)=true)(w:∀m d,aR m (wB (fE st j) val aJ nd Cs) Cs.n d->(∀i,i<Cs.n->m i=fl i)->k .nxt (ar m v0 (ar (gD p Cs.n) va ⟨ax (u_ (aX st.kd) (.glo P) j) [],bl⟩)) d):cX (λp=>p) fD K8 False (ar fl v0 F) H k:=by
 have X:bS (wB st val aJ nd Cs) p Cs.n va (yM j (st.en j).isSome (a_ st)<|bp st):=by
  refine .cons (sR λk l=>sT ?_ k<|nk l)<|.cons (sS λk l=>lV l) .nil;delta a_;cases st.en j with|none=>rfl|some e=>show some (AV.ref<|gD p Cs.n<|Nat.add 15 j)=some (.ref<|Nat.add 15 j);rw[dc<|by exact(lin [j] aE0) g]
 have Q:bS (wB st val aJ nd Cs) p Cs.n va (yL j):=.app Lp<|.app Lq<|.cons (Lm g s)<|.cons (zd g s) .nil;refine mZ t u Z inj (dr:=[Nat.add 15 j,Nat.add 19 j,Nat.add (Nat.add 23<|Nat.mul 2 j) 0,Nat.add (Nat.add 23<|Nat.mul 2 j) 1,Nat.add 43 j]) (X.app Q) b.f1 (λx i e=>?_) (Zf g _)
  (λr N B' h=>ju (D:=oP j (a_ st)<|bp st) rfl (λq f=>by cases f) qL h) ?_ (λq f h=>?_) (kR c R) (λz i o e j v=>(O.ref i o e j v).1) (L2:=LB (fE st j) val aJ nd) ?_ λm d E S=>w m d E λi C=>S i C rfl
 .rw[dc<|kS e];exact A x i e
 .refine af rfl<|af (vB g (λz z=>rfl) rfl)<|af rfl<|af rfl<|af rfl<|af ?_<|af ?_<|af ?_<|af rfl<|af ?_ rfl
  .exact af (Eu rfl)<|af (zh rfl) da
  .exact dO λz z=>rfl
  .rfl
  .refine c4 (j:=j) ‹_› ?_ ?_ ?_ ?_<;>kernel_rfl
 .refine f_ (f) (λa=>?_) λa=>?_
  .clear f;subst a;cases h
  .clear f;cases List.mem_singleton.mp a;cases h
 .have e1:∀k,k<4->(a9 (a_ st) j none k).map (av (gD p Cs.n) va)=a_ (fE st j) k:=λk l=>by
   by_cases q:k=j
   .clear g s b w X Q;subst q;rw[fc];delta a_;rw[vC];rfl
   .rw[ff q,nk l];delta a_;rw[vD q]
  have e2:∀k,k<4->av (gD p Cs.n) va (a9 (bp st) j .none k)=bp (fE st j) k:=λk l=>by
   by_cases q:k=j
   .clear g s b w X Q e1;subst q;rw[fc];delta bp;rw[vC];rfl
   .rw[ff q,lV l];delta bp;rw[vD q]
  rw[sU (B2r:=[(14,dM<|a_<|fE st j),(42,dp<|bp<|fE st j)]) (by show[(14,aG _ _ _),(42,aG _ _ _)]=_;rw[LA e1,LC e2])]
  refine c4 (j:=j) ‹_› ?_ ?_ ?_ ?_<;>kernel_rfl
end
section
variable {fl:Nat->Nat}{st:aH}{val:Nat->Option Nat}{aJ nd:Option AO}{Cs:AH}{H:AH}{F:aK}{p:Nat}{va:Nv}
def dq(st:aH):aH:={ st with ck:=Int.add st.ck 1 }
theorem Zh(y:j<4):K_ x w j t:=
 jA (by rw[YE x w t];exact qK λz=>iD) y
theorem Zi(t:aR fl (wB st val aJ nd Cs) Cs.n H)(O:d7 Cs)(u:254<=p)(f:p<Cs.n)(inj:∀k x y,va k x=va k y->x=y)(b:j<4)(Z:eO F (jx (aX st.kd) (.glo R) j) (gD p Cs.n) va)(Q:∀x i,ae bl x=some i->ae F.cel x=some i)(l:b6 (59,aJ)=true)(c:b6 (58,nd)=true)(w:∀s m,aR s (wB (dq st) val aJ nd Cs) Cs.n m->(∀i,i<Cs.n->s i=fl i)->k .nxt (ar s v0 (ar (gD p Cs.n) va ⟨ax (jx (aX st.kd) (.glo R) j) [],bl⟩)) m):cX (λp=>p) fD R1 False (ar fl v0 F) H k:=by
 refine mZ (O:=[(11,.list [.int st.ck])]) t u f inj (dr:=[]) (bS.cons ⟨by show 11<254;decide,by kernel_rfl⟩ .nil) Z.f1 (λx i e=>?_) (Zh b)
  (λr a P h=>ju (D:=[(11,.list [.int<|Int.add st.ck 1])]) rfl (λq g=>by cases g) qL h) ?_ (λq g h=>?_) (kR l c) (λz i o e j v=>(O.ref i o e j v).1) (L2:=LB (dq st) val aJ nd) ?_ λs m X d=>w s m X λi S=>d i S rfl
 .rw[dc<|kS e];exact Q x i e
 .refine af rfl<|af ?_ rfl;exact vB b (λz z=>rfl) rfl
 .cases List.mem_singleton.mp g;exact bg h
 .kernel_rfl
def fU(st:aH)(j c:Nat):aH:={ st with fv:=a9 st.fv (Nat.add 3 j) (some ⟨st.ck,c⟩) }
theorem Zj:(fU st j c).fv (Nat.add 3 j)=some ⟨st.ck,c⟩:=fc
theorem Ev(h:k≠Nat.add 3 j):(fU st j c).fv k=st.fv k:=ff h
inductive oV:Nat->Nat->Nat->Prop where
 |a c:c<4->oV 0 c 0
 |b c:c<4->oV 1 0 c
 |c (c d):c<4->d<4->oV 2 c d
theorem Zk{Q:Nat->Nat->Nat->Nat->Prop}(h:Ea Q){j m c d:Nat}(y:j<4)(C:oV m c d):Q j m c d:=by
 obtain⟨w,x,v⟩:=jA h y;cases C with|a _ z=>exact jA w z|b _ z=>exact jA x z|c c d z hd=>exact jA (jA v z) hd
theorem Ew(w:j<4)(u:x<4)(h:z):yR j m x z:=by
 have y:∀n:Nat,n<12->(Int.ofNat n).natAbs<2 ^ 62:=λn v=>Nat.lt_of_lt_of_le v (by decide);refine⟨y j<|(lin [j] 0x4981880b01101) w,?_⟩;rcases m with _|_|m
 .exact h
 .exact h
 .exact⟨y _ (by show j*2+x<12;omega),h⟩
theorem vE(h:∀j,j<4->P j):eM P:=⟨h 0 (by decide),h 1 (by decide),h 2 (by decide),h 3 (by decide)⟩
theorem Zl(z:j<4)(C:oV m c d):D_ v w j m c d x 256:=by
 refine Zk (Q:=λj m c d=>D_ v w j m c d x 256) ?_ z C;rw[YG v w x];exact vE λj z=>⟨vE λc y=>Ew z y iD,vE λc y=>Ew z (by decide) iD,vE λc y=>vE λd hd=>Ew z y iD⟩
structure qM(st:aH)(va:Nv)(j d m c):Prop where
 yes:aM d m=true->∃v,st.fv (aZ j d)=some v/\va (Nat.add 10 d) 0=v.t/\va (Nat.add 30 d) 0=c_ v.c/\v.c=c
theorem zi(z:qM st va j 0 m c)(y:qM st va j 1 m d)i:j3 j m (aB st) i=aB st i:=by
 have h:∀d c,qM st va j d m c->J (aM d m) (some<|AV.ref<|Nat.add 4<|aZ j d) (aB st<|aZ j d)=aB st (aZ j d):=λd c C=>by
  cases q:aM d m with|false=>rfl|true=>obtain⟨v,e,_⟩:=C.yes q;delta aB;rw[e];rfl
 have e2:=i7<|h 1 d y;show a9 (a9 (aB st) _ _) _ _ i=_;rw[i7 (by rw[h 0 c z,e2]),e2]
theorem LD(x:j<4)(hd:d<2)(C:qM st va j d m c):bS (wB st val aJ nd Cs) p Cs.n va (J (aM d m) [(Nat.add 4 (aZ j d),ve d c)] []):=.cno λh=>by
 obtain⟨v,e,e1,e2,y⟩:=C.yes h;have z:=Ep x hd;refine .cons ⟨(lin [aZ j d] aH0) z,(y8 z).trans ?_⟩ .nil;rw[e];show some (AO.tup [.int v.t,.int<|c_ v.c,.int<|.ofNat v.c])=some (AO.tup [.int<|va (Nat.add 10 d) 0,.int<|va (Nat.add 30 d) 0,.int<|.ofNat c]);rw[e1,e2,y]
theorem zj(z:j<4)(hd:d<2):aZ j d≠3+j:=by
 have y:∀j,j<4->∀d,d<2->aZ j d≠3+j:=by decide +kernel
 exact y j z d hd
theorem Zm(h:∀k,k<7->(po k).map (av g va)=aB z k):aG g va (cG po)=cG (aB z):=by
 show AO.umap [(97,(po 0).map _),(98,(po 1).map _),(99,(po 2).map _),(120,(po 3).map _),(121,(po 4).map _),(122,(po 5).map _),(119,(po 6).map _)]=_;rw[h 0 (by decide),h 1 (by decide),h 2 (by decide),h 3 (by decide),h 4 (by decide),h 5 (by decide),h 6<|by decide];rfl
def kU(j:Nat):on:=[(Nat.add 7 j,256)]
theorem LG:bj (kU j) (Nat.add 7 j)=256:=by
 show ad (J (Nat.beq (Nat.add 7 j)<|Nat.add 7 j) (some 256) none) _ _=_;rw[d6,bR rfl]
theorem sV(h:i≠7+j):ae (kU j) i=none:=by
 show J (Nat.beq (Nat.add 7 j) i) (some 256) none=none;rw[d6,cA λe=>h e.symm]
theorem Zn(s:aR fl (wB st val aJ nd Cs) Cs.n H)(O:d7 Cs)(t:254<=p)(A:p<Cs.n)(inj:∀k x y,va k x=va k y->x=y)(l:j<4)(C:oV (st.ms j) c d)(b:qM st va j 0 (st.ms j) c)(a:qM st va j 1 (st.ms j) d)(X:va 40 0=st.ck)(kn:eO F (jx (aX st.kd) (.glo ln) j) (gD p Cs.n) va)(hc:∀x i,ae bl x=some i->ae F.cel x=some i)(N:b6 (59,aJ)=true)(hnd:b6 (58,nd)=true)(w:∀g P,aR g (wB (fU st j (e_ j (st.ms j) c d)) val aJ nd Cs) Cs.n P->(∀i,i<Cs.n->i≠7+j->g i=fl i)->k .nxt (ar g v0 (ar (gD p Cs.n) va ⟨ax (jx (aX st.kd) (.glo ln) j) [],bl⟩)) P):cX (λp=>p) fD La False (ar fl v0 F) H k:=by
 have h7:gD p Cs.n (Nat.add 7 j)=Nat.add 7 j:=dc (by show 7+j<254;exact(lin [j] 0x1267f2141074301101) l);have e1:∀k,k<7->(a9 (j3 j (st.ms j)<|aB st) (Nat.add 3 j) (some<|.ref<|Nat.add 7 j) k).map (av (gD p Cs.n) va)=aB (fU st j<|e_ j (st.ms j) c d) k:=λk Z=>by
  by_cases q:k=Nat.add 3 j
  .subst q;rw[fc];unfold aB;rw[Zj];show some (AV.ref<|gD p Cs.n<|Nat.add 7 j)=some (.ref<|4+(3+j));rw[h7];congr 2;show 7+j=_;exact lin [j] 0xe52820680442820e8
  .rw[ff q,zi b a,i6 Z];unfold aB;rw[Ev q]
 refine mZ (holds:=λp=>p) (S:=yN j (st.ms j) c d) (O:=Lc j (st.ms j)<|aB st) (V:=jx (aX st.kd) (.glo ln) j) (fs2:=⟨[],bl⟩) (r2:=.nxt) (B2:=(Nat.add 7 j,yQ<|e_ j (st.ms j) c d)::yO j (st.ms j) c d (aB st) (Nat.add 7 j)) s t A inj (mv:=kU j) (dr:=[])
  (bS.app (.cons (vx λk Z=>by rw[zi b a,i6 Z]) .nil) (.app En (.app (Eo l rfl) (.cons ⟨by show 11<254;decide,?_⟩ (.app (LD l (by decide) b) (LD l (by decide) a)))))) kn.f1 (λx i e=>?_) (Zl l C)
  (λr fs' B' h=>ju (D:=(256,yQ<|e_ j (st.ms j) c d)::yO j (st.ms j) c d (aB st) 256) ?_ (λq hq=>by cases hq) (λq hq=>?_) h) ?_ (λq hq h=>?_) (kR N hnd) (λu i o e j v=>(O.ref i o e j v).1) (L2:=LB (fU st j<|e_ j (st.ms j) c d) val aJ nd) ?_ (λg P U2 hfl=>w g P U2 λi hi h=>hfl i hi<|sV h)
 .show _=some (AO.list [.int<|va 40 0]);rw[X];kernel_rfl
 .rw[dc<|kS e];exact hc x i e
 .refine c4 (j:=j) ‹_› ?_ ?_ ?_ ?_<;>kernel_rfl
 .refine bk hq ?_ λhq=>?_
  .exact⟨_,by rw[LG];exact .head _,λf va=>cv.refl _⟩
  .refine dJ hq ?_;refine⟨cG<|a9 (j3 j (st.ms j)<|aB st) (Nat.add 3 j)<|some<|.ref 256,?_,λf va=>?_⟩
   .rw[show bj (kU j) 3=3 by unfold bj;rw[sV<|by exact(lin [j] 0x24f72820e8034301101) l]];exact .tail _<|.head _
   .have Y:aG f va (cG<|a9 (j3 j (st.ms j)<|aB st) (Nat.add 3 j)<|some<|.ref 256)=aG (λi=>f<|bj (kU j) i) va (cG<|a9 (j3 j (st.ms j)<|aB st) (Nat.add 3 j)<|some<|.ref<|Nat.add 7 j):=by
     have h:∀k,k<7->(a9 (j3 j (st.ms j)<|aB st) (Nat.add 3 j) (some<|.ref 256) k).map (av f va)=(a9 (j3 j (st.ms j)<|aB st) (Nat.add 3 j) (some<|.ref<|Nat.add 7 j) k).map (av (λi=>f<|bj (kU j) i) va):=λk Z=>by
      by_cases q:k=Nat.add 3 j
      .subst q;rw[fc,fc];show some (AV.ref<|f 256)=some (AV.ref<|f<|bj (kU j)<|Nat.add 7 j);rw[LG]
      .rw[ff q,ff q,zi b a];unfold aB;cases st.fv k with|none=>rfl|some v=>show some (AV.ref<|f<|Nat.add 4 k)=some (AV.ref<|f<|bj (kU j)<|Nat.add 4 k);rw[show bj (kU j) (Nat.add 4 k)=Nat.add 4 k by unfold bj;rw[sV<|by show 4+k≠7+j;intro z;exact q<|by show k=3+j;exact(lin [k,j] 0x1272840680b942074282088) z]]
     show AO.umap [(97,_),(98,_),(99,_),(120,_),(121,_),(122,_),(119,_)]=AO.umap [(97,_),(98,_),(99,_),(120,_),(121,_),(122,_),(119,_)];rw[h 0 (by decide),h 1 (by decide),h 2 (by decide),h 3 (by decide),h 4 (by decide),h 5 (by decide),h 6<|by decide]
    rw[Y];exact cv.refl _
 .refine af ?_<|af ?_<|af rfl<|af rfl<|af rfl<|af ?_<|af ?_<|af ?_<|af ?_ rfl
  .refine c4 (j:=j) ‹_› ?_ ?_ ?_ ?_<;>kernel_rfl
  .refine vB l (λi hi=>Et hi l λh u u u u u u=>by unfold dz;rw[sV h])<|af ?_<|af rfl da;show J true (dz (kU j) 59) false=true;unfold dz;rw[sV<|by exact(lin [j] 0x24f72820e83b4301101) l]
  .refine af ?_<|af ?_ da
   .show J (Nat.blt (Nat.add 7 j) 254) true false=true;rw[show Nat.blt (Nat.add 7 j) 254=true from Nat.ble_eq_true_of_le<|by show 7+j+1<=254;exact(lin [j] 0x49bfc8500a141074301101) l]
   .have h:∀k,k<7->ad (a9 (j3 j (st.ms j)<|aB st) (Nat.add 3 j) (some<|.ref<|Nat.add 7 j) k) true (bh fT)=true:=λk Z=>by
     by_cases q:k=Nat.add 3 j
     .subst q;rw[fc];exact lW (by show 7+j<=254;exact(lin [j] 0x126ff2141074301101) l)
     .rw[ff q,zi b a];unfold aB;cases st.fv k with|none=>rfl|some v=>exact lW (by show 4+k<=254;exact(lin [k] 0x126ff2141044301d01) Z)
    show aV (λq:Nat×Option AV=>ad q.2 true<|bh fT) [(97,_),(98,_),(99,_),(120,_),(121,_),(122,_),(119,_)]=true;exact af (h 0<|by decide) (af (h 1<|by decide) (af (h 2<|by decide) (af (h 3<|by decide) (af (h 4<|by decide) (af (h 5<|by decide) (af (h 6<|by decide) da))))))
  .refine dO λq hq=>?_;have R:q.1≠7+j->dz (kU j) q.1=true:=λh=>by unfold dz;rw[sV h]
   refine R λz=>?_;have E:=zj l (d:=0) (by decide);have Q:=zj l (d:=1) (by decide);rcases ct.mp hq with hq|hq
   .have Y:q.1=51\/q.1=52\/q.1=37:=by
     refine bk hq (.inl rfl) λhq=>?_
     .refine bk hq (.inr<|.inl rfl) λhq=>?_
      .clear R z;refine dJ hq ?_;exact .inr<|.inr rfl
    exact(lin [j,q.fst] 0x4a529c62e25409c688138cd0272820e81301101) l z Y
   .rcases ct.mp hq with hq|hq
    .clear R;cases List.mem_singleton.mp hq;have z:38+j=7+j:=z;exact(lin [j] 0x129b9410742824c8) z
    .rcases List.mem_cons.mp hq with rfl|hq
     .have z:11=7+j:=z;omega
     .rcases ct.mp hq with hq|hq
      .cases hb:aM 0 (st.ms j) with|false=>rw[hb] at hq;cases hq|true=>rw[hb] at hq;clear R;cases List.mem_singleton.mp hq;have z:4+aZ j 0=7+j:=z;exact(lin [aZ j 0,j,aZ j 1,(Nat.add 4<|aZ j 0,ve 0 c).fst] 0x1294a5372840e8504110e5081d047b9420340dee5080d01) E Q ‹_› z
      .cases hb:aM 1 (st.ms j) with|false=>rw[hb] at hq;cases hq|true=>rw[hb] at hq;clear R;cases List.mem_singleton.mp hq;have z:4+aZ j 1=7+j:=z;exact(lin [aZ j 1,j,(Nat.add 4<|aZ j 1,ve 1 d).fst] 0x25294dca103a14104439420740dee5080d01) Q ‹_› z
  .refine c4 (j:=j) ‹_› ?_ ?_ ?_ ?_<;>kernel_rfl
  .have h3:st.ms j<3:=by generalize st.ms j=m at C;clear b a w e1;cases C<;>decide
   generalize st.ms j=m at h3 ⊢;refine c4 (j:=j) ‹_› ?_ ?_ ?_ ?_<;>first|(refine c3 (j:=m) ‹_› ?_ ?_ ?_<;>kernel_rfl)
 .rcases List.mem_cons.mp hq with rfl|hq
  .exfalso
   clear C b a kn w h7 e1 hq;rcases j with _|_|_|_|j<;>first|(exact(by exact(lin [j] aI0) l:False).elim)|cases h
  .cases List.mem_singleton.mp hq;exact bg h
 .rw[sU (B2r:=[(Nat.add 7 j,dU ⟨st.ck,e_ j (st.ms j) c d⟩),(3,cG<|aB<|fU st j<|e_ j (st.ms j) c d)]) (by show[(Nat.add 7 j,AO.tup [.int<|va 40 0,_,_]),(3,aG _ _ _)]=_;rw[Zm e1,X];rfl)]
  refine c4 (j:=j) ‹_› ?_ ?_ ?_ ?_<;>kernel_rfl
end
def eP(st:aH)(j:Nat)(x:Option EN):aH:={ st with en:=a9 st.en j x }
theorem LH{st:aH}(h:st.en j=x):eP st j x=st:=by
 have z:a9 st.en j x=st.en:=funext λk=>i7 h.symm k;delta eP;rw[z]
theorem Ex{st:aH}:(eP st j x).en j=x:=fc
theorem Ey{st:aH}(h:k≠j):(eP st j x).en k=st.en k:=ff h
def dW(m:Nat)(a b:FV)(y:Nat->Option FV):EN:=⟨m,λd=>J (aM d m) (some (@Nat.rec (λz=>FV) a (λz z=>b) d)) (y d)⟩
def dP(kd:Bool)(j m y x z:Nat):on:=ax [(Nat.add 19 j,jy kd m y x z),(Nat.add 43 j,59),(59,Nat.add 43 j)] (ax (J (nw kd 0 m y) [(Nat.add (Nat.add 23 (Nat.mul 2 j)) 0,oQ kd m y z 0)] []) (J (nw kd 1 m x) [(Nat.add (Nat.add 23 (Nat.mul 2 j)) 1,oQ kd m y z 1)] []))
def jC(kd:Bool)(j m:Nat):on:=(Nat.add 15 j,255)::dP kd j m 0 0 256
def ds(kd:Bool)(j m y d:Nat):ld:=J (J kd false (aM d m)) [(Nat.add (Nat.add 23 (Nat.mul 2 j)) d,J (Nat.beq y 1) (.tup [.atm (Nat.add 10 d) 0,.atm (Nat.add 50 d) 0,.atm (Nat.add 60 d) 0]) (kJ d))] []
def dX(kd:Bool)(j m d:Nat)(so:wg):Option AV:=J (aM d m) (some (J kd (.atm (Nat.add 10 d) 0) (.ref (Nat.add (Nat.add 23 (Nat.mul 2 j)) d)))) (so d)
def nl(kd:Bool)(j m z y:Nat)(x:Nat->AV)(so:wg)(aJ:AO):ld:=ax [(42,dp (a9 x j (.ref (Nat.add 43 j)))),(Nat.add 15 j,ie kd j (dX kd j m 0 so) (dX kd j m 1 so)),(Nat.add 19 j,.tup (cf j m)),(Nat.add 43 j,aJ)] (ax (ds kd j m z 0) (ds kd j m y 1))
def qN(kd:Bool)(j m:Nat)(y:wg)(x:Nat->AV)(aJ:AO):ld:=(14,dM (a9 y j (some (.ref (Nat.add 15 j)))))::nl kd j m 0 0 x (λz=>none) aJ
def Ez(p:Bool->Nat->Nat->Bool):Bool:=uR λkd=>fC λj=>cY λm=>p kd j m
theorem Zo:Ez (λkd j m=>x_ (Ld kd j m (.ref (Nat.add 80 j)) (yW kd m 256 0) (yW kd m 256 1) (jy kd m 0 0 256)) (uE (bj (jC kd j m)) (ie kd j (dX kd j m 0 λz=>none) (dX kd j m 1 λz=>none))))=true:=by kernel_rfl
theorem LJ{p:Bool->Nat->Nat->Bool}(h:Ez p=true)kd{j m:Nat}(w:j<4)(x:m<3):p kd j m=true:=by
 have z:fC (λj=>cY λm=>p kd j m)=true:=by
  refine bx (h) λa b=>?_;cases kd
  .exact b
  .exact a
 refine bx z λa z=>?_;refine bx z λb z=>?_;refine bx z λc d=>?_;have y:cY (λm=>p kd j m)=true:=by refine c4 (j:=j) ‹_› ?_ ?_ ?_ ?_<;>first|exact a|exact b|exact c|exact d
 refine bx y λa y=>?_;refine bx y λb c=>?_;refine c3 (j:=m) ‹_› ?_ ?_ ?_<;>first|exact a|exact b|exact c
theorem Zp kd(w:j<4)(y:m<3):Le t s kd j m x v u aJ:=
 hB (jA (oU (by rw[YJ t s x v u aJ];exact ze λz=>qK λz=>jB λz=>iD) kd) w) y
section
variable {fl:Nat->Nat}{st:aH}{val:Nat->Option Nat}{aJ nd:Option AO}{Cs:AH}{H:AH}{F:aK}{p:Nat}{va:Nv}
structure jD(st:aH)(va:Nv)(j d m)v:Prop where
 yes:aM d m=true->st.fv (aZ j d)=some v/\va (Nat.add 10 d) 0=v.t/\va (Nat.add 30 d) 0=c_ v.c/\va (Nat.add 20 d) 0=.ofNat v.c
theorem LK(x:j<4)(hd:d<2)(C:jD st va j d m v):bS (wB st val aJ nd Cs) p Cs.n va (J (aM d m) [(Nat.add 4 (aZ j d),kJ d)] []):=.cno λh=>by
 obtain⟨e,e1,e2,y⟩:=C.yes h;have z:=Ep x hd;refine .cons ⟨(lin [aZ j d] aH0) z,(y8 z).trans ?_⟩ .nil;rw[e];show some (AO.tup [.int v.t,.int<|c_ v.c,.int<|.ofNat v.c])=some (AO.tup [.int<|va (Nat.add 10 d) 0,.int<|va (Nat.add 30 d) 0,.int<|va (Nat.add 20 d) 0]);rw[e1,e2,y]
theorem Zq(z:jD st va j 0 m a)(y:jD st va j 1 m b)i:j3 j m (aB st) i=aB st i:=by
 have h:∀d c,jD st va j d m c->J (aM d m) (some<|AV.ref<|Nat.add 4<|aZ j d) (aB st<|aZ j d)=aB st (aZ j d):=λd c C=>by
  cases q:aM d m with|true=>delta aB;rw[(C.yes q).1];rfl|false=>rfl
 have e2:=i7<|h 1 b y;show a9 (a9 (aB st) _ _) _ _ i=_;rw[i7 (by rw[h 0 a z,e2]),e2]
theorem LM(y:j<4)(v:m=st.ms j)(z:ij Cs j)(x:jD st va j 0 m a)(w:jD st va j 1 m b):bS (wB st val aJ nd Cs) p Cs.n va (nh st.kd j m (aB st)):=
 .app (Lr y v z) (.cons (zd y z) (.cons (vx λk u=>by rw[Zq x w,i6 u]) (.app (LK y (by decide) x) (LK y (by decide) w))))
theorem Zr(h:∀k,k<4->(po k).map (av g va)=a_ z k):aG g va (dM po)=dM (a_ z):=by
 show AO.umap [(12612,(po 0).map _),(12868,(po 1).map _),(13124,(po 2).map _),(13380,(po 3).map _)]=_;rw[h 0 (by decide),h 1 (by decide),h 2 (by decide),h 3<|by decide];rfl
theorem LN(h:∀k,k<4->av g va (po k)=bp z k):aG g va (dp po)=dp (bp z):=by
 show AO.list [av _ _<|po 0,av _ _<|po 1,av _ _<|po 2,av _ _<|po 3]=_;rw[h 0 (by decide),h 1 (by decide),h 2 (by decide),h 3<|by decide];rfl
theorem LO(y:aM 0 m=true->av g va (gn kd 0)=gL kd (some a))(z:aM 1 m=true->av g va (gn kd 1)=gL kd (some b))(x:m<3):aG g va (di kd j m 7 7)=ni kd j (dW m a b old):=by
 rcases m with _|_|_|m
 .show AO.dict [(r0 j,av g va<|gn kd 0)]=_;rw[y rfl];rfl
 .show AO.dict [(r1 j,av g va<|gn kd 1)]=_;rw[z rfl];rfl
 .show AO.dict [(r0 j,av g va<|gn kd 0),(r1 j,av g va<|gn kd 1)]=_;rw[y rfl,z rfl];rfl
 .exact((lin [m] aa0) x).elim
theorem zk(z:va (Nat.add 10 d) 0=v.t)(y:va (Nat.add 20 d) 0=.ofNat v.c):av g va (gn kd d)=gL kd (some v):=by
 cases kd
 .show AV.int (va _ _)=AV.int _;rw[y]
 .show AV.int (va _ _)=AV.int _;rw[z]
end
section
variable {kd:Bool}{j m y0 y1 base:Nat}
theorem EA(h:i≠k):ae (J c [(k,t)] []) i=none:=by
 cases c
 .rfl
 .show J (Nat.beq k i) (some t) none=none;rw[d6,cA λe=>h e.symm]
theorem hE(h:i≠k):ae ((k,t)::l) i=ae l i:=by
 rw[b3,aq λe=>h e.symm]
theorem sW:ae ((k,t)::l) k=some t:=by rw[b3,aw rfl]
theorem LR(x:i≠19+j)(z:i≠43+j)(v:i≠59)(y:i≠23+2*j)(w:i≠23+2*j+1):ae (dP kd j m y0 y1 base) i=none:=by
 rw[dA,hE x,hE z,hE v];rw[dA,EA y];exact EA w
theorem LT:ae (dP kd j m y0 y1 base) (Nat.add 19 j)=some (jy kd m y0 y1 base):=by
 rw[dA,sW]
theorem LU:ae (dP kd j m y0 y1 base) (Nat.add 43 j)=some 59:=by
 rw[dA,hE (by exact lin [j] 0x7b941134282568),sW]
theorem aw0(z:j<4):ae (dP kd j m y0 y1 base) 59=some (Nat.add 43 j):=by
 rw[dA,hE (by exact(lin [j] 0x24f72822683b4301101) z),hE (by exact(lin [j] 0x24f72825683b4301101) z),sW]
theorem Zs(z:j<4)(h:nw kd 0 m y0=true):ae (dP kd j m y0 y1 base) (Nat.add (Nat.add 23 (Nat.mul 2 j)) 0)=some (oQ kd m y0 base 0):=by
 rw[dA,hE (by exact(lin [j] 0x49ee5044d0a004280961174301101) z),hE (by exact(lin [j] 0x49ee504ad0a004280961174301101) z),hE<|by exact(lin [j] 0x127b8ed0a004280961174301101) z];rw[dA,h];show ad (ae [(Nat.add (Nat.add 23<|Nat.mul 2 j) 0,_)] _) _ _=_;rw[sW]
theorem Zt(z:j<4)(h:nw kd 1 m y1=true):ae (dP kd j m y0 y1 base) (Nat.add (Nat.add 23 (Nat.mul 2 j)) 1)=some (oQ kd m y0 base 1):=by
 rw[dA,hE (by exact(lin [j] 0x49ee5044d0a014280961174301101) z),hE (by exact(lin [j] 0x49ee504ad0a014280961174301101) z),hE<|by exact(lin [j] 0x127b8ed0a014280961174301101) z];rw[dA,EA (by exact lin [j] 0x1ee50021404b08ba140285012c22e8),h];show ae [(Nat.add (Nat.add 23<|Nat.mul 2 j) 1,_)] _=_;rw[sW]
end
theorem oW(h:ae mv i=some t):bj mv i=t:=by delta bj;rw[h]
theorem qO(h:ae mv i=none):bj mv i=i:=by delta bj;rw[h]
theorem qP(h:ae mv i=none):dz mv i=true:=by delta dz;rw[h]
theorem Zu{st:aH}(h:bj mv b=a)(z:∀k,k<4->k≠j->bj mv (15+k)=15+k):aG f va (dM (a9 (a_ st) j (some (.ref a))))=aG (λi=>f (bj mv i)) va (dM (a9 (a_ st) j (some (.ref b)))):=by
 have e:∀k,k<4->(a9 (a_ st) j (some<|.ref a) k).map (av f va)=(a9 (a_ st) j (some<|.ref b) k).map (av (λi=>f<|bj mv i) va):=λk y=>by
  by_cases q:k=j
  .clear z;subst q;rw[fc,fc];show some (AV.ref<|f a)=some (AV.ref<|f<|bj mv b);rw[h]
  .rw[ff q,ff q];delta a_;cases st.en k with|none=>rfl|some e=>show some (AV.ref<|f<|15+k)=some (AV.ref<|f<|bj mv<|15+k);rw[z k y q]
 show AO.umap [(12612,_),(12868,_),(13124,_),(13380,_)]=AO.umap [(12612,_),(12868,_),(13124,_),(13380,_)];rw[e 0 (by decide),e 1 (by decide),e 2 (by decide),e 3<|by decide]
theorem LV{st:aH}(h:bj mv b=a)(z:∀k,k<4->k≠j->bj mv (43+k)=43+k):aG f va (dp (a9 (bp st) j (.ref a)))=aG (λi=>f (bj mv i)) va (dp (a9 (bp st) j (.ref b))):=by
 have e:∀k,k<4->av f va (a9 (bp st) j (.ref a) k)=av (λi=>f<|bj mv i) va (a9 (bp st) j (.ref b) k):=λk y=>by
  by_cases q:k=j
  .clear z;subst q;rw[fc,fc];show AV.ref (f a)=AV.ref (f<|bj mv b);rw[h]
  .rw[ff q,ff q];delta bp;cases st.en k with|none=>rfl|some e=>show AV.ref (f<|43+k)=AV.ref (f<|bj mv<|43+k);rw[z k y q]
 show AO.list [_,_,_,_]=AO.list [_,_,_,_];rw[e 0 (by decide),e 1 (by decide),e 2 (by decide),e 3<|by decide]
theorem LW:aG f va (di kd j m 7 7)=aG g va (di kd j m 7 7):=by
 rcases m with _|_|m<;>cases kd<;>rfl
theorem LX:aG f va (.tup (cf j m))=aG g va (.tup (cf j m)):=by
 show AO.tup _=AO.tup _;rw[j7,j7]
theorem lX(h:a=b):cv a b:=by subst h;exact cv.refl _
theorem Zv:Ez (λkd j m=>aV (λb=>b) [uI (jC kd j m),aV (λq=>dz (jC kd j m) q.1) (nh kd j m fo),aV (λq=>J (isIn (qN kd j m eo ro aJ) q.1) true (a5 [59] q.1)) (yV j eo ro aJ),
  aV (λq=>J (J true (Nat.blt q.1 60)<|Nat.blt q.1 254) (J (J (isIn (qN kd j m eo ro aJ) q.1) true<|a5 [59] q.1) (aV (λi=>J (isIn (qN kd j m eo ro aJ) i) (J (isIn (nh kd j m fo) i) false true)<|a5 [59] i)<|lK q.1) false) false) (jC kd j m),
  aV (λi=>J (J true (J (eK i) false<|Nat.blt i 60) true) (J (isIn (qN kd j m eo ro aJ) i) false<|J (isIn (nh kd j m fo) i) false true) false) [59],aV (λq=>J (eK q.1) false<|Nat.blt q.1 254)<|qN kd j m eo ro aJ])=true:=by kernel_rfl
theorem EB:b6 (59,some (aG g va (di kd j m 7 7)))=true:=by
 rcases m with _|_|m<;>cases kd<;>rfl
theorem LY:dT r (di kd j m 7 7)=true:=by
 rcases m with _|_|m<;>cases kd<;>rfl
theorem LZ(z:j<4)(h:∀d,d<2->ad (so d) true (bh fT)=true):dT fT (ie kd j (dX kd j m 0 so) (dX kd j m 1 so))=true:=by
 have e:∀d,d<2->ad (dX kd j m d so) true (bh fT)=true:=λd hd=>by
  delta dX;cases aM d m with|false=>exact h d hd|true=>
   cases kd
   .exact lW<|(lin [j,d] 0x949bfc8509404b08ba180481301101) z hd
   .rfl
 show aV (λq:Nat×Option AV=>ad q.2 true<|bh fT) [(mW,some .unk),(mX,some<|.str<|J kd sG sF),(r0 j,dX kd j m 0 so),(r1 j,dX kd j m 1 so),(mY,some<|.ref<|Nat.add 19 j)]=true;exact af rfl (af rfl (af (e 0<|by decide) (af (e 1<|by decide)<|af (lW<|(lin [j] 0x126ff2141134301101) z) da)))
theorem L9:dT r (.tup (cf j m))=true:=by rcases m with _|_|m<;>rfl
theorem zl:∀q∈ds kd j m y d,dT fT q.2=true:=λq z=>by
 delta ds at z;cases h:J kd false (aM d m) with|false=>rw[h] at z;cases z|true=>rw[h] at z;refine dJ z ?_;cases Nat.beq y 1<;>rfl
def sX(z:aH)(kd:Bool)(j m:Nat)(a b:FV)(e:EN):ld:=ax [(42,dp (bp z)),(Nat.add 15 j,kP kd j e),(Nat.add 19 j,.tup (cf j m)),(Nat.add 43 j,ni kd j e)] (ax (J (J kd false (aM 0 m)) [(Nat.add (Nat.add 23 (Nat.mul 2 j)) 0,dU a)] []) (J (J kd false (aM 1 m)) [(Nat.add (Nat.add 23 (Nat.mul 2 j)) 1,dU b)] []))
theorem Zw{st:aH}(y:j<4)(x:m<3):LB (eP st j (some (dW m a b λz=>none))) val none nd=zf ((14,dM (a_ (eP st j (some (dW m a b λz=>none)))))::sX (eP st j (some (dW m a b λz=>none))) st.kd j m a b (dW m a b λz=>none)) [59] (LB (eP st j none) val aJ nd):=by
 obtain⟨fv,en,ck,ms,kd,tb,xs,rw,mk,lp⟩:=st;cases kd<;>(refine c4 (j:=j) ‹_› ?_ ?_ ?_ ?_<;>(refine c3 (j:=m) ‹_› ?_ ?_ ?_<;>kernel_rfl))
section
variable {fl:Nat->Nat}{st:aH}{val:Nat->Option Nat}{aJ nd:Option AO}{Cs:AH}{H:AH}{F:aK}{p:Nat}{va:Nv}
theorem L_(x:∀i,i<254->g i=i)(z:j<4)(o:aM 0 m=true->va (Nat.add 10 0) 0=a.t)(r:aM 1 m=true->va (Nat.add 10 1) 0=b.t):aG g va (ie kd j (dX kd j m 0 λd=>(old d).map (bV kd j d)) (dX kd j m 1 λd=>(old d).map (bV kd j d)))=kP kd j (dW m a b old):=by
 have y:∀d,d<2->g (Nat.add (Nat.add 23<|Nat.mul 2 j) d)=Nat.add (Nat.add 23<|Nat.mul 2 j) d:=λd hd=>x _ (by exact(lin [j,d] aL0) z hd);have e:∀d v,d<2->(aM d m=true->va (Nat.add 10 d) 0=FV.t v)->(dW m a b old).s d=J (aM d m) (some v) (old d)->(dX kd j m d λd=>(old d).map<|bV kd j d).map (av g va)=((dW m a b old).s d).map (bV kd j d):=λd v hd h w=>by
  rw[w];delta dX;cases q:aM d m with
  |true=>
   show some (av _ _ _)=some (bV kd j d v);delta bV;cases kd
   .show some (AV.ref<|g _)=_;rw[y d hd]
   .show some (AV.int<|va _ _)=some (AV.int _);rw[h q]
  |false=>
   show((old d).map _).map _=(old d).map _;cases old d with|none=>rfl|some u=>
    show some (av _ _<|bV kd j d u)=some (bV kd j d u);delta bV;cases kd
    .show some (AV.ref<|g _)=_;rw[y d hd]
    .rfl
 show AO.umap [(mW,some .unk),(mX,some<|av _ _<|.str _),(r0 j,_),(r1 j,_),(mY,some<|.ref<|g<|Nat.add 19 j)]=_;rw[e 0 a (by decide) o rfl,e 1 b (by decide) r rfl,x _<|by show 19+j<254;exact(lin [j] aO0) z];rfl
theorem Zx(l:aR fl (wB st val aJ nd Cs) Cs.n H)(O:d7 Cs)(s:254<=p)(hpN:p<Cs.n)(inj:∀k x y,va k x=va k y->x=y)(Z:j<4)(hm:st.ms j<3)(c:ij Cs j)(he:st.en j=none)(A:jD st va j 0 (st.ms j) a)(c1:jD st va j 1 (st.ms j) b)(E:aJ=some (aG (gD p Cs.n) va (di st.kd j (st.ms j) 7 7)))(kn:eO F (vf (aX st.kd) (.glo ln) j).loc (gD p Cs.n) va)(hc:∀x i,ae bl x=some i->ae F.cel x=some i)(hnd:b6 (58,nd)=true)(t:∀P H2,aR P (wB (eP st j (some (dW (st.ms j) a b λu=>none))) val none nd Cs) Cs.n H2->(∀i,i<Cs.n->(i<15\/(31<=i/\i<43)\/(47<=i/\i≠59))->P i=fl i)->k .nxt (ar P v0 (ar (gD p Cs.n) va ⟨ax (ng (aX st.kd) (.glo ln) j) [(b5,.str js)],bl⟩)) H2):cX (λp=>p) fD yT False (ar fl v0 F) H k:=by
 have X:=bq<|LJ (Zv (fo:=aB st) (eo:=a_ st) (ro:=bp st) (aJ:=di st.kd j (st.ms j) 7 7)) st.kd Z hm;have x1:=X _<|.head _;have x2:=X _<|.tail _<|.head _;have x3:=X _<|mT2<|.head _;have x4:=X _<|mT3<|.head _;have x5:=X _<|mT4<|.head _;have x6:=X _<|mT5<|.head _;have Q:∀i,i≠15+j->i≠19+j->i≠43+j->i≠59->i≠23+2*j->i≠23+2*j+1->ae (jC st.kd j<|st.ms j) i=none:=λi h0 h1 h2 h3 h4 h5=>by rw[hE (k:=Nat.add 15 j) h0];exact LR h1 h2 h3 h4 h5
 have m15:bj (jC st.kd j<|st.ms j) (Nat.add 15 j)=255:=oW sW;have m19:bj (jC st.kd j<|st.ms j) (Nat.add 19 j)=jy st.kd (st.ms j) 0 0 256:=oW (by rw[hE<|by show 19+j≠15+j;exact lin [j] 0x7b9410f4282268];exact LT);have m43:bj (jC st.kd j<|st.ms j) (Nat.add 43 j)=59:=oW (by rw[hE<|by show 43+j≠15+j;exact lin [j] 0x7b9410f4282568];exact LU);have hO:bS (wB st val aJ nd Cs) p Cs.n va (yV j (a_ st) (bp st)<|di st.kd j (st.ms j) 7 7):=by refine .cons (sR λk R=>sT (by delta a_;rw[he];rfl) k<|nk R) (.cons (sS λk R=>lV R) (.cons ⟨by show 59<254;decide,?_⟩ .nil));clear l;subst E;kernel_rfl
 have hpq:b6 (59,aJ)=true:=by clear l hO;subst E;exact EB
 refine mZ (holds:=λp=>p) (S:=nh st.kd j (st.ms j)<|aB st) (O:=yV j (a_ st) (bp st)<|di st.kd j (st.ms j) 7 7) (V:=ng (aX st.kd) (.glo ln) j) (fs2:=⟨[(b5,.str js)],bl⟩) (r2:=.nxt) (B2:=qN st.kd j (st.ms j) (a_ st) (bp st)<|di st.kd j (st.ms j) 7 7) l s hpN inj (mv:=jC st.kd j<|st.ms j) (dr:=[59])
  (hO.app<|LM Z rfl c A c1) kn.f1 (λx i e=>?_) (Zp st.kd Z hm)
  (λr fs' B' h=>ju (W:=[(b5,.str js)]) (D:=Ec st.kd j (st.ms j) (a_ st) (bp st)<|di st.kd j (st.ms j) 7 7) ?_ (λq hq=>?_) (λq hq=>?_) h) ?_ (λq hq h=>?_) (kR hpq hnd) (λu i o e j v=>(O.ref i o e j v).1) (L2:=LB (eP st j<|some<|dW (st.ms j) a b λu=>none) val none nd) ?_ (λP H2 U2 hfl=>t P H2 U2 λi N h=>hfl i N<|Q i ((lin [j,i] 0x4a4f72821e8146307b8ed02688bd10615a04d10fa181e81301101) Z h) ((lin [j,i] aS0) Z h) ((lin [j,i] aT0) Z h) ((lin [i] 0x127b8ed018c60f71da02d097a20c2b405a11f4303d01) h) ((lin [j,i] aU0) Z h)<|(lin [j,i] aV0) Z h)
 .rw[dc<|kS e];exact hc x i e
 .exact af (qP (Q 51 ((lin [j] 0x24f72821e8334301101) Z) ((lin [j] 0x24f7282268334301101) Z) ((lin [j] 0x24f7282568334301101) Z) (by decide) ((lin [j] 0x49ee5012c22e8334301101) Z)<|(lin [j] 0x127b940285012c22e8334301101) Z)) (af (qP (Q 52 ((lin [j] 0x24f72821e8344301101) Z) ((lin [j] 0x24f7282268344301101) Z) ((lin [j] 0x24f7282568344301101) Z) (by decide) ((lin [j] 0x49ee5012c22e8344301101) Z)<|(lin [j] 0x127b940285012c22e8344301101) Z)) da)
 .refine dJ hq ?_;exact⟨_,.head _,λu u u h=>h⟩
 .refine bk hq ?_ λhq=>?_
  .refine⟨dM<|a9 (a_ st) j<|some<|.ref 255,?_,λf va=>lX<|Zu m15 λk R q=>qO<|Q _ ((lin [k,j] 0x127b9420f42821e87b841) q) ((lin [j,k] 0x949ee5044d0a107a180881301101) Z R) ((lin [j,k] 0x949ee504ad0a107a180881301101) Z R) ((lin [k] 0x24f71da1410f4301101) R) ((lin [j,k] 0x1293dca025845d0a107a180881301101) Z R)<|(lin [j,k] 0x4a4f728050a025845d0a107a180881301101) Z R⟩;rw[show bj (jC st.kd j<|st.ms j) 14=14 from qO (Q _ ((lin [j] 0x24f72821e80e4301101) Z) ((lin [j] 0x24f72822680e4301101) Z) ((lin [j] 0x24f72825680e4301101) Z) (by decide) ((lin [j] 0x49ee5012c22e80e4301101) Z)<|(lin [j] 0x127b940285012c22e80e4301101) Z)];exact .head _
  .rcases ct.mp hq with hq|hq
   .refine bk hq ?_ λhq=>?_
    .refine⟨dp<|a9 (bp st) j<|.ref 59,?_,λf va=>lX<|LV m43 λk R q=>qO<|Q _ ((lin [j,k] 0x949ee5043d0a115a180881301101) Z R) ((lin [j,k] 0x949ee5044d0a115a180881301101) Z R) ((lin [k,j] 0x127b9422b42825687b841) q) ((lin [k] 0x24f71da1412b4301101) R) ((lin [j,k] 0x1293dca025845d0a115a180881301101) Z R)<|(lin [j,k] 0x4a4f728050a025845d0a115a180881301101) Z R⟩;rw[show bj (jC st.kd j<|st.ms j) 42=42 from qO (Q _ ((lin [j] 0x24f72821e82a4301101) Z) ((lin [j] 0x24f72822682a4301101) Z) ((lin [j] 0x24f72825682a4301101) Z) (by decide) ((lin [j] 0x49ee5012c22e82a4301101) Z)<|(lin [j] 0x127b940285012c22e82a4301101) Z)];exact .tail _<|.head _
    .refine bk hq ?_ λhq=>?_
     .refine⟨_,by rw[m15];exact mT2<|.head _,λf va=>?_⟩;have Y:=(Dj<|LJ Zo st.kd Z hm).toA f va
      rwa [Dh] at Y
     .refine bk hq ?_ λhq=>?_
      .exact⟨_,by rw[m19];exact mT3<|.head _,λf va=>lX LX⟩
      .refine dJ hq ?_;exact⟨_,by rw[m43];exact mT4<|.head _,λf va=>lX LW⟩
   .rcases ct.mp hq with hq|hq
    .cases hb:J st.kd false (aM 0<|st.ms j) with|false=>rw[show ds st.kd j (st.ms j) 0 0=[] by delta ds;rw[hb]] at hq;cases hq|true=>
      rw[show ds st.kd j (st.ms j) 0 0=[(Nat.add (Nat.add 23<|Nat.mul 2 j) 0,kJ 0)] by delta ds;rw[hb];rfl] at hq;refine dJ hq ?_;have R:st.kd=false:=by cases q:st.kd with|false=>rfl|true=>rw[q] at hb;exact bg hb
      have N:aM 0 (st.ms j)=true:=by rw[R] at hb;exact hb
      have hn:nw st.kd 0 (st.ms j) 0=true:=by delta nw;rw[R,N];rfl
      refine⟨kJ 0,?_,λf va=>cv.refl _⟩;rw[oW<|by delta jC;rw[hE<|by show 23+2*j+0≠15+j;exact(lin [j] 0x49ee5043d0a004280961174301101) Z];exact Zs Z hn];refine ct.mpr<|.inr<|ct.mpr<|.inl ?_;rw[hn];exact .head _
    .cases hb:J st.kd false (aM 1<|st.ms j) with|false=>rw[show ds st.kd j (st.ms j) 0 1=[] by delta ds;rw[hb]] at hq;cases hq|true=>
      rw[show ds st.kd j (st.ms j) 0 1=[(Nat.add (Nat.add 23<|Nat.mul 2 j) 1,kJ 1)] by delta ds;rw[hb];rfl] at hq;refine dJ hq ?_;have R:st.kd=false:=by cases q:st.kd with|false=>rfl|true=>rw[q] at hb;exact bg hb
      have N:aM 1 (st.ms j)=true:=by rw[R] at hb;exact hb
      have hn:nw st.kd 1 (st.ms j) 0=true:=by delta nw;rw[R,N];rfl
      refine⟨kJ 1,?_,λf va=>cv.refl _⟩;rw[oW<|by delta jC;rw[hE<|by show 23+2*j+1≠15+j;exact(lin [j] 0x49ee5043d0a014280961174301101) Z];exact Zt Z hn];refine ct.mpr<|.inr<|ct.mpr<|.inr ?_;rw[hn];exact .head _
 .refine af x1<|af ?_<|af rfl<|af rfl<|af rfl<|af ?_<|af x2<|af x3<|af x4<|af x5 da
  .show aV _ (ax (cM (aX st.kd) (.glo ln) j) [])=true;exact vB Z (λi N=>Et N Z λu h0 h1 h2 h3 h4 h5=>qP<|Q i h0 h1 h2 h3 h4 h5) rfl
  .refine dO λq hq=>?_;have hv:dT fT q.2=true:=by
    refine bk hq ?_ λhq=>?_
    .exact Eu (lW<|by show 15+j<=254;exact(lin [j] 0x126ff21410f4301101) Z)
    .rcases ct.mp hq with hq|hq
     .refine bk hq ?_ λhq=>?_
      .exact zh (lW<|by show 43+j<=254;exact(lin [j] 0x126ff21412b4301101) Z)
      .refine bk hq (LZ Z λu u=>rfl) λhq=>?_
       .refine bk hq L9 λhq=>?_
        .refine dJ hq ?_;exact LY
     .rcases ct.mp hq with hq|hq
      .exact zl q hq
      .exact zl q hq
   have hl:Nat.blt q.1 254=true:=by
    have Y:=bq x6 q hq;cases z:eK q.1 with|true=>rw[z] at Y;exact bg Y|false=>rw[z] at Y;exact Y
   show J (Nat.blt q.1 254) (dT fT q.2) false=true;rw[hl];exact hv
 .have Y:=bq x6 q hq;rw[h] at Y;exact bg Y
 .have hold:(λd:Nat=>((λu=>none:Nat->Option FV) d).map<|bV st.kd j d)=λu=>none:=rfl;rewrite[sU (B2r:=(14,dM<|a_<|eP st j<|some<|dW (st.ms j) a b λu=>none)::sX (eP st j<|some<|dW (st.ms j) a b λu=>none) st.kd j (st.ms j) a b (dW (st.ms j) a b λu=>none)) ?_]
  .have Y:=Zw (st:=st) (val:=val) (aJ:=aJ) (nd:=nd) (a:=a) (b:=b) Z hm;rw[LH he] at Y;exact Y
  .have w:∀d v,jD st va j d (st.ms j) v->(ds st.kd j (st.ms j) 0 d).map (λq=>(q.1,aG (gD p Cs.n) va q.2))=J (J st.kd false<|aM d<|st.ms j) [(Nat.add (Nat.add 23<|Nat.mul 2 j) d,dU v)] []:=λd v C=>by
    delta ds;cases hb:J st.kd false (aM d<|st.ms j) with|false=>rfl|true=>
     have N:aM d (st.ms j)=true:=by cases q:st.kd with|false=>rw[q] at hb;exact hb|true=>rw[q] at hb;exact bg hb
     refine fH λu oo=>?_;obtain⟨_,e1,e2,e3⟩:=C.yes N;refine oo ?_;show[(_,AO.tup [.int<|va (Nat.add 10 d) 0,.int<|va (Nat.add 30 d) 0,.int<|va (Nat.add 20 d) 0])]=[(_,dU v)];rw[e1,e2,e3];rfl
   have q1:aG (gD p Cs.n) va (dM<|a9 (a_ st) j<|some<|.ref<|Nat.add 15 j)=dM (a_<|eP st j<|some<|dW (st.ms j) a b λu=>none):=Zr λk R=>by
    by_cases q:k=j
    .rw[q,fc];delta a_;rw[Ex];show some (AV.ref<|gD p Cs.n<|Nat.add 15 j)=some (.ref<|Nat.add 15 j);rw[dc<|by show 15+j<254;exact(lin [j] aE0) Z]
    .rw[ff q,nk R];delta a_;rw[Ey q]
   have q2:aG (gD p Cs.n) va (dp<|a9 (bp st) j<|.ref<|Nat.add 43 j)=dp (bp<|eP st j<|some<|dW (st.ms j) a b λu=>none):=LN λk R=>by
    by_cases q:k=j
    .rw[q,fc];delta bp;rw[Ex];show AV.ref (gD p Cs.n<|Nat.add 43 j)=.ref (Nat.add 43 j);rw[dc<|by show 43+j<254;exact(lin [j] aK0) Z]
    .rw[ff q,lV R];delta bp;rw[Ey q]
   have q3:=L_ (va:=va) (g:=gD p Cs.n) (kd:=st.kd) (m:=st.ms j) (a:=a) (b:=b) (old:=λu=>none) (λi h=>dc h) Z (λh=>(A.yes h).2.1) λh=>(c1.yes h).2.1;have q5:=LO (va:=va) (g:=gD p Cs.n) (kd:=st.kd) (j:=j) (a:=a) (b:=b) (old:=λu=>none) (λh=>zk (A.yes h).2.1 (A.yes h).2.2.2) (λh=>zk (c1.yes h).2.1 (c1.yes h).2.2.2) hm;delta qN nl sX;rw[List.map_cons,eX,eX,eX,eX,List.map_append,List.map_append,w 0 a A,w 1 b c1,q1]
   congr 1
   congr 1
   show[(42,aG _ _ _),(_,aG _ _ _),(_,aG _ _<|.tup _),(_,aG _ _ _)]=_;rw[q2,q5,show aG (gD p Cs.n) va (ie st.kd j (dX st.kd j (st.ms j) 0 λu=>none)<|dX st.kd j (st.ms j) 1 λu=>none)=_ from q3];show[_,_,(_,AO.tup _),_]=_;rw[j7]
end
inductive jE:Bool->Nat->Nat->Nat->Prop where
 |t m:m<3->jE true m 6 6
 |a y:y<3->jE false 0 y 6
 |b y:y<3->jE false 1 6 y
 |c (y z):y<3->z<3->jE false 2 y z
theorem zm{Q:Bool->Nat->Nat->Nat->Nat->Prop}(h:j5 Q){kd:Bool}{j m y z:Nat}(v:j<4)(C:jE kd m y z):Q kd j m y z:=by
 obtain⟨r,u,q,s⟩:=jA h v;cases C with|t m w=>exact hB r w|a _ x=>exact hB u x|b _ x=>exact hB q x|c y z x o=>exact hB (hB s x) o
theorem zn(h:∀kd j m y z,Q kd j m y z):j5 Q:=
 qK λu=>⟨jB λu=>h _ _ _ _ _,jB λu=>h _ _ _ _ _,jB λu=>h _ _ _ _ _,jB λu=>jB λu=>h _ _ _ _ _⟩
theorem Zy(w:j<4)(C:jE kd m y z):Lg s r kd j m y z x v so t aJ:=
 zm (by rw[YL s r x v so t aJ];exact zn λu u u u u=>iD) w C
def Ma(kd:Bool)(j m y z:Nat)(w v so:wg)(x:Nat->AV)(aJ:AO):Bool:=aV (λb=>b) [uI (dP kd j m y z 255),aV (λq=>dz (dP kd j m y z 255) q.1) (oR kd j m w v),aV (λq=>J (isIn (nl kd j m y z x so aJ) q.1) true (a5 [59] q.1)) (yX kd j y z so x aJ),
  aV (λq=>J (J true (Nat.blt q.1 60)<|Nat.blt q.1 254) (J (J (isIn (nl kd j m y z x so aJ) q.1) true<|a5 [59] q.1) (aV (λi=>J (isIn (nl kd j m y z x so aJ) i) (J (isIn (oR kd j m w v) i) false true)<|a5 [59] i)<|lK q.1) false) false) (dP kd j m y z 255),
  aV (λi=>J (J true (J (eK i) false<|Nat.blt i 60) true) (J (isIn (nl kd j m y z x so aJ) i) false<|J (isIn (oR kd j m w v) i) false true) false) [59],aV (λq=>J (eK q.1) false<|Nat.blt q.1 254)<|nl kd j m y z x so aJ]
theorem Zz(x:j<4)(C:jE kd m y z):Ma kd j m y z fo eo so ro aJ=true:=by
 have h:(j5 λkd j m y z=>Ma kd j m y z fo eo so ro aJ=true)=(j5 λu u u u u=>true=true):=by kernel_rfl
 exact zm (by rw[h];exact zn λu u u u u=>rfl) x C
theorem ZA:cv (.umap ((k,some a)::es)) (.umap ((k,some .unk)::es)):=by
 intro prog w t s h o r;obtain⟨x,d,z,l,m⟩:=r;refine⟨x,d,z,λc u e=>?_,λp y=>?_⟩
 .rw[b3] at e
  by_cases q:k=c
  .rw[aw q] at e;cases e;have n:=l c (some a) (by rw[b3,aw q]);cases hv:cQ x (am c) with|none=>rw[hv] at n;exact n.elim|some v=>rw[hv] at n;exact lB (b:=.unk) rfl _ _ _ n
  .rw[aq q] at e;exact l c u (by rw[b3,aq q];exact e)
 .obtain⟨c,u,e,e2⟩:=m p y;rw[b3] at e
  by_cases q:k=c
  .exact⟨c,some .unk,by rw[b3,aw q],e2⟩
  .rw[aq q] at e;exact⟨c,u,by rw[b3,aq q];exact e,e2⟩
theorem ZB{st:aH}(z:j<4)(y:m<3):LB (eP st j (some (dW m a b e.s))) val none nd=zf (sX (eP st j (some (dW m a b e.s))) st.kd j m a b (dW m a b e.s)) [59] (LB (eP st j (some e)) val aJ nd):=by
 obtain⟨fv,en,ck,ms,kd,tb,xs,rw,mk,lp⟩:=st;cases kd<;>(refine c4 (j:=j) ‹_› ?_ ?_ ?_ ?_<;>(refine c3 (j:=m) ‹_› ?_ ?_ ?_<;>kernel_rfl))
section
variable {fl:Nat->Nat}{st:aH}{val:Nat->Option Nat}{aJ nd:Option AO}{Cs:AH}{H:AH}{F:aK}{p:Nat}{va:Nv}
structure lY kd(va:Nv)(e:EN)(d y)v:Prop where
 yes:qD kd y=true->∃u,e.s d=some u/\va (Nat.add 10 d) (yt y)=u.t/\va (Nat.add 50 d) 0=c_ u.c/\va (Nat.add 60 d) 0=.ofNat u.c/\(y=1->u=v)
 no:kd=false->y=0->e.s d=none
theorem Mb(r:j<4)(hd:d<2)(C:lY st.kd va e d y v):(qE st.kd j d y λd=>(e.s d).map (bV st.kd j d)).map (av (gD p N) va)=(e.s d).map (bV st.kd j d):=by
 have t:gD p N (Nat.add (Nat.add 23<|Nat.mul 2 j) d)=Nat.add (Nat.add 23<|Nat.mul 2 j) d:=dc (by exact(lin [j,d] aL0) r hd);have x:((e.s d).map<|bV st.kd j d).map (av (gD p N) va)=(e.s d).map (bV st.kd j d):=by
  cases e.s d with|none=>rfl|some u=>
   show some (av _ _<|bV st.kd j d u)=some (bV st.kd j d u);delta bV;cases st.kd with|true=>rfl|false=>show some (AV.ref<|gD p N _)=_;rw[t]
 delta qE;cases h:qD st.kd y with
 |true=>
  have w:st.kd=false:=by cases q:st.kd with|false=>rfl|true=>rw[q] at h;cases h
  obtain⟨u,e1,_⟩:=C.yes h;rw[e1];show some (AV.ref<|gD p N _)=some (bV st.kd j d u);delta bV;rw[w,t]
 |false=>
  cases q:J st.kd false (Nat.beq y 0) with|false=>exact x|true=>
   have w:st.kd=false:=by cases z:st.kd with|false=>rfl|true=>rw[z] at q;cases q
   rw[w] at q;rw[C.no w<|Nat.eq_of_beq_eq_true q];rfl
theorem ZC(x:j<4)(v:st.en j=some e)(w:lY st.kd va e 0 y a)(u:lY st.kd va e 1 z b):kQ (wB st val aJ nd Cs) p N va (Nat.add 15 j,ie st.kd j (qE st.kd j 0 y λd=>(e.s d).map (bV st.kd j d)) (qE st.kd j 1 z λd=>(e.s d).map (bV st.kd j d))):=by
 refine⟨(lin [j] aE0) x,(Lk x).trans ?_⟩;rw[v];show some (kP st.kd j e)=some (AO.umap [(mW,some .unk),(mX,some<|av _ _<|.str _),(r0 j,_),(r1 j,_),(mY,some<|.ref<|gD p N<|Nat.add 19 j)]);rw[Mb x (by decide) w,Mb x (by decide) u,dc<|by exact(lin [j] aO0) x];rfl
theorem Mc(z:j<4)(hd:d<2)(t:st.en j=some e)(C:lY st.kd va e d y v):bS (wB st val aJ nd Cs) p N va (J (qD st.kd y) (qF j d y) []):=.cno λh=>by
 have x:st.kd=false:=by cases q:st.kd with|false=>rfl|true=>rw[q] at h;cases h
 obtain⟨u,e1,e2,w,r,_⟩:=C.yes h;refine .cons ⟨(lin [j,d] aL0) z hd,(Ll z hd).trans ?_⟩ .nil;rw[x,t];show(e.s d).map dU=some (AO.tup [.int<|va _ _,.int<|va _ _,.int<|va _ _]);rw[e1,e2,w,r];rfl
end
section
variable {fl:Nat->Nat}{st:aH}{val:Nat->Option Nat}{aJ nd:Option AO}{Cs:AH}{H:AH}{F:aK}{p:Nat}{va:Nv}
theorem ZD(C:jE kd m y z):m<3:=by cases C<;>omega
theorem ZE(C:jE kd m y z):(aM 0 m=true->kd=false->y<3)/\(aM 1 m=true->kd=false->z<3)/\(aM 0 m=false->y=6)/\(aM 1 m=false->z=6):=by
 cases C with|t m v=>exact⟨λu h=>(by cases h),λu h=>(by cases h),λu=>rfl,λu=>rfl⟩|a _ x=>exact⟨λu u=>x,(λh=>bg h),(λh=>by cases h),λu=>rfl⟩|b _ x=>exact⟨(λh=>bg h),λu u=>x,λu=>rfl,(λh=>by cases h)⟩|c _ _ x w=>exact⟨λu u=>x,λu u=>w,(λh=>by cases h),(λh=>by cases h)⟩
def j8(x y:Bool)(v w:Int)(kd:Bool)(j d:Nat):Option AV:=@Nat.rec (λz=>Option AV) (J x (some (bV kd j 0 ⟨v,0⟩)) none) (λz z=>J y (some (bV kd j 1 ⟨w,0⟩)) none) d
theorem ZF(f:Nat->Nat)(va:Nv)(w x:Bool)(u v:Int):j5 λkd j m y z=>aG f va (vg kd j .unk (lT kd j m y z 0 (j8 w x u v kd j)) (lT kd j m y z 1 (j8 w x u v kd j)) (jy kd m y z 255))=aG (λi=>f (bj (dP kd j m y z 255) i)) va (ie kd j (dX kd j m 0 (j8 w x u v kd j)) (dX kd j m 1 (j8 w x u v kd j))):=by
 have h:(j5 λkd j m y z=>aG f va (vg kd j .unk (lT kd j m y z 0<|j8 w x u v kd j) (lT kd j m y z 1<|j8 w x u v kd j)<|jy kd m y z 255)=aG (λi=>f<|bj (dP kd j m y z 255) i) va (ie kd j (dX kd j m 0<|j8 w x u v kd j)<|dX kd j m 1<|j8 w x u v kd j))=(j5 λkd j m y z=>aG (λi=>f<|bj (dP kd j m y z 255) i) va (ie kd j (dX kd j m 0<|j8 w x u v kd j)<|dX kd j m 1<|j8 w x u v kd j)=aG (λi=>f<|bj (dP kd j m y z 255) i) va (ie kd j (dX kd j m 0<|j8 w x u v kd j)<|dX kd j m 1<|j8 w x u v kd j)):=by cases w<;>cases x<;>kernel_rfl
 rw[h];exact zn λz z z z z=>rfl
theorem ZG(q:j<4)(C:jE kd m y z)(e:EN)(f:Nat->Nat)(va:Nv):aG f va (vg kd j .unk (lT kd j m y z 0 λd=>(e.s d).map (bV kd j d)) (lT kd j m y z 1 λd=>(e.s d).map (bV kd j d)) (jy kd m y z 255))=aG (λi=>f (bj (dP kd j m y z 255) i)) va (ie kd j (dX kd j m 0 λd=>(e.s d).map (bV kd j d)) (dX kd j m 1 λd=>(e.s d).map (bV kd j d))):=by
 have h:=λw x o r=>zm (ZF f va w x o r) q C;show aG f va (.umap [_,_,(_,J _ (J _ _<|(e.s 0).map _)<|J _ _<|J _ _<|(e.s 0).map _),(_,J _ (J _ _<|(e.s 1).map _)<|J _ _<|J _ _<|(e.s 1).map _),_])=aG _ va (.umap [_,_,(_,J _ _<|(e.s 0).map _),(_,J _ _<|(e.s 1).map _),_]);generalize e.s 0=a,e.s 1=b;cases a with
 |none=>
  cases b with|none=>exact h false false 0 0|some v=>exact h false true 0 v.t
 |some u=>
  cases b with|none=>exact h true false u.t 0|some v=>exact h true true u.t v.t
def zo(kd:Bool)(j m y z:Nat):ld:=ax (Eb kd m y z 255) (ax (J (yY kd 0 m y) (qF j 0 y) []) (J (yY kd 1 m z) (qF j 1 z) []))
theorem ZH:j5 λkd j m y z=>((ds kd j m y 0).map λq=>ae (zo kd j m y z) (bj (dP kd j m y z 255) q.1))=((ds kd j m y 0).map λq=>some q.2)/\((ds kd j m z 1).map λq=>ae (zo kd j m y z) (bj (dP kd j m y z 255) q.1))=((ds kd j m z 1).map λq=>some q.2):=by
 have h:(j5 λkd j m y z=>((ds kd j m y 0).map λq=>ae (zo kd j m y z)<|bj (dP kd j m y z 255) q.1)=((ds kd j m y 0).map λq=>some q.2)/\((ds kd j m z 1).map λq=>ae (zo kd j m y z)<|bj (dP kd j m y z 255) q.1)=((ds kd j m z 1).map λq=>some q.2))=(j5 λkd j m y z=>((ds kd j m y 0).map λq=>some q.2)=((ds kd j m y 0).map λq=>some q.2)/\((ds kd j m z 1).map λq=>some q.2)=((ds kd j m z 1).map λq=>some q.2)):=by kernel_rfl
 rw[h];exact zn λz z z z z=>⟨rfl,rfl⟩
theorem Md:∀q∈ds kd j m y d,aG f va q.2=aG g va q.2:=λq z=>by
 delta ds at z;cases h:J kd false (aM d m) with|false=>rw[h] at z;cases z|true=>rw[h] at z;refine dJ z ?_;cases Nat.beq y 1<;>rfl
theorem Me(w:j<4)(C:jE kd m y z){aJ:AO}:(∀q∈ds kd j m y 0,∃o,(bj (dP kd j m y z 255) q.1,o)∈vh kd j m y z so v aJ/\∀f va,cv (aG f va o) (aG (λi=>f (bj (dP kd j m y z 255) i)) va q.2))/\∀q∈ds kd j m z 1,∃o,(bj (dP kd j m y z 255) q.1,o)∈vh kd j m y z so v aJ/\∀f va,cv (aG f va o) (aG (λi=>f (bj (dP kd j m y z 255) i)) va q.2):=by
 have h:=zm ZH w C;exact⟨λq x=>⟨q.2,ct.mpr<|.inr<|bA<|List.map_inj_left.mp h.1 q x,λf va=>lX<|Md q x⟩,λq x=>⟨q.2,ct.mpr<|.inr<|bA<|List.map_inj_left.mp h.2 q x,λf va=>lX<|Md q x⟩⟩
theorem ZI(R:aR fl (wB st val aJ nd Cs) Cs.n H)(O:d7 Cs)(Z:254<=p)(hpN:p<Cs.n)(inj:∀k x y,va k x=va k y->x=y)(P:j<4)(C:jE st.kd (st.ms j) y z)(Q:ij Cs j)(he:st.en j=some e)(c0:jD st va j 0 (st.ms j) a)(c1:jD st va j 1 (st.ms j) b)(u0:lY st.kd va e 0 y a)(u1:lY st.kd va e 1 z b)(hpi:aJ=some (aG (gD p Cs.n) va (di st.kd j (st.ms j) 7 7)))(kn:eO F (vf (aX st.kd) (.glo ln) j).loc (gD p Cs.n) va)(hc:∀x i,ae bl x=some i->ae F.cel x=some i)(hnd:b6 (58,nd)=true)(c:∀A H2,aR A (wB (eP st j (some (dW (st.ms j) a b e.s))) val none nd Cs) Cs.n H2->(∀i,i<Cs.n->(i<15\/(31<=i/\i<43)\/(47<=i/\i≠59))->A i=fl i)->k .nxt (ar A v0 (ar (gD p Cs.n) va ⟨ax (ng (aX st.kd) (.glo ln) j) [(b5,.str js)],bl⟩)) H2):cX (λp=>p) fD yT False (ar fl v0 F) H k:=by
 have hm:=ZD C;obtain⟨z0,z1,z2,z3⟩:=ZE C
 let so:Nat->Option AV:=λd=>(e.s d).map<|bV st.kd j d
 have X:=bq<|Zz (fo:=aB st) (eo:=a_ st) (so:=so) (ro:=bp st) (aJ:=di st.kd j (st.ms j) 7 7) P C;have x1:=X _<|.head _;have x2:=X _<|.tail _<|.head _;have x3:=X _<|mT2<|.head _;have x4:=X _<|mT3<|.head _;have x5:=X _<|mT4<|.head _;have x6:=X _<|mT5<|.head _;have N:∀i,i≠19+j->i≠43+j->i≠59->i≠23+2*j->i≠23+2*j+1->ae (dP st.kd j (st.ms j) y z 255) i=none:=λi h1 h2 h3 h4 h5=>LR h1 h2 h3 h4 h5;have m15:bj (dP st.kd j (st.ms j) y z 255) (Nat.add 15 j)=Nat.add 15 j:=qO (N _ (by show 15+j≠19+j;exact lin [j] 0x7b9411342821e8) (by show 15+j≠43+j;exact lin [j] 0x7b9412b42821e8) (by show 15+j≠59;exact(lin [j] 0x24f71da1410f4301101) P) (by show 15+j≠23+2*j;exact(lin [j] 0x127b9404b08ba1410f4301101) P)<|by show 15+j≠23+2*j+1;exact(lin [j] 0x49ee500a1404b08ba1410f4301101) P);have m19:bj (dP st.kd j (st.ms j) y z 255) (Nat.add 19 j)=jy st.kd (st.ms j) y z 255:=oW LT;have m43:bj (dP st.kd j (st.ms j) y z 255) (Nat.add 43 j)=59:=oW LU;have hO:bS (wB st val aJ nd Cs) p Cs.n va (yX st.kd j y z so (bp st)<|di st.kd j (st.ms j) 7 7):=by refine .app (.cons (sS λk E=>lV E) (.cons (ZC P he u0 u1) (.cons ⟨by show 59<254;decide,?_⟩ .nil))) (.app (Mc P (by decide) he u0) (Mc P (by decide) he u1));clear R;subst hpi;kernel_rfl
 have hS:bS (wB st val aJ nd Cs) p Cs.n va (oR st.kd j (st.ms j) (aB st)<|a_ st):=.cons (sR λk E=>sT (by delta a_;rw[he];show some (AV.ref<|gD p Cs.n<|Nat.add 15 j)=some (.ref<|Nat.add 15 j);rw[dc<|by show 15+j<254;exact(lin [j] aE0) P]) k<|nk E)<|LM P rfl Q c0 c1;have hpq:b6 (59,aJ)=true:=by clear R hO hS;subst hpi;exact EB
 refine mZ (holds:=λp=>p) (S:=oR st.kd j (st.ms j) (aB st)<|a_ st) (O:=yX st.kd j y z so (bp st)<|di st.kd j (st.ms j) 7 7) (V:=ng (aX st.kd) (.glo ln) j) (fs2:=⟨[(b5,.str js)],bl⟩) (r2:=.nxt) (B2:=nl st.kd j (st.ms j) y z (bp st) so<|di st.kd j (st.ms j) 7 7) R Z hpN inj (mv:=dP st.kd j (st.ms j) y z 255) (dr:=[59])
  (hO.app hS) kn.f1 (λx i e=>?_) (Zy P C)
  (λr fs' B' h=>ju (W:=[(b5,.str js)]) (D:=vh st.kd j (st.ms j) y z so (bp st)<|di st.kd j (st.ms j) 7 7) ?_ (λq hq=>?_) (λq hq=>?_) h) ?_ (λq hq h=>?_) (kR hpq hnd) (λt i o e j v=>(O.ref i o e j v).1) (L2:=LB (eP st j<|some<|dW (st.ms j) a b e.s) val none nd) ?_ (λA H2 U2 hfl=>c A H2 U2 λi hi h=>hfl i hi<|N i ((lin [j,i] aS0) P h) ((lin [j,i] aT0) P h) ((lin [i] 0x127b8ed018c60f71da02d097a20c2b405a11f4303d01) h) ((lin [j,i] aU0) P h)<|(lin [j,i] aV0) P h)
 .rw[dc<|kS e];exact hc x i e
 .exact af (qP (N 51 ((lin [j] 0x24f7282268334301101) P) ((lin [j] 0x24f7282568334301101) P) (by decide) ((lin [j] 0x49ee5012c22e8334301101) P)<|(lin [j] 0x127b940285012c22e8334301101) P)) (af (qP (N 52 ((lin [j] 0x24f7282268344301101) P) ((lin [j] 0x24f7282568344301101) P) (by decide) ((lin [j] 0x49ee5012c22e8344301101) P)<|(lin [j] 0x127b940285012c22e8344301101) P)) da)
 .refine dJ hq ?_;exact⟨_,.head _,λt t t h=>h⟩
 .rcases ct.mp hq with hq|hq
  .refine bk hq ?_ λhq=>?_
   .refine⟨dp<|a9 (bp st) j<|.ref 59,?_,λf va=>lX<|LV m43 λk E q=>qO<|N _ ((lin [j,k] 0x949ee5044d0a115a180881301101) P E) ((lin [k,j] 0x127b9422b42825687b841) q) ((lin [k] 0x24f71da1412b4301101) E) ((lin [j,k] 0x1293dca025845d0a115a180881301101) P E)<|(lin [j,k] 0x4a4f728050a025845d0a115a180881301101) P E⟩;rw[show bj (dP st.kd j (st.ms j) y z 255) 42=42 from qO (N _ ((lin [j] 0x24f72822682a4301101) P) ((lin [j] 0x24f72825682a4301101) P) (by decide) ((lin [j] 0x49ee5012c22e82a4301101) P)<|(lin [j] 0x127b940285012c22e82a4301101) P)];exact .head _
   .refine bk hq ?_ λhq=>?_
    .refine⟨vg st.kd j (.ref<|Nat.add 80 j) (lT st.kd j (st.ms j) y z 0 so) (lT st.kd j (st.ms j) y z 1 so)<|jy st.kd (st.ms j) y z 255,by rw[m15];exact .tail _<|.head _,λf va=>?_⟩;rw[(ZG P C e f va).symm];exact ZA
    .refine bk hq ?_ λhq=>?_
     .exact⟨_,by rw[m19];exact mT2<|.head _,λf va=>lX LX⟩
     .refine dJ hq ?_;exact⟨_,by rw[m43];exact mT3<|.head _,λf va=>lX LW⟩
  .rcases ct.mp hq with hq|hq
   .exact(Me P C).1 q hq
   .exact(Me P C).2 q hq
 .refine af x1<|af ?_<|af rfl<|af rfl<|af rfl<|af ?_<|af x2<|af x3<|af x4<|af x5 da
  .show aV _ (ax (cM (aX st.kd) (.glo ln) j) [])=true;exact vB P (λi hi=>Et hi P λt t h1 h2 h3 h4 h5=>qP<|N i h1 h2 h3 h4 h5) rfl
  .refine dO λq hq=>?_;have hv:dT fT q.2=true:=by
    rcases ct.mp hq with hq|hq
    .refine bk hq ?_ λhq=>?_
     .exact zh (lW<|by show 43+j<=254;exact(lin [j] 0x126ff21412b4301101) P)
     .refine bk hq ?_ λhq=>?_
      .refine LZ P λd hd=>?_;show ad ((e.s d).map<|bV st.kd j d) true _=true;cases e.s d with|none=>rfl|some u=>
        show bh fT (bV st.kd j d u)=true;cases st.kd with|true=>rfl|false=>exact lW (by show 23+2*j+d<=254;exact(lin [j,d] 0x949bfc8509404b08ba180481301101) P hd)
      .refine bk hq L9 λhq=>?_
       .refine dJ hq ?_;exact LY
    .rcases ct.mp hq with hq|hq
     .exact zl q hq
     .exact zl q hq
   have hl:Nat.blt q.1 254=true:=by
    have Y:=bq x6 q hq;cases z:eK q.1 with|true=>rw[z] at Y;exact bg Y|false=>rw[z] at Y;exact Y
   show J (Nat.blt q.1 254) (dT fT q.2) false=true;rw[hl];exact hv
 .have Y:=bq x6 q hq;rw[h] at Y;exact bg Y
 .rewrite[sU (B2r:=sX (eP st j<|some<|dW (st.ms j) a b e.s) st.kd j (st.ms j) a b<|dW (st.ms j) a b e.s) ?_]
  .have Y:=ZB (st:=st) (val:=val) (aJ:=aJ) (nd:=nd) (a:=a) (b:=b) (e:=e) P hm;rw[LH he] at Y;exact Y
  .have l:∀d w v,d<2->jD st va j d (st.ms j) v->lY st.kd va e d w v->(ds st.kd j (st.ms j) w d).map (λq=>(q.1,aG (gD p Cs.n) va q.2))=J (J st.kd false<|aM d<|st.ms j) [(Nat.add (Nat.add 23<|Nat.mul 2 j) d,dU v)] []:=λd w v hd C CU=>by
    delta ds;cases hb:J st.kd false (aM d<|st.ms j) with|false=>rfl|true=>
     have E:st.kd=false:=by cases q:st.kd with|false=>rfl|true=>rw[q] at hb;exact bg hb
     have hi:aM d (st.ms j)=true:=by rw[E] at hb;exact hb
     obtain⟨_,e1,e2,e3⟩:=C.yes hi;cases hy:Nat.beq w 1 with
     |true=>have hw:=Nat.eq_of_beq_eq_true hy;refine fH λt oo=>?_;obtain⟨u,_,_,g1,g2,g3⟩:=CU.yes (by delta qD;rw[E,hy]);have Y:=g3 hw;clear CU e2 e3 g3;subst Y;refine oo ?_;show[(_,AO.tup [.int<|va (Nat.add 10 d) 0,.int<|va (Nat.add 50 d) 0,.int<|va (Nat.add 60 d) 0])]=[(_,dU u)];rw[e1,g1,g2];rfl
     |false=>show[(_,AO.tup [.int<|va (Nat.add 10 d) 0,.int<|va (Nat.add 30 d) 0,.int<|va (Nat.add 20 d) 0])]=[(_,dU v)];rw[e1,e2,e3];rfl
   have q2:aG (gD p Cs.n) va (dp<|a9 (bp st) j<|.ref<|Nat.add 43 j)=dp (bp<|eP st j<|some<|dW (st.ms j) a b e.s):=LN λk E=>by
    by_cases q:k=j
    .rw[q,fc];delta bp;rw[Ex];show AV.ref (gD p Cs.n<|Nat.add 43 j)=.ref (Nat.add 43 j);rw[dc<|by show 43+j<254;exact(lin [j] aK0) P]
    .rw[ff q,lV E];delta bp;rw[Ey q]
   have q3:=L_ (va:=va) (g:=gD p Cs.n) (kd:=st.kd) (m:=st.ms j) (a:=a) (b:=b) (old:=e.s) (λi h=>dc h) P (λh=>(c0.yes h).2.1) λh=>(c1.yes h).2.1;have q5:=LO (va:=va) (g:=gD p Cs.n) (kd:=st.kd) (j:=j) (a:=a) (b:=b) (old:=e.s) (λh=>zk (c0.yes h).2.1 (c0.yes h).2.2.2) (λh=>zk (c1.yes h).2.1 (c1.yes h).2.2.2) hm;delta nl sX;rw[eX,eX,eX,eX,List.map_append,List.map_append,l 0 y a (by decide) c0 u0,l 1 z b (by decide) c1 u1]
   congr 1
   show[(42,aG _ _ _),(_,aG _ _ _),(_,aG _ _<|.tup _),(_,aG _ _ _)]=_;rw[q2,q5,show aG (gD p Cs.n) va (ie st.kd j (dX st.kd j (st.ms j) 0 so)<|dX st.kd j (st.ms j) 1 so)=_ from q3];show[_,_,(_,AO.tup _),_]=_;rw[j7]
end
def vc(kd:Bool)(z:Nat)(k n:Nat):Int:=J (Nat.beq k 100) (.ofNat (Nat.add (J kd 0 2) n)) (J (Nat.beq k 1000) (.ofNat (Nat.add z n)) (.ofNat n))
theorem zp(k x y)(h:vc kd ln k x=vc kd ln k y):x=y:=by
 delta vc at h;cases h1:Nat.beq k 100 with
 |true=>rw[h1] at h;have h:=h;injection h with h;exact(lin [J kd 0 2,x,y] aC0) h
 |false=>
  rw[h1] at h;cases h2:Nat.beq k 1000 with|false=>rw[h2] at h;have h:=h;injection h|true=>rw[h2] at h;have h:=h;injection h with h;exact(lin [ln,x,y] aC0) h
theorem zs:(cg aW aL).map (λq=>(q.1,av bE (vc kd z) q.2))=cg (aX kd) (.glo z):=by
 cases kd<;>rfl
theorem ED:(cg (aX kd) (.glo z)).map (λq=>(q.1,av (gD p N) va q.2))=cg (aX kd) (.glo z):=by
 cases kd<;>rfl
theorem oX{es:iJ}:ae (es.map λq=>(q.1,f q.2)) x=(ae es x).map f:=qg
theorem ZJ{fs:aK}(M:K1 d Z l o fs h p j):eO (ar bE (vc kd t) fs) (cM (aX kd) (.glo t) j) (gD p N) va:=by
 intro x a e;have hx:ae (ax (cg (aX kd)<|.glo t) [(dy,.ref 254),(qp,.ref<|Nat.add 60 j),(lG,.int<|.ofNat j),(sB,.str<|gH j)]) x=some a:=e;rw[dA] at hx;cases z:ae (cg (aX kd)<|.glo t) x with
 |some b=>
  rw[z] at hx;cases(hx);have i:=z;rw[<-zs,oX] at z;cases y:ae (cg aW aL) x with|none=>rw[y] at z;cases z|some c=>
   rw[y] at z;injection z with z
   obtain⟨u,n,le⟩:=M.nm.loc _<|bA y;refine⟨av bE (vc kd t) u,by rw[eD,show ae fs.loc x=some u from n];rfl,?_⟩;have k:=(lB le).toA bE<|vc kd t;rw[show av bE (vc kd t) c=a from z] at k;have f:av (gD p N) va a=a:=by
    have e2:ae ((cg (aX kd)<|.glo t).map λq=>(q.1,av (gD p N) va q.2)) x=ae (cg (aX kd)<|.glo t) x:=by rw[ED]
    rw[oX,i] at e2;exact Option.some.inj e2
   rw[f];exact k
 |none=>rw[z] at hx;have hx:=hx;have s:=bA hx;have v:∀u,ae fs.loc x=some u->av bE (vc kd t) u=av (gD p N) va a->∃m,ae (ar bE (vc kd t) fs).loc x=some m/\cW m (av (gD p N) va a):=λu n g=>⟨_,by rw[eD,n];rfl,by rw[g];exact λw w w r=>r⟩;clear e z;revert v;refine gQ s (λv=>v _ M.node rfl) λs=>gQ s (λv=>v _ M.task ?_) λs=>gQ s (λv=>v _ M.jv rfl) λs=>eW s λv=>v _ M.target rfl;show AV.ref (Nat.add 60 j)=.ref (gD p N<|Nat.add 60 j);rw[dc<|by have Y:=M.j4;exact(lin [j] 0x1267f21413c4301101) Y]
theorem ZK(M:qz fs):∀x i,ae bl x=some i->ae (ar bE va fs).cel x=some i:=λx i e=>by
 rw[iZ,show ae fs.cel x=some i from M.cel _<|bA e];rfl
theorem aw1(h:∀x a,ae y x=some a->ae W x=some a):eO (ar g va ⟨W,C⟩) y g va:=λx a e=>⟨_,by rw[eD,show ae W x=some a from h x a e];rfl,λz z z r=>r⟩
theorem oY:∀x i,ae bl x=some i->ae (ar (gD p N) va ⟨W,bl⟩).cel x=some i:=λx i e=>by
 rw[iZ,show ae bl x=some i from e];show some (gD p N i)=some i;rw[dc<|kS e]
structure bN(st:aH)(gh:Int->Nat):Prop where
 f:∀k v,st.fv k=some v->v.t<=st.ck/\v.c<4/\gh v.t=v.c
 em:∀j e,st.en j=some e->e.m<3
 es:∀j e d,st.en j=some e->aM d e.m=true->∃u,e.s d=some u
 eu:∀j e d u,st.en j=some e->e.s d=some u->u.t<=st.ck/\u.c<4/\gh u.t=u.c
 et:∀j e v,j<4->st.en j=some e->st.fv (Nat.add 3 j)=some v->v.c=e_ j e.m (((e.s 0).getD ⟨0,0⟩).c) (((e.s 1).getD ⟨0,0⟩).c)
 m:∀j,j<4->st.ms j<3
def jF(st:aH)(j:Nat):Prop:=∀d,d<2->aM d (st.ms j)=true->∃v,st.fv (aZ j d)=some v
def fg(st:aH)(j:Nat):Nat:=e_ j (st.ms j) (bY st j 0).c (bY st j 1).c
def vd(y z:Nat->Int)(k n:Nat):Int:=qA (y k) (z k) n
theorem lZ(k x y:Nat)(h:vd w z k x=vd w z k y):x=y:=Yx _ _ _ _ h
theorem aw2:vd z y k 0=z k:=rfl
theorem ZL(h:z k≠y k):vd y z k 1=z k:=Yy h
def al(st:aH)(j k:Nat):Int:=J (Nat.beq k 10) (bY st j 0).t (J (Nat.beq k 11) (bY st j 1).t (J (Nat.beq k 20) (.ofNat (bY st j 0).c) (J (Nat.beq k 21) (.ofNat (bY st j 1).c) (J (Nat.beq k 30) (c_ (bY st j 0).c) (J (Nat.beq k 31) (c_ (bY st j 1).c)
 (J (Nat.beq k 40) st.ck<|J (Nat.beq k 50) (c_ (g_ st j 0).c)<|J (Nat.beq k 51) (c_ (g_ st j 1).c)<|J (Nat.beq k 60) (.ofNat (g_ st j 0).c)<|J (Nat.beq k 61) (.ofNat (g_ st j 1).c) 0))))))
def be(st:aH)(j k:Nat):Int:=J (Nat.beq k 10) (g_ st j 0).t (J (Nat.beq k 11) (g_ st j 1).t (J (Nat.beq k 20) (.ofNat (g_ st j 0).c) (J (Nat.beq k 21) (.ofNat (g_ st j 1).c) (J (Nat.beq k 30) (c_ (g_ st j 0).c) (J (Nat.beq k 31) (c_ (g_ st j 1).c) 0)))))
abbrev vj(st:aH)(j:Nat):Nat->Nat->Int:=vd (al st j) (be st j)
section
variable {st:aH}{j d:Nat}
theorem fV:vj st j k 0=al st j k:=rfl
theorem vF(h:be st j k≠al st j k):vj st j k 1=be st j k:=ZL h
theorem nq(hd:d<2):al st j (Nat.add 10 d)=(bY st j d).t:=by refine c2 (j:=d) ‹_› ?_ ?_<;>rfl
theorem oZ(hd:d<2):al st j (Nat.add 20 d)=.ofNat (bY st j d).c:=by refine c2 (j:=d) ‹_› ?_ ?_<;>rfl
theorem sY(hd:d<2):al st j (Nat.add 30 d)=c_ (bY st j d).c:=by refine c2 (j:=d) ‹_› ?_ ?_<;>rfl
theorem ZM(hd:d<2):al st j (Nat.add 50 d)=c_ (g_ st j d).c:=by refine c2 (j:=d) ‹_› ?_ ?_<;>rfl
theorem ZN(hd:d<2):al st j (Nat.add 60 d)=.ofNat (g_ st j d).c:=by refine c2 (j:=d) ‹_› ?_ ?_<;>rfl
theorem zt(hd:d<2):be st j (Nat.add 10 d)=(g_ st j d).t:=by refine c2 (j:=d) ‹_› ?_ ?_<;>rfl
theorem zu(hd:d<2):be st j (Nat.add 20 d)=.ofNat (g_ st j d).c:=by refine c2 (j:=d) ‹_› ?_ ?_<;>rfl
theorem Mf(hd:d<2):be st j (Nat.add 30 d)=c_ (g_ st j d).c:=by refine c2 (j:=d) ‹_› ?_ ?_<;>rfl
theorem o6(h:st.fv (aZ j d)=some v):bY st j d=v:=by delta bY;rw[h];rfl
theorem Mg(h:st.en j=some e)(z:e.s d=some u):g_ st j d=u:=by delta g_;rw[h];show(e.s d).getD _=_;rw[z];rfl
theorem nr(hd:d<2)(x:there y=true->∃v,st.fv (aZ j d)=some v)(z:y=5->st.fv (aZ j d)=none):jz st (vj st j) j d y:=by
 refine⟨λh=>?_,z⟩;obtain⟨v,e⟩:=x h;refine⟨v,e,?_,?_,?_⟩
 .rw[fV,nq hd,o6 e]
 .rw[fV,sY hd,o6 e]
 .rw[fV,oZ hd,o6 e]
def yP(st:aH)(j d:Nat):Nat:=J (aM d (st.ms j)) (J (st.fv (aZ j d)).isSome 7 5) 6
theorem zv(hd:d<2):jz st (vj st j) j d (yP st j d):=by
 delta yP;cases h1:aM d (st.ms j) with|false=>exact nr hd (λh=>by cases h) (λh=>by cases h)|true=>
  cases h2:(st.fv<|aZ j d).isSome with|true=>exact nr hd (λz=>Option.isSome_iff_exists.mp h2) (λh=>by cases h)|false=>exact nr hd (λh=>by cases h) (λz=>by cases q:st.fv (aZ j d) with|none=>rfl|some _=>rw[q] at h2;cases h2)
theorem zw:J b 7 5∈[7,5]:=by cases b<;>simp[J]
theorem EE(z:st.ms j<3):lU (st.ms j) (yP st j 0) (yP st j 1):=by
 delta yP;generalize st.ms j=m at z;exact c3 (j:=m) ‹_› (.a _ zw) (.b _ zw) (.c _ _ zw zw)
def yU(kd:Bool)(v u:FV):Nat:=J (decide (u.t=v.t)) 1 (J kd 2 (J (decide (c_ u.c=c_ v.c)) (J (decide (u.c=v.c)) 4 3) 2))
def yA(st:aH)(j:Nat)(e:EN)(d:Nat):Nat:=J (aM d (st.ms j)) (match st.fv (aZ j d) with|none=>5|some v=>match e.s d with|none=>0|some u=>yU st.kd v u) 6
theorem Mh(h:a≠b):Int.ofNat a≠Int.ofNat b:=λe=>h (by injection e)
theorem ZO{m:Int->Nat}(hd:d<2)(i:st.en j=some e)(g:st.fv (aZ j d)=some v)(r:e.s d=some u)(k:m v.t=v.c)(l:m u.t=u.c):kT st.kd (vj st j) e d (yU st.kd v u)/\qC (yU st.kd v u)=true/\(nc st.kd (yU st.kd v u)=true->u.c=v.c)/\there (yU st.kd v u)=true/\(yU st.kd v u∈[1,2]\/(st.kd=false/\yU st.kd v u∈[3,4])):=by
 have x:=o6 g;have w:=Mg i r;delta yU
 by_cases q:u.t=v.t
 .have y:u.c=v.c:=by rw[k.symm,<-l,q]
  rw[bR q];refine⟨⟨λz=>⟨u,r,?_,λz=>⟨?_,?_⟩⟩,(λh=>by cases h)⟩,rfl,λz=>y,rfl,.inl<|.head _⟩
  .rw[fV,nq hd,x,q]
  .rw[fV,sY hd,x,y]
  .rw[fV,oZ hd,x,y]
 .rw[cA q];have o:vj st j (Nat.add 10 d) 1=u.t:=by rw[vF (by rw[nq hd,zt hd,x,w];exact q),zt hd,w]
  cases hk:st.kd with
  |true=>exact⟨⟨λz=>⟨u,r,o,(λh=>by cases h)⟩,(λh=>by cases h)⟩,rfl,(λh=>by cases h),rfl,.inl<|.tail _<|.head _⟩
  |false=>
   by_cases p:c_ u.c=c_ v.c
   .rw[bR p];have n:vj st j (Nat.add 30 d) 0=c_ u.c:=by rw[fV,sY hd,x,p]
    by_cases y:u.c=v.c
    .rw[bR y];exact⟨⟨λz=>⟨u,r,o,λz=>⟨n,by rw[fV,oZ hd,x,y]⟩⟩,(λh=>by cases h)⟩,rfl,λz=>y,rfl,.inr ⟨rfl,.tail _<|.head _⟩⟩
    .rw[cA y];exact⟨⟨λz=>⟨u,r,o,λz=>⟨n,by rw[vF (by rw[oZ hd,zu hd,x,w];exact Mh y),zu hd,w]⟩⟩,(λh=>by cases h)⟩,rfl,(λh=>by cases h),rfl,.inr ⟨rfl,.head _⟩⟩
   .rw[cA p];have y:u.c≠v.c:=λh=>p (by rw[h]);exact⟨⟨λz=>⟨u,r,o,λz=>⟨by rw[vF (by rw[sY hd,Mf hd,x,w];exact p),Mf hd,w],by rw[vF (by rw[oZ hd,zu hd,x,w];exact Mh y),zu hd,w]⟩⟩,(λh=>by cases h)⟩,rfl,(λh=>by cases h),rfl,.inl<|.tail _<|.head _⟩
end
section
variable {st:aH}{j d:Nat}
structure Mi st j e(d y):Prop where
 f:jz st (vj st j) j d y
 s:kT st.kd (vj st j) e d y
 th:aM d (st.ms j)=true->(there y=true↔∃v,st.fv (aZ j d)=some v)
 eq:nc st.kd y=true->∃u v,e.s d=some u/\st.fv (aZ j d)=some v/\u.c=v.c
theorem EF(h:y=5\/y∈[1,2]\/(y=0/\aM d z=false)\/(kd=false/\y∈[3,4])):y∈i2 kd d z:=by
 rcases h with rfl|h|⟨rfl,h⟩|⟨rfl,h⟩
 .exact .head _
 .refine bk h (.tail _<|.head _) λh=>?_
  .refine dJ h ?_;exact mT2<|.head _
 .refine mT3<|ct.mpr<|.inl ?_;rw[h];exact .head _
 .exact mT3<|ct.mpr<|.inr h
theorem vG(h:y=0\/y=5\/y=6\/y=7):nc kd y=false:=by
 rcases h with rfl|rfl|rfl|rfl<;>cases kd<;>rfl
theorem vH(G:bN st o)(hd:d<2)(x:st.en j=some e):Mi st j e d (yA st j e d)/\(aM d (st.ms j)=true->yA st j e d∈i2 st.kd d e.m)/\(aM d (st.ms j)=false->yA st j e d=6):=by
 delta yA;cases hi:aM d (st.ms j) with
 |false=>exact⟨⟨nr hd (λh=>by cases h) (λh=>by cases h),⟨(λh=>by cases h),(λh=>by cases h)⟩,(λh=>by rw[hi] at h;cases h),(λh=>by rw[show J false _ 6=6 from rfl,vG<|.inr<|.inr<|.inl rfl] at h;cases h)⟩,(λh=>by cases h),λz=>rfl⟩
 |true=>
  cases hv:st.fv (aZ j d) with
  |none=>exact⟨⟨nr hd (λh=>by cases h) λz=>hv,⟨(λh=>by cases h),(λh=>by cases h)⟩,λz=>⟨(λh=>by cases h),(λr=>r.elim λv h=>by rw[hv] at h;cases h)⟩,(λh=>by rw[show J true 5 6=5 from rfl,vG<|.inr<|.inl rfl] at h;cases h)⟩,λz=>EF<|.inl rfl,(λh=>by cases h)⟩
  |some v=>
   cases hu:e.s d with
   |none=>
    refine⟨⟨nr hd (λz=>⟨v,hv⟩) (λh=>by cases h),⟨(λh=>by cases h),λz=>hu⟩,λz=>⟨λz=>⟨v,hv⟩,λz=>rfl⟩,(λh=>by rw[show J true 0 6=0 from rfl,vG<|.inl rfl] at h;cases h)⟩,λz=>EF<|.inr<|.inr<|.inl ⟨rfl,?_⟩,(λh=>by cases h)⟩;cases q:aM d e.m with|false=>rfl|true=>obtain⟨u,h⟩:=G.es j e d x q;rw[hu] at h;cases h
   |some u=>
    obtain⟨p,c2,c3,c4,w⟩:=ZO hd x hv hu (G.f _ v hv).2.2 (G.eu j e d u x hu).2.2;have y:yU st.kd v u≠5:=λh=>by rw[h] at w;rcases w with h|⟨_,h⟩<;>simp at h
    refine⟨⟨nr hd (λz=>⟨v,hv⟩) λh=>aP h y,p,λz=>⟨λz=>⟨v,hv⟩,λz=>c4⟩,λh=>⟨u,v,hu,hv,c3 h⟩⟩,λz=>EF ?_,(λh=>by cases h)⟩;rcases w with h|⟨t,h⟩
    .exact .inr<|.inl h
    .exact .inr<|.inr<|.inr ⟨t,h⟩
def zA(st:aH)(j:Nat)(e:EN):Nat:=J (J (Nat.beq (st.ms j) 2) (Nat.beq (yA st j e 0) 5) false) (J (st.fv (aZ j 1)).isSome 7 5) (yA st j e 1)
theorem Mj(G:bN st u)(w:st.en j=some e):Mi st j e 1 (zA st j e):=by
 delta zA;cases h:J (Nat.beq (st.ms j) 2) (Nat.beq (yA st j e 0) 5) false with|false=>exact(vH G (by decide) w).1|true=>
  cases hs:(st.fv<|aZ j 1).isSome with
  |true=>exact⟨nr (by decide) (λz=>Option.isSome_iff_exists.mp hs) (λh=>by cases h),⟨(λh=>by cases h),(λh=>by cases h)⟩,λz=>⟨λz=>Option.isSome_iff_exists.mp hs,λz=>rfl⟩,(λh=>by rw[show J true (J true 7 5) _=7 from rfl,vG<|.inr<|.inr<|.inr rfl] at h;cases h)⟩
  |false=>
   have y:st.fv (aZ j 1)=none:=by cases q:st.fv (aZ j 1) with|none=>rfl|some _=>rw[q] at hs;cases hs
   exact⟨nr (by decide) (λh=>by cases h) λz=>y,⟨(λh=>by cases h),(λh=>by cases h)⟩,λz=>⟨(λh=>by cases h),(λx=>x.elim λv h=>by rw[y] at h;cases h)⟩,(λh=>by rw[show J true (J false 7 5) _=5 from rfl,vG<|.inr<|.inl rfl] at h;cases h)⟩
theorem ZP(G:bN st t)(u:j<4)(w:st.en j=some e):vA st.kd e.m (st.ms j) (yA st j e 0) (zA st j e):=by
 have x:=vH (d:=0) G (by decide) w;have z:=vH (d:=1) G (by decide) w;have v:=G.m j u;delta zA;generalize y:st.ms j=m at *;clear y;rcases m with _|_|_|m
 .rw[show J (J (Nat.beq 0 2) _ false) _ (yA st j e 1)=yA st j e 1 from rfl,z.2.2 rfl];exact .a _<|x.2.1 rfl
 .rw[show J (J (Nat.beq (0+1) 2) _ false) _ (yA st j e 1)=yA st j e 1 from rfl,x.2.2 rfl];exact .b _<|z.2.1 rfl
 .refine .c _ _ (x.2.1 rfl) ?_;show J (Nat.beq (yA st j e 0) 5) _ _∈_;cases Nat.beq (yA st j e 0) 5 with|false=>exact z.2.1 rfl|true=>cases(st.fv<|aZ j 1).isSome<;>simp[J]
 .exact((lin [m] aa0) v).elim
theorem Mk(u:aM 0 m=true->there y=there x)(v:aM 1 m=true->there z=there w)(t:m<3):di kd j m y z=di kd j m x w:=by
 rcases m with _|_|_|m
 .show AO.dict (J (there y) _ _)=AO.dict (J (there x) _ _);rw[u rfl]
 .show AO.dict (J (there z) _ _)=AO.dict (J (there w) _ _);rw[v rfl]
 .show AO.dict (ax (J (there y) _ _)<|J (there z) _ _)=AO.dict (ax (J (there x) _ _)<|J (there w) _ _);rw[u rfl,v rfl]
 .exact((lin [m] aa0) t).elim
theorem Ml(x:m<3):kK m y z=true↔(aM 0 m=true->there y=true)/\(aM 1 m=true->there z=true):=by
 rcases m with _|_|_|m
 .exact⟨λh=>⟨λu=>h,(λh=>by cases h)⟩,λh=>h.1 rfl⟩
 .exact⟨λh=>⟨(λh=>by cases h),λu=>h⟩,λh=>h.2 rfl⟩
 .exact⟨λh=>⟨λu=>(cI h).1,λu=>(cI h).2⟩,λh=>by show J (there y) (there z) false=true;rw[h.1 rfl,h.2 rfl]⟩
 .exact((lin [m] aa0) x).elim
theorem Mm(h:there y=true↔there z=true):there y=there z:=by
 cases a:there y with|true=>exact(h.mp a).symm|false=>cases b:there z with|true=>rw[h.mpr b] at a;cases a|false=>rfl
theorem qQ(y:aM d (st.ms j)=true):there (yP st j d)=true↔∃v,st.fv (aZ j d)=some v:=by
 delta yP;rw[y];cases h:st.fv (aZ j d) with|none=>exact⟨(λh=>by cases h),(λx=>x.elim λv h=>by cases h)⟩|some v=>exact⟨λz=>⟨v,rfl⟩,λz=>rfl⟩
theorem Mn(y:st.ms j<3):kK (st.ms j) (yP st j 0) (yP st j 1)=true↔jF st j:=by
 rw[Ml y];refine⟨λh d hd z=>?_,λh=>⟨λz=>(qQ z).mpr (h 0 (by decide) z),λz=>(qQ z).mpr (h 1 (by decide) z)⟩⟩;rcases d with _|_|d
 .exact(qQ z).mp (h.1 z)
 .exact(qQ z).mp (h.2 z)
 .exact((lin [d] aF0) hd).elim
theorem ZQ(G:bN st u)(v:j<4)(y:st.en j=some e):kK (st.ms j) (yA st j e 0) (zA st j e)=true↔jF st j:=by
 rw[Ml<|G.m j v];have w:=(vH (d:=0) G (by decide) y).1;have x:=Mj G y;refine⟨λh d hd z=>?_,λh=>⟨λz=>(w.th z).mpr (h 0 (by decide) z),λz=>(x.th z).mpr (h 1 (by decide) z)⟩⟩;rcases d with _|_|d
 .exact(w.th z).mp (h.1 z)
 .exact(x.th z).mp (h.2 z)
 .exact((lin [d] aF0) hd).elim
end
theorem zx(x:m<3)(y:aM 0 m=true->a=w)(z:aM 1 m=true->b=v):e_ j m a b=e_ j m w v:=by
 rcases m with _|_|_|m
 .rw[y rfl];rfl
 .rw[z rfl];rfl
 .rw[y rfl,z rfl]
 .exact((lin [m] aa0) x).elim
theorem ZR(x:m<3)(h:same kd m y z=true):(aM 0 m=true->nc kd y=true)/\(aM 1 m=true->nc kd z=true):=by
 delta same at h;rcases m with _|_|_|m
 .exact⟨λu=>h,(λh=>by cases h)⟩
 .exact⟨(λh=>by cases h),λu=>h⟩
 .exact⟨λu=>(cI h).1,λu=>(cI h).2⟩
 .exact((lin [m] aa0) x).elim
inductive sZ st j:Nat->Prop where
 |bad:¬jF st j->sZ st j gG
 |run:jF st j->sZ st j oA
 |up v:jF st j->st.fv (Nat.add 3 j)=some v->v.c=fg st j->sZ st j sE
section
variable {fl:Nat->Nat}{st:aH}{val:Nat->Option Nat}{aJ nd:Option AO}{Cs:AH}{H:AH}{F:aK}{p:Nat}
theorem Mo(h:y=true↔jF st j):∃z,oN false y=.str z/\sZ st j z:=by
 cases y with|false=>exact⟨_,rfl,.bad λq=>by cases h.mpr q⟩|true=>exact⟨_,rfl,.run<|h.mp rfl⟩
theorem ZS(o:aR fl (wB st val aJ nd Cs) Cs.n H)(O:d7 Cs)(r:254<=p)(S:p<Cs.n)(G:bN st gh)(c:j<4)(l:ij Cs j)(Z:aJ=some (aG (gD p Cs.n) (vj st j) (di st.kd j (st.ms j) (yP st j 0) (yP st j 1))))(kn:eO F (ax (oM (aX st.kd) (.glo ln) j) [(b5,.str gG)]) (gD p Cs.n) (vj st j))(hc:∀x i,ae bl x=some i->ae F.cel x=some i)(a:b6 (59,aJ)=true)(R:b6 (58,nd)=true)(t:∀g,sZ st j g->∀X H2,aR X (wB st val aJ nd Cs) Cs.n H2->(∀i,i<Cs.n->X i=fl i)->k .nxt (ar X v0 (ar (gD p Cs.n) (vj st j) ⟨ax (oM (aX st.kd) (.glo ln) j) [(b5,.str g)],bl⟩)) H2):cX (λp=>p) fD D2 False (ar fl v0 F) H k:=by
 have Q:=G.m j c;have p0:=zv (st:=st) (j:=j) (d:=0) (by decide);have p1:=zv (st:=st) (j:=j) (d:=1) (by decide);cases ht:st.fv (Nat.add 3 j) with
 |none=>obtain⟨g,e1,e2⟩:=Mo<|Mn Q;refine Er o O r S (λk x y h=>lZ k x y h) c l (Es (y:=yP st j 0) (z:=yP st j 1) (ot:=none) c rfl l p0 p1 (by delta aB;rw[ht];rfl) Z) ?_ kn hc a R<|t g e2;rw[e1.symm];exact Y_ c<|EE Q
 |some v=>
  cases he:st.en j with
  |none=>obtain⟨g,e1,e2⟩:=Mo<|Mn Q;refine Er o O r S (λk x y h=>lZ k x y h) c l (Zd (y:=yP st j 0) (z:=yP st j 1) c rfl l p0 p1 (by rw[ht];rfl) he Z) ?_ kn hc a R<|t g e2;rw[e1.symm];exact Za c<|EE Q
  |some e=>
   have A:=(vH (d:=0) G (by decide) he).1;have C:=Mj G he;have N:aJ=some (aG (gD p Cs.n) (vj st j)<|di st.kd j (st.ms j) (yA st j e 0)<|zA st j e):=by rw[Z,Mk (λb=>Mm<|(qQ b).trans (A.th b).symm) (λb=>Mm<|(qQ b).trans (C.th b).symm) Q]
   have run:=Zc (ln:=.glo ln) (fo:=aB st) (eo:=a_ st) (so:=λd=>(e.s d).map<|bV st.kd j d) (ro:=bp st) (ra:=λd=>gL st.kd<|e.s d) c (G.em j e he)<|ZP G c he;have E:=ZQ G c he;have res:∃g,oN (J (Nat.beq (st.ms j) e.m) (same st.kd (st.ms j) (yA st j e 0)<|zA st j e) false) (kK (st.ms j) (yA st j e 0)<|zA st j e)=.str g/\sZ st j g:=by
    cases hf:kK (st.ms j) (yA st j e 0) (zA st j e) with|false=>exact⟨_,rfl,.bad λq=>by rw[E.mpr q] at hf;cases hf⟩|true=>
     have hF:=E.mp hf;cases hs:J (Nat.beq (st.ms j) e.m) (same st.kd (st.ms j) (yA st j e 0)<|zA st j e) false with|false=>exact⟨_,rfl,.run hF⟩|true=>
      refine bx hs λP s2=>?_;have P:=Nat.eq_of_beq_eq_true P;obtain⟨q0,q1⟩:=ZR Q s2;refine⟨_,rfl,.up v hF ht ?_⟩;rw[G.et j e v c he ht];delta fg;rw[P];refine zx (G.em j e he) (λb=>?_) λb=>?_
      .obtain⟨u,w,a1,a2,a3⟩:=A.eq (q0<|by rw[P];exact b);rw[a1,o6 a2];exact a3
      .obtain⟨u,w,a1,a2,a3⟩:=C.eq (q1<|by rw[P];exact b);rw[a1,o6 a2];exact a3
   obtain⟨g,e1,e2⟩:=res;refine Er o O r S (λk x y h=>lZ k x y h) c l (Ze c rfl l A.f C.f A.s C.s (by rw[ht];rfl) he N) ?_ kn hc a R<|t g e2;rw[e1.symm];exact run
end
theorem Mp:e_ j m a b<3:=Nat.mod_lt _ (by decide)
theorem bN.fail{st:aH}(G:bN st x)j:bN (fE st j) x:=by
 have z:∀i e,(fE st j).en i=some e->st.en i=some e:=λi e h=>by
  by_cases q:i=j
  .subst q;rw[vC] at h;cases h
  .rw[vD q] at h;exact h
 exact⟨G.f,λi e h=>G.em i e<|z i e h,λi e d h=>G.es i e d<|z i e h,λi e d u h=>G.eu i e d u<|z i e h,λi e v y h=>G.et i e v y<|z i e h,G.m⟩
def j9(st:aH)(j:Nat):aH:=eP (fU (dq st) j (fg st j)) j (some (dW (st.ms j) (bY st j 0) (bY st j 1) (match st.en j with|some e=>e.s|none=>λz=>none)))
theorem EG{st:aH}:(j9 st j).fv (Nat.add 3 j)=some ⟨Int.add st.ck 1,fg st j⟩:=fc
theorem EH{st:aH}(h:k≠Nat.add 3 j):(j9 st j).fv k=st.fv k:=ff h
theorem zB{st:aH}:(j9 st j).en j=some (dW (st.ms j) (bY st j 0) (bY st j 1) (match st.en j with|some e=>e.s|none=>λz=>none)):=fc
theorem zC{st:aH}(h:k≠j):(j9 st j).en k=st.en k:=ff h
theorem aw3(hd:d<2):(dW m a b z).s d=J (aM d m) (some (if d=0 then a else b)) (z d):=by
 refine c2 (j:=d) ‹_› ?_ ?_<;>rfl
theorem EI{st:aH}(h:∃v,st.fv (aZ j d)=some v):st.fv (aZ j d)=some (bY st j d):=by
 obtain⟨v,e⟩:=h;rw[e,o6 e]
theorem bN.run{st:aH}(G:bN st g)(n:j<4)(p:jF st j):bN (j9 st j) (λt=>if t=Int.add st.ck 1 then fg st j else g t):=by
 have lt:∀t:Int,t<=st.ck->t<=Int.add st.ck 1/\t≠Int.add st.ck 1:=λt h=>by have e:Int.add st.ck 1=st.ck+1:=rfl;rw[e];omega
 have w:∀v:FV,(v.t<=st.ck/\v.c<4/\g v.t=v.c)->v.t<=Int.add st.ck 1/\v.c<4/\(if v.t=Int.add st.ck 1 then fg st j else g v.t)=v.c:=λv h=>⟨(lt _ h.1).1,h.2.1,by rw[aq (lt _ h.1).2];exact h.2.2⟩;have b:∀d m,aM d m=true->d<2\/(2<=d/\aM 1 m=true):=λd m h=>by
  rcases d with _|_|d
  .exact .inl (by decide)
  .exact .inl (by decide)
  .exact .inr ⟨lin [d] 0x354028500a02048,h⟩
 refine⟨λk v h=>?_,λi e h=>?_,λi e d h r=>?_,λi e d u h x=>?_,λi e v r h o=>?_,G.m⟩
 .by_cases q:k=Nat.add 3 j
  .subst q;rw[EG] at h;cases h;exact⟨Int.le_refl _,Nat.lt_of_lt_of_le (Mp) (by decide),aw rfl⟩
  .rw[EH q] at h;exact w v<|G.f k v h
 .by_cases q:i=j
  .clear p w;subst q;rw[zB] at h;cases h;exact G.m i n
  .rw[zC q] at h;exact G.em i e h
 .by_cases q:i=j
  .clear n p w;subst q;rw[zB] at h;cases h;show∃u,J (aM d<|st.ms i) _ _=some u;rw[show aM d (st.ms i)=true from r];exact⟨_,rfl⟩
  .rw[zC q] at h;exact G.es i e d h r
 .by_cases q:i=j
  .subst q;rw[zB] at h;cases h;have x:J (aM d<|st.ms i) (some<|@Nat.rec (λy=>FV) (bY st i 0) (λy y=>bY st i 1) d) ((match st.en i with|some e=>e.s|none=>λy=>none) d)=some u:=x
   cases hd:aM d (st.ms i) with
   |true=>
    rw[hd] at x;injection x with x
    refine w u ?_;rcases d with _|d
    .rw[x.symm];exact G.f _ _ (EI (p 0 (by decide) hd))
    .rw[x.symm];have l:=hd;exact G.f _ _ (EI (p 1 (by decide) l))
   |false=>
    rw[hd] at x;cases he:st.en i with|none=>rw[he] at x;cases x|some e=>rw[he] at x;exact w u<|G.eu i e d u he x
  .rw[zC q] at h;exact w u<|G.eu i e d u h x
 .by_cases q:i=j
  .clear n p w;subst q;rw[zB] at h;cases h;rw[EG] at o;cases o;refine zx (G.m i r) (λa=>?_) λl=>?_
   .show _=((J (aM 0<|st.ms i) (some<|bY st i 0) _).getD ⟨0,0⟩).c;rw[a];rfl
   .show _=((J (aM 1<|st.ms i) (some<|bY st i 1) _).getD ⟨0,0⟩).c;rw[l];rfl
  .rw[zC q] at h;rw[EH (λz=>q<|by have Z:3+i=3+j:=z;exact(lin [i,j] 0x49c20b942034282068) Z)] at o;exact G.et i e v r h o
theorem vI(h:∀x a,ae y x=some a->ae W x=some a)(w:aV (λq=>fB q.2) y=true):eO (ar g va ⟨W,C⟩) y g v:=λx a e=>⟨_,by rw[eD,show ae W x=some a from h x a e];rfl,by rw[sA (bq w _ (bA e))];exact λz z z r=>r⟩
theorem EJ(h:aV (λq=>fB q.2) a=true):aV (λq=>fB q.2) (ax (cM (aX kd) (.glo y) j) a)=true:=by
 have z:fB (aX kd)=true:=by cases kd<;>rfl
 exact af rfl<|af rfl<|af z<|af rfl<|af rfl<|af rfl<|af rfl<|af rfl<|af rfl<|af rfl<|af rfl<|af rfl<|af rfl<|af rfl<|af rfl<|af rfl h
theorem s0(h:ae l x=some a):ae (ax l m) x=some a:=by rw[dA,h]
section
variable {fl:Nat->Nat}{st:aH}{val:Nat->Option Nat}{aJ nd:Option AO}{Cs:AH}{H:AH}{F:aK}{p:Nat}
theorem s6(z:j<4)(hd:d<2):bY (fU (dq st) j c) j d=bY st j d:=by
 delta bY;rw[Ev<|by have y:=zj z hd;exact y];rfl
theorem ZT(h:∀d,d<2->va (Nat.add 10 d) 0=z (Nat.add 10 d) 0/\va (Nat.add 20 d) 0=z (Nat.add 20 d) 0):aG g va (di kd j m 7 7)=aG g z (di kd j m 7 7):=by
 have e:∀d,d<2->av g va (gn kd d)=av g z (gn kd d):=λd hd=>by
  cases kd
  .show AV.int (va _ 0)=AV.int (z _ 0);rw[(h d hd).2]
  .show AV.int (va _ 0)=AV.int (z _ 0);rw[(h d hd).1]
 rcases m with _|_|m
 .show AO.dict [(r0 j,av g va<|gn kd 0)]=AO.dict [(r0 j,av g z<|gn kd 0)];rw[e 0<|by decide]
 .show AO.dict [(r1 j,av g va<|gn kd 1)]=AO.dict [(r1 j,av g z<|gn kd 1)];rw[e 1<|by decide]
 .show AO.dict [(r0 j,av g va<|gn kd 0),(r1 j,av g va<|gn kd 1)]=AO.dict [(r0 j,av g z<|gn kd 0),(r1 j,av g z<|gn kd 1)];rw[e 0 (by decide),e 1<|by decide]
def yS(kd:Bool)(m d:Nat)(v:FV)(s:Option FV):Nat:=J kd 6 (J (aM d m) (match s with|none=>0|some u=>J (decide (u.t=v.t)) 1 2) 6)
theorem zD(z:aM d m=true):yS false m d v s<3:=by
 delta yS;rw[z];cases s with|none=>show 0<3;decide|some u=>show J _ 1 2<3;cases decide (u.t=v.t)<;>(simp[J])
theorem ZU(z:m<3):jE kd m (yS kd m 0 a s) (yS kd m 1 b t):=by
 cases kd with|true=>exact .t m z|false=>exact c3 (j:=m) ‹_› (.a _<|zD rfl) (.b _<|zD rfl) (.c _ _ (zD rfl)<|zD rfl)
theorem Mq{l:Int->Nat}(hd:d<2)(g:st2.en j=some e)(n:aM d m=true->bY st2 j d=v/\l v.t=v.c)(k:∀u,e.s d=some u->l u.t=u.c):lY st2.kd (vj st2 j) e d (yS st2.kd m d v (e.s d)) v:=by
 delta yS;cases hk:st2.kd with|true=>exact⟨(λh=>by cases h),(λh=>by cases h)⟩|false=>
  cases hi:aM d m with|false=>exact⟨(λh=>by cases h),(λz h=>by cases h)⟩|true=>
   obtain⟨f1,f2⟩:=n hi;cases hu:e.s d with|none=>exact⟨(λh=>by cases h),λz z=>hu⟩|some u=>
    have q:=Mg g hu;have r:vj st2 j (Nat.add 50 d) 0=c_ u.c:=by rw[fV,ZM hd,q]
    have x:vj st2 j (Nat.add 60 d) 0=.ofNat u.c:=by rw[fV,ZN hd,q]
    by_cases w:u.t=v.t
    .have o:u=v:=by
      have f:u.c=v.c:=by rw[f2.symm,<-k u hu,w]
      clear hu q r x;obtain⟨i,b⟩:=u;obtain⟨y,vc⟩:=v;cases(show i=y from w);clear n f1 f2 w;cases f;rfl
     show lY false _ e d (J (decide<|u.t=v.t) 1 2) v;rw[bR w];exact⟨λz=>⟨u,hu,by rw[fV,nq hd,f1,w],r,x,λz=>o⟩,(λz h=>by cases h)⟩
    .show lY false _ e d (J (decide<|u.t=v.t) 1 2) v;rw[cA w];exact⟨λz=>⟨u,hu,by rw[vF (by rw[nq hd,zt hd,f1,q];exact w),zt hd,q],r,x,(λh=>by cases h)⟩,(λz h=>by cases h)⟩
theorem ZV(y:m<3)(z:c<4)(hd:d<4):oV m (J (aM 0 m) c 0) (J (aM 1 m) d 0):=by
 exact c3 (j:=m) ‹_› (.a _ z) (.b _ hd) (.c _ _ z hd)
theorem ZW{call:tY2}(r:aR fl (wB st val aJ nd Cs) Cs.n H)(O:d7 Cs)(v:254<=p)(R:p<Cs.n)(G:bN st gh)(Z:j<4)(hF:jF st j)(o:ij Cs j)(S:aJ=some (aG (gD p Cs.n) (vj st j) (di st.kd j (st.ms j) (yP st j 0) (yP st j 1))))(kn:eO F (jx (aX st.kd) (.glo ln) j) (gD p Cs.n) (vj st j))(hc:∀x i,ae bl x=some i->ae F.cel x=some i)(Q:b6 (58,nd)=true)(w:∀X H2,aR X (wB (j9 st j) val none nd Cs) Cs.n H2->(∀i,i<Cs.n->(i<4\/(11<=i/\i<15)\/(31<=i/\i<43)\/(47<=i/\i≠59))->X i=fl i)->k .nxt (ar X v0 (ar (gD p Cs.n) (vj (fU (dq st) j (fg st j)) j) ⟨ax (ng (aX st.kd) (.glo ln) j) [(b5,.str js)],bl⟩)) H2):(ac (bF bo λz=>R1) (ac (bF bo λz=>ac R2 (ac R3 ak)) (bF bo λz=>ac R4 (ac R5 (ac R6 ak))))) (eL call) (ar fl v0 F) H k ke:=by
 have hm:=G.m j Z;have c7:=λd hd l=>EI<|hF d hd l;have yP7:∀d,d<2->aM d (st.ms j)=true->there (yP st j d)=there 7:=λd hd l=>(qQ l).mpr<|hF d hd l;have S:aJ=some (aG (gD p Cs.n) (vj st j)<|di st.kd j (st.ms j) 7 7):=by rw[S,Mk (yP7 0<|by decide) (yP7 1<|by decide) hm]
 have A:b6 (59,aJ)=true:=by clear r;subst S;exact EB
 refine lQ<|Zi r O v R (λk x y h=>lZ k x y h) Z kn hc A Q λfl1 H1 U1 hf1=>?_;show bF bo (λz=>ac R2<|ac R3 ak) (eL call) _ H1 (d5 _ (eL call) k ke) ke;have ln4:=λd hd l=>(G.f _ _<|c7 d hd l).2.1;have f4:∀d,d<2->J (aM d<|st.ms j) (bY st j d).c 0<4:=λd hd=>by
  cases q:aM d (st.ms j) with|true=>exact ln4 d hd q|false=>show 0<4;decide
 have CM:oV ((dq st).ms j) (J (aM 0<|st.ms j) (J (aM 0<|st.ms j) (bY st j 0).c 0) 0) (J (aM 1<|st.ms j) (J (aM 1<|st.ms j) (bY st j 1).c 0) 0):=ZV hm (f4 0<|by decide) (f4 1<|by decide);have CI:∀d,d<2->qM (dq st) (vj (dq st) j) j d ((dq st).ms j) (J (aM d<|st.ms j) (J (aM d<|st.ms j) (bY st j d).c 0) 0):=λd hd=>⟨λl=>⟨bY st j d,c7 d hd l,by rw[fV,nq hd];rfl,by rw[fV,sY hd];rfl,by rw[show aM d (st.ms j)=true from l]⟩⟩;have C:e_ j ((dq st).ms j) (J (aM 0<|st.ms j) (J (aM 0<|st.ms j) (bY st j 0).c 0) 0) (J (aM 1<|st.ms j) (J (aM 1<|st.ms j) (bY st j 1).c 0) 0)=fg st j:=by exact zx hm (λl=>by rw[show aM 0 (st.ms j)=true from l]) (λl=>by rw[show aM 1 (st.ms j)=true from l])
 refine lQ (Zn (st:=dq st) U1 O v R (λk x y h=>lZ k x y h) Z CM (CI 0<|by decide) (CI 1<|by decide) rfl (vI (λx a e=>s0 e)<|EJ rfl) oY A Q λX H2 U2 hf2=>?_);rw[C] at U2;have N:aJ=some (aG (gD p Cs.n) (vj (fU (dq st) j<|fg st j) j)<|di st.kd j (st.ms j) 7 7):=by
  rw[S];refine aT some<|ZT λd hd=>⟨?_,?_⟩
  .rw[fV,fV,nq hd,nq hd,s6 Z hd]
  .rw[fV,fV,oZ hd,oZ hd,s6 Z hd]
 have CT:∀d,d<2->jD (fU (dq st) j<|fg st j) (vj (fU (dq st) j<|fg st j) j) j d (st.ms j) (bY st j d):=λd hd=>⟨λl=>⟨by rw[Ev<|by have Y:=zj Z hd;exact Y];exact c7 d hd l,by rw[fV,nq hd,s6 Z hd],by rw[fV,sY hd,s6 Z hd],by rw[fV,oZ hd,s6 Z hd]⟩⟩;have kn2:eO (ar (gD p Cs.n) (vj (dq st) j) ⟨ax (jx (aX (dq st).kd) (.glo ln) j) [],bl⟩) (vf (aX st.kd) (.glo ln) j).loc (gD p Cs.n) (vj (fU (dq st) j<|fg st j) j):=vI (λx a e=>s0 e)<|EJ rfl;have P:∀g:Nat->Nat,(∀i,i<Cs.n->(i<15\/(31<=i/\i<43)\/(47<=i/\i≠59))->g i=X i)->∀i,i<Cs.n->(i<4\/(11<=i/\i<15)\/(31<=i/\i<43)\/(47<=i/\i≠59))->g i=fl i:=λg h i l h2=>by rw[h i l<|(lin [i] 0x128c60f71da02d097a20c2b405a11f4303d018c6307b8ed01684bd10615a02d08fa20c0f405a10b4301101) h2,hf2 i l<|(lin [j,i] 0x4a4f72820e81463183dc76813445e8830ad026887d10607a04d105a180881301101) Z h2,hf1 i l]
 cases he:st.en j with
 |none=>
  refine lQ (Zx (st:=fU (dq st) j<|fg st j) (a:=bY st j 0) (b:=bY st j 1) U2 O v R (λk x y h=>lZ k x y h) Z hm o he (CT 0<|by decide) (CT 1<|by decide) N kn2 oY Q λg H3 U3 E=>w g H3 ?_<|P g E);have e1:j9 st j=eP (fU (dq st) j<|fg st j) j (some<|dW (st.ms j) (bY st j 0) (bY st j 1) λz=>none):=by delta j9;rw[he]
  rw[e1];exact U3
 |some e=>
  have gf:∀d,d<2->aM d (st.ms j)=true->bY (fU (dq st) j<|fg st j) j d=bY st j d/\gh (bY st j d).t=(bY st j d).c:=λd hd l=>⟨s6 Z hd,(G.f _ _<|c7 d hd l).2.2⟩;refine lQ (ZI (st:=fU (dq st) j<|fg st j) (a:=bY st j 0) (b:=bY st j 1) (e:=e) U2 O v R (λk x y h=>lZ k x y h) Z (ZU (kd:=st.kd) (a:=bY st j 0) (b:=bY st j 1) (s:=e.s 0) (t:=e.s 1) hm) o he (CT 0<|by decide) (CT 1<|by decide)
   (Mq (st2:=fU (dq st) j<|fg st j) (by decide) he (gf 0<|by decide) λu hu=>(G.eu j e 0 u he hu).2.2) (Mq (st2:=fU (dq st) j<|fg st j) (by decide) he (gf 1<|by decide) λu hu=>(G.eu j e 1 u he hu).2.2) N kn2 oY Q λg H3 U3 E=>w g H3 ?_<|P g E)
  have e1:j9 st j=eP (fU (dq st) j<|fg st j) j (some<|dW (st.ms j) (bY st j 0) (bY st j 1) e.s):=by delta j9;rw[he]
  rw[e1];exact U3
end
theorem EK(i:j<4)(m:ae W b5=some (.str s))(l:g7 (.str s) a=true):∀x b,ae (lN (.ref p) j a).loc x=some b->∃n,ae (ar (gD p N) va ⟨ax (cM (aX kd) (.glo w) j) W,C⟩).loc x=some n/\cW n (av bE (vc kd w) b):=by
 intro x b e;have e:ae (ax (cg aW aL) [(dy,.ref p),(qp,.ref<|Nat.add 60 j),(lG,.int<|.ofNat j),(sB,.str<|gH j),(b5,a)]) x=some b:=e;have v:∀{y:Nat}{c:AV},ae (cM (aX kd) (.glo w) j) y=some c->ae (ar (gD p N) va ⟨ax (cM (aX kd) (.glo w) j) W,C⟩).loc y=some (av (gD p N) va c):=λ{y c}h=>by rw[eD,show ae (ax (cM (aX kd) (.glo w) j) W) y=some c from s0 h];rfl
 rw[dA] at e;cases z:ae (cg aW aL) x with
 |some c=>
  rw[z] at e;cases(e);have o:ae (cg (aX kd)<|.glo w) x=some (av bE (vc kd w) b):=by rw[zs.symm,oX,z];rfl
  refine⟨_,v<|s0 o,?_⟩;have e2:ae ((cg (aX kd)<|.glo w).map λq=>(q.1,av (gD p N) va q.2)) x=ae (cg (aX kd)<|.glo w) x:=by rw[ED]
  rw[oX,o] at e2;rw[Option.some.inj e2];exact λu u u r=>r
 |none=>
  rw[z] at e;have t:=bA e;refine gQ t ?_ λt=>?_
  ·
   exact⟨_,v (c:=.ref 254) (by clear v;cases kd<;>kernel_rfl),λu u u r=>r⟩
  .refine gQ t ?_ λt=>?_
   ·
    refine⟨_,v (c:=.ref<|Nat.add 60 j) (by clear v;cases kd<;>kernel_rfl),?_⟩;show cW (.ref<|gD p N<|Nat.add 60 j) (.ref<|Nat.add 60 j);rw[dc<|by exact(lin [j] 0x1267f21413c4301101) i];exact λu u u r=>r
   .refine gQ t ?_ λt=>?_
    ·
     exact⟨_,v (c:=.int<|.ofNat j) (by clear v;cases kd<;>kernel_rfl),λu u u r=>r⟩
    .refine gQ t ?_ λt=>?_
     ·
      exact⟨_,v (c:=.str<|gH j) (by clear v;cases kd<;>kernel_rfl),λu u u r=>r⟩
     .refine eW t ?_;refine⟨.str s,?_,?_⟩
      .have k:ae (cM (aX kd) (.glo w) j) b5=none:=by clear v;cases kd<;>kernel_rfl
       rw[eD,show ae (ax (cM (aX kd) (.glo w) j) W) b5=some (.str s) by rw[dA,k];exact m];rfl
      .have g:=(lB l).toA bE<|vc kd w;exact g
theorem EL:∀x i,ae (lN nd j a).cel x=some i->ae (ar (gD p N) va ⟨W,bl⟩).cel x=some i:=oY
inductive nt st j bad:aH->Bool->Prop where
 |fail:(bad\/¬jF st j)->nt st j bad (fE st j) false
 |up v:¬bad->jF st j->st.fv (Nat.add 3 j)=some v->v.c=fg st j->nt st j bad st true
 |run:¬bad->jF st j->nt st j bad (j9 st j) true
def l3(y z:Nat->Nat):Prop:=∀i,i<254->(i<4\/(11<=i/\i<15)\/(31<=i/\i<43)\/(47<=i/\i≠59))->z i=y i
theorem l3.trans(h:l3 a b)(g:l3 b c):l3 a c:=λi z q=>(g i z q).trans (h i z q)
section
variable {call:tY2}{ke:KE Prop}{val:Nat->Option Nat}{nd:Option AO}
theorem EM{st:aH}(w:aR m (wB st val q nd s) s.n H)(O:d7 s)(f1:∀x a,ae fs.loc x=some a->∃o,ae F.loc x=some o/\cW o (av bE (vc kd ln) a))(f2:∀x a,ae fs.cel x=some a->ae F.cel x=some a)(run:qw fP fs s (lL s j) fQ=true)(y:∀u v t l,j u v=true->d7 v->aR t (wB st val q nd v) v.n l->l3 m t->k .nxt (ar t v0 (ar bE (vc kd ln) u)) l):bF bo (λz=>qw) (eL call) (ar m v0 F) H k ke:=
 oJ (yn w zp O f1 f2 run λu v r d h p c f g=>y u v r d h p f λi e z=>g i<|by have b:=p.n;exact(lin [i,v.n] 0x4a4c105a2ff433f901) e b)
end
section
variable {call:tY2}{ke:KE Prop}{val:Nat->Option Nat}{nd:Option AO}
theorem zE{st:aH}(z:aR v (wB st val x nd y) y.n H)(O:d7 y)(e:y.get i=some o):H.get (v i)=some (aG (λj=>v j) v0 o)/\i<y.n:=by
 have w:wB st val x nd y i=some (aG bE v0 o):=by rw[vz<|O.dom i o e,e];rfl
 refine⟨?_,(z.low _ _ w).1⟩;rw[z.cell _ _ w,jo];rfl
abbrev tE:XS Prop:=bF bo λz=>qw
abbrev tD:XS Prop:=aY Dx (ac (bF bo λz=>ac B1 (ac B2 ak)) (ac (bF bo λz=>B3) ak)) (ac (aY ya (ac (bF bo λz=>R1) (ac (bF bo λz=>ac R2 (ac R3 ak)) (bF bo λz=>ac R4 (ac R5 (ac R6 ak))))) ak) ak)
theorem vJ(y:ae W b5=some (.str s)):ae (ar w v0 (ar (gD p N) va ⟨ax (cM (aX kd) (.glo z) j) W,C⟩)).loc b5=some (.str s):=by
 have x:ae (cM (aX kd) (.glo z) j) b5=none:=by cases kd<;>kernel_rfl
 rw[eD,eD,show ae (ax (cM (aX kd) (.glo z) j) W) b5=some (.str s) by rw[dA,x];exact y];rfl
theorem EO(w:∀x a,ae V x=some a->ae W x=some a)(v:aV (λq=>fB q.2) V=true):eO (ar (gD p N) va ⟨ax (cM (aX kd) (.glo y) j) W,C⟩) (ax (cM (aX kd) (.glo y) j) V) (gD p N) u:=
 vI (λx a e=>by
  rw[dA] at e ⊢;cases z:ae (cM (aX kd) (.glo y) j) x with|some b=>rw[z] at e;exact e|none=>rw[z] at e;exact w x a e) (EJ v)
theorem Mr{st:aH}(u:aR fl (wB st val g nd o) o.n H)(O:d7 o)(v:254<=p)(b:p<o.n)(hj:j<4)(t:ij o j)(d:b6 (59,g)=true)(Z:b6 (58,nd)=true)(C:ae W b5=some (.str gG))(hs:yD κ (lN (.ref p) j (.str gG)) o=true)(w:∀l s m H',κ l s=true->d7 s->aR m (wB (fE st j) val g nd s) s.n H'->l3 fl m->k .nxt (ar m v0 (ar bE (vc st.kd ln) l)) H'):tD (eL call) (ar fl v0 (ar (gD p o.n) va ⟨ax (cM (aX st.kd) (.glo ln) j) W,bl⟩)) H (d5 tE (eL call) k ke) ke:=by
 refine DT (vJ C) ?_;refine lQ<|Zg u O v b (va:=vj st j) (λk x y h=>lZ k x y h) hj t (EO (λx a e=>?_) rfl) oY d Z λfl1 H1 U1 F=>?_
 .refine eW (bA e) ?_;exact C
 refine oJ<|yn U1 (zp) O (EK hj rfl rfl) EL hs λfs2 X fl2 H2 f A hn2 U2 P=>?_;refine EM U2 A (λx a e=>⟨_,by rw[eD,e];rfl,λz z z r=>r⟩) (λx a e=>by rw[iZ,e];rfl) f λN Q E H3 S O3 U3 c=>w N Q E H3 S O3 U3 λi R q=>?_;rw[c i R q,P i (by have Y:=A.n;exact(lin [i,X.n] 0x4a4c105a2ff433f901) R Y),F i<|by have Y:=O.n;exact(lin [i,o.n] 0x4a4c105a2ff433f901) R Y]
theorem ZX(N:qz fs)(m:ae fs.loc dy=some w)(t:∀x,x≠gm->ae p.loc x=ae fs.loc x):∀x a,ae (qx w).loc x=some a->∃v,ae (ar bE va p).loc x=some v/\cW v (av bE va a):=λx a e=>by
 have n:∀q∈cg aW aL,q.1≠gm:=λq s=>by have l:=bq (show aV (λq:Nat×AV=>J (Nat.beq q.1 gm) false true) (cg aW aL)=true from by kernel_rfl) q s;intro z;rw[z,show Nat.beq gm gm=true from rfl] at l;cases l
 have e:ae (ax (cg aW aL) [(dy,w)]) x=some a:=e;rw[dA] at e;cases z:ae (cg aW aL) x with|none=>rw[z] at e;refine eW (bA e) ?_;exact⟨_,by rw[eD,t _ (by decide),m];rfl,λu u u r=>r⟩|some b=>rw[z] at e;cases e;obtain⟨y,o,le⟩:=N.loc _<|bA z;exact⟨av bE va y,by rw[eD,t x<|n _<|bA z,show ae fs.loc x=some y from o];rfl,(lB le).toA bE va⟩
theorem ZY(h:ad (rL H x v) false z=true):∃p,v=.ref p:=by
 cases v with|ref p=>exact⟨p,rfl⟩|_=>exact bg h
theorem ZZ{fl:Nat->Nat}{st:aH}(h0:∀x,x≠gm->ae F0.loc x=ae fs.loc x)(h0c:F0.cel=fs.cel)(s:aR fl (wB st val aJ nd Cs) Cs.n H)(O:d7 Cs)(G:bN st gh)(hpq:b6 (59,aJ)=true)(hnd:b6 (58,nd)=true)(t:qy m2 m3 Z (n+1) l o fs Cs=true)(kend:ae fs.loc dy=some .none->sM Z l o fs Cs=true->k .brk (ar fl v0 (ar bE (vc st.kd F) F0)) H)(kon:∀j st' ok E X R H' pic',j<4->j∉l->(∀d∈er m2 m3 j,d∈l)->nt st j (∃x∈er m2 m3 j,x∈o) st' ok->aR R (wB st' val pic' nd X) X.n H'->d7 X->b6 (59,pic')=true->qy m2 m3 Z n (ax l [j]) (J ok o (ax o [j])) E X=true->l3 fl R->k .nxt (ar R v0 (ar bE (vc st.kd F) E)) H'):tB (eL call) (ar fl v0 (ar bE (vc st.kd F) F0)) H k ke:=by
 have t:ad (ae fs.loc dy) false (λnd=>J (isNone nd) (sM Z l o fs Cs)<|J (KT fs) (yC fP (qx nd) Cs (lL Cs<|yF m2 m3 (qy m2 m3 Z n) l o) fQ) false)=true:=t;cases hn:ae fs.loc dy with|none=>rw[hn] at t;cases t|some nv=>
 rw[hn] at t;have hl:ae (ar fl v0<|ar bE (vc st.kd F) F0).loc dy=some (av fl v0<|av bE (vc st.kd F) nv):=by rw[eD,eD,h0 _ (by decide),hn];rfl
 have w:isNone nv=false->qz fs/\yC fP (qx nv) Cs (lL Cs<|yF m2 m3 (qy m2 m3 Z n) l o) fQ=true:=λS=>by have e2:J (isNone nv) _ _=true:=t;rw[S] at e2;refine bx (e2) λe3 e4=>?_;refine bx e3 λe5 e6=>?_;exact⟨DV e5 e6,e4⟩
 have Q:=λS=>by have run:ad (ae (qx nv).loc dy) false (λv=>ad (rL Cs qp v) false _)=true:=(w S).2;rw[show ae (qx nv).loc dy=some nv from by kernel_rfl] at run;exact ZY run
 cases S:isNone nv with
 |true=>
  have:nv=.none:=by clear hn hl w Q;cases nv<;>first|rfl|cases S
  clear w Q S;subst this;exact Yn hl<|kend hn t
 |false=>
 obtain⟨p0,rfl⟩:=Q S;obtain⟨NM,run⟩:=w S;refine Yo hl ?_;refine oJ (yn s (zp (ln:=F)) O (fs:=qx<|.ref p0) (ZX NM hn h0) (λx a e=>by rw[iZ,h0c,show ae fs.cel x=some a from NM.cel _<|bA e];rfl) run λfs1 f fl1 H1 hk P hn1 U1 hf1=>?_);obtain⟨p,j,d,es,q,xs,M,h1,h2,h3,h4,N,hF,hS⟩:=Yw hk;have u:254<=p:=Nat.le_of_lt M.p254;have c:=(zE U1 P h1).2;have r:ij f j:=⟨M.inst,M.dict⟩;have A:=M.j4;have hm:=G.m j A;show bF bo (λz=>ac T5<|ac T6 ak) (eL call) _ H1 (d5 _ (eL call) k ke) ke;refine lQ (Y1 U1 P u c (va:=vj st j) (λk x y h=>lZ k x y h) A (EE hm) (zv<|by decide) (zv<|by decide) (ZJ M) (ZK M.nm) hpq hnd λC H2 U2 hf2=>?_);have g:b6 (59,some<|aG (gD p f.n) (vj st j)<|di st.kd j (st.ms j) (yP st j 0)<|yP st j 1)=true:=by delta di;generalize there (yP st j 0)=a,there (yP st j 1)=b,st.ms j=m;rcases m with _|_|m<;>cases a<;>cases b<;>cases st.kd<;>rfl
 have hnode:ae (ar C v0<|ar (gD p f.n) (vj st j) ⟨ax (cM (aX st.kd) (.glo F) j) [(g8,.ref 59),(b5,.str gG)],bl⟩).loc dy=some (.ref<|C p):=by rw[eD,eD,show ae (ax (cM (aX st.kd) (.glo F) j) [(g8,.ref 59),(b5,.str gG)]) dy=some (.ref 254) from s0<|by cases st.kd<;>kernel_rfl];rfl
 refine Yp hnode (zE U2 P h1).1 (zE U2 P h2).1 (by rw[oX,h3];rfl) (zE U2 P h4).1 ?_;have fx12:l3 fl C:=λi S z=>by rw[hf2 i (by have:=P.n;exact(lin [p,f.n,i] aP0) u c S)<|(lin [i] 0x127b8ed018c6307b8ed01684bd10615a02d08fa20c0f405a10b4301101) ‹_›,hf1 i<|by have:=P.n;exact(lin [p,f.n,i] aP0) u c S]
 cases hx:dk xs with
 |true=>
  have:dk (xs.map<|av (λj=>C j) v0)=true:=by clear h4 N hS;cases xs<;>first|rfl|cases hx
  rw[this];show tD (eL call) (ar C v0<|ar (gD p f.n) (vj st j) ⟨ax (cM (aX st.kd) (.glo F) j) [(g8,.ref 59),(b5,.str gG)],bl⟩) H2 (d5 tE (eL call) k ke) ke;exact Mr U2 P u c A r g hnd rfl hF λE X R H' hk' O' U' hf'=>kon j (fE st j) false E X R H' _ A M.new M.deps (.fail<|.inl<|N.mp hx) U' O' g hk'<|fx12.trans hf'
 |false=>
  have:dk (xs.map<|av (λj=>C j) v0)=false:=by clear h4 N hS;cases xs<;>first|rfl|cases hx
  rw[this];have nbad:¬∃x∈er m2 m3 j,x∈o:=λh=>by rw[N.mpr h] at hx;cases hx
  refine lQ<|ZS U2 P u c G A r rfl (EO (V:=[(g8,.ref 59),(b5,.str gG)]) (λz z e=>e) rfl) oY g hnd λstt hst fl3 H3 U3 hf3=>?_;have fx13:l3 fl fl3:=fx12.trans λi S z=>hf3 i (by have:=P.n;exact(lin [p,f.n,i] aP0) u c S);show tD (eL call) (ar fl3 v0<|ar (gD p f.n) (vj st j) ⟨ax (cM (aX st.kd) (.glo F) j) [(g8,.ref 59),(b5,.str stt)],bl⟩) H3 (d5 tE (eL call) k ke) ke;cases hst with
  |bad hf=>exact Mr U3 P u c A r g hnd rfl hF λE X R H' hk' O' U' hf'=>kon j (fE st j) false E X R H' _ A M.new M.deps (.fail<|.inr hf) U' O' g hk'<|fx13.trans hf'
  |run hf=>refine DT (vJ (W:=[(g8,.ref 59),(b5,.str oA)]) rfl) ?_;refine KW (vJ (W:=[(g8,.ref 59),(b5,.str oA)]) rfl) ?_;refine ZW U3 P u c G A hf r rfl (EO (V:=[(g8,.ref 59),(b5,.str oA)]) (λz z e=>e) rfl) oY hnd λfl4 H4 U4 hf4=>?_;show bF bo (λz=>qw) (eL call) _ H4 k ke;refine EM U4 P (kd:=st.kd) (ln:=F) (fs:=lN (.ref p) j yE) (EK (W:=[(b5,.str js)]) A rfl rfl) EL (hS hx) λfs5 Cs5 fl5 H5 hk5 O5 U5 hf5=>kon j (j9 st j) true fs5 Cs5 fl5 H5 none A M.new M.deps (.run nbad hf) U5 O5 rfl hk5 ?_;exact(fx13.trans λi S q=>hf4 i (by have:=P.n;exact(lin [p,f.n,i] aP0) u c S) q).trans hf5
  |up v hf hv hc=>refine DT (vJ (W:=[(g8,.ref 59),(b5,.str sE)]) rfl) ?_;refine KW (vJ (W:=[(g8,.ref 59),(b5,.str sE)]) rfl) ?_;exact EM U3 P (kd:=st.kd) (ln:=F) (fs:=lN (.ref p) j yE) (EK (W:=[(g8,.ref 59),(b5,.str sE)]) A rfl rfl) EL (hS hx) λfs5 Cs5 fl5 H5 hk5 O5 U5 hf5=>kon j st true fs5 Cs5 fl5 H5 _ A M.new M.deps (.up v nbad hf hv hc) U5 O5 g hk5<|fx13.trans hf5
end
theorem zF{f:AV->AV}:∀{l:iJ},bL (l.map λq=>(q.1,f q.2)) x (f a)=(bL l x a).map λq=>(q.1,f q.2)
 | []=>rfl
 |q::l=>by show J (Nat.beq q.1 x) _ ((q.1,f q.2)::bL (l.map λq=>(q.1,f q.2)) x (f a))=(J (Nat.beq q.1 x) ((q.1,a)::l)<|q::bL l x a).map _;rw[zF];cases Nat.beq q.1 x<;>rfl
theorem Z0{z:Nat->Nat}:(⟨bL (ar z v0 (ar bE va F)).loc x (.int i),(ar z v0 (ar bE va F)).cel⟩)=ar z v0 (ar bE va ⟨bL F.loc x (.int i),F.cel⟩):=by
 delta ar
 congr 1
 rw[zF (a:=av bE va<|.int i),zF]
inductive Tr(m2 m3):aH->List Nat->List Nat->aH->List Nat->List Nat->Prop where
 |refl st (s f):Tr m2 m3 st s f st s f
 |step {st st1 st':aH}{s f s' f':List Nat}{j:Nat}{ok:Bool}:j<4->j∉s->(∀d∈er m2 m3 j,d∈s)->nt st j (∃x∈er m2 m3 j,x∈f) st1 ok->Tr m2 m3 st1 (ax s [j]) (J ok f<|ax f [j]) st' s' f'->Tr m2 m3 st s f st' s' f'
theorem bN.out{st z:aH}(G:bN st x)(u:j<4)(h:nt st j bad z ok):(∃y,bN z y)/\z.kd=st.kd/\z.ms=st.ms/\z.tb=st.tb/\z.xs=st.xs:=by
 cases h with|fail _=>exact⟨⟨x,G.fail j⟩,rfl,rfl,rfl,rfl⟩|up v _ _ _ _=>exact⟨⟨x,G⟩,rfl,rfl,rfl,rfl⟩|run _ w=>exact⟨⟨_,G.run u w⟩,rfl,rfl,rfl,rfl⟩
section
variable {call:tY2}{val:Nat->Option Nat}{nd:Option AO}
theorem Z1(hnd:b6 (58,nd)=true):∀(n:Nat)(m i){gh:Int->Nat}{c:Nat->Nat}{st:aH}{h:Option AO}{a:AH}{H:AH}{fs f:aK}{q s:List Nat},(∀x,x≠gm->ae f.loc x=ae fs.loc x)->f.cel=fs.cel->aR c (wB st val h nd a) a.n H->d7 a->bN st gh->b6 (59,h)=true->qy m2 m3 X n q s fs a=true->n<=m->i+n<=9->
  (∀d p r o e l b H' g,Tr m2 m3 st q s d p r->(∃gh',bN d gh')->(∀x,x≠gm->ae e.loc x=ae o.loc x)->e.cel=o.cel->ae o.loc dy=some .none->sM X p r o l=true->aR b (wB d val g nd l) l.n H'->d7 l->b6 (59,g)=true->l3 c b->k .nxt (ar b v0<|ar bE (vc st.kd ln) e) H')->
  iv (eL call) (aQ gm) tB (.rng 9) k m i (ar c v0<|ar bE (vc st.kd ln) f) H:=by
 intro n
 induction n with|zero=>intro _ _ _ _ _ _ _ _ _ _ _ _ _ _ _ _ _ _ w _ _ _;cases w|succ n ih=>
  intro m;cases m with
  |zero=>intro _ _ _ _ _ _ _ _ _ _ _ _ _ _ _ _ _ _ P _ _;exact aP P<|((lin [n] aG0) P).elim
  |succ m=>
   intro i gh c st h a H fs f q s h0 R t O G Z w P hi y;show ad (some<|J (Nat.blt i 9) (some<|AV.int<|.ofNat i) none) False _;rw[show Nat.blt i 9=true from Nat.ble_eq_true_of_le<|(lin [i,n] 0x12684a140280b4250a500a041) hi];show tB (eL call) ⟨bL (ar c v0<|ar bE (vc st.kd ln) f).loc gm<|.int<|.ofNat i,(ar c v0<|ar bE (vc st.kd ln) f).cel⟩ H (kt (iv (eL call) (aQ gm) tB (.rng 9) k m<|Nat.succ i) k) (eB<|eL call);rw[Z0];have Q:∀x,x≠gm->ae (bL f.loc gm<|.int<|.ofNat i) x=ae fs.loc x:=λx hx=>by rw[kz,aq hx];exact h0 x hx
   refine ZZ Q R t O G Z hnd w (λhn hf=>(y st q s fs _ a c H h (.refl _ _ _) ⟨gh,G⟩ Q R hn hf t O Z λz z z=>rfl)) λj u ok fs1 Cs1 fl1 H1 pic1 hj A hd ho U1 O1 N ex1 hfx=>?_
   .obtain⟨⟨gh1,G1⟩,hk,_⟩:=G.out hj ho;rw[hk.symm];refine ih m (Nat.succ i) (λz z=>rfl) rfl U1 O1 G1 N ex1 ((lin [n,m] 0x49a20b540281280501) P) ((lin [i,n] 0x49a12850940280b4250a500a041) hi) λv s2 f2 E F2 Cs2 F H2 S t2 g2 a2 b2 c2 d2 U2 O2 C hf2=>?_;rw[hk];exact y v s2 f2 E F2 Cs2 F H2 S (.step hj A hd ho t2) g2 a2 b2 c2 d2 U2 O2 C<|hfx.trans hf2
end
def i8(st:aH)(j:Nat)(a b:Option Nat):Option Nat:=J (e8 a.isSome b.isSome (J a.isSome b.isSome false) (st.ms j)) (some (e_ j (st.ms j) (a.getD 0) (b.getD 0))) none
def w0(st:aH)(k:Nat):Option Nat:=(st.fv k).map λv=>v.c
def eQ(st:aH)(k:Nat):Option Nat:=
 let x:=i8 st 0 (w0 st 0)<|w0 st 1
 let y:=i8 st 1 (w0 st 1)<|w0 st 2
 let z:=i8 st 2 x y
 let w:=i8 st 3 (w0 st 0) z
 J (Nat.blt k 3) (w0 st k) (cJ x y z w<|Nat.sub k 3)
theorem Ms{st:aH}(h:k<3):eQ st k=w0 st k:=by
 delta eQ;rw[show Nat.blt k 3=true from Nat.ble_eq_true_of_le h]
theorem EP{st:aH}(h:j<4):eQ st (Nat.add 3 j)=i8 st j (eQ st (aZ j 0)) (eQ st (aZ j 1)):=by
 refine c4 (j:=j) ‹_› ?_ ?_ ?_ ?_<;>rfl
theorem Z2{st:aH}(v:st.ms j<3)(w:aM 0 (st.ms j)=true->a=some x)(z:aM 1 (st.ms j)=true->b=some y):i8 st j a b=some (e_ j (st.ms j) x y):=by
 delta i8;generalize st.ms j=m at *;rcases m with _|_|_|m
 .rw[w rfl];rfl
 .rw[z rfl];rfl
 .rw[w rfl,z rfl];rfl
 .exact((lin [m] aa0) v).elim
theorem Z3{st:aH}(z:st.ms j<3)(hd:d<2)(y:aM d (st.ms j)=true)(h:(if d=0 then a else b)=none):i8 st j a b=none:=by
 delta i8;generalize st.ms j=m at *;rcases d with _|_|d
 .have h:=h;subst h;rcases m with _|_|_|m
  .rfl
  .cases y
  .clear h;cases b<;>rfl
  .exact((lin [m] aa0) z).elim
 .have h:=h;subst h;rcases m with _|_|_|m
  .cases y
  .rfl
  .clear h;cases a<;>rfl
  .exact((lin [m] aa0) z).elim
 .exact((lin [d] aF0) hd).elim
theorem Z4{st:aH}(u:j<4)(hd:d<2)(t:v=st.ms 2)(y:∀x,x∈er v s 3↔(x=2/\aM 1 (st.ms 3)=true))(w:st.ms j<3)(z:aM d (st.ms j)=true):aZ j d<3\/∃k,k∈er v s j/\aZ j d=Nat.add 3 k/\k<4:=by
 subst t;rcases j with _|_|_|_|j
 .left;clear z;rcases d with _|_|d<;>first|(decide)|(omega)|omega
 .left;refine c2 (j:=d) ‹_› ?_ ?_<;>first|(decide)|(decide)
 .right
  have w:=w;have z:=z;rcases d with _|_|d
  .refine⟨0,?_,rfl,by decide⟩;generalize st.ms 2=m at *;clear y;rcases m with _|_|_|m
   .exact .head _
   .cases z
   .exact .head _
   .exact((lin [m] aa0) ‹_›).elim
  .refine⟨1,?_,rfl,by decide⟩;generalize st.ms 2=m at *;clear y;rcases m with _|_|_|m
   .cases z
   .exact .head _
   .exact .tail _<|.head _
   .exact((lin [m] aa0) ‹_›).elim
  .exact((lin [d] aF0) hd).elim
 .rcases d with _|_|d
  .left;decide
  .right;exact⟨2,(y 2).mpr ⟨rfl,z⟩,rfl,by decide⟩
  .exact((lin [d] aF0) hd).elim
 .exact((lin [j] aI0) u).elim
theorem Z5{st:aH}(v:j<4)(u:y=st.ms 2)(w:∀x,x∈er y t 3↔(x=2/\aM 1 (st.ms 3)=true))(z:st.ms j<3)(h:k∈er y t j):k<4/\∃d,d<2/\aM d (st.ms j)=true/\aZ j d=Nat.add 3 k:=by
 subst u;rcases j with _|_|_|_|j
 .cases h
 .cases h
 .have h:=h;have z:=z;generalize st.ms 2=m at *;clear w;rcases m with _|_|_|m
  .refine dJ h ?_;exact⟨by decide,0,by decide,rfl,rfl⟩
  .refine dJ h ?_;exact⟨by decide,1,by decide,rfl,rfl⟩
  .refine bk h (⟨by decide,0,by decide,rfl,rfl⟩) λh=>?_
   .refine dJ h ?_;exact⟨by decide,1,by decide,rfl,rfl⟩
  .exact((lin [m] aa0) ‹_›).elim
 .obtain⟨rfl,s⟩:=(w k).mp h;exact⟨by decide,1,by decide,s,rfl⟩
 .exact((lin [j] aI0) v).elim
structure s_(st0 st:aH)(s f:List Nat):Prop where
 lo:∀k,k<3->st.fv k=st0.fv k
 ms:st.ms=st0.ms
 sub:∀j∈f,j∈s
 bad:∀j∈s,j<4/\(j∈f->eQ st0 (Nat.add 3 j)=none)/\(j∉f->∃v,st.fv (Nat.add 3 j)=some v/\eQ st0 (Nat.add 3 j)=some v.c)
theorem Mt{st z:aH}(h:nt st j bad z ok)(y:k≠Nat.add 3 j):z.fv k=st.fv k:=by
 cases h with|fail _=>rfl|up v _ _ _ _=>rfl|run _ _=>exact EH y
theorem s_.step{y st u:aH}(hm:∀i,i<4->y.ms i<3)(h2:g=y.ms 2)(h3:∀x,x∈er g Q 3↔(x=2/\aM 1 (y.ms 3)=true))(o:s_ y st s f)(m:j<4)(hs:j∉s)(hd:∀d∈er g Q j,d∈s)(h:nt st j (∃x∈er g Q j,x∈f) u ok):s_ y u (ax s [j]) (J ok f (ax f [j])):=by
 have kms:u.ms=st.ms:=by cases h<;>rfl
 have r:∀k,k<3->k≠Nat.add 3 j:=λk Z e=>by have Y:k=3+j:=e;exact(lin [j,k] 0x1294a537282068139410340980681301101) m Z e Y
 have N:∀i∈s,i≠j:=λi hi e=>hs<|e▸hi;have keep:∀i,i≠j->u.fv (Nat.add 3 i)=st.fv (Nat.add 3 i):=λi hi=>Mt h λe=>hi (by have Y:3+i=3+j:=e;exact(lin [i,j] 0x49c20b942034282068) Y);have jf:j∉f:=λhf=>hs<|o.sub j hf;have b:st.ms j<3:=by rw[o.ms];exact hm j m
 have e2:g=st.ms 2:=by rw[o.ms];exact h2
 have e3:∀x,x∈er g Q 3↔(x=2/\aM 1 (st.ms 3)=true):=by rw[o.ms];exact h3
 have S:∀d,d<2->aM d (st.ms j)=true->(st.fv (aZ j d)=none->eQ y (aZ j d)=none)/\(¬(∃x∈er g Q j,x∈f)->∀v,st.fv (aZ j d)=some v->eQ y (aZ j d)=some v.c):=λd n hi=>by
  rcases Z4 m n e2 e3 b hi with hl|⟨k,Z,X,hk4⟩
  .rw[Ms hl];delta w0;rw[(o.lo _ hl).symm];exact⟨λe=>by rw[e];rfl,λz v e=>by rw[e];rfl⟩
  .obtain⟨_,t,b2⟩:=o.bad k<|hd k Z;rw[X];refine⟨λe=>?_,λa v e=>?_⟩
   .by_cases q:k∈f
    .exact t q
    .obtain⟨v,e1,_⟩:=b2 q;rw[e] at e1;cases e1
   .have q:k∉f:=λq=>a ⟨k,Z,q⟩;obtain⟨w,g1,g2⟩:=b2 q;rw[e] at g1;cases g1;exact g2
 have l:¬(∃x∈er g Q j,x∈f)->jF st j->eQ y (Nat.add 3 j)=some (fg st j):=λa hF=>by
  rw[EP m];delta fg;have A:y.ms j<3:=hm j m;rw[o.ms];have P:∀d,d<2->aM d (y.ms j)=true->eQ y (aZ j d)=some (bY st j d).c:=λd n hi=>by rw[o.ms.symm] at hi;obtain⟨v,e⟩:=hF d n hi;rw[(S d n hi).2 a v e,o6 e]
  exact Z2 A (P 0<|by decide) (P 1<|by decide)
 have R:((∃x∈er g Q j,x∈f)\/¬jF st j)->eQ y (Nat.add 3 j)=none:=λE=>by
  rw[EP m];have nn:∃d,d<2/\aM d (y.ms j)=true/\eQ y (aZ j d)=none:=by
   rcases E with ⟨x,hx,C⟩|hF
   .obtain⟨x4,d,n,hi,X⟩:=Z5 m e2 e3 b hx;exact⟨d,n,by rw[o.ms.symm];exact hi,by rw[X];exact(o.bad x<|hd x hx).2.1 C⟩
   .apply Classical.byContradiction;intro hc;refine hF λd n hi=>?_;cases q:st.fv (aZ j d) with|some v=>exact⟨v,rfl⟩|none=>exact aP ⟨d,n,by rw[o.ms.symm];exact hi,(S d n hi).1 q⟩ hc
  obtain⟨d,n,hi,F⟩:=nn;refine Z3 (d:=d) (hm j m) n hi ?_;clear hi;rcases d with _|_|d
  .exact F
  .exact F
  .exact((lin [d] aF0) n).elim
 refine⟨λk Z=>by rw[Mt h<|r k Z];exact o.lo k Z,by rw[kms];exact o.ms,λi hi=>?_,λi hi=>?_⟩
 .cases ok with
  |true=>exact ct.mpr<|.inl<|o.sub i hi
  |false=>
   rcases ct.mp hi with hi|hi
   .exact ct.mpr<|.inl<|o.sub i hi
   .exact ct.mpr<|.inr hi
 .rcases ct.mp hi with hi|hi
  .obtain⟨p,t,b2⟩:=o.bad i hi;have ne:=N i hi;have H:i∈J ok f (ax f [j])↔i∈f:=by
    cases ok with|true=>exact hM|false=>exact⟨λh=>by rcases ct.mp h with h|h;exact h;exact aP (List.mem_singleton.mp h) ne,λh=>ct.mpr<|.inl h⟩
   exact⟨p,λh=>t<|H.mp h,λh=>by rw[keep i ne];exact b2 λq=>h<|H.mpr q⟩
  .clear hs hd r N b S;refine dJ hi ?_;cases h with|up v a hF F hc=>exact⟨m,λh=>aP h jf,λz=>⟨v,F,by rw[l a hF,hc]⟩⟩|run a hF=>exact⟨m,λh=>aP h jf,λz=>⟨_,EG,l a hF⟩⟩|fail E=>exact⟨m,λz=>R E,λh=>aP (ct.mpr<|.inr<|.head _) h⟩
theorem Tr.done{st0 st w:aH}(u:∀i,i<4->st0.ms i<3)(p:v=st0.ms 2)(m:∀x,x∈er v o 3↔(x=2/\aM 1 (st0.ms 3)=true))(y:Tr v o st s f w t n)(z:s_ st0 st s f):s_ st0 w t n:=by
 induction y with|refl=>exact z|step q l hd ho _ r=>exact r<|z.step u p m q l hd ho
theorem EQ(h:qG l p):∀x∈l,p x:=by
 induction l with|nil=>intro x m;cases m|cons y l z=>intro x m;have h:p y/\qG l p:=h;exact bk m h.1 λm=>(z h.2 x m)
theorem ER(h:∀x∈l,p x):qG l p:=by
 induction l with|nil=>trivial|cons y l z=>exact⟨h y<|.head _,z λx m=>h x<|.tail _ m⟩
theorem ES:∀{a b:List Nat},lO a b=true->a=b
 | [],[],_=>rfl
 | [],_::_,h=>by cases h
 |_::_,[],h=>by cases h
 |x::a,y::b,h=>by refine bx ((show J (Nat.beq x y) (lO a b) false=true from h)) λw z=>?_;rw[Nat.eq_of_beq_eq_true w,ES z]
theorem Mu(h:m6 (lO s) j1=true):s∈j1:=by
 have x:∀{l:List (List Nat)},m6 (lO s) l=true->s∈l:=by
  intro l
  induction l with|nil=>intro h;cases h|cons y l z=>
   intro h;have h:J (lO s y) true (m6 (lO s) l)=true:=h;cases q:lO s y with|true=>rw[ES q];exact .head _|false=>rw[q] at h;exact .tail _<|z h
 exact x h
theorem nu:(dE l).map (av g va)=dE l:=by
 delta dE;rw[fA,List.map_map];rfl
theorem ET:dT r (.list (dE l))=true:=by
 refine dO λx hx=>?_;unfold dE at hx;rw[fA] at hx;refine mf hx λi z=>?_;rfl
abbrev enF(kd:Bool)(y:Nat)(z:iJ):aK:=⟨ax (cg (aX kd) (.glo y)) z,bl⟩
section
variable {fl:Nat->Nat}{st:aH}{val:Nat->Option Nat}{aJ nd:Option AO}{Cs:AH}{H:AH}{F:aK}{va:Nv}
theorem EU(w:∀i,(i=12\/i=35\/i=42\/i=11\/i=53\/i=96\/i=55\/i=102\/i=56\/i=57)->dz mv i=true)(h:aV (λq=>bh (λj=>J (Nat.ble j 254) (dz mv j) false) q.2) a=true):aV (λq=>bh (λj=>J (Nat.ble j 254) (dz mv j) false) q.2) (ax (cg (aX kd) (.glo v)) a)=true:=by
 have z:∀i,(i=12\/i=35\/i=42\/i=11\/i=53\/i=96\/i=55\/i=102\/i=56\/i=57)->bh (λj=>J (Nat.ble j 254) (dz mv j) false) (.ref i)=true:=λi y=>by show J (Nat.ble i 254) (dz mv i) false=true;rw[show Nat.ble i 254=true from Nat.ble_eq_true_of_le<|(lin [i] 0x49bfc80c6318c6318c5c7280b8e101733202e37405cc080b8d501705a02e2a405c4680b83101) y];exact w i y
 have x:bh (λj=>J (Nat.ble j 254) (dz mv j) false) (aX kd)=true:=by cases kd<;>rfl
 exact af (z _<|by decide) (af (z _<|by decide) (af x (af (z _<|by decide) (af (z _<|by decide) (af rfl (af (z _<|by decide) (af (z _<|by decide) (af (z _<|by decide) (af (z _<|by decide) (af (z _<|by decide) (af (z _<|by decide) h)))))))))))
theorem Z6(t:aR fl (wB st val aJ (some (.list (dE (qv s)))) Cs) Cs.n H)(O:d7 Cs)(inj:∀k x y,va k x=va k y->x=y)(X:s∈j1)(u:Cs.get 56=some (.list (dE s)))(a:eO F (j6 (aX st.kd) (.glo c)) (gD 254 Cs.n) va)(R:∀x i,ae bl x=some i->ae F.cel x=some i)(g:b6 (59,aJ)=true)(w:∀m l,aR m (wB st val aJ (some (.list (dE (qv s)))) Cs) Cs.n l->(∀i,i<Cs.n->m i=fl i)->k .nxt (ar m v0 (ar (gD 254 Cs.n) va ⟨ax (j6 (aX st.kd) (.glo c)) [],bl⟩)) l):cX (λp=>p) fD Du False (ar fl v0 F) H k:=by
 have run:=EQ (by rw[YQ (aX st.kd)<|.glo c];exact ER λz z=>iD) s X;refine mZ t (by decide) (by have Y:=O.n;exact(lin [Cs.n] 0x4981fe4343fe8) Y) inj (dr:=[]) (bS.app bS.nil (bS.cons ⟨by decide,?_⟩ (bS.cons ⟨by decide,?_⟩ .nil))) a.f1 (λx i e=>?_) run
  (λr b Q h=>ju rfl (λq f=>by cases f) qL h) ?_ (λq f h=>by cases f) (kR g ET) (λz i o e j v=>(O.ref i o e j v).1) rfl λm l Z d=>w m l Z λi S=>d i S rfl
 .refine(vz rfl).trans ?_;rw[u];show some (AO.list _)=some (AO.list _);rw[nu,nu]
 .show _=some (AO.list _);rw[nu];kernel_rfl
 .rw[dc<|kS e];exact R x i e
 .refine af rfl<|af ?_ rfl;exact EU (λz z=>rfl) rfl
end
abbrev m4(st:aH):Nat->Nat:=cJ (st.ms 0) (st.ms 1) (st.ms 2) (st.ms 3)
theorem Z7{Q:Nat->(Nat->Nat)->Prop}(h:yZ Q){l a b c d:Nat}(y:l<7)(x:a<3)(w:b<3)(v:c<3)(hd:d<3):Q l (cJ a b c d):=by
 have z:l∈[0,1,2,3,4,5,6]:=by refine c7 y ?_ ?_ ?_ ?_ ?_ ?_ ?_<;>decide
 exact hB (hB (hB (hB (nj h l z) x) w) v) hd
theorem Z8(h:∀l m,Q l m):yZ Q:=cN λz z=>jB λz=>jB λz=>jB λz=>jB λz=>h _ _
section
variable {fl:Nat->Nat}{st:aH}{val:Nat->Option Nat}{aJ:Option AO}{Cs:AH}{H:AH}{F:aK}{va:Nv}
theorem Z9:bS (wB st val aJ nd Cs) p N va (uS (m4 st)):=by
 refine .cons ⟨by decide,by kernel_rfl⟩ (.cons ⟨by decide,by kernel_rfl⟩ (.cons ⟨by decide,?_⟩ (.cons ⟨by decide,?_⟩ (.cons ⟨by decide,?_⟩ (.cons ⟨by decide,?_⟩ .nil)))))
 .show _=some (AO.list _);rw[j7];kernel_rfl
 .show _=some (AO.list _);rw[j7];kernel_rfl
 .show _=some (AO.list _);rw[j7];kernel_rfl
 .show _=some (AO.list _);rw[j7];kernel_rfl
theorem Z_(u:aR fl (wB st val aJ none Cs) Cs.n H)(O:d7 Cs)(inj:∀k x y,va k x=va k y->x=y)(b:∀j,j<4->st.ms j<3)(Q:l<7)(R:eO F (vk (aX st.kd) l) (gD 254 Cs.n) va)(N:∀x i,ae bl x=some i->ae F.cel x=some i)(a:b6 (59,aJ)=true)(w:∀t c,aR t (wB st val aJ (some (.list (dE (iE (st.ms 2) (st.ms 3) (kL l))))) Cs) Cs.n c->(∀i,i<Cs.n->i≠58->t i=fl i)->k .nxt (ar t v0 (ar (gD 254 Cs.n) va ⟨ax (vk (aX st.kd) l) [(uN,.ref 58)],bl⟩)) c):cX (λp=>p) fD Dt False (ar fl v0 F) H k:=by
 have run:=Z7 (by rw[YV<|aX st.kd];exact Z8 λz z=>iD) Q (b 0<|by decide) (b 1<|by decide) (b 2<|by decide) (b 3<|by decide);have X:254<kM l (m4 st):=by exact lin [len<|iE (m4 st 2) (m4 st 3)<|kL l] 0x18a080004053fc8
 have s:∀i,i≠58->dz [(58,kM l<|m4 st)] i=true:=λi d=>qP (by rw[b3,aq λe=>d e.symm];rfl);have g:bj [(58,kM l<|m4 st)] 58=kM l (m4 st):=oW (by rw[b3,aw rfl]);refine mZ (B2:=[(58,.list<|dE<|iE (st.ms 2) (st.ms 3)<|kL l)]) u (p:=254) (by decide) (by have Y:=O.n;exact(lin [Cs.n] 0x4981fe4343fe8) Y) inj (mv:=[(58,kM l<|m4 st)]) (dr:=[]) (bS.app bS.nil Z9) R.f1 (λx i e=>?_) run
  (λr S E h=>ju (W:=[(uN,.ref<|kM l<|m4 st)]) (D:=Ef l<|m4 st) ?_ (λq m=>?_) (λq m=>?_) h) ?_ (λq m h=>?_) (kR a rfl) (λz i o e j v=>(O.ref i o e j v).1) (L2:=LB st val aJ<|some<|.list<|dE<|iE (st.ms 2) (st.ms 3)<|kL l) ?_ (λt c P Z=>w t c P λi d h=>Z i d<|by rw[b3,aq λe=>h e.symm];rfl)
 .rw[dc<|kS e];exact N x i e
 .exact af (s 51<|by decide) (af (s 52<|by decide) da)
 .refine dJ m ?_;refine⟨_,.head _,?_⟩;show cW _ (.ref<|bj _ 58);rw[g];exact λz z z r=>r
 .refine dJ m ?_;refine⟨.list<|dE<|iE (st.ms 2) (st.ms 3)<|kL l,?_,λf va=>lX ?_⟩
  .show(bj _ 58,_)∈_;rw[g];exact .head _
  .show AO.list _=AO.list _;rw[nu,nu]
 .refine af ?_<|af ?_<|af rfl<|af rfl<|af rfl<|af ?_<|af ?_<|af rfl<|af ?_<|af rfl da
  .show J (J (J true (J (Nat.blt 254<|kM l<|m4 st) true _) false) true false) true false=true;rw[show Nat.blt 254 (kM l<|m4 st)=true from Nat.ble_eq_true_of_le X]
  .show aV _ (ax (cg (aX st.kd)<|.glo<|fR l) [(dy,.none)])=true;exact EU (λi d=>s i<|(lin [i] 0x93dc7480c6318c6318c5c7280b8e101733202e37405cc080b8d501705a02e2a405c4680b83101) d) rfl
  .refine af ?_ da;show J true (dT _<|.list _) false=true;rw[ET]
  .exact af (s 52<|by decide) (af (s 37<|by decide) (af (s 38<|by decide) (af (s 39<|by decide) (af (s 40<|by decide) (af (s 41<|by decide) da)))))
  .exact af (by kernel_rfl) da
 .cases List.mem_singleton.mp m;cases h
 .rw[sU (B2r:=[(58,.list<|dE<|iE (st.ms 2) (st.ms 3)<|kL l)])<|by show[(58,AO.list _)]=_;rw[nu]];kernel_rfl
end
structure zG(st:aH)(val:Nat->Option Nat)(need failed:List Nat):Prop where
 j4:∀j∈need,j<4
 bad:∀j∈need,j∈failed->val (Nat.add 3 j)=none
 ok:∀j∈need,j∉failed->∃v,st.fv (Nat.add 3 j)=some v/\val (Nat.add 3 j)=some v.c
section
variable {fl:Nat->Nat}{st:aH}{val:Nat->Option Nat}{aJ:Option AO}{Cs:AH}{H:AH}{F:aK}
def tF(st:aH)(j:Nat):FV:=(st.fv (Nat.add 3 j)).getD ⟨0,0⟩
def a?(st:aH)(k:Nat):Int:=J (Nat.beq k 73) (.ofNat (tF st 0).c) (J (Nat.beq k 74) (.ofNat (tF st 1).c) (J (Nat.beq k 75) (.ofNat (tF st 2).c) (J (Nat.beq k 76) (.ofNat (tF st 3).c) 0)))
abbrev vl(st:aH):Nat->Nat->Int:=vd (a? st) λz=>0
theorem Mv(z:j<4):vl st (Nat.add 73 j) 0=.ofNat (tF st j).c:=by
 refine c4 (j:=j) ‹_› ?_ ?_ ?_ ?_<;>rfl
theorem Mw:vn x y j=true↔j∈x/\j∉y:=by
 delta vn;cases h1:a5 x j with|false=>exact⟨(λh=>by cases h),λw=>w.elim λh _=>by rw[dh,bR h] at h1;cases h1⟩|true=>
  have v:=lR h1;cases h2:a5 y j with|true=>exact⟨(λh=>by cases h),λw=>w.elim λ_ h=>aP (lR h2) h⟩|false=>exact⟨λz=>⟨v,λh=>by rw[dh,bR h] at h2;cases h2⟩,λz=>rfl⟩
theorem b'(L:zG st val y z)(x:k<7):(Eh y z (aB st) k).map (av (gD p N) va)=aB st k:=by
 delta Eh;cases h:Nat.blt k 3 with|true=>exact i6 x|false=>
  cases h2:vn y z (Nat.sub k 3) with|false=>exact i6 x|true=>
   obtain⟨a,b⟩:=Mw.mp h2;obtain⟨v,e,_⟩:=L.ok _ a b;have w:¬k<3:=λq=>by rw[show Nat.blt k 3=true from Nat.ble_eq_true_of_le q] at h;cases h
   have u:Nat.add 3 (Nat.sub k 3)=k:=by show 3+(k - 3)=k;omega
   rw[u] at e;show some (AV.ref<|gD p N<|Nat.add 4 k)=aB st k;rw[dc<|by exact(lin [k,k.sub 3] 0x94a4cfe4282088705420343d80680b01d01) x w u];delta aB;rw[e];rfl
theorem qR(L:zG st val x z)(r:k<7):(kO x z (a7 val) k).map (av (gD p N) (vl st))=a7 val k:=by
 have y:(a7 val k).map (av (gD p N)<|vl st)=a7 val k:=by delta a7;cases val k<;>rfl
 delta kO;cases h:Nat.blt k 3 with|true=>exact y|false=>
  have s:¬k<3:=λq=>by rw[show Nat.blt k 3=true from Nat.ble_eq_true_of_le q] at h;cases h
  have w:Nat.add 3 (Nat.sub k 3)=k:=by show 3+(k - 3)=k;omega
  cases h2:a5 x (Nat.sub k 3) with|false=>exact y|true=>
   have u:=lR h2;cases h3:a5 z (Nat.sub k 3) with
   |true=>have o:=L.bad _ u<|lR h3;rw[w] at o;delta a7;rw[o];rfl
   |false=>
    obtain⟨v,e,g⟩:=L.ok _ u (λq=>by rw[dh,bR q] at h3;cases h3);rw[w] at g;have t:Nat.add 70 k=Nat.add 73 (Nat.sub k 3):=by show 70+k=73+(k - 3);omega
    show some (AV.int<|vl st (Nat.add 70 k) 0)=a7 val k;rw[t,Mv (show k - 3<4 by omega)];delta a7 tF;rw[g,e];rfl
theorem b?{Q:List Nat->List Nat->Prop}(h:y3 Q){n f:List Nat}(x:n∈vm)(y:f∈j1)(z:hV f n=true):Q n f:=by
 have w:=EQ (EQ h n x) f y;have w:=w;rw[z] at w;exact w
theorem c?(h:∀n f,Q n f):y3 Q:=ER λn z=>ER λf z=>by
 cases hV f n
 .trivial
 .exact h n f
theorem d?(s:aR fl (wB st val aJ (some (.list (dE l))) Cs) Cs.n H)(O:d7 Cs)(hn:l∈vm)(hf:m∈j1)(hs:hV m l=true)(L:zG st val l m)(w:Cs.get 57=some (.list (dE m)))(kn:eO F (j6 (aX st.kd) (.glo X)) (gD 254 Cs.n) (vl st))(hc:∀x i,ae bl x=some i->ae F.cel x=some i)(R:b6 (59,aJ)=true)(u:∀g Z,aR g (wB st val aJ (some (.list (dE l))) Cs) Cs.n Z->(∀i,i<Cs.n->g i=fl i)->k .nxt (ar g v0 (ar (gD 254 Cs.n) (vl st) ⟨ax (j6 (aX st.kd) (.glo X)) [],bl⟩)) Z):cX (λp=>p) fD Dv False (ar fl v0 F) H k:=by
 have run:Ei (aX st.kd) (.glo X) l m (aB st) (a7 val) (λj=>.int (tF st j).t) (λj=>.int<|c_ (tF st j).c):=
  b? (Q:=λn f=>Ei (aX st.kd) (.glo X) n f (aB st) (a7 val) (λj=>.int (tF st j).t) (λj=>.int<|c_ (tF st j).c)) (by rw[YR];exact c? λz z=>iD) hn hf hs
 have d:∀j,j<4->bS (wB st val aJ (some<|.list<|dE l) Cs) 254 Cs.n (vl st) (Lh l m (λj=>.int (tF st j).t) (λj=>.int<|c_ (tF st j).c) j):=λj E=>.cno λh=>by
  obtain⟨a,b⟩:=Mw.mp h;obtain⟨v,e,_⟩:=L.ok j a b;refine .cons ⟨by exact(lin [j] 0x1267f2141074301101) E,?_⟩ .nil;have C:Nat.add 7 j=Nat.add 4 (Nat.add 3 j):=by exact lin [j] 0xe52820680442820e8
  show wB st val aJ _ Cs (Nat.add 7 j)=some (AO.tup [.int (tF st j).t,.int<|c_ (tF st j).c,.int<|vl st (Nat.add 73 j) 0]);rw[C,y8 (show 3+j<7 by exact(lin [j] 0x12603a141034301101) E),e,Mv E];delta tF;rw[e];rfl
 have hS:bS (wB st val aJ (some<|.list<|dE l) Cs) 254 Cs.n (vl st) (vp l m (aB st) (a7 val) (λj=>.int (tF st j).t) (λj=>.int<|c_ (tF st j).c)):=by
  refine .app (.cons ⟨by show 51<254;decide,by kernel_rfl⟩ (.cons ⟨by show 57<254;decide,?_⟩ (.cons ⟨by show 58<254;decide,?_⟩ (.cons (vx λk hk=>b' L hk) (.cons ⟨by show 55<254;decide,?_⟩ .nil))))) (.app (d 0<|by decide) (.app (d 1<|by decide) (.app (d 2<|by decide) (d 3<|by decide))))
  .refine(vz (i:=57) rfl).trans ?_;rw[w];show some (AO.list _)=some (AO.list _);rw[nu,nu]
  .show _=some (AO.list _);rw[nu];kernel_rfl
  .have e:aG (gD 254 Cs.n) (vl st) (cH<|kO l m<|a7 val)=cH (a7 val):=by show AO.umap [(97,(kO l m (a7 val) 0).map _),(98,(kO l m (a7 val) 1).map _),(99,(kO l m (a7 val) 2).map _),(120,(kO l m (a7 val) 3).map _),(121,(kO l m (a7 val) 4).map _),(122,(kO l m (a7 val) 5).map _),(119,(kO l m (a7 val) 6).map _)]=_;rw[qR L (by decide),qR L (by decide),qR L (by decide),qR L (by decide),qR L (by decide),qR L (by decide),qR L<|by decide];rfl
   rw[e];kernel_rfl
 refine mZ (holds:=λp=>p) (S:=vp l m (aB st) (a7 val) (λj=>.int (tF st j).t) (λj=>.int<|c_ (tF st j).c)) (O:=[]) (V:=j6 (aX st.kd)<|.glo X) (fs2:=⟨[],bl⟩) (r2:=.nxt) (B2:=[]) s (p:=254) (by decide) (by have Y:=O.n;exact(lin [Cs.n] 0x4981fe4343fe8) Y) (λk x y h=>lZ k x y h) (mv:=[]) (dr:=[]) (bS.app bS.nil hS) kn.f1 (λx i e=>?_) run
  (λr A B' h=>ju (D:=[]) rfl (λq P=>by cases P) qL h) ?_ (λq P h=>by cases P) (kR R ET) (λz i o e j v=>(O.ref i o e j v).1) (L2:=LB st val aJ<|some<|.list<|dE l) rfl λg Z U2 N=>u g Z U2 λi hi=>N i hi rfl
 .rw[dc<|kS e];exact hc x i e
 .exact af rfl<|af (EU (λz z=>rfl) rfl)<|af rfl<|af rfl<|af rfl<|af rfl<|af (dO λz z=>rfl) rfl
end
structure Fin(need sent failed)f(h:AH):Prop where
 nm:qz f
 srt:qv sent=need
 s:sent∈j1
 f:failed∈j1
 sub:hV failed need=true
 h56:h.get 56=some (.list<|dE sent)
 h57:h.get 57=some (.list<|dE failed)
theorem e?(e:sM w v x f h=true):Fin w v x f h:=by
 have X:=bq e;have s:=X _<|.head _;have q:=X _<|.tail _<|.head _;have r:=X _<|mT2<|.head _;have u:=X _<|mT3<|.head _;have p:=X _<|mT4<|.head _;have t:=X _<|mT5<|.head _;have z:=X _<|mT6<|.head _;have y:=X _<|mT7<|.head _;exact⟨DV s q,ES r,Mu u,Mu p,t,yH z,yH y⟩
theorem My:∀{l:List Nat},y∈DQ x l->y=x\/y∈l
 | [],h=>.inl<|List.mem_singleton.mp h
 |z::l,h=>by
  have h:y∈J (Nat.blt x z) (x::z::l) (z::DQ x l):=h;cases q:Nat.blt x z with|true=>rw[q] at h;exact f_ h (λh=>(.inl h)) λh=>(.inr h)|false=>
   rw[q] at h;refine f_ h (λh=>(.inr<|h▸.head _)) λh=>?_
   .rcases My h with h|h
    .exact .inl h
    .exact .inr<|.tail _ h
theorem zH:∀{l:List Nat},y∈qv l->y∈l
 | [],h=>h
 |x::l,h=>by
  rcases My h with h|h
  .exact h▸.head _
  .exact .tail _<|zH h
theorem f?:iE z y first∈vm:=by
 have x:∀a b c d:Bool,ax (J a [0] []) (ax (J b [1] [])<|ax (J c [2] [])<|J d [3] [])∈vm:=by decide +kernel
 exact x _ _ _ _
theorem g?(M:qz fs)(k:ae fs.loc dy=some .none)(s:∀x,x≠gm->ae p.loc x=ae fs.loc x):eO (ar bE (vc kd v) p) (Ed (aX kd) (.glo v)) (gD 254 N) va:=by
 intro x a e;have hx:ae (ax (cg (aX kd)<|.glo v) [(dy,.none)]) x=some a:=e;rw[dA] at hx;have n:∀q∈cg aW aL,q.1≠gm:=λq o=>by have j:=bq (show aV (λq:Nat×AV=>J (Nat.beq q.1 gm) false true) (cg aW aL)=true from by kernel_rfl) q o;intro z;rw[z,show Nat.beq gm gm=true from rfl] at j;cases j
 cases z:ae (cg (aX kd)<|.glo v) x with|none=>rw[z] at hx;clear e z;refine eW (bA hx) ?_;exact⟨.none,by rw[eD,s _ (by decide),k];rfl,λw w w r=>r⟩|some b=>
  rw[z] at hx;cases(hx);have m:=z;rw[<-zs,oX] at z;cases y:ae (cg aW aL) x with|none=>rw[y] at z;cases z|some c=>
   rw[y] at z;injection z with z
   obtain⟨u,l,le⟩:=M.loc _<|bA y;refine⟨av bE (vc kd v) u,by rw[eD,s x<|n _<|bA y,show ae fs.loc x=some u from l];rfl,?_⟩;have t:=(lB le).toA bE<|vc kd v;rw[show av bE (vc kd v) c=a from z] at t;have e2:ae ((cg (aX kd)<|.glo v).map λq=>(q.1,av (gD 254 N) va q.2)) x=ae (cg (aX kd)<|.glo v) x:=by rw[ED]
   rw[oX,m] at e2;rw[Option.some.inj e2];exact t
section
variable {call:tY2}{ke:KE Prop}
def h?(y z:Nat->Nat):Prop:=∀i,i<50->(i<4\/(11<=i/\i<15)\/(31<=i/\i<43)\/47<=i)->z i=y i
def tail:XS Prop:=ac (bF bo λz=>Dt) (ac (bF bo λz=>Du) (ac (bF bo λz=>Dv) (ac Xi ak)))
theorem Mz(h:∀x a,ae z x=some a->ae W x=some a)(y:aV (λq=>fB q.2) z=true):eO (ar (gD 254 N) va ⟨W,bl⟩) z (gD 254 N) w:=vI h y
theorem i?{w st:aH}(h0:∀x,x≠gm->ae E.loc x=ae fs.loc x)(h0c:E.cel=fs.cel)(hn:ae fs.loc dy=some .none)(fk:sM g d p fs h=true)(hl:l<7)(hm:∀j,j<4->st.ms j<3)(m:g=iE (st.ms 2) (st.ms 3) (kL l))(r:s_ w st d p)(u:aR fl (wB st (eQ w) S none h) h.n H)(O:d7 h)(c:b6 (59,S)=true)(v:∀b f2 A nd,aR b (wB st (eQ w) S nd h) h.n A->h? fl b->k (.ret (.bool true)) f2 A):tail (eL call) (ar fl v0 (ar bE (vc st.kd (fR l)) E)) H k ke:=by
 have X:=e? fk;have R:∀x i,ae bl x=some i->ae (ar bE (vc st.kd<|fR l) E).cel x=some i:=λx i e=>by rw[iZ,h0c,show ae fs.cel x=some i from X.nm.cel _<|bA e];rfl
 have o:∀{va:Nv}{t:iJ},∀x i,ae bl x=some i->ae (ar (gD 254 h.n) va ⟨t,bl⟩).cel x=some i:=oY;have N:fB (aX st.kd)=true:=by cases st.kd<;>rfl
 have Z:aV (λq=>fB q.2) (j6 (aX st.kd)<|.glo<|fR l)=true:=af rfl<|af rfl<|af N rfl;refine lQ (Z_ u O (va:=v0) (λz x y e=>by delta v0 at e;omega) hm hl (g? X.nm hn h0) R c λfl1 H1 U1 hf1=>?_);have hs:some (AO.list<|dE<|iE (st.ms 2) (st.ms 3)<|kL l)=some (.list<|dE<|qv d):=by rw[m.symm,X.srt]
 rw[hs] at U1;refine lQ (Z6 U1 O (va:=v0) (λz x y e=>by delta v0 at e;omega) X.s X.h56 (Mz (λx a e=>e) Z) o c λb A U2 hf2=>?_);rw[X.srt] at U2;have L:zG st (eQ w) g p:=by refine⟨λj Q=>(r.bad j<|zH<|X.srt▸Q).1,λj Q C=>(r.bad j<|zH<|X.srt▸Q).2.1 C,λj Q C=>(r.bad j<|zH<|X.srt▸Q).2.2 C⟩
 refine lQ (d? U2 O (by rw[m];exact f?) X.f X.sub L X.h57 (Mz (λx a e=>s0 e) Z) o c λfl3 H3 U3 F=>?_);exact v fl3 _ H3 _ U3 λi P q=>by have Y:=O.n;rw[F i<|(lin [i,h.n] 0x4a4c105a2ff430c901) P Y,hf2 i<|(lin [i,h.n] 0x4a4c105a2ff430c901) P Y,hf1 i ((lin [i,h.n] 0x4a4c105a2ff430c901) P Y)<|(lin [i] 0x93dc7480b0c901) P]
end
def EW:List Nat:=[53,54,55,56,57,58,59,60,61,62,63,64,65,66,67,68,69,70,71,72,73,74,75,76,77,78,79,80,81,82,83,84,85,86,87,88,89,90,91,92,93,94,95,96,97,98,99,100,101,102,103,104,105,106,107,108,109,110,111,112,113,114,115,116,117,118,119,120,121,122,123,124,125]
def vK(C:ld):LL:=bX (λi=>(i,ae C i)) EW
def LS(st:aH)(C:ld):LL:=ax (Lb st) ((51,some (.cell (some (.ref 3))))::(52,some (.cell (some (.ref 37))))::vK C)
def hG(B2:ld)(z:List Nat)(L:LL):LL:=bX (λq=>(q.1,J (a5 z q.1) none (ad (ae B2 q.1) q.2 some))) L
def zI(B:ld):Bool:=aV (λq=>J (ox q.2) (dT (λj=>Nat.blt j 254) q.2) false) B
theorem vL(h:fB a=true):av bE v0 a=a:=by cases a<;>first|rfl|cases h
theorem MA(h:ad a true fB=true):a.map (av bE v0)=a:=by
 cases a with|none=>rfl|some a=>exact aT some<|vL h
theorem ta{l:List w}(h:∀x∈l,f x=x):l.map f=l:=by
 induction l with|nil=>rfl|cons x l z=>rw[List.map_cons,h x<|.head _,z λy m=>h y<|.tail _ m]
theorem MB{o:AO}(h:ox o=true):aG bE v0 o=o:=by
 cases o with
 |dict es=>exact aT AO.dict<|ta λp y=>aT (kl p.1)<|vL<|bq h p y
 |umap es=>exact aT AO.umap<|ta λp y=>aT (kl p.1)<|MA<|bq h p y
 |list xs=>exact aT AO.list<|ta λa x=>vL<|bq h a x
 |tup xs=>exact aT AO.tup<|ta λa x=>vL<|bq h a x
 |frz xs=>exact aT AO.frz<|ta λa x=>vL<|bq h a x
 |cell v=>exact aT AO.cell<|MA h
 |fn f q u w=>exact aT (AO.fn f q u)<|ta λp z=>rfl
 |tab l c i=>clear h;cases i<;>rfl
 |_=>rfl
theorem j?(z:ox o=true)(y:dT (λj=>Nat.blt j 254) o=true):aG (gD p N) va o=o:=by
 rw[Ds z (vb:=v0),uD (f:=gD p N) (f':=bE) λj v=>dc<|Nat.le_of_ble_eq_true<|lC y v,MB z]
theorem EY(h:zI B=true):∀q∈B,aG (gD p N) va q.2=q.2:=λq z=>by
 refine bx (bq h q z) λa b=>?_;exact j? a b
theorem MC{B2:ld}(h:zI B2=true):j0 (gD p N) va B2 x L=hG B2 x L:=by
 delta j0 hG;rw[fA,fA];refine List.map_congr_left λq y=>?_;cases z:ae B2 q.1 with|none=>rfl|some o=>show(q.1,J _ none<|some<|aG (gD p N) va o)=_;rw[EY h _<|bA z]
def iF(mv:on)(z:aK)(B B2:ld)(y:List Nat):Bool:=aV (λb=>b) [zI B,zI B2,sJ false mv .nxt [] z [] B B2 y]
theorem k?(z:h_ a=true)(y:h_ b=true):h_ (ax a b)=true:=by
 unfold h_ at z y ⊢;refine dO λx m=>?_;rcases ct.mp m with m|m
 .exact bq z x m
 .exact bq y x m
theorem qS{st:aH}:h_ (Lb st)=true:=by
 refine dO λx m=>?_;exact bq (kR (val:=λz=>none) (aJ:=none) (nd:=none) rfl rfl) x<|ct.mpr<|.inl m
def eR(C:ld):Bool:=aV (λq=>dT (dj q.1) q.2) C
theorem EZ(z:eR a=true)(y:eR b=true):eR (ax a b)=true:=by
 refine dO λx m=>?_;rcases ct.mp m with m|m
 .exact bq z x m
 .exact bq y x m
theorem vM(h:eR C=true):h_ (vK C)=true:=by
 refine dO λx m=>?_;unfold vK at m;rw[fA] at m;refine mf m λi y=>?_;cases z:ae C i with|none=>rfl|some o=>exact bq h (i,o)<|bA z
theorem vN{st:aH}(h:h_ (vK C)=true):h_ (LS st C)=true:=k? qS (af rfl (af rfl h))
theorem vO:∀{l:List v},bX f l=bX g l->∀x∈l,f x=g x
 |y::l,h,x,m=>by
  injection (show f y::bX f l=g y::bX g l from h) with w z
  clear h;refine bk m ?_ λm=>?_
  .exact w
  .exact vO z x m
section
variable {fl:Nat->Nat}{H:AH}{F:aK}{va:Nv}
theorem zJ{st v:aH}{C n B B2:ld}(w:aR fl (wA (LS st C)) 255 H)(inj:∀k x y,va k x=va k y->x=y)(b:bX (λq:Nat×AO=>wA (LS st C) q.1) B=bX (λq=>some q.2) B)(f1:∀x a,ae fs.loc x=some a->∃m,ae F.loc x=some m/\cW m (av (gD 254 255) va a))(f2:∀x i,ae fs.cel x=some i->ae F.cel x=some (gD 254 255 i))(run:l fP fs (bM B) (i0 mv .nxt t B2) fQ=true)(o:iF mv t B B2 Z=true)(d:eR C=true)(low:aV (λq=>Nat.blt q.1 254) B=true)(g:LS v n=hG B2 Z (LS st C))(z:∀u s,aR u (wA (LS v n)) 255 s->(∀i,i<255->ae mv i=none->u i=fl i)->k .nxt (ar u v0 (ar (gD 254 255) va t)) s):cX (· = true) fP l false (ar fl v0 F) H k:=by
 have v:=bq o;have f:=v _<|.head _;have c2:=v _<|.tail _<|.head _;have c3:=v _<|mT2<|.head _;refine oC (ph:=false) (Cs:=bM []) w (by decide) (by decide) inj (λq hq=>?_) f1 f2 (c:=i0 mv .nxt t B2) ?_ (λr j S h=>?_) c3 (λh=>by cases h) (vN<|vM d) (λh=>by cases h) ?_ λu s e p=>z u s e p
 .rcases ct.mp hq with hq|hq
  .refine⟨Nat.le_of_ble_eq_true<|bq low q hq,?_⟩;rw[EY f q hq];exact vO b q hq
  .cases hq
 .have Y:ax B ([]:ld)=B:=by rw[eX,List.append_nil]
  rw[Y];exact run
 .have X:=Dp h;exact⟨X.ret,(λq hq=>by cases hq),X.loc,X.cel,(λq hq=>by cases hq),X.cell⟩
 .rw[g,MC c2]
end
def m4'(y x z w:Nat):Nat->Nat:=cJ y x z w
def C1(m:Nat->Nat):ld:=ax oB ((59,.list [.ref 60,.ref 61,.ref 62,.ref 63])::jt λj=>yf j (m j))
def C2(s:Nat)(m:Nat->Nat):ld:=ax oB (ax (sK .none (.ref 100)) ((100,.list (lM s))::jt λj=>uX .none j (m j)))
def C3(l s:Nat)(m:Nat->Nat):ld:=ax oB (ax (sK (.ref 100) .unk) ((100,.list (uZ l s))::jt λj=>uX .unk j (m j)))
def C4(z:tY0)(m:Nat->Nat):ld:=ax oB (ax oG (ax (yw z) ((98,.umap [(12612,some (.ref 60)),(12868,some (.ref 61)),(13124,some (.ref 62)),(13380,some (.ref 63))])::(99,.umap [(120,some (.str 12612)),(121,some (.str 12868)),(122,some (.str 13124)),(119,some (.str 13380))])::jt λj=>uX .unk j (m j))))
def l?:List Nat:=[55,56,57,58,80,81,82,83,96,97,98,99,100,101,102,103,104,105,106,107,108,109,114,115,116,117,118,119,120,121,122,123,124,125]
def m?:List Nat:=[55,56,57,58,59,80,81,82,83,101,102,103,104,105,106,107,108,109,110,111,112,113,114,115,116,117,118,119,120,121,122,123,124,125]
def n?(m:Nat->Nat):ld:=(59,.list [.ref 60,.ref 61,.ref 62,.ref 63])::jt λj=>yf j (m j)
def qT(tb:Bool)(s:Nat):ld:=ax (DN tb) (ax (sK .none (.ref 100)) ((100,.list (lM s))::DO .none))
def qU(p:(Nat->Nat)->Bool):Bool:=cY λy=>cY λw=>cY λz=>cY λx=>p (cJ y w z x)
theorem st1:(qU λm=>iF yq uV (uS m) (DL m) l?)=true:=by kernel_rfl
theorem st2:(fC λs=>qU λm=>iF yr uY (n? m) (DM s m) m?)=true:=by kernel_rfl
theorem E0:(uR λtb=>oF λl=>fC λs=>iF (qu tb l) (ic l) (qT tb s) (oD tb l s) [103])=true:=by kernel_rfl
theorem MD:(oH λi=>iF yy u5 ((100,.list (jw i))::oG) (DP (jw i)) [100])=true:=by kernel_rfl
theorem o?:(qU λm=>eR (C1 m))=true:=by kernel_rfl
theorem p':(fC λs=>qU λm=>eR (C2 s m))=true:=by kernel_rfl
theorem p?:(oF λl=>fC λs=>eR [(100,.list (uZ l s))])=true:=by kernel_rfl
theorem q?:(qU λm=>eR (jt λj=>uX .unk j (m j)))=true:=by kernel_rfl
theorem qV{p:(Nat->Nat)->Bool}(h:qU p=true){st:aH}(z:∀j,j<4->st.ms j<3):p (m4 st)=true:=by
 have y:∀{q:Nat->Bool}{n:Nat},cY q=true->n<3->q n=true:=λ{q n}h u=>by refine bx h λv h=>?_;refine bx h λw x=>?_;exact c3 (j:=n) ‹_› v w x
 exact y (y (y (y h (z 0<|by decide)) (z 1<|by decide)) (z 2<|by decide)) (z 3<|by decide)
theorem ny{q:Nat->Bool}{n:Nat}(h:fC q=true)(v:n<4):q n=true:=by
 refine bx h λx h=>?_;refine bx h λy h=>?_;refine bx h λz w=>?_;exact c4 (j:=n) ‹_› x y z w
theorem E1{q:Nat->Bool}{n:Nat}(h:cY q=true)(w:n<3):q n=true:=by
 refine bx h λx h=>?_;refine bx h λy z=>?_;exact c3 (j:=n) ‹_› x y z
theorem E2{q:Nat->Bool}{n:Nat}(h:oF q=true)(x:n<7):q n=true:=by
 refine bx h λy z=>?_
 by_cases c:n<4
 .exact ny y c
 .obtain⟨k,rfl⟩:∃k,n=4+k:=⟨n - 4,by omega⟩;exact E1 (q:=λn=>q<|Nat.add 4 n) z<|(lin [k] 0x12601a02c074282088) x
theorem zK{q:Nat->Bool}{n:Nat}(h:oH q=true)(x:n<8):q n=true:=by
 refine bx h λy z=>?_
 by_cases c:n<4
 .exact ny y c
 .obtain⟨k,rfl⟩:∃k,n=4+k:=⟨n - 4,by omega⟩;exact ny (q:=λn=>q<|Nat.add 4 n) z<|(lin [k] 0x12602202c084282088) x
def vs(kd:Bool)(z s:Nat)(k n:Nat):Int:=J (Nat.beq k 100) (.ofNat (Nat.add (J kd 0 2) n)) (J (Nat.beq k 1000) (.ofNat (Nat.add z n)) (J (Nat.beq k 101) (.ofNat (Nat.add s n)) (.ofNat n)))
theorem zL(k x y)(h:vs kd z s k x=vs kd z s k y):x=y:=by
 delta vs at h;cases h1:Nat.beq k 100 with
 |true=>rw[h1] at h;have h:=h;injection h with h;exact(lin [J kd 0 2,x,y] aC0) h
 |false=>
  rw[h1] at h;cases h2:Nat.beq k 1000 with
  |true=>rw[h2] at h;have h:=h;injection h with h;exact(lin [z,x,y] aC0) h
  |false=>
   rw[h2] at h;cases h3:Nat.beq k 101 with|false=>rw[h3] at h;have h:=h;injection h|true=>rw[h3] at h;have h:=h;injection h with h;exact(lin [s,x,y] aC0) h
theorem tc:∀x a,ae f.loc x=some a->∃y,ae (ar g va f).loc x=some y/\cW y (av g va a):=λx a e=>⟨_,by rw[eD,e];rfl,λz z z r=>r⟩
theorem E3:∀x i,ae f.cel x=some i->ae (ar g va f).cel x=some (g i):=λx i e=>by rw[iZ,e];rfl
def stT(st:aH)(l:Nat):aH:=⟨st.fv,st.en,st.ck,st.ms,st.kd,J (yu l) st.tb true,st.xs,st.rw,st.mq,st.lp⟩
abbrev fS(kd:Bool)(l s:Nat)(f:aK):aK:=ar (gD 254 255) (vs kd (fR l) s) f
section
variable {fl:Nat->Nat}{st:aH}{H:AH}{l s:Nat}{k:KS Prop}
def E4{R:Type}:XS R:=ac L0 (ac L1 ak)
def ME{R:Type}:XS R:=ac L5 (ac L6 (ac L7 ak))
def E5:aK:=⟨yo.loc,[(fO,52),(dw,51)]⟩
theorem r?:∀x i,ae yo.cel x=some i->ae (fS kd l s E5).cel x=some (gD 254 255 i):=λx i e=>by
 refine gQ (bA e) rfl λe=>?_
 .refine eW e ?_;rfl
theorem s?(w:kH=true)(u:∀j,j<4->st.ms j<3)(y:aR fl (wA (LS st [])) 255 H)(z:∀x v,aR x (wA (LS st (C1 (m4 st)))) 255 v->(∀i,i<53->x i=fl i)->k .nxt (ar x v0 (fS st.kd l s uV)) v):cX (· = true) fP E4 false (ar fl v0 (fS st.kd l s E5)) H k:=
 zJ (fs:=yo) y zL (by kernel_rfl) (tc) r? (qV w u) (qV st1 u) (by kernel_rfl) (by kernel_rfl) (by kernel_rfl) λx v q r=>z x v q λi t=>r i ((lin [i] 0x499fe80b0d501) t) (by
  have p:∀i,i<53->ae yq i=none:=by decide +kernel
  exact p i t)
theorem t?(w:kI=true)(u:∀j,j<4->st.ms j<3)(t:s<4)(y:aR fl (wA (LS st (C1 (m4 st)))) 255 H)(z:∀x v,aR x (wA (LS st (C2 s (m4 st)))) 255 v->(∀i,i<53->x i=fl i)->k .nxt (ar x v0 (fS st.kd l s uY)) v):cX (· = true) fP L2 false (ar fl v0 (fS st.kd l s uV)) H k:=
 zJ (fs:=KH s) y zL (by kernel_rfl) tc E3 (qV (ny w t) u) (qV (ny st2 t) u) (qV o? u) (by kernel_rfl) (by kernel_rfl) λx v p q=>z x v p λi r=>q i ((lin [i] 0x499fe80b0d501) r) (by
  have n:∀i,i<53->ae yr i=none:=by decide +kernel
  exact n i r)
theorem u?:bX (λq:Nat×AO=>wA (LS st (C2 s m)) q.1) (qT st.tb s)=bX (λq=>some q.2) (qT st.tb s):=by
 obtain⟨fv,en,ck,ms,kd,tb,xs,rw,mk,lp⟩:=st;cases tb<;>kernel_rfl
theorem v?:LS (stT st l) (C3 l s m)=hG (oD st.tb l s) [103] (LS st (C2 s m)):=by
 obtain⟨fv,en,ck,ms,kd,tb,xs,rw,mk,lp⟩:=st;rcases l with _|l<;>cases tb<;>kernel_rfl
theorem w?(h:∀j,j<4->st.ms j<3)(r:l<7)(t:s<4)(x:aR fl (wA (LS st (C2 s (m4 st)))) 255 H)(y:∀w v,aR w (wA (LS (stT st l) (C3 l s (m4 st)))) 255 v->(∀i,i<53->i≠2->w i=fl i)->k .nxt (ar w v0 (fS st.kd l s (ic l))) v):cX (· = true) fP L3 false (ar fl v0 (fS st.kd l s uY)) H k:=by
 have run:u4 st.tb l s=true:=by
  have d:=ny (E2 (q:=λl=>fC λs=>u4 st.tb l s) (by
   refine bx ((show J (oF λl=>fC λs=>u4 true l s) (oF λl=>fC λs=>u4 false l s) false=true from Yg)) λa b=>?_;cases st.tb with|true=>exact a|false=>exact b) r) t
  exact d
 have u:iF (qu st.tb l) (ic l) (qT st.tb s) (oD st.tb l s) [103]=true:=by
  have d:=ny (E2 (q:=λl=>fC λs=>iF (qu st.tb l) (ic l) (qT st.tb s) (oD st.tb l s) [103]) (n:=l) (by
   refine bx ((show J (oF λl=>fC λs=>iF (qu true l) (ic l) (qT true s) (oD true l s) [103]) (oF λl=>fC λs=>iF (qu false l) (ic l) (qT false s) (oD false l s) [103]) false=true from E0)) λa b=>?_;cases st.tb with|true=>exact a|false=>exact b) r) t
  exact d
 refine zJ (fs:=ic l) x zL u? tc E3 (cI run).1 u (qV (p:=λm=>eR<|C2 s m) (ny (q:=λs=>qU λm=>eR<|C2 s m) p' t) h) ?_ v? λw v e g=>y w v e λi o f=>g i ((lin [i] 0x499fe80b0d501) o) ?_
 .cases st.tb<;>kernel_rfl
 .have d:∀tb z,∀i,i<53->i≠2->ae (J z []<|J tb [(100,256)] [(100,256),(2,260)]) i=none:=by decide +kernel
  exact d st.tb (yu l) i o f
end
def CV(v:wg)(C:ld):ld:=(120,.cell (some (.ref 55)))::(55,cH v)::C
abbrev wS(st:aH)(C:ld):Nat->Option AO:=cq false (LS st C) (bM [])
abbrev zM:EV Prop:=mU bo 60 11
theorem E6(h:dT (dj q.1) q.2=true)(z:eR C=true):eR (q::C)=true:=af h z
section
variable {fl:Nat->Nat}{st:aH}{H:AH}{F:aK}{C:ld}{va:Nv}
theorem x?(n:eR C=true)(v:aR fl (wS st ((120,.cell none)::C)) 255 H)(inj:∀k x y,va k x=va k y->x=y)(l:eO F i3 (gD 254 255) va)(c:∀x i,ae fb x=some i->ae F.cel x=some i)(w:∀u s,aR u (wS st (CV (λz=>none) C)) 255 s->(∀i,i<255->i≠55->u i=fl i)->k .nxt (ar u v0 (ar (gD 254 255) va ⟨ax i3 [],fb⟩)) s):cX (λp=>p) zM S0 False (ar fl v0 F) H k:=by
 have run:Li:=by rw[YS];exact iD
 refine oC (O:=[(120,.cell none)]) (mv:=[(55,255)]) (B2:=[(120,.cell<|some<|.ref 55),(55,cH λz=>none)]) (dr:=[]) v (p:=254) (by decide) (by decide) inj (λq t=>?_) l.f1 (λx i e=>?_) run
  (λr m b h=>ju (W:=[]) (D:=[(120,.cell<|some<|.ref 255),(255,.dict [])]) (by rfl) (λq t=>by cases t) (λq t=>?_) h) (by kernel_rfl) (λh=>by cases h) (vN<|vM<|E6 rfl n) (λh=>by cases h) (L2:=LS st<|CV (λz=>none) C) ?_ λu s g o=>w u s g λi d j=>o i d ?_
 .refine dJ t ?_;exact⟨by show 120<254;decide,by kernel_rfl⟩
 .have h:=bA e;refine eW h ?_;exact c _ _ rfl
 .refine bk t (⟨_,.head _,λf va=>λz z z z z z r=>r⟩) λt=>?_
  .refine dJ t ?_;refine⟨.dict [],.tail _<|.head _,λf va=>?_⟩;have a:=(Dj (show x_ (.dict []) (uE (bj [(55,255)])<|cH λz=>none)=true from by kernel_rfl)).toA f va
   rwa [Dh] at a
 .kernel_rfl
 .show J (Nat.beq 55 i) (some 255) none=none;rw[d6,cA λe=>j e.symm]
def vq(st:aH)(k n:Nat):Int:=.ofNat (Nat.add (J (Nat.ble 20 k) (ad (w0 st (Nat.sub k 20)) 0 λc=>c) 0) n)
theorem y?(k x y)(h:vq st k x=vq st k y):x=y:=by
 delta vq at h;injection h with h
 have h:=h;exact(lin [J (Nat.ble 20 k) (ad (w0 st<|k.sub 20) 0 λc ↦ c) 0,x,y] aC0) h
def p3(st:aH)(k:Nat):Bool:=(st.fv k).isSome
def w3(st:aH)(k:Nat):Option Nat:=J (Nat.blt k 3) (w0 st k) none
def qW(st:aH)(k:Nat):AV:=match st.fv k with|some v=>.int v.t|none=>.none
def qX(st:aH)(k:Nat):AV:=match st.fv k with|some v=>.int (c_ v.c)|none=>.none
abbrev pS(st:aH):Nat->Bool:=El (p3 st 0) (p3 st 1) (p3 st 2)
theorem z?(h:∀p,Q p):y6 Q:=⟨⟨⟨h _,h _⟩,⟨h _,h _⟩⟩,⟨⟨h _,h _⟩,⟨h _,h _⟩⟩⟩
theorem A'{Q:(Nat->Bool)->Prop}(h:y6 Q)(a b c):Q (El a b c):=
 oU (oU (oU h a) b) c
theorem A?(h:k<7):wS st C (Nat.add 4 k)=(st.fv k).map dU:=by
 refine c7 (j:=k) ‹_› ?_ ?_ ?_ ?_ ?_ ?_ ?_<;>kernel_rfl
theorem B?(h:∀k,k<3->p k=(st.fv k).isSome)(k):Ej p (aB st) k=aB st k:=by
 delta Ej;cases z:Nat.blt k 3 with|false=>rfl|true=>rw[h k<|Nat.le_of_ble_eq_true z];delta aB;cases st.fv k<;>rfl
theorem C'(h:∀k,k<7->po k=aB st k):wS st C 3=some (aG (gD 254 255) va (cG po)):=by
 have e:aG (gD 254 255) va (cG po)=cG (aB st):=by show AO.umap [(97,(po 0).map _),(98,(po 1).map _),(99,(po 2).map _),(120,(po 3).map _),(121,(po 4).map _),(122,(po 5).map _),(119,(po 6).map _)]=_;rw[h 0 (by decide),h 1 (by decide),h 2 (by decide),h 3 (by decide),h 4 (by decide),h 5 (by decide),h 6 (by decide),i6 (by decide),i6 (by decide),i6 (by decide),i6 (by decide),i6 (by decide),i6 (by decide),i6<|by decide];rfl
 rw[e];kernel_rfl
theorem E7(h:∀k,ad (v k) true (bh r)=true):dT r (cH v)=true:=by
 show aV (λq:Nat×Option AV=>ad q.2 true<|bh r) [(97,v 0),(98,v 1),(99,v 2),(120,v 3),(121,v 4),(122,v 5),(119,v 6)]=true;exact af (h 0)<|af (h 1)<|af (h 2)<|af (h 3)<|af (h 4)<|af (h 5)<|af (h 6) da
theorem E8(h:∀k r,ad (v k) true (bh r)=true)(z:eR C=true):eR (CV v C)=true:=E6 rfl (E6 (E7 λk=>h k _) z)
theorem C?(b:eR C=true)(o:aR fl (wS st (CV (λu=>none) C)) 255 H)(X:eO F i3 (gD 254 255) (vq st))(E:∀x i,ae fb x=some i->ae F.cel x=some i)(w:∀n g,aR n (wS st (CV (a7 (w3 st)) C)) 255 g->(∀i,i<255->n i=fl i)->k .nxt (ar n v0 (ar (gD 254 255) (vq st) ⟨ax i3 [],fb⟩)) g):cX (λp=>p) zM S1 False (ar fl v0 F) H k:=by
 have run:Ek (pS st) (aB st) (qW st) (qX st):=A' (Q:=λp=>Ek p (aB st) (qW st)<|qX st) (by rw[YT];exact z? λu=>iD) _ _ _;have s:∀k,k<3->pS st k=(st.fv k).isSome:=λk m=>by refine c3 (j:=k) ‹_› ?_ ?_ ?_<;>rfl
 have f:∀k,k<3->∀q∈vu (pS st) (qW st) (qX st) k,q.1<254/\wS st (CV (λu=>none) C) q.1=some (aG (gD 254 255) (vq st) q.2):=λk m q hq=>by
  delta vu at hq;rw[s k m] at hq;cases z:st.fv k with|none=>rw[z] at hq;cases hq|some v=>
   rw[z] at hq;refine dJ hq ?_;refine⟨by exact(lin [k] 0x1267f2141044300d01) m,(A?<|(lin [k] 0x4980e80b00d01) m).trans ?_⟩;rw[z];show some (AO.tup [.int v.t,.int<|c_ v.c,.int<|.ofNat v.c])=some (AO.tup [av _ _<|qW st k,av _ _<|qX st k,.int<|vq st (Nat.add 20 k) 0]);have e1:qW st k=.int v.t:=by delta qW;rw[z]
   have e2:qX st k=.int (c_ v.c):=by unfold qX;rw[z]
   have N:vq st (Nat.add 20 k) 0=.ofNat v.c:=by delta vq w0;rw[show Nat.ble 20 (Nat.add 20 k)=true from Nat.ble_eq_true_of_le (by show 20<=20+k;exact(lin [k] 0x126a82288144300d01) m),show Nat.sub (Nat.add 20 k) 20=k from by show 20+k - 20=k;omega,z];rfl
   rw[e1,e2,N];rfl
 have l:∀k,k<7->(ii (pS st) k).map (av (gD 254 255)<|vq st)=a7 (w3 st) k:=λk m=>by
  delta ii a7 w3;cases z:Nat.blt k 3 with|false=>rfl|true=>
   show(J _ _ _:Option AV).map _=(w0 st k).map _;rw[s k<|Nat.le_of_ble_eq_true z];delta w0;cases y:st.fv k with|none=>rfl|some v=>show some (AV.int<|vq st (Nat.add 20 k) 0)=some (.int<|.ofNat v.c);delta vq w0;rw[show Nat.ble 20 (Nat.add 20 k)=true from Nat.ble_eq_true_of_le (by show 20<=20+k;exact(lin [k] 0x126a82288144301d01) m),show Nat.sub (Nat.add 20 k) 20=k from by show 20+k - 20=k;omega,y];rfl
 refine oC (holds:=λp=>p) (S:=y4 (pS st) (aB st) (qW st)<|qX st) (O:=[(55,cH λu=>none)]) (V:=i3) (fs2:=⟨[],fb⟩) (r2:=.nxt) (mv:=[]) (B2:=[(55,cH<|ii<|pS st)]) (dr:=[]) o (p:=254) (by decide) (by decide) y? (λq hq=>?_) X.f1 (λx i e=>?_) run
  (λr Z A h=>ju (W:=[]) (D:=[(55,cH<|ii<|pS st)]) (by rfl) (λq hq=>by cases hq) qL h) ?_ (λh=>by cases h) (vN<|vM<|E8 (λu u=>rfl) b) (λh=>by cases h) (L2:=LS st<|CV (a7<|w3 st) C) ?_ λn g R d=>w n g R λi P=>d i P rfl
 .refine bk (hq) ?_ λhq=>?_
  .exact⟨by show 55<254;decide,by kernel_rfl⟩
  refine bk hq ?_ λhq=>?_
  .exact⟨by show 120<254;decide,by kernel_rfl⟩
  refine bk hq ?_ λhq=>?_
  .exact⟨by show 3<254;decide,C' λk u=>B? s k⟩
  rcases ct.mp hq with hq|hq
  .exact f 0 (by decide) q hq
  rcases ct.mp hq with hq|hq
  .exact f 1 (by decide) q hq
  .exact f 2 (by decide) q hq
 .have h:=bA e;refine eW h ?_;exact E _ _ rfl
 .have a:dT (λj=>Nat.ble j 254) (cH<|ii<|pS st)=true:=E7 λk=>by delta ii;cases Nat.blt k 3<;>cases pS st k<;>rfl
  exact af rfl<|af rfl<|af rfl<|af rfl<|af rfl<|af (af a rfl)<|af (dO λu u=>rfl)<|af rfl<|af rfl<|af rfl rfl
 .have e:aG (gD 254 255) (vq st) (cH<|ii<|pS st)=cH (a7<|w3 st):=by show AO.umap [(97,Option.map _<|ii (pS st) 0),(98,Option.map _<|ii (pS st) 1),(99,Option.map _<|ii (pS st) 2),(120,Option.map _<|ii (pS st) 3),(121,Option.map _<|ii (pS st) 4),(122,Option.map _<|ii (pS st) 5),(119,Option.map _<|ii (pS st) 6)]=_;rw[l 0 (by decide),l 1 (by decide),l 2 (by decide),l 3 (by decide),l 4 (by decide),l 5 (by decide),l 6<|by decide];rfl
  have e2:LS st (CV (a7<|w3 st) C)=bX (λq=>(q.1,J (a5 [] q.1) none<|ad (ae [(55,cH<|a7<|w3 st)] q.1) q.2 some)) (LS st<|CV (λu=>none) C):=by kernel_rfl
  rw[e2,<-e];delta j0;rw[fA,fA];refine List.map_congr_left λq u=>?_;show(q.1,J _ none<|ad (J (Nat.beq 55 q.1) _ none) _ some)=(q.1,J _ none<|ad (J (Nat.beq 55 q.1) _ none) _ _);cases Nat.beq 55 q.1<;>rfl
end
def yv(o:Option Nat):Nat:=ad o 0 λc=>Nat.succ c
theorem MF o:qH (yv o)=o.map λc=>AV.int (.ofNat c):=by cases o<;>rfl
theorem vP(h:∀k,k<7->f k=g k):cH f=cH g:=by
 delta cH;rw[h 0 (by decide),h 1 (by decide),h 2 (by decide),h 3 (by decide),h 4 (by decide),h 5 (by decide),h 6<|by decide]
theorem MG:aG g va (cH (a7 v))=cH (a7 v):=by
 have h:∀k,(a7 v k).map (av g va)=a7 v k:=λk=>by delta a7;cases v k<;>rfl
 show AO.umap [(97,(a7 v 0).map _),(98,(a7 v 1).map _),(99,(a7 v 2).map _),(120,(a7 v 3).map _),(121,(a7 v 4).map _),(122,(a7 v 5).map _),(119,(a7 v 6).map _)]=_;rw[h,h,h,h,h,h,h];rfl
theorem D?{st:aH}(e:aG (gD 254 255) va X=cH g):LS st (CV g C)=j0 (gD 254 255) va [(55,X)] [] (LS st (CV f C)):=by
 have e2:LS st (CV g C)=bX (λq=>(q.1,J (a5 [] q.1) none<|ad (ae [(55,cH g)] q.1) q.2 some)) (LS st<|CV f C):=by kernel_rfl
 rw[e2,<-e];delta j0;rw[fA,fA];refine List.map_congr_left λq z=>?_;show(q.1,J _ none<|ad (J (Nat.beq 55 q.1) _ none) _ some)=(q.1,J _ none<|ad (J (Nat.beq 55 q.1) _ none) _ _);cases Nat.beq 55 q.1<;>rfl
theorem zN{p:Nat->Prop}(h:i4 p){y:Nat}(w:y<5):p y:=by
 obtain⟨u,v,z,t,x,_⟩:=(show p 0/\p 1/\p 2/\p 3/\p 4/\True from h);rcases y with _|_|_|_|_|y
 .exact u
 .exact v
 .exact z
 .exact t
 .exact x
 .exact((lin [y] 0x4a6c05428050a01428050a014280501) w).elim
theorem zO(h:∀y,y<5->p y):i4 p:=⟨h 0 (by decide),h 1 (by decide),h 2 (by decide),h 3 (by decide),h 4 (by decide),trivial⟩
theorem E?(h:∀j m y z,j<4->m<3->y<5->z<5->Q j m y z):y7 Q:=by
 have u:∀j,j<4->(i4 λy=>Q j 0 y 0)/\(i4 λy=>Q j 1 0 y)/\(i4 λy=>i4 λz=>Q j 2 y z):=λj w=>
  ⟨zO λy x=>h j 0 y 0 w (by decide) x (by decide),zO λy x=>h j 1 0 y w (by decide) (by decide) x,zO λy x=>zO λz v=>h j 2 y z w (by decide) x v⟩
 exact⟨u 0 (by decide),u 1 (by decide),u 2 (by decide),u 3<|by decide⟩
theorem F?{Q:Nat->Nat->Nat->Nat->Prop}(h:y7 Q){j m y z:Nat}(s:j<4)(u:m<3)(w:y<5)(v:z<5)(t:aM 0 m=false->y=0)(e1:aM 1 m=false->z=0):Q j m y z:=by
 obtain⟨p,q,r,o⟩:=h;have x:(i4 λy=>Q j 0 y 0)/\(i4 λy=>Q j 1 0 y)/\(i4 λy=>i4 λz=>Q j 2 y z):=by
  rcases j with _|_|_|_|j
  .exact p
  .exact q
  .exact r
  .exact o
  .exact((lin [j] aI0) s).elim
 rcases m with _|_|_|m
 .rw[e1 rfl];exact zN x.1 w
 .rw[t rfl];exact zN x.2.1 v
 .exact zN (zN x.2.2 w) v
 .exact((lin [m] aa0) u).elim
theorem G?(w:j<4)(x:m<3)(s:y<5):Lj j m y z t:=by
 have u:iC fb (oS j) [] (sQ j m) [(55,cH<|oT j m y z t)]:=iD;show J _ (yR j m (Nat.sub y 1) _) _;cases e8 (pos y) (pos z) (J (pos y) (pos z) false) m with|false=>exact u|true=>
  have c:∀{i:Nat}{r:Prop},i<100->r->oq (.ofNat i) r:=λ{i r}q v=>⟨by show i<2 ^ 62;omega,v⟩;refine c ((lin [j] 0x498c880b01101) w) ?_;rcases m with _|_|_|m
  .exact u
  .exact u
  .exact c (by show j*2+(y - 1)<100;omega) u
  .exact((lin [m] aa0) x).elim
theorem MH(z:j<4)(hd:d<2):aZ j d<3+j:=by
 have y:∀j,j<4->∀d,d<2->aZ j d<3+j:=by decide +kernel
 exact y j z d hd
def vt(st:aH)(j k:Nat):Option Nat:=J (Nat.blt k (3+j)) (eQ st k) none
theorem td{st:aH}(h:k<3+j):vt st j k=eQ st k:=by
 delta vt;rw[show Nat.blt k (3+j)=true from Nat.ble_eq_true_of_le h]
theorem E9{st:aH}(h:3+j<=k):vt st j k=none:=by
 delta vt;cases q:Nat.blt k (3+j) with|true=>have z:=Nat.le_of_ble_eq_true q;exact((lin [j,k] 0x4a536a82068500a04d1282068) h z).elim|false=>rfl
theorem H?{st:aH}(h:∀k v,st.fv k=some v->v.c<4)(e:eQ st k=some c):c<4:=by
 have y:∀j a b,i8 st j a b=some c->c<4:=λj a b e=>by
  delta i8 at e;cases q:e8 a.isSome b.isSome (J a.isSome b.isSome false) (st.ms j) with|false=>rw[q] at e;cases e|true=>rw[q] at e;cases e;have x:=Mp (j:=j) (m:=st.ms j) (a:=a.getD 0) (b:=b.getD 0);exact(lin [e_ j (st.ms j) (a.getD 0)<|b.getD 0] 0x4980880b00d01) x
 have e:J (Nat.blt k 3) (w0 st k) (cJ _ _ _ _<|Nat.sub k 3)=some c:=e;cases q:Nat.blt k 3 with
 |true=>
  rw[q] at e;have e:(st.fv k).map (λv=>v.c)=some c:=e;cases z:st.fv k with|none=>rw[z] at e;cases e|some v=>rw[z] at e;clear y;cases e;exact h k v z
 |false=>
  rw[q] at e;have e:cJ _ _ _ _ (Nat.sub k 3)=some c:=e;generalize Nat.sub k 3=n at e;rcases n with _|_|_|n
  .exact y 0 _ _ e
  .exact y 1 _ _ e
  .exact y 2 _ _ e
  .exact y 3 _ _ e
section
variable {fl:Nat->Nat}{st:aH}{H:AH}{F:aK}{C:ld}
theorem I'(h:j<4):wS st C (Nat.add 38 j)=some (.list (cf j (st.ms j))):=by
 refine c4 (j:=j) ‹_› ?_ ?_ ?_ ?_<;>kernel_rfl
theorem I?(hC:eR C=true)(R:j<4)(X:st.ms j<3)(h4:∀k c,v k=some c->c<4)(hn:v (Nat.add 3 j)=none)(N:∀k,k<7->v' k=if k=Nat.add 3 j then i8 st j (v (aZ j 0)) (v (aZ j 1)) else v k)(s:aR fl (wS st (CV (a7 v) C)) 255 H)(kn:eO F (oS j) (gD 254 255) v0)(hc:∀x i,ae fb x=some i->ae F.cel x=some i)(w:∀a P,aR a (wS st (CV (a7 v') C)) 255 P->(∀i,i<255->a i=fl i)->k .nxt (ar a v0 (ar (gD 254 255) v0 ⟨ax (oS j) [],fb⟩)) P):cX (λp=>p) zM oy False (ar fl v0 F) H k:=by
 let b:=J (aM 0<|st.ms j) (yv<|v<|aZ j 0) 0
 let d:=J (aM 1<|st.ms j) (yv<|v<|aZ j 1) 0
 have y5:∀k,yv (v k)<5:=λk=>by
  cases e:v k with|none=>decide|some c=>have Y:=h4 k c e;exact(lin [c] 0x12602a140280b01101) Y
 have l0:b<5:=by
  show J _ _ 0<5;cases aM 0 (st.ms j) with|true=>exact y5 _|false=>decide
 have l1:d<5:=by
  show J _ _ 0<5;cases aM 1 (st.ms j) with|true=>exact y5 _|false=>show 0<5;decide
 have run:Em j (st.ms j) b d (a7 v):=F? (Q:=λj m y z=>Em j m y z<|a7 v) (by rw[YU];exact E? λj m y z R X hy u=>G? R X hy) R X l0 l1 (λh=>by show J (aM 0<|st.ms j) _ _=0;rw[h]) (λh=>by show J (aM 1<|st.ms j) _ _=0;rw[h]);have E:∀i,qI j (st.ms j) b d (a7 v) i=a7 v i:=λi=>by
  have c0:J (aM 0<|st.ms j) (qH b) (a7 v<|aZ j 0)=a7 v (aZ j 0):=by
   show J (aM 0<|st.ms j) (qH<|J (aM 0<|st.ms j) _ _) _=_;cases aM 0 (st.ms j) with|true=>exact MF _|false=>rfl
  have c1:J (aM 1<|st.ms j) (qH d) (a7 v<|aZ j 1)=a7 v (aZ j 1):=by
   show J (aM 1<|st.ms j) (qH<|J (aM 1<|st.ms j) _ _) _=_;cases aM 1 (st.ms j) with|true=>exact MF _|false=>rfl
  delta qI;rw[i7 (by rw[i7 c1,c0]),i7 c1]
 have l:∀o:Option Nat,pos (yv o)=o.isSome:=λo=>by cases o<;>rfl
 have n:∀o:Option Nat,Nat.sub (yv o) 1=o.getD 0:=λo=>by cases o<;>rfl
 have t:∀i,i<7->oT j (st.ms j) b d (a7 v) i=a7 v' i:=λi hi=>by
  have hc:e8 (pos b) (pos d) (J (pos b) (pos d) false) (st.ms j)=e8 (v<|aZ j 0).isSome (v<|aZ j 1).isSome (J (v<|aZ j 0).isSome (v<|aZ j 1).isSome false) (st.ms j):=by show e8 (pos<|J (aM 0<|st.ms j) _ 0) (pos<|J (aM 1<|st.ms j) _ 0) (J (pos<|J (aM 0<|st.ms j) _ 0) (pos<|J (aM 1<|st.ms j) _ 0) false) (st.ms j)=_;rw[<-l,<-l];generalize st.ms j=m at X;refine c3 (j:=m) ‹_› ?_ ?_ ?_<;>rfl
  have hmd:e_ j (st.ms j) (Nat.sub b 1) (Nat.sub d 1)=e_ j (st.ms j) ((v<|aZ j 0).getD 0) ((v<|aZ j 1).getD 0):=by rw[<-n,<-n];exact zx X (λh=>by show Nat.sub (J (aM 0<|st.ms j) _ _) 1=_;rw[h]) (λh=>by show Nat.sub (J (aM 1<|st.ms j) _ _) 1=_;rw[h])
  delta oT;rw[hc,hmd];have f:=N i hi;unfold i8 at f;cases q:e8 (v<|aZ j 0).isSome (v<|aZ j 1).isSome (J (v<|aZ j 0).isSome (v<|aZ j 1).isSome false) (st.ms j) with
  |true=>
   rw[q] at f;show a9 _ _ _ i=_;delta a9 a7;rw[d6]
   by_cases e:i=Nat.add 3 j
   .rw[bR e,f,aw e];rfl
   .rw[cA e,f,aq e];exact E i
  |false=>
   rw[q] at f;show qI _ _ _ _ _ i=_;rw[E i];delta a7;rw[f]
   by_cases e:i=Nat.add 3 j
   .rw[aw e,e,hn]
   .rw[aq e]
 refine oC (holds:=λp=>p) (S:=sQ j<|st.ms j) (O:=[(55,cH<|qI j (st.ms j) b d<|a7 v)]) (V:=oS j) (fs2:=⟨[],fb⟩) (r2:=.nxt) (mv:=[]) (B2:=[(55,cH<|oT j (st.ms j) b d<|a7 v)]) (dr:=[]) (va:=v0) s (p:=254) (by decide) (by decide) (λu x y e=>by delta v0 at e;omega) (λq Z=>?_) kn.f1 (λx i e=>?_) run
  (λr fs' B' h=>ju (W:=[]) (D:=[(55,cH<|oT j (st.ms j) b d<|a7 v)]) (by rfl) (λq Z=>by cases Z) qL h) ?_ (λh=>by cases h) (vN (vM (E8 (λk r=>by delta a7;cases v k<;>rfl) hC))) (λh=>by cases h) (L2:=LS st<|CV (a7 v') C) ?_ λa P U2 A=>w a P U2 λi hi=>A i hi rfl
 .refine bk (Z) ?_ λZ=>?_
  .refine⟨by show 55<254;decide,?_⟩;rw[vP λk u=>E k,MG];kernel_rfl
  refine bk Z ?_ λZ=>?_
  .exact⟨by show 120<254;decide,by kernel_rfl⟩
  refine bk Z ?_ λZ=>?_
  .exact⟨by show 37<254;decide,by kernel_rfl⟩
  .refine dJ Z ?_;refine⟨by show 38+j<254;exact(lin [j] 0x1267f2141264301101) R,(I' R).trans ?_⟩;show _=some (AO.list _);rw[j7]
 .have h:=bA e;clear e;refine eW h ?_;exact hc _ _ rfl
 .have hb:dT (λj=>Nat.ble j 254) (cH<|oT j (st.ms j) b d<|a7 v)=true:=by rw[vP t];exact E7 λk=>by delta a7;cases v' k<;>rfl
  have h38:∀j,j<4->aV (λq=>dz [] q.1) (sQ j 0)=true:=λu u=>dO λu u=>rfl;exact af rfl<|af rfl<|af rfl<|af rfl<|af rfl<|af (af hb rfl)<|af (dO λu u=>rfl)<|af rfl<|af rfl<|af rfl rfl
 .refine D? (g:=a7 v') ?_;rw[vP t,MG]
end
theorem E_{g:Nat->w}:∀{l:List Nat},ae (bX (λi=>(i,g i)) l) i=J (a5 l i) (some (g i)) none:=by
 intro y
 induction y with|nil=>exact rfl|cons x l z=>
  show ae ((x,g x)::bX (λi=>(i,g i)) l) i=J (J (Nat.beq x i) true<|a5 l i) (some<|g i) none;rw[b3,z,d6]
  by_cases e:x=i
  .rw[aw e,bR e,e]
  .rw[aq e,cA e]
theorem Fa{i:Nat}:ae (vK C) i=J (a5 EW i) (some (ae C i)) none:=E_
theorem vQ(h:∀j,P j=true->x j=y j)(w:aV (λq=>bh P q.2) f.loc=true)(v:aV (λq=>P q.2) f.cel=true):ar x v0 f=ar y v0 f:=by
 have e1:f.loc.map (λp=>(p.1,av x v0 p.2))=f.loc.map (λp=>(p.1,av y v0 p.2)):=jn λp z=>aT (kl p.1) (sy λj e=>by have u:=bq w p z;rw[e] at u;exact h j u)
 have e2:=jn λp z=>aT (kl p.1)<|h _<|bq v p z;delta ar;rw[e1,e2]
theorem MI(hd:e.hd=false)(y:Nat.ble n 1000=true)(g:iv e x b (.rng n) k e.fuel 0 f (H.new (.rng n))):cR x (bB (ah (.bi .range)) (ao (ah (.int (.ofNat n))) az) aC) b e f H k w:=by
 show J (Nat.ble n 1000) (J e.hd e.stop<|ad (ad ((H.new<|.rng n).get H.n) none<|rN (.ref H.n) H.n) e.stop λz=>iv e x b z k e.fuel 0 f<|H.new<|.rng n) e.stop;rw[y,hd,AH.get_new,aw rfl];exact g
abbrev eS(call:tY2):EV Prop:=⟨False,oq,60,false,call,11⟩
def zP:XS Prop:=ac (bF bo λz=>S0) (ac (bF bo λz=>S1) (ac (cR uK Xl (bF bo λz=>oy)) S3))
def j_:FI Prop:=⟨[dw,fO],[],[lF],zP⟩
section
variable {call:tY2}{st:aH}{C:ld}
theorem Fb(h:cX (λp:Prop=>p) zM (s Prop) False f H k):bF bo s (eS call) f H k z:=.inr ⟨rfl,.inr h⟩
theorem Fc(h:f.cel=fb):∀x i,ae fb x=some i->ae (ar (gD 254 255) va f).cel x=some i:=λx i e=>by
 rw[iZ,h,e];refine eW (bA e) ?_;rfl
theorem MJ(d:eR C=true)(G:bN st gh):∀(n j m){fl:Nat->Nat}{F:aK}{H:AH},n+j=4->n+1<=m->(∀a,bL F.loc lG a=[(dw,.ref (fl 3)),(fO,.ref (fl 37)),(lG,a)])->F.cel=[(lF,fl 120)]->aR fl (wS st (CV (a7 (vt st j)) C)) 255 H->
  (∀t s r,aR t (wS st<|CV (a7<|vt st 4) C) 255 r->(∀i,i<255->t i=fl i)->s.cel=[(lF,t 120)]->k .nxt s r)->iv (eS call) uK (bF bo λz=>oy) (.rng 4) k m j F H
 |_,_,0,_,_,_,_,l,_,_,_,_=>aP l (by omega)
 |0,j,m+1,fl,F,H,u,_,b,g,w,y=>by have u:j=4:=(lin [j] 0x12702202e044282008) u;subst u;exact y fl F H w (λz z=>rfl) g
 |n+1,j,m+1,fl,F,H,u,l,b,g,w,y=>by
  show ad (some<|J (Nat.blt j 4) (some<|AV.int<|.ofNat j) none) False _;rw[show Nat.blt j 4=true from Nat.ble_eq_true_of_le<|(lin [n,j] 0x12682214028138110a1280501) u];show bF bo (λz=>oy) (eS call) ⟨bL F.loc lG<|.int<|.ofNat j,F.cel⟩ H (kt (iv (eS call) uK (bF bo λz=>oy) (.rng 4) k m<|Nat.succ j) k) (eB<|eS call);rw[b,g];have R:∀k c,vt st j k=some c->c<4:=λk c e=>by
   unfold vt at e;cases q:Nat.blt k (3+j) with|true=>rw[q] at e;exact H? (λk v h=>(G.f k v h).2.1) e|false=>rw[q] at e;cases e
  have A:∀k,k<7->vt st (j+1) k=if k=Nat.add 3 j then i8 st j (vt st j<|aZ j 0) (vt st j<|aZ j 1) else vt st j k:=λk hk=>by
   by_cases e:k=Nat.add 3 j
   .rw[aw e,td (MH (by exact(lin [n,j] aM0) u)<|by decide),td (MH (by exact(lin [n,j] aM0) u)<|by decide),<-EP (by exact(lin [n,j] aM0) u),e];exact td (by show 3+j<3+(j+1);exact lin [j] 0xc5280501034282068)
   .rw[aq e];have Q:k≠3+j:=e
    by_cases h:k<3+j
    .rw[td h,td<|by exact(lin [k,j] 0x126294028101a02c5080d01) h]
    .rw[E9 (by exact(lin [k,j] 0x129342a500a040687b14203405ee5080d01) Q h),E9<|by exact(lin [k,j] 0x9342a101a1ec5080d01) h]
  refine Fb (I? (v':=vt st<|j+1) (F:=ar (gD 254 255) v0 ⟨oS j,fb⟩) d (by exact(lin [n,j] aM0) u) (G.m j<|by exact(lin [n,j] aM0) u) R (E9<|Nat.le_refl _) A w (λx a e=>tc x a e) (Fc rfl) λX E N P=>?_);show iv (eS call) uK (bF bo λz=>oy) (.rng 4) k m (Nat.succ j) _ E;exact MJ d G n (j+1) m (by exact(lin [n,j] 0x49c08852805020b8110a1280501) u) (by exact(lin [n,j,m] 0x4a4d1a805016a80503500a140280b8110a1280501) u l) (λz=>rfl) rfl N λt s r S o p=>y t s r S (λi Z=>(o i Z).trans<|P i Z) p
theorem J'(h:i≠c)C:wS st ((c,o)::C) i=wS st C i:=by
 show ad (ae (LS st<|(c,o)::C) i) none (λo=>o)=ad (ae (LS st C) i) none λo=>o;delta LS;rewrite[dA,dA];cases ae (Lb st) i with|some x=>rfl|none=>rw[b3,b3,b3,b3,Fa,Fa,b3,aq (λe=>h e.symm:¬(c,o).1=i)]
theorem vR(y:h_ L=true)(u:c<254)(w:lK c=[])(e:wA L i=some o):¬vis o c:=λv=>by
 delta wA at e;cases z:ae L i with|none=>rw[z] at e;cases e|some x=>rw[z] at e;have e:=e;subst e;have t:=lC (bq y _<|bA z) v;unfold dj at t;rw[show Nat.blt c 254=true from Nat.ble_eq_true_of_le u,w] at t;cases t
theorem J?(b:eR C=true)(G:bN st gh)(u:aR p (wS st C) 255 H)(w:∀t N,aR t (wS st (CV (a7 (eQ st)) C)) 255 N->(∀i,i<255->i≠55->i≠120->t i=p i)->k (.ref (t 55)) N):enter (eS call) j_ [] [.ref (p 3),.ref (p 37)] [] H k l:=by
 show zP (eS call) ⟨[(dw,.ref<|p 3),(fO,.ref<|p 37)],[(lF,H.n)]⟩ (H.new<|.cell none) (ko (eS call) k) l;obtain⟨d,A,e1,e2⟩:=u.name (c:=120) (oc:=.cell none) (by decide) (λi o e=>vR (vN<|vM b) (by decide) rfl e) (λj v=>by cases v);have A:aR d (wS st<|(120,.cell none)::C) 255 (H.new<|.cell none):=A.less λi o e=>by
  by_cases h:i=120
  .subst h;rw[aw rfl];have Y:wS st ((120,.cell none)::C) 120=some (.cell none):=by kernel_rfl
   rw[e.symm,Y]
  .rw[aq h];rwa [J' h] at e
 rw[(e1 3 (by decide)<|by decide).symm,<-e1 37 (by decide) (by decide),<-e2];show bF bo (λz=>S0) (eS call) (ar d v0<|ar (gD 254 255) v0 ⟨i3,fb⟩) _ (d5 _ (eS call) (ko (eS call) k) l) l;refine Fb (x? b A (λz x y e=>by delta v0 at e;omega) (λx a e=>tc x a e) (Fc rfl) λt N U2 E=>?_);refine Fb<|C? b U2 (vI (W:=ax i3 []) (λx a e=>e) rfl) (Fc rfl) λfl3 H3 U3 Z=>?_;show cR uK (bB (ah<|.bi .range) (ao (ah<|.int<|.ofNat 4) az) aC) (bF bo λz=>oy) (eS call) _ H3 (d5 S3 (eS call) (ko (eS call) k) l) l;refine MI rfl rfl ?_;obtain⟨g,U4,s⟩:=U3.grow<|.rng 4;have P:∀i o,wS st (CV (a7<|vt st 0) C) i=some o->wS st (CV (a7<|w3 st) C) i=some o:=λi o e=>by
  have Y:cH (a7<|vt st 0)=cH (a7<|w3 st):=vP λk hk=>by
   delta a7 vt w3;cases q:Nat.blt k 3 with|false=>rfl|true=>show(eQ st k).map _=_;rw[Ms<|Nat.le_of_ble_eq_true q]
  unfold CV at e ⊢;rw[Y] at e;exact e
 have ag:∀i,i<255->i≠55->i≠120->g i=p i:=λi m R F=>by rw[s i m,Z i m,E i m R,e1 i m F]
 refine MJ b G 4 0 60 (by decide) (by decide) (fl:=g) (λa=>?_) ?_ (U4.less P) λr F5 X U5 Q S=>?_
 .rw[s 3 (by decide),s 37<|by decide];rfl
 .rw[s 120<|by decide];rfl
 .have f:=U5.cell 120 (.cell<|some<|.ref 55) (by kernel_rfl);show ad (ae F5.cel lF) False _;rw[S];show ad (X.get<|r 120) False _;rw[f];show k (.ref<|r 55) X;refine w r X (U5.less λi o e=>?_) λi m R F=>by rw[Q i m,ag i m R F]
  have Y:cH (a7<|eQ st)=cH (a7<|vt st 4):=vP λk hk=>by delta a7;rw[td<|by exact(lin [k] 0x126281100680b01d01) hk]
  unfold CV at e ⊢;rw[Y] at e;exact e
end
theorem K'(y:l<7)(z:s<4):∃i,i<8/\uZ l s=jw i/\kL l=DR i:=by
 rcases l with _|_|_|_|_|_|_|l
 .rcases s with _|_|_|_|s<;>first|(exact((lin [s] aI0) z:False).elim)|exact⟨0,by decide,rfl,rfl⟩|exact⟨1,by decide,rfl,rfl⟩|exact⟨2,by decide,rfl,rfl⟩|exact⟨3,by decide,rfl,rfl⟩
 .exact⟨4,by decide,rfl,rfl⟩
 .exact⟨5,by decide,rfl,rfl⟩
 .exact⟨6,by decide,rfl,rfl⟩
 .rcases s with _|_|_|_|s<;>first|(exact((lin [s] aI0) z:False).elim)|exact⟨0,by decide,rfl,rfl⟩|exact⟨1,by decide,rfl,rfl⟩|exact⟨2,by decide,rfl,rfl⟩|exact⟨3,by decide,rfl,rfl⟩
 .exact⟨6,by decide,rfl,rfl⟩
 .exact⟨7,by decide,rfl,rfl⟩
 .exact((lin [l] 0x4a6c07428050a01428050a01428050a014280501) y).elim
def Fd(y:tY0)(z:Nat)(t:tY0):ld:=ax (yw y) ((98,.umap [(12612,some (.ref 60)),(12868,some (.ref 61)),(13124,some (.ref 62)),(13380,some (.ref 63))])::ax (yG 0 0) (ax (yG 1 0) (ax (yG 2 z) [(63,.inst 569 67),(67,.dict (iB 3 .unk .unk)),(87,.list t),(91,.list []),(95,.list [])])))
theorem K?:lP x z y=Fd x z (m0 3 y):=by kernel_rfl
def te(m:Nat):Nat:=J (Nat.beq m 0) 0 1
theorem L?(h:m<3):m0 3 (te m)=m0 3 m:=by
 refine c3 (j:=m) ‹_› ?_ ?_ ?_<;>rfl
theorem M'(h:m<3):iE z (te m) f=iE z m f:=by
 rcases m with _|_|_|m
 .rfl
 .rfl
 .kernel_rfl
 .exact((lin [m] aa0) h).elim
theorem M?(h:m<3):x∈er z (te m) 3↔(x=2/\aM 1 m=true):=by
 rcases m with _|_|_|m
 .exact⟨(λh=>by cases h),λh=>by cases h.2⟩
 .exact⟨λh=>⟨List.mem_singleton.mp h,rfl⟩,λh=>h.1▸.head _⟩
 .exact⟨λh=>⟨List.mem_singleton.mp h,rfl⟩,λh=>h.1▸.head _⟩
 .exact((lin [m] aa0) h).elim
theorem MK m:te m<2:=by delta te;cases Nat.beq m 0<;>(first|(decide)|(decide))
theorem ML{q:Nat->Bool}{n:Nat}(h:uQ q=true)(x:n<2):q n=true:=by
 refine bx h λy z=>?_;rcases n with _|_|n
 .exact y
 .exact z
 .exact((lin [n] aF0) x).elim
theorem N':(oH λi=>cY λz=>uQ λy=>qr (uU 255) (putL (lP (jw i) z y)) 1 0)=true:=by kernel_rfl
theorem N?(v:i<8)(x:y<3)(w:z<2):d7 (bM (lP (jw i) y z)):=
 KG (ML (q:=λz=>qr (uU 255) (putL<|lP (jw i) y z) 1 0) (E1 (zK N' v) x) w) (by decide)
section
variable {fl:Nat->Nat}{st:aH}{H:AH}{l s:Nat}{k:KS Prop}{val:Nat->Option Nat}
theorem O?:∀k r,ad (a7 val k) true (bh r)=true:=λk r=>by delta a7;cases val k<;>rfl
theorem MM(y:l<7)(v:s<4)(z:∀j,j<4->st.ms j<3):eR (C3 l s (m4 st))=true:=by
 have w:=ny (E2 p? y) v;have x:=qV q? z;exact EZ (by kernel_rfl) (EZ (by kernel_rfl)<|EZ w x)
theorem P'(u:i<8)(v:uZ l s=jw i)(r:∀j,j<4->z.ms j<3)(o:l<7)(h:s<4)(x:aR fl (wA (LS st (CV (a7 val) (C3 l s (m4 z))))) 255 H)(y:∀w t,aR w (wA (LS st (CV (a7 val) (C4 (jw i) (m4 z))))) 255 t->(∀i,i<53->w i=fl i)->k .nxt (ar w v0 (fS st.kd l s u5)) t):cX (· = true) fP ME false (ar fl v0 (fS st.kd l s yx)) H k:=by
 have m:bX (λq:Nat×AO=>wA (LS st<|CV (a7 val)<|C3 l s<|m4 z) q.1) ((100,.list<|jw i)::oG)=bX (λq=>some q.2) ((100,.list<|jw i)::oG):=by rw[v.symm];kernel_rfl
 refine zJ x zL m tc E3 (zK Yl u) (zK MD u) (E8 O?<|MM o h r) (by kernel_rfl) (by kernel_rfl) λw t n p=>y w t n λi u=>p i ((lin [i] 0x499fe80b0d501) u) (by
  have g:∀i,i<53->ae yy i=none:=by decide +kernel
  exact g i u)
def qY(st:aH)(v:wg):LL:=ax [(51,some (.cell (some (.ref 3)))),(52,some (.cell (some (.ref 37)))),(53,some (.inst 363 54)),(54,some (.dict [(DB,.bool false),(jq,.ref 35),(Dz,.ref 12)])),(55,some (cH v)),(58,none),(59,none),
   (68,some<|.list<|cf 0<|st.ms 0),(69,some<|.list<|cf 1<|st.ms 1),(70,some<|.list<|cf 2<|st.ms 2),(71,some<|.list<|cf 3<|st.ms 3),(72,some<|.list [.str<|gH 0]),(73,some<|.list [.str<|gH 1]),(74,some<|.list [.str<|gH 2]),(75,some<|.list [.str<|gH 3]),(76,some<|.list []),(77,some<|.list []),(78,some<|.list []),(79,some<|.list [])]
  [(96,some<|.inst 714 97),(97,some<|.dict [(qo,.ref 98),(sC,.ref 99),(ye,.unk),(uP,.ref 100)])]
theorem P?(O:d7 (bM (lP u t r)))(p:st.ms=w.ms)(j:t=w.ms 2)(h:m0 3 r=m0 3 (w.ms 3))(v:aR fl (wA (LS st (CV (a7 val) (C4 u (m4 w))))) 255 H):aR fl (wB st val none none (bM (lP u t r))) 255 H:=v.less λi o e=>by
 delta wB cq at e;cases q:eK i with
 |true=>
  rw[q] at e;have e:=e;cases z:(bM<|lP u t r).get i with|none=>rw[z] at e;cases e|some n=>
   rw[z] at e;have e:some (aG bE v0 n)=some o:=e;rw[MB<|O.na i n z] at e;cases e;have m:=yh (show(putL<|lP u t r).get i=some _ from z);rw[K?,h,j] at m;have L:bX (λq:Nat×AO=>wA (LS st<|CV (a7 val)<|C4 u<|m4 w) q.1) (Fd u (w.ms 2)<|m0 3<|w.ms 3)=bX (λq=>some q.2) (Fd u (w.ms 2)<|m0 3<|w.ms 3):=by kernel_rfl
   exact vO L _ m
 |false=>
  rw[q] at e;have e:=e;have eL:LB st val none none=ax (Lb st) (qY st<|a7 val):=by kernel_rfl
  rw[eL] at e;delta wA at e;rw[dA] at e;have L:bX (λq:Nat×Option AO=>wA (LS st<|CV (a7 val)<|C4 u<|m4 w) q.1) (qY st<|a7 val)=bX (λq=>q.2) (qY st<|a7 val):=by rw[show qY st (a7 val)=qY w (a7 val) from by delta qY;rw[p]];kernel_rfl
  cases z:ae (Lb st) i with|some x=>rw[z] at e;have e:=e;delta wA LS;rw[dA,z];exact e|none=>
   rw[z] at e;have e:=e;cases y:ae (qY st<|a7 val) i with|none=>rw[y] at e;cases e|some x=>rw[y] at e;have e:=e;have s:=vO L _<|bA y;exact s.trans e
end
def fh(_ j:Nat):Bool:=Nat.blt j 254
def i9(q:Nat×Option AO):Bool:=ad q.2 true λo=>dT (fh q.1) o
theorem Q'{st:aH}:aV i9 (Lb st)=true:=by
 have f:i9 (1,some<|.frz<|st.xs.map .int)=true:=by exact dO λx m=>by obtain⟨i,_,rfl⟩:=List.mem_map.mp m;rfl
 have g:i9 (3,some<|cG<|aB st)=true:=by
  show aV (λq:Nat×Option AV=>ad q.2 true<|bh<|fh 3) [(97,aB st 0),(98,aB st 1),(99,aB st 2),(120,aB st 3),(121,aB st 4),(122,aB st 5),(119,aB st 6)]=true;refine af ?_<|af ?_<|af ?_<|af ?_<|af ?_<|af ?_<|af ?_ da
  .show ad (aB st 0) true (bh<|fh 3)=true;delta aB;cases st.fv 0<;>kernel_rfl
  .show ad (aB st 1) true (bh<|fh 3)=true;delta aB;cases st.fv 1<;>kernel_rfl
  .show ad (aB st 2) true (bh<|fh 3)=true;delta aB;cases st.fv 2<;>kernel_rfl
  .show ad (aB st 3) true (bh<|fh 3)=true;delta aB;cases st.fv 3<;>kernel_rfl
  .show ad (aB st 4) true (bh<|fh 3)=true;delta aB;cases st.fv 4<;>kernel_rfl
  .show ad (aB st 5) true (bh<|fh 3)=true;delta aB;cases st.fv 5<;>kernel_rfl
  .show ad (aB st 6) true (bh<|fh 3)=true;delta aB;cases st.fv 6<;>kernel_rfl
 have h:i9 (14,some<|dM<|a_ st)=true:=by
  show aV (λq:Nat×Option AV=>ad q.2 true<|bh<|fh 14) [(12612,a_ st 0),(12868,a_ st 1),(13124,a_ st 2),(13380,a_ st 3)]=true;refine af ?_<|af ?_<|af ?_<|af ?_ da
  .show ad (a_ st 0) true (bh<|fh 14)=true;delta a_;cases st.en 0<;>kernel_rfl
  .show ad (a_ st 1) true (bh<|fh 14)=true;delta a_;cases st.en 1<;>kernel_rfl
  .show ad (a_ st 2) true (bh<|fh 14)=true;delta a_;cases st.en 2<;>kernel_rfl
  .show ad (a_ st 3) true (bh<|fh 14)=true;delta a_;cases st.en 3<;>kernel_rfl
 have c:i9 (42,some<|dp<|bp st)=true:=by
  refine af ?_<|af ?_<|af ?_<|af ?_ da
  .show bh (fh 42) (bp st 0)=true;delta bp;cases st.en 0<;>kernel_rfl
  .show bh (fh 42) (bp st 1)=true;delta bp;cases st.en 1<;>kernel_rfl
  .show bh (fh 42) (bp st 2)=true;delta bp;cases st.en 2<;>kernel_rfl
  .show bh (fh 42) (bp st 3)=true;delta bp;cases st.en 3<;>kernel_rfl
 have r:∀j,j<4->i9 (Nat.add 15 j,(st.en j).map<|kP st.kd j)=true:=λj b=>by
  cases st.en j with|none=>rfl|some e=>
   show aV (λq:Nat×Option AV=>ad q.2 true<|bh<|fh<|Nat.add 15 j) [(mW,some .unk),(mX,some<|.str<|J st.kd sG sF),(r0 j,(e.s 0).map<|bV st.kd j 0),(r1 j,(e.s 1).map<|bV st.kd j 1),(mY,some<|.ref<|Nat.add 19 j)]=true;have k:∀d,d<2->ad ((e.s d).map<|bV st.kd j d) true (bh<|fh<|Nat.add 15 j)=true:=λd hd=>by
    cases e.s d with|none=>rfl|some v=>
     cases st.kd
     .rcases j with _|_|_|_|j<;>rcases d with _|_|d<;>first|(exact(by omega:False).elim)|kernel_rfl
     .rfl
   refine af rfl (af rfl (af (k 0<|by decide) (af (k 1<|by decide)<|af ?_ da)));refine c4 (j:=j) ‹_› ?_ ?_ ?_ ?_<;>kernel_rfl
 have u:∀j,i9 (Nat.add 19 j,(st.en j).map<|qJ j)=true:=λj=>by
  cases st.en j with|none=>rfl|some e=>exact zb
 have y:∀j d,i9 (Nat.add (Nat.add 23<|Nat.mul 2 j) d,i5 st.kd (st.en j) d)=true:=λj d=>by
  delta i5;cases st.en j with|none=>rfl|some e=>
   cases st.kd
   .show i9 (_,(e.s d).map dU)=true;cases e.s d<;>rfl
   .rfl
 have w:∀j,i9 (Nat.add 43 j,(st.en j).map<|ni st.kd j)=true:=λj=>by
  cases st.en j with|none=>rfl|some e=>
   have p:∀x,bh (fh<|Nat.add 43 j) (gL st.kd x)=true:=λx=>by cases x<;>cases st.kd<;>rfl
   show dT _ (m_ j e.m _ _)=true;delta m_;rcases e.m with _|_|m
   .exact af (p _) da
   .exact af (p _) da
   .exact af (p _)<|af (p _) da
 have t:∀j i,i9 (i,some<|.list<|cf j<|st.ms j)=true:=λz z=>zb;have o:i9 (47,some<|.cell<|st.rw.map AV.str)=true:=by cases st.rw<;>rfl
 have l:i9 (48,some<|.cell<|st.mq.map λm=>AV.int<|.ofNat m)=true:=by cases st.mq<;>rfl
 have n:i9 (49,J st.lp (some<|.list<|cu (st.xs.map AV.int) 8) none)=true:=by
  cases st.lp with|false=>rfl|true=>show aV (bh<|fh 49) (cu (st.xs.map AV.int) 8)=true;exact dO λx m=>by obtain⟨i,_,rfl⟩:=List.mem_map.mp<|zc m;rfl
 exact(af (by cases st.tb<;>kernel_rfl) (af (f) (af (by cases st.tb<;>kernel_rfl) (af (g) (af (by cases st.fv 0<;>kernel_rfl) (af (by cases st.fv 1<;>kernel_rfl) (af (by cases st.fv 2<;>kernel_rfl) (af (by cases st.fv 3<;>kernel_rfl) (af (by cases st.fv 4<;>kernel_rfl) (af (by cases st.fv 5<;>kernel_rfl) (af (by cases st.fv 6<;>kernel_rfl) (af (by kernel_rfl) (af (by kernel_rfl) (af (by kernel_rfl) (af (h) (af (r 0<|by decide) (af (r 1<|by decide) (af (r 2<|by decide) (af (r 3<|by decide) (af (u 0) (af (u 1) (af (u 2) (af (u 3) (af (y 0 0) (af (y 0 1) (af (y 1 0) (af (y 1 1) (af (y 2 0) (af (y 2 1) (af (y 3 0) (af (y 3 1) (af (by cases st.kd<;>kernel_rfl) (af (by kernel_rfl) (af (by kernel_rfl)<|af (t 0 _)<|af (t 1 _)<|af (t 2 _)<|af (t 3 _)<|af (c)<|af (w 0)<|af (w 1)<|af (w 2)<|af (w 3)<|af o<|af l<|af n rfl))))))))))))))))))))))))))))))))))
theorem MN{st:aH}{i:Nat}{o:AO}(e:wA (Lb st) i=some o):i<50/\∀j,vis o j->j<254:=by
 delta wA at e;cases z:ae (Lb st) i with|none=>rw[z] at e;cases e|some x=>rw[z] at e;have e:=e;subst e;have h:=bq (Q') _<|bA z;have y:=bq (show aV (λq:Nat×Option AO=>Nat.blt q.1 50) (Lb st)=true from by kernel_rfl) _<|bA z;exact⟨Nat.le_of_ble_eq_true y,λj v=>Nat.le_of_ble_eq_true<|lC h v⟩
theorem aR.cut(z:aR y w N H)(t:M<=N)(h:∀i o,w' i=some o->w i=some o)(s:∀i o,w' i=some o->i<M/\∀j,vis o j->j<M):∃u,aR u w' M H/\∀i,i<M->u i=y i:=by
 have lo:∀i,i<M->(if i<M then y i else H.n+i)=y i:=λi h=>aw h;refine⟨λi=>if i<M then y i else H.n+i,⟨λi j e=>?_,λi x=>?_,λi o e=>?_,s,λi x=>?_⟩,lo⟩
 .by_cases a:i<M<;>by_cases b:j<M
  .rw[aw a,aw b] at e;exact z.inj _ _ e
  .rw[aw a,aq b] at e;have q:=z.lt i<|(lin [M,N,i] 0x4a4c10d811b441) t a;exact((lin [y i,H.n,j] 0x4a536082e50c41) e q).elim
  .rw[aq a,aw b] at e;have q:=z.lt j<|(lin [M,N,j] 0x4a4c10d811b441) t b;exact((lin [H.n,i,y j] 0x4a536046e1a841) e q).elim
  .rw[aq a,aq b] at e;exact(lin [H.n,i,j] aC0) e
 .rw[aq<|Nat.not_lt.mpr x];exact lin [H.n,i] 13961249
 .obtain⟨x,r⟩:=s i o e;rw[aw x,z.cell i o<|h i o e];exact aT some<|uD λj v=>(lo j<|r j v).symm
 .rw[aw x];exact z.lt i<|(lin [M,N,i] 0x4a4c10d811b441) t x
def Q?(z:aK->AH->Bool)(f:aK)(h:AH):Bool:=J (aV (λq:Nat×AV=>bh (λj=>Nat.blt j h.n) q.2) f.loc) (J (aV (λq:Nat×Nat=>Nat.blt q.2 h.n) f.cel) (z f h) false) false
def zQ(i z y:Nat):Bool:=L8 fP ⟨cg aW aL,bl⟩ (bM (lP (jw i) z y)) (lL (bM []) (Q? (qy z y (iE z y (DR i)) 5 [] []))) fQ
def ka:Bool:=oH λi=>cY λz=>uQ λy=>zQ i z y
theorem aw4:zQ 0 2 1=true:=by kernel_rfl
def zR:XS Prop:=ac (bF bo λz=>ME) (ac (bF bo λz=>L8) (ac (cR Kt Xj tB) tail))
def zS:XS Prop:=ac (bF bo λz=>E4) (ac (bF bo λz=>L2) (ac (bF bo λz=>L3) (ac L4 zR)))
def l4:FI Prop:=⟨[dw,jY,jq,lD,fO,lE,jr,uL,qn],[],[dw,fO],zS⟩
theorem bN.stT{st:aH}(G:bN st z)l:bN (stT st l) z:=⟨G.f,G.em,G.es,G.eu,G.et,G.m⟩
structure zT(st st':aH):Prop where
 kd:st'.kd=st.kd
 ms:st'.ms=st.ms
 o:st'.xs=st.xs/\st'.rw=st.rw/\st'.mq=st.mq/\st'.lp=st.lp
def Fe(y z:Nat->Nat):Prop:=∀i,i<50->i≠2->(i<4\/(11<=i/\i<15)\/(31<=i/\i<43)\/47<=i)->z i=y i
section
variable {call:tY2}{ke:KE Prop}
theorem R'(w:ae f.cel dw=some a)(y:H.get a=some (.cell (some va)))(u:ae f.cel fO=some b)(x:H.get b=some (.cell (some z)))(g:call false 859 [] [va,z] [] H (λv h=>k .nxt ⟨bL f.loc lF v,f.cel⟩ h) ke):L4 (eL call) f H k ke:=by
 show ad (ae f.cel dw) False λi=>ad (H.get i) False _;rw[w];show ad (H.get a) False _;rw[y];show ad (ae f.cel fO) False λi=>ad (H.get i) False _;rw[u];show ad (H.get b) False _;rw[x];exact g
theorem R?:(cg aW aL).map (λq=>(q.1,av (gD p N) (vs kd z s) q.2))=cg (aX kd) (.glo z):=by
 cases kd<;>rfl
theorem S?:∀x a,ae (cg aW aL) x=some a->∃w,ae (fS kd l s u5).loc x=some w/\cW w (av bE (vc kd (fR l)) a):=λx a e=>by
 refine⟨av bE (vc kd<|fR l) a,?_,λz z z r=>r⟩;have v:ae ((cg aW aL).map λq=>(q.1,av (gD 254 255) (vs kd (fR l) s) q.2)) x=ae (cg (aX kd)<|.glo<|fR l) x:=by rw[R?]
 have y:ae ((cg aW aL).map λq=>(q.1,av bE (vc kd<|fR l) q.2)) x=ae (cg (aX kd)<|.glo<|fR l) x:=by rw[zs]
 rw[eD];rw[oX] at v y;rw[v,<-y,e];rfl
theorem Tr.kx{st y:aH}(z:Tr v u st s f y w t):y.kd=st.kd/\y.xs=st.xs/\y.rw=st.rw/\y.mq=st.mq/\y.lp=st.lp:=by
 induction z with|refl=>exact⟨rfl,rfl,rfl,rfl,rfl⟩|step _ _ _ ho _ x=>
  have r:∀{st st1:aH}{j:Nat}{bad:Prop}{ok:Bool},nt st j bad st1 ok->st1.kd=st.kd/\st1.xs=st.xs/\st1.rw=st.rw/\st1.mq=st.mq/\st1.lp=st.lp:=λh=>by cases h<;>exact⟨rfl,rfl,rfl,rfl,rfl⟩
  have h:=r ho;exact⟨x.1.trans h.1,x.2.1.trans h.2.1,x.2.2.1.trans h.2.2.1,x.2.2.2.1.trans h.2.2.2.1,x.2.2.2.2.trans h.2.2.2.2⟩
theorem T'(h:∀j,j<N->t j=w j)(u:aV (λq:Nat×AV=>bh (λj=>Nat.blt j N) q.2) f.loc=true)(s:aV (λq:Nat×Nat=>Nat.blt q.2 N) f.cel=true):ar t v0 (ar bE va f)=ar w v0 (ar bE va f):=by
 refine vQ (λj v=>h j<|Nat.le_of_ble_eq_true v) (dO λq y=>?_)<|dO λq y=>?_
 .refine mf y λp z=>?_;have r:=bq u p z;obtain⟨x,a⟩:=p;clear z y;cases a<;>first|exact r|rfl
 .refine mf y λp z=>?_;exact bq s p z
theorem T?(h5:ka=true){st:aH}(G:bN st gh)(hl:l<7)(hs:s<4)(t:aR fl (wA (LS st (CV (a7 (eQ st)) (C3 l s (m4 st))))) 255 H)(w:∀p d Q f' H',bN p d->zT st p->aR Q (wA (Lb p)) 255 H'->Fe fl Q->k (.ret (.bool true)) f' H'):zR (eL call) (ar fl v0 (fS st.kd l s yx)) H k ke:=by
 obtain⟨i,g,X,Z⟩:=K' hl hs;have S:=G.m;refine oJ<|P' g X S hl hs t λfl1 H1 U1 hf1=>?_;have h2:=S 2 (by decide);have N:=S 3 (by decide);have O:=N? g h2<|MK<|st.ms 3;have U1:=P? O rfl rfl (L? N) U1;have run:zQ i (st.ms 2) (te<|st.ms 3)=true:=ML (E1 (zK h5 g) h2)<|MK _;refine oJ<|yn U1 (zp) O S? (λx a e=>?_) run λfs2 R fl2 H2 b O2 hn2 U2 A=>?_
 .have h:=bA e;refine gQ (h) rfl λh=>?_
  .refine eW h ?_;rfl
 show cR Kt (bB (ah<|.bi .range) (ao (ah<|.int<|.ofNat 9) az) aC) tB (eL call) _ H2 (d5 tail (eL call) k ke) ke;refine MI rfl rfl ?_;obtain⟨fl3,U3,c⟩:=U2.grow<|.rng 9;refine bx (b) λq1 b=>?_;refine bx b λq2 b=>?_;rw[T' (λj hj=>(c j hj).symm) q1 q2];refine Z1 rfl 5 60 0 (λy y=>rfl) rfl U3 O2 G rfl b (by decide) (by decide) λp sent P fs4 F4 Cs4 fl4 H4 aJ q g4 a4 b4 u fk U4 O4 F C=>?_;obtain⟨d,G'⟩:=g4;have r:=q.done S rfl (λx=>M? N) (st0:=st) ⟨λy y=>rfl,rfl,(λy h=>by cases h),λy h=>by cases h⟩;have f:=q.kx;rw[f.1.symm];refine i? a4 b4 u fk hl (by rw[r.ms];exact S) ?_ r U4 O4 F λfl5 f5 H5 nd U5 E=>?_
 .rw[r.ms,M' N,Z]
 .have hn:=O4.n;have hN:=O2.n;have sub:∀i o,wA (Lb p) i=some o->wB p (eQ st) aJ nd Cs4 i=some o:=λi o e=>by
   have g:=(MN e).1;have hc:∀i,i<50->eK i=false:=by decide +kernel
   delta wB cq;rw[hc i g];show ad (ae (ax (Lb p) _) i) none (λo=>o)=some o;rw[dA];delta wA at e;cases z:ae (Lb p) i with|none=>rw[z] at e;cases e|some x=>rw[z] at e;exact e
  obtain⟨fl6,U6,hf6⟩:=U5.cut (w':=wA<|Lb p) (M:=255) hn sub λi o e=>by have Y:=MN e;exact⟨by omega,λj v=>by have Y:=Y.2 j v;exact(lin [j] 0x499fe80b3f901) Y⟩
  refine w p d fl6 f5 H5 G' ⟨f.1,r.ms,f.2⟩ U6 λi g h2 hr=>?_;rw[hf6 i<|(lin [i] 0x499fe80b0c901) g,E i g<|(lin [i] 0x4a318b425e8830ad016847d10607a02d085a180880c631684bd10615a02d08fa20c0f405a10b4301101) hr,C i ((lin [i] 0x499fc80b0c901) g)<|(lin [i] 0x94a318c1ee3b405a12f44185680b423e88303d016842d0c04406318b425e8830ad016847d10607a02d085a180880b0c901) g hr,c i<|(lin [R.n,i] 0x4a4c08986481343fe8) hN g,A i<|(lin [R.n,i] 0x4a4c08986481343fe8) hN g,hf1 i<|(lin [i] 0x4986a80b0c901) g]
end
section
variable {call call2:tY2}{ke:KE Prop}
theorem U?(z:aR x w N H)(h:∀i,y i=w i):aR x y N H:=z.less λi o e=>by rw[(h i).symm];exact e
theorem V?{st:aH}:wA (LS st []) i=if i=52 then some (.cell (some (.ref 37))) else if i=51 then some (.cell (some (.ref 3))) else wA (Lb st) i:=by
 show ad (ae (ax (Lb st) _) i) none (λo=>o)=_;rw[dA]
 by_cases y:i=52
 .subst y;kernel_rfl
 by_cases z:i=51
 .subst z;kernel_rfl
 rw[aq y,aq z];delta wA;cases ae (Lb st) i with|some x=>rfl|none=>rw[b3,b3,aq (λe=>z e.symm:¬51=i),aq (λe=>y e.symm:¬52=i),Fa];cases a5 EW i<;>rfl
theorem W'(P:ka=true)(t:∀pos h(k:K Prop)(ke:KE Prop),enter (eS call2) j_ [] pos [] h k ke->call false 859 [] pos [] h k ke){st:aH}(G:bN st E)(f:l<7)(d:s<4)(y:aR r (wA (LS st (C3 l s (m4 st)))) 255 H)(z:∀x u w o p,bN x u->zT st x->aR w (wA (Lb x)) 255 p->Fe r w->k (.ret (.bool true)) o p):(ac L4 zR) (eL call) (ar r v0 (fS st.kd l s (ic l))) H k ke:=by
 have X:=MM f d G.m;refine R' rfl (y.cell 51 (.cell<|some<|.ref 3)<|by kernel_rfl) rfl (y.cell 52 (.cell<|some<|.ref 37)<|by kernel_rfl) ?_;refine t _ _ _ _<|J? X G y λv F R n=>?_;have e:(⟨bL (ar r v0<|fS st.kd l s<|ic l).loc lF<|.ref<|v 55,(ar r v0<|fS st.kd l s<|ic l).cel⟩)=ar v v0 (fS st.kd l s yx):=by
  have Z:ar r v0 (fS st.kd l s<|ic l)=ar v v0 (fS st.kd l s<|ic l):=vQ (λj N=>by
   have Y:∀j,j∈[12,35,42,11,53,96,51,52]->j<255/\j≠55/\j≠120:=by decide
   obtain⟨a,b,c⟩:=Y j<|lR N;exact(n j a b c).symm) (by cases st.kd<;>rfl) (by rfl)
  rw[Z];rfl
 rw[e];exact T? P G f d R λx u w o p a b e g=>z x u w o p a b e λi q S Q=>by rw[g i q S Q,n i ((lin [i] 0x499fe80b0c901) q) ((lin [i] 0x93dc6e80b0c901) q)<|(lin [i] 0x93dcf080b0c901) q]
theorem W?(N:kH=true)(X:kI=true)(h6:ka=true)(Z:∀pos h(k:K Prop)(ke:KE Prop),enter (eS call2) j_ [] pos [] h k ke->call false 859 [] pos [] h k ke){gh:Int->Nat}{st:aH}(G:bN st gh)(hl:l<7)(A:s<4)(w:aR u (wA (Lb st)) 255 H)(x:∀r d f R,bN r d->zT st r->aR f (wA (Lb r)) 255 R->Fe u f->k (.bool true) R):enter (eL call) l4 [] [.ref (u 3),.ref (u 12),.ref (u 35),aX st.kd,.ref (u 37),.ref (u 42),.ref (u 11),.glo (fR l),.int (.ofNat s)] [] H k ke:=by
 show zS (eL call) ⟨[(jY,.ref<|u 12),(jq,.ref<|u 35),(lD,aX st.kd),(lE,.ref<|u 42),(jr,.ref<|u 11),(uL,.glo<|fR l),(qn,.int<|.ofNat s)],[(fO,Nat.succ H.n),(dw,H.n)]⟩ ((H.new<|.cell<|some<|.ref<|u 3).new<|.cell<|some<|.ref<|u 37) (ko (eL call) k) ke;obtain⟨S,U1,e1,e2⟩:=w.name (c:=51) (oc:=.cell<|some<|.ref 3) (by decide) (λi o e=>vR qS (by decide) rfl e) (λj v=>by have v:=v;cases v;exact⟨by decide,by decide⟩)
 obtain⟨t,C,e3,e4⟩:=U1.name (c:=52) (oc:=.cell<|some<|.ref 37) (by decide) (λi o e v=>by
  by_cases q:i=51
  .subst q;rw[aw rfl] at e;cases e;have v:=v;cases v
  .rw[aq q] at e;exact vR qS (by decide) rfl e v) (λj v=>by
  have v:some (AV.ref 37)=some (.ref j):=v;cases v;exact⟨by decide,by decide⟩)
 have C:=U? C λi=>V? (st:=st);have y:∀i,i<255->i≠51->i≠52->t i=u i:=λi p N X=>by rw[e3 i p X,e1 i p N]
 have eH:(H.new<|.cell<|some<|.ref<|u 3).new (.cell<|some<|.ref<|u 37)=(H.new<|aG u v0<|.cell<|some<|.ref 3).new (aG S v0<|.cell<|some<|.ref 37):=by show _=(H.new<|.cell<|some<|.ref<|u 3).new (.cell<|some<|.ref<|S 37);rw[e1 37 (by decide)<|by decide]
 rw[eH];have n51:H.n=t 51:=by rw[e3 51 (by decide) (by decide),e2]
 have n52:Nat.succ H.n=t 52:=by rw[e4,AH.n_new]
 have hw:aX st.kd=av t v0 (av (gD 254 255) (vs st.kd (fR l) s) aW):=by cases st.kd<;>rfl
 have eF:(⟨[(jY,.ref<|u 12),(jq,.ref<|u 35),(lD,aX st.kd),(lE,.ref<|u 42),(jr,.ref<|u 11),(uL,.glo<|fR l),(qn,.int<|.ofNat s)],[(fO,Nat.succ H.n),(dw,H.n)]⟩:aK)=ar t v0 (fS st.kd l s E5):=by rw[(y 12 (by decide) (by decide)<|by decide).symm,<-y 35 (by decide) (by decide) (by decide),<-y 42 (by decide) (by decide) (by decide),<-y 11 (by decide) (by decide) (by decide),hw,n52,n51];rfl
 rw[eF];show bF bo (λz=>E4) (eL call) _ _ (d5 _ (eL call) (ko (eL call) k) ke) ke;refine oJ<|s? N G.m C λfl3 H3 U3 Q=>?_;show bF bo (λz=>L2) (eL call) _ _ (d5 _ (eL call) (ko (eL call) k) ke) ke;refine oJ<|t? X G.m A U3 λfl4 H4 U4 E=>?_;refine oJ<|w? G.m hl A U4 λP H5 U5 F=>?_;show(ac L4 zR) (eL call) (ar P v0<|fS (stT st l).kd l s<|ic l) H5 (ko (eL call) k) ke;refine W' h6 Z (G.stT l) hl A U5 λr d f f' R a b e g=>x r d f R a ⟨b.kd,b.ms,b.o⟩ e λi p X hr=>?_;rw[g i p X hr,F i ((lin [i] 0x4986a80b0c901) p) X,E i<|(lin [i] 0x4986a80b0c901) p,Q i<|(lin [i] 0x4986a80b0c901) p,y i ((lin [i] 0x499fe80b0c901) p) ((lin [i] 0x93dc6680b0c901) p)<|(lin [i] 0x93dc6880b0c901) p]
end
theorem aR.put(y:aR fl w N H)(v:i<N)(ho:∀j,vis o j->j<N):aR fl (λj=>if j=i then some o else w j) N (H.set (fl i) (aG fl v0 o)):=by
 refine⟨y.inj,λi h=>by rw[AH.n_set];exact y.top i h,λj x e=>?_,λj x e=>?_,λi h=>by rw[AH.n_set];exact y.lt i h⟩
 .rw[AH.get_set];have e:=e
  by_cases q:j=i
  .subst q;rw[aw rfl] at e;cases e;rw[aw rfl]
  .rw[aq q] at e;rw[aq λz=>q<|y.inj _ _ z];exact y.cell j x e
 .have e:=e
  by_cases q:j=i
  .subst q;rw[aw rfl] at e;cases e;exact⟨v,ho⟩
  .rw[aq q] at e;exact y.low j x e
theorem Ff{B2:ld}:∀{L:LL},ae (hG B2 z L) i=(ae L i).map λx=>J (a5 z i) none (ad (ae B2 i) x some)
 | []=>rfl
 |q::L=>by
  show ae ((q.1,J (a5 z q.1) none<|ad (ae B2 q.1) q.2 some)::hG B2 z L) i=_;rw[b3,b3,Ff]
  by_cases e:q.1=i
  .rw[aw e,aw e,e];rfl
  .rw[aq e,aq e]
theorem vS{B2:ld}(e:wA (hG B2 [] L) i=some o):ae B2 i=some o\/(ae B2 i=none/\wA L i=some o):=by
 unfold wA at e ⊢;rw[Ff] at e;cases z:ae L i with|none=>rw[z] at e;cases e|some x=>
  rw[z] at e;have e:ad (ae B2 i) x some=some o:=e;cases y:ae B2 i with|none=>rw[y] at e;exact .inr ⟨rfl,e⟩|some p=>rw[y] at e;exact .inl e
def fW(st:aH)(k:Nat)(v:Option FV):aH:={ st with fv:=a9 st.fv k v }
def kN(k:Nat):Nat:=cJ 97 98 99 (cJ 120 121 122 119 (Nat.sub k 3)) k
section
variable {fl:Nat->Nat}{st:aH}{H:AH}
theorem tick(y:aR fl (wA (Lb st)) 255 H):aR fl (wA (Lb (dq st))) 255 (H.set (fl 11) (.list [.int (Int.add st.ck 1)])):=by
 refine(y.put (o:=.list [.int<|Int.add st.ck 1]) (by decide) λj v=>by cases List.mem_singleton.mp v).less λi o e=>?_;rw[show Lb (dq st)=hG [(11,.list [.int<|Int.add st.ck 1])] [] (Lb st) from by kernel_rfl] at e;rcases vS e with h|⟨h,e⟩
 .have x:=bA h;clear e h;refine eW x ?_;exact aw rfl
 .rw[aq λz=>by rw[z] at h;cases h];exact e
theorem MO(h:∀k,k<7->ad (po k) true (bh λj=>Nat.blt j 254)=true):∀j,vis (cG po) j->j<254:=λj v=>
 Nat.le_of_ble_eq_true (lC (o:=cG po) (show aV (λq:Nat×Option AV=>ad q.2 true<|bh λj=>Nat.blt j 254) [(97,po 0),(98,po 1),(99,po 2),(120,po 3),(121,po 4),(122,po 5),(119,po 6)]=true from
  af (h 0<|by decide) (af (h 1<|by decide) (af (h 2<|by decide) (af (h 3<|by decide) (af (h 4<|by decide) (af (h 5<|by decide) (af (h 6<|by decide) da))))))) v)
theorem MP:∀k,k<7->ad (aB st k) true (bh λj=>Nat.blt j 254)=true:=λk z=>by
 delta aB;cases st.fv k with|none=>rfl|some v=>exact Nat.ble_eq_true_of_le (show 4+k<254 by exact(lin [k] aH0) z)
theorem X'(z:k<7):Lb (fW st k (some v))=hG [(3,cG (aB (fW st k (some v)))),(Nat.add 4 k,dU v)] [] (Lb st):=by
 refine c7 (j:=k) ‹_› ?_ ?_ ?_ ?_ ?_ ?_ ?_<;>kernel_rfl
theorem X?(z:k<7):Lb (fW st k none)=hG [(3,cG (aB (fW st k none)))] [Nat.add 4 k] (Lb st):=by
 refine c7 (j:=k) ‹_› ?_ ?_ ?_ ?_ ?_ ?_ ?_<;>kernel_rfl
theorem Y'(w:c<254)(y:lK c=[r])(e:wA (Lb st) i=some o)(u:i≠r):¬vis o c:=λv=>by
 delta wA at e;cases z:ae (Lb st) i with|none=>rw[z] at e;cases e|some x=>rw[z] at e;have e:=e;subst e;have t:=lC (bq qS _<|bA z) v;unfold dj at t;rw[show Nat.blt c 254=true from Nat.ble_eq_true_of_le w,y] at t;have t:=lR t;exact u<|List.mem_singleton.mp t
theorem Y?(z:k<7):lK (Nat.add 4 k)=[3]:=by
 refine c7 (j:=k) ‹_› ?_ ?_ ?_ ?_ ?_ ?_ ?_<;>kernel_rfl
theorem write{k:Nat}(r:k<7)(x:aR fl (wA (Lb st)) 255 H):∃w,aR w (wA (Lb (fW st k (some v)))) 255 ((H.new (dU v)).set (fl 3) (aG w v0 (cG (aB (fW st k (some v))))))/\(∀i,i<255->i≠Nat.add 4 k->w i=fl i)/\w (Nat.add 4 k)=H.n:=by
 have u:Nat.add 4 k<254:=(lin [k] aH0) r;have l:aR fl (λi=>if i=3 then none else wA (Lb st) i) 255 H:=x.less λi o e=>by
  by_cases q:i=3
  .rw[aw q] at e;cases e
  .rwa [aq q] at e
 obtain⟨w,m,e1,e2⟩:=l.name (c:=Nat.add 4 k) (oc:=dU v) ((lin [k] 0x499fe8504110cfe4282088) u) (λi o e=>by
  by_cases q:i=3
  .rw[aw q] at e;cases e
  .rw[aq q] at e;exact Y' u (Y? r) e q) (λj s=>by
  have s:AV.ref j∈[AV.int v.t,.int<|c_ v.c,.int<|.ofNat v.c]:=s;simp at s)
 have y:(3:Nat)≠Nat.add 4 k:=(lin [k] 0x24f7282088034301d01) r;refine⟨w,?_,e1,e2⟩;rw[(e1 3 (by decide) y).symm];refine(m.put (i:=3) (o:=cG<|aB<|fW st k<|some v) (by decide) (λj s=>by have f:=MO MP j s;exact(lin [j] 0x499fe80b3f901) f)).less λi o e=>?_;rw[X' r] at e;rcases vS e with h|⟨h,e⟩
 .refine gQ (bA h) (aw rfl) λh=>?_
  .clear e;refine eW h ?_;rw[aq y.symm,aw rfl]
 .have p:i≠3:=λz=>by rw[z] at h;cases h
  have g:i≠Nat.add 4 k:=λz=>by rw[b3,aq (λe=>p e.symm:¬3=i),b3,aw z.symm] at h;cases h
  rw[aq p,aq g,aq p];exact e
theorem Z'(v:k<7)(w:aR fl (wA (Lb st)) 255 H):aR fl (wA (Lb (fW st k none))) 255 (H.set (fl 3) (aG fl v0 (cG (aB (fW st k none))))):=by
 refine(w.put (by decide) (λj u=>by have t:=MO MP j u;exact(lin [j] 0x499fe80b3f901) t)).less λi o e=>?_;rw[X? v] at e;delta wA at e;rw[Ff] at e;cases z:ae (Lb st) i with|none=>rw[z] at e;cases e|some x=>
  rw[z] at e;have e:=e;cases y:a5 [Nat.add 4 k] i with|true=>rw[y] at e;cases e|false=>
   rw[y] at e;have e:=e;rw[b3] at e
   by_cases q:i=3
   .clear z y;subst q;rw[aw rfl] at e;rw[aw rfl];exact e
   .rw[aq (λe=>q e.symm:¬3=i)] at e;rw[aq q];delta wA;rw[z];exact e
end
def dF(e:EV Prop)(f:aK)(H:AH)(p:XE Prop)(v:AV)(z:AH):Prop:=∀k ke,k v z->p e f H k ke
def vT(e:EV Prop)(f:aK)(H:AH)(p:XL Prop)(v:tY0)(z:AH):Prop:=∀k ke,k v z->p e f H k ke
def zU(e:EV Prop)(f:aK)(H:AH)(p:XB Prop)(v:Bool)(z:AH):Prop:=∀k ke,k v z->p e f H k ke
section
variable {e:EV Prop}{f:aK}{H H1 H2:AH}{p q:XE Prop}{k:KS Prop}{ke:KE Prop}
theorem cz:dF e f H (ah v) v H:=λz z h=>h
theorem dG(h:ae f.loc x=some v):dF e f H (aa x) v H:=λk ke g=>by
 show ad (ae f.loc x) e.stop _;rw[h];exact g
theorem aw5(h:ae f.cel x=some i)(z:H.get i=some (.cell (some v))):dF e f H (bT x) v H:=λk ke g=>by
 show ad (ae f.cel x) e.stop λi=>ad (H.get i) e.stop _;rw[h];show ad (H.get i) e.stop _;rw[z];exact g
theorem jG(z:dF e f H p o H1)(y:dF e f H1 q i H2)(h:sub H2 o i=some w):dF e f H (bf p q) w H2:=λk ke g=>z _ _ (y _ _ (by rw[h];exact g))
theorem fF(y:dF e f H p (.int a) H1)(w:dF e f H1 q (.int b) H2)(h:mB x a b=some c)(ho:∀r,mE x e a r=r):dF e f H (bQ x p q) (.int c) H2:=λk ke g=>y _ _ (w _ _ (by
 show ad (mB x a b) e.stop λz=>mE x e a<|k (.int z) H2;rw[h];show mE x e a (k (.int c) H2);rw[ho];exact g))
theorem Z?(z:dF e f H p a H1)(x:dF e f H1 q b H2)(h:rI y H2 a b=some r):dF e f H (a8 y p q) (.bool r) H2:=λk ke g=>z _ _ (x _ _ (by rw[h];exact g))
theorem Fg:vT e f H az [] H:=λz z h=>h
theorem iG{vs:tY0}(z:dF e f H p v H1)(y:vT e f H1 r vs H2):vT e f H (ao p r) (v::vs) H2:=λk ke g=>z _ _ (y _ _ g)
theorem β{vs:tY0}(y:vT e f H r vs H1)(z:Nat.ble (len vs) 1000=true):dF e f H (hX r) (.ref H1.n) (H1.new (.tup vs)):=λk ke g=>y _ _ (by
 show J (Nat.ble (len vs) 1000) _ _;rw[z];exact g)
theorem γ(z:dF e f H p v H1)(h:nN H1 v=some b):zU e f H (aO p) b H1:=λk ke g=>z _ _ (by rw[h];exact g)
theorem vU(z:dF e f H p a H1)(x:dF e f H1 q b H2)(h:rI y H2 a b=some r):zU e f H (aO (a8 y p q)) r H2:=γ (Z? z x h) rfl
theorem vV(z:zU e f H t r H1)(g:J r (a e f H1 k ke) (b e f H1 k ke)):aY t a b e f H k ke:=z _ _ g
theorem qZ(z:dF e f H p v H1)(g:k .nxt ⟨bL f.loc x v,f.cel⟩ H1):aA (aQ x) p e f H k ke:=z _ _ g
theorem MQ(z:dF e f H p v H1)(h:ae f.cel x=some i)(y:H1.get i=some (.cell w))(g:k .nxt f (H1.set i (.cell (some v)))):aA (kr x) p e f H k ke:=z _ _ (by
 show ad (ae f.cel x) e.stop λi=>ad (H1.get i) e.stop<|Bw e i v f H1 _;rw[h];show ad (H1.get i) e.stop (Bw e i v f H1 _);rw[y];exact g)
theorem MR(z:dF e f H r v H1)(x:dF e f H1 a o H2)(w:dF e f H2 b i u)(h:rQ u o i v=some y)(g:k .nxt f y):aA (dC a b) r e f H k ke:=z _ _ (x _ _ (w _ _ (by rw[h];exact g)))
theorem δ(z:dF e f H a o H1)(y:dF e f H1 b i H2)(h:drop H2 o i=some x)(g:k .nxt f x):nU a b e f H k ke:=z _ _ (y _ _ (by rw[h];exact g))
theorem ti(h:H.get a=some o)(z:rJ i o=some w):sub H (.ref a) i=some w:=by
 show ad (H.get a) none (rJ i)=some w;rw[h];exact z
theorem MS(h:H.get a=some o)(z:xe H a i v o=some H1):rQ H (.ref a) i v=some H1:=by
 show ad (H.get a) none (xe H a i v)=some H1;rw[h];exact z
theorem ε(h:H.get a=some o)(z:xf H a c o=some H1):drop H (.ref a) (.str c)=some H1:=by
 show ad (H.get a) none (xf H a c)=some H1;rw[h];exact z
theorem ζ(h:H.get a=some o)(z:rH x o=some r):rI .In H x (.ref a)=some r:=by
 show ad (H.get a) none (rH x)=some r;rw[h];exact z
end
def fX:on:=[(lI,48),(lH,47)]
def jH(kd:Bool):iJ:=[(jZ,.ref 1),(dw,.ref 3),(jr,.ref 11),(jY,.ref 12),(lD,aX kd),(jq,.ref 35),(fO,.ref 37),(lE,.ref 42)]
def Fh(j:Nat):Bool:=a5 [1,3,11,12,35,37,42] j
structure LF(W:iJ)(F:aK):Prop where
 loc:∀q∈W,ae F.loc q.1=some q.2
 cel:F.cel=fX
 low:aV (λq:Nat×AV=>bh Fh q.2) F.loc=true
theorem MU{p:AV->Bool}(z:p a=true):∀{l:iJ},aV (λq:Nat×AV=>p q.2) l=true->aV (λq:Nat×AV=>p q.2) (bL l x a)=true
 | [],_=>af z da
 |q::l,h=>by
  have v:=bq h q<|.head _;have w:=dO λy m=>bq h y<|.tail _ m;show aV _ (J (Nat.beq q.1 x) ((q.1,a)::l)<|q::bL l x a)=true;cases Nat.beq q.1 x with|true=>exact af z w|false=>exact af v<|MU z w
theorem LF.put(h:LF W F)(hx:aV (λq:Nat×AV=>J (Nat.beq q.1 x) false true) W=true)(y:bh Fh a=true):LF W ⟨bL F.loc x a,F.cel⟩:=
 ⟨λq z=>by have w:=bq hx q z;rw[kz,aq λe=>by rw[e,show Nat.beq x x=true from Nat.beq_refl x] at w;cases w];exact h.loc q z,h.cel,MU y h.low⟩
theorem LF.add(h:LF W F)(hx:aV (λq:Nat×AV=>J (Nat.beq q.1 x) false true) W=true)(y:bh Fh a=true):LF ((x,a)::W) ⟨bL F.loc x a,F.cel⟩:=
 ⟨λq z=>by
  refine bk z ?_ λz=>?_
  .rw[kz,aw rfl]
  .exact(h.put hx y).loc q z,h.cel,(h.put hx y).low⟩
def hJ(fl z:Nat->Nat):Prop:=∀j,a5 [1,3,11,12,35,37,42,47,48,49] j=true->z j=fl j
theorem hJ.refl(fl:Nat->Nat):hJ fl fl:=λz z=>rfl
theorem hJ.trans(h:hJ a b)(g:hJ b c):hJ a c:=λj m=>(g j m).trans (h j m)
theorem LF.move(h:LF W F)(g:hJ fl z):ar fl v0 F=ar z v0 F:=by
 refine vQ (λj w=>(g j<|Dl (l:=[1,3,11,12,35,37,42,47,48]) w rfl).symm) (dO λq y=>?_) ?_
 .have v:=bq h.low q y;obtain⟨x,a⟩:=q;cases a with|ref j=>exact Dl (l:=[1,3,11,12,35,37,42]) (m:=[1,3,11,12,35,37,42,47,48]) v rfl|_=>rfl
 .rw[h.cel];rfl
section
variable {fl:Nat->Nat}{W:iJ}{F:aK}
theorem LF.at(h:LF W F)(m:(x,a)∈W):ae (ar fl v0 F).loc x=some (av fl v0 a):=by rw[eD,h.loc _ m];rfl
theorem LF.row(h:LF W F):ae (ar fl v0 F).cel lH=some (fl 47):=by rw[iZ,h.cel];rfl
theorem LF.msk(h:LF W F):ae (ar fl v0 F).cel lI=some (fl 48):=by rw[iZ,h.cel];rfl
theorem o7(h:av fl v0 a=a):(⟨bL (ar fl v0 F).loc x a,(ar fl v0 F).cel⟩:aK)=ar fl v0 ⟨bL F.loc x a,F.cel⟩:=by
 congr 1
 conv=>lhs;rw[h.symm]
 exact zF
end
section
variable {R:Type}
abbrev Xq(z:PySem.Operator)(n:Int):XE R:=bQ z (aa 113) (ah (.int n))
def η:XS R:=aA (aQ yb) (bQ .Mod (Xq .FloorDiv 3) (ah (.int 4)))
def θ:XS R:=aA (dC (aa dw) (aa gF)) (hX (ao (bf (aa jr) (ah (.int 0))) (ao (bQ .Add (ah (.int 1)) (bQ .Mod (aa yb) (ah (.int 2)))) (ao (aa yb) az))))
def ι:XS R:=aA (aQ gF) (bf (ah (.str 0x777a7978636261)) (Xq .Mod 7))
def μ:XS R:=aA (dC (aa dw) (aa gF)) (hX (ao (bf (aa jr) (ah (.int 0))) (ao (bf (bf (aa dw) (aa gF)) (ah (.int 1))) (ao (bf (bf (aa dw) (aa gF)) (ah (.int 2))) az))))
def Fi:XB R:=aO (a8 .In (aa gF) (aa dw))
def Vc:XS R:=aY Fi (ac (nU (aa dw) (aa gF)) ak) ak
def ν:XS R:=aA (aQ gF) (bf (ah (.str aB0)) (Xq .Mod 4))
def VA:XS R:=ac R1 (ac η (ac θ ak))
def VB:XS R:=ac ι (ac (aY Fi (ac R1 (ac μ ak)) ak) ak)
def VD:XS R:=ac ν (ac Vc ak)
end
abbrev eT(call:tY2):EV Prop:=⟨False,oq,60,false,call,13⟩
theorem bN.tick{st:aH}(G:bN st z):bN (dq st) z:=by
 have h:∀{x:Int},x<=st.ck->x<=(dq st).ck:=λh=>by show _<=st.ck+1;omega
 exact⟨λk v e=>(G.f k v e).elim λa b=>⟨h a,b⟩,G.em,G.es,λj e d u a b=>(G.eu j e d u a b).elim λc d=>⟨h c,d⟩,G.et,G.m⟩
theorem vW{st:aH}:(fW st k v).fv k=v:=fc
theorem zV{st:aH}(h:i≠k):(fW st k v).fv i=st.fv i:=ff h
theorem bN.gone{st:aH}(G:bN st w):bN (fW st k none) w:=by
 have h:∀i v,(fW st k none).fv i=some v->st.fv i=some v:=λi v e=>by
  by_cases q:i=k
  .subst q;rw[vW] at e;cases e
  .rwa [zV q] at e
 exact⟨λi v e=>G.f i v<|h i v e,G.em,G.es,G.eu,λj e v z y x=>G.et j e v z y<|h _ v x,G.m⟩
theorem bN.write{st:aH}(G:bN st y)(o:c<4)(x:∀j e,j<4->k=Nat.add 3 j->st.en j=some e->c=e_ j e.m (((e.s 0).getD ⟨0,0⟩).c) (((e.s 1).getD ⟨0,0⟩).c)):bN (fW (dq st) k (some ⟨Int.add st.ck 1,c⟩)) (λt=>if t=Int.add st.ck 1 then c else y t):=by
 have lt:∀t:Int,t<=st.ck->t<=Int.add st.ck 1/\t≠Int.add st.ck 1:=λt h=>by have e:Int.add st.ck 1=st.ck+1:=rfl;rw[e];omega
 have w:∀v:FV,(v.t<=st.ck/\v.c<4/\y v.t=v.c)->v.t<=Int.add st.ck 1/\v.c<4/\(if v.t=Int.add st.ck 1 then c else y v.t)=v.c:=λv h=>⟨(lt _ h.1).1,h.2.1,by rw[aq (lt _ h.1).2];exact h.2.2⟩;refine⟨λi v h=>?_,G.em,G.es,λi e d u h p=>w u<|G.eu i e d u h p,λi e v r h z=>?_,G.m⟩
 .by_cases q:i=k
  .clear x;subst q;rw[vW] at h;cases h;exact⟨Int.le_refl _,o,aw rfl⟩
  .rw[zV q] at h;exact w v<|G.f i v h
 .by_cases q:Nat.add 3 i=k
  .subst q;rw[vW] at z;cases z;exact x i e r rfl h
  .rw[zV q] at z;exact G.et i e v r h z
section
variable {fl fl':Nat->Nat}{st:aH}{H:AH}
theorem ξ(y:k<7):rH (.str (kN k)) (aG fl v0 (cG (aB st)))=some (st.fv k).isSome:=by
 refine c7 (j:=k) ‹_› ?_ ?_ ?_ ?_ ?_ ?_ ?_<;>skip
 .show some (ad ((aB st 0).map<|av fl v0) false λz=>true)=some (st.fv 0).isSome;delta aB;cases st.fv 0<;>rfl
 .show some (ad ((aB st 1).map<|av fl v0) false λz=>true)=some (st.fv 1).isSome;delta aB;cases st.fv 1<;>rfl
 .show some (ad ((aB st 2).map<|av fl v0) false λz=>true)=some (st.fv 2).isSome;delta aB;cases st.fv 2<;>rfl
 .show some (ad ((aB st 3).map<|av fl v0) false λz=>true)=some (st.fv 3).isSome;delta aB;cases st.fv 3<;>rfl
 .show some (ad ((aB st 4).map<|av fl v0) false λz=>true)=some (st.fv 4).isSome;delta aB;cases st.fv 4<;>rfl
 .show some (ad ((aB st 5).map<|av fl v0) false λz=>true)=some (st.fv 5).isSome;delta aB;cases st.fv 5<;>rfl
 .show some (ad ((aB st 6).map<|av fl v0) false λz=>true)=some (st.fv 6).isSome;delta aB;cases st.fv 6<;>rfl
theorem MV(z:k<7){g:Option AV->Option AV}:ae [(97,g (aB st 0)),(98,g (aB st 1)),(99,g (aB st 2)),(120,g (aB st 3)),(121,g (aB st 4)),(122,g (aB st 5)),(119,g (aB st 6))] (kN k)=some (g (aB st k)):=by
 refine c7 (j:=k) ‹_› ?_ ?_ ?_ ?_ ?_ ?_ ?_<;>rfl
theorem π(z:k<7){v:FV}(h:st.fv k=some v):rJ (.str (kN k)) (aG fl v0 (cG (aB st)))=some (.ref (fl (Nat.add 4 k))):=by
 show ad (ae [(97,(aB st 0).map<|av fl v0),(98,(aB st 1).map<|av fl v0),(99,(aB st 2).map<|av fl v0),(120,(aB st 3).map<|av fl v0),(121,(aB st 4).map<|av fl v0),(122,(aB st 5).map<|av fl v0),(119,(aB st 6).map<|av fl v0)]<|kN k) none (λo=>o)=_;rw[MV z];delta aB;rw[h];rfl
theorem τ{f g:wg}(z:k<7)(e:∀i,i<7->f i=J (Nat.beq k i) y (g i)):AO.umap [(97,f 0),(98,f 1),(99,f 2),(120,f 3),(121,f 4),(122,f 5),(119,f 6)]=.umap (bL [(97,g 0),(98,g 1),(99,g 2),(120,g 3),(121,g 4),(122,g 5),(119,g 6)] (kN k) y):=by
 rw[e 0 (by decide),e 1 (by decide),e 2 (by decide),e 3 (by decide),e 4 (by decide),e 5 (by decide),e 6<|by decide];clear e;refine c7 z ?_ ?_ ?_ ?_ ?_ ?_ ?_<;>rfl
theorem MW{k:Nat}(w:k<7)(u:(aB (fW st k x) k).map (av fl' v0)=y)(h:∀i,i<7->i≠k->fl' (Nat.add 4 i)=fl (Nat.add 4 i)):aG fl' v0 (cG (aB (fW st k x)))=.umap (bL [(97,(aB st 0).map (av fl v0)),(98,(aB st 1).map (av fl v0)),(99,(aB st 2).map (av fl v0)),(120,(aB st 3).map (av fl v0)),(121,(aB st 4).map (av fl v0)),(122,(aB st 5).map (av fl v0)),(119,(aB st 6).map (av fl v0))] (kN k) y):=
 τ (f:=λi=>(aB (fW st k x) i).map<|av fl' v0) (g:=λi=>(aB st i).map<|av fl v0) w λi t=>by
  cases z:Nat.beq k i with|true=>rw[(Nat.eq_of_beq_eq_true z).symm];exact u|false=>
   have q:i≠k:=λe=>Nat.ne_of_beq_eq_false z e.symm;delta aB;rw[zV q];cases st.fv i with|none=>rfl|some v=>show some (AV.ref<|fl'<|Nat.add 4 i)=some (.ref<|fl<|Nat.add 4 i);rw[h i t q]
theorem zW(z:aR fl (wA (Lb st)) 255 H):H.get (fl 3)=some (aG fl v0 (cG (aB st))):=z.cell 3 _ (by kernel_rfl)
theorem υ(z:aR fl (wA (Lb st)) 255 H)(y:k<7)(h:st.fv k=some v):H.get (fl (Nat.add 4 k))=some (dU v):=z.cell _ _ (by
 have x:∀k,k<7->wA (Lb st) (Nat.add 4 k)=(st.fv k).map dU:=λk y=>by refine c7 (j:=k) ‹_› ?_ ?_ ?_ ?_ ?_ ?_ ?_<;>kernel_rfl
 rw[x k y,h];rfl)
theorem φ(z:k<7)(x:fl' (Nat.add 4 k)=n)(h:∀i,i<7->i≠k->fl' (Nat.add 4 i)=fl (Nat.add 4 i)):xe H a (.str (kN k)) (.ref n) (aG fl v0 (cG (aB st)))=some (H.set a (aG fl' v0 (cG (aB (fW st k (some v)))))):=by
 rw[MW z (y:=some<|.ref n) (by delta aB;rw[vW];show some (AV.ref<|fl'<|Nat.add 4 k)=_;rw[x]) h];rfl
theorem χ(x:k<7){v:FV}(w:st.fv k=some v):xf H a (kN k) (aG fl v0 (cG (aB st)))=some (H.set a (aG fl v0 (cG (aB (fW st k none))))):=by
 rw[MW x (y:=none) (by delta aB;rw[vW];rfl) λz z z=>rfl];show ad (ae [(97,(aB st 0).map<|av fl v0),(98,(aB st 1).map<|av fl v0),(99,(aB st 2).map<|av fl v0),(120,(aB st 3).map<|av fl v0),(121,(aB st 4).map<|av fl v0),(122,(aB st 5).map<|av fl v0),(119,(aB st 6).map<|av fl v0)]<|kN k) none (λo=>ad o none λz=>_)=_;rw[MV x];delta aB;rw[w];rfl
end
def eU(kd:Bool)(i n q:Int):iJ:=(yd,.int q)::(oz,.int i)::(qq,.int n)::jH kd
theorem LF.sub(h:LF W F)(s:∀q∈z,q∈W):LF z F:=⟨λq m=>h.loc q (s q m),h.cel,h.low⟩
theorem LF.tail(h:LF (p::W) F):LF W F:=h.sub λz m=>.tail _ m
def kW(st:aH)(z:iJ)(fl:Nat->Nat)(k:KS Prop):Prop:=∀y w x v u,bN y w->y.kd=st.kd->y.xs=st.xs->y.lp=st.lp->aR x (wA (Lb y)) 255 u->LF z v->hJ fl x->k .nxt (ar x v0 v) u
theorem ψ(h:c<4):Int.add 1 (Int.fmod (.ofNat c) 2)=c_ c:=by
 refine c4 (j:=c) ‹_› ?_ ?_ ?_ ?_<;>rfl
theorem ω(y:k<7)(h:∀i,i<255->i≠Nat.add 4 k->z i=fl i):hJ fl z:=λj m=>
 have a:=Dk (p:=λj=>Nat.blt j 255) m rfl;have b:=Dk (p:=λj=>J (Nat.blt j 4) true<|Nat.blt 10 j) m rfl
 h j (Nat.le_of_ble_eq_true a) λe=>by rw[e] at b;exact c7 y bg bg bg bg bg bg bg b
section
variable {call:tY2}{ke:KE Prop}{k:KS Prop}
variable {fl:Nat->Nat}{st:aH}{H:AH}{gh:Int->Nat}{kd:Bool}{i n q:Int}{F:aK}
theorem zX:(dw,AV.ref 3)∈eU kd i n q:=.tail _ (.tail _ (.tail _ (.tail _ (.head _))))
theorem Fj:(jr,AV.ref 11)∈eU kd i n q:=.tail _ (.tail _ (.tail _ (.tail _ (.tail _ (.head _)))))
theorem MX(v:LF (eU kd i n q) F)(y:aR fl (wA (Lb st)) 255 H)(g:k .nxt (ar fl v0 F) (H.set (fl 11) (.list [.int (Int.add st.ck 1)]))):R1 (eT call) (ar fl v0 F) H k ke:=by
 have w:=y.cell 11 (.list [.int st.ck]) (by kernel_rfl);have x:=v.at (fl:=fl) Fj;exact MR (fF (jG (dG x) cz<|ti w rfl) cz rfl λz=>rfl) (dG x) cz (MS w rfl) g
theorem MY{vs:XL Prop}(z:p<7)(t:LF ((gF,.str (kN p))::eU kd i n q) F)(y:aR fl (wA (Lb st)) 255 H)(l:vT (eT call) (ar fl v0 F) H vs [.int st.ck,.int (c_ c),.int (.ofNat c)] H)(g:∀x r,aR x (wA (Lb (fW st p (some ⟨st.ck,c⟩)))) 255 r->hJ fl x->k .nxt (ar x v0 F) r):aA (dC (aa dw) (aa gF)) (hX vs) (eT call) (ar fl v0 F) H k ke:=by
 obtain⟨x,o,e1,e2⟩:=write z y;have s:=ω z e1;have m:=t.at (fl:=fl)<|.tail _ zX;have u:=t.at (fl:=fl)<|.head _;have w:(H.new<|dU ⟨st.ck,c⟩).get (fl 3)=some (aG fl v0<|cG<|aB st):=by rw[AH.get_new,aq<|by have f:=y.lt 3 (by decide);exact(lin [fl 3,H.n] 635053322305) f];exact zW y
 refine MR (β l rfl) (dG m) (dG u) (MS w<|φ (v:=⟨st.ck,c⟩) z e2 λi j h=>e1 _ ((lin [i] 0x1267fa141044301d01) j)<|(lin [i,p] 0x127b9420442820887b841) h) ?_;rw[t.move s];exact g x _ o s
theorem MZ(z:p<7)(x:LF ((gF,.str (kN p))::eU kd i n q) F)(y:aR fl (wA (Lb st)) 255 H):zU (eT call) (ar fl v0 F) H Fi (st.fv p).isSome H:=
 vU (dG<|x.at<|.head _) (dG<|x.at<|.tail _ zX) (ζ (zW y)<|ξ z)
theorem M0(G:bN st gh)(y:p<3)(m:c<4)(g:Int.fmod (Int.fdiv q 3) 4=.ofNat c)(t:LF ((gF,.str (kN p))::eU kd i n q) F)(w:aR fl (wA (Lb st)) 255 H)(A:kW st (eU kd i n q) fl k):VA (eT call) (ar fl v0 F) H k ke:=by
 refine MX t.tail w ?_;have o:=tick w;refine qZ (fF (c:=.ofNat c) (fF (dG<|t.at<|.tail _<|.head _) cz rfl λz=>rfl) cz (by rw[g.symm];rfl) λz=>rfl) ?_;rw[o7 rfl];have v:=t.add (x:=yb) (a:=.int<|.ofNat c) rfl rfl;have r:=o.cell 11 (.list [.int (dq st).ck]) (by kernel_rfl);refine MY (c:=c) ((lin [p] 0x4980e80b00d01) y) v.tail o ?_ λs b l f=>?_
 .have u:=v.at (fl:=fl)<|.head _;exact iG (jG (dG<|v.at (fl:=fl)<|.tail _<|.tail _ Fj) cz<|ti r rfl) (iG (fF cz (fF (dG u) cz rfl λz=>rfl) (by rw[(ψ m).symm];rfl) λz=>rfl)<|iG (dG u) Fg)
 .exact A _ _ s _ b (G.write m λj e d h z=>by have Z:p=3+j:=h;exact((lin [p,j] 0x1294a5372840680b9420340580881300d01) y d h Z).elim) rfl rfl rfl l v.tail.tail f
theorem Δ(G:bN st gh)(y:p<7)(b:Int.fmod q 7=.ofNat p)(l:LF (eU kd i n q) F)(w:aR fl (wA (Lb st)) 255 H)(A:kW st (eU kd i n q) fl k):VB (eT call) (ar fl v0 F) H k ke:=by
 have S:∀p,p<7->sub H (.str 0x777a7978636261) (.int<|.ofNat p)=some (.str<|kN p):=λp y=>by refine c7 (j:=p) ‹_› ?_ ?_ ?_ ?_ ?_ ?_ ?_<;>kernel_rfl
 refine qZ (jG cz (fF (dG<|l.at<|.head _) cz (by rw[b.symm];rfl) λz=>rfl)<|S p y) ?_;rw[o7 rfl];have u:=l.add (x:=gF) (a:=.str<|kN p) rfl rfl;refine vV (MZ y u w) ?_;cases hv:st.fv p with
 |none=>exact A st gh fl _ H G rfl rfl rfl w u.tail<|hJ.refl _
 |some v=>
  refine MX u.tail w ?_;have t:=tick w;obtain⟨_,N,_⟩:=G.f p v hv;have o:=t.cell 11 (.list [.int (dq st).ck]) (by kernel_rfl);have X:=u.at (fl:=fl)<|.tail _ zX;have s:=u.at (fl:=fl)<|.head _;have g:=jG (e:=eT call) (dG X) (dG s)<|ti (zW t)<|π (fl:=fl) y hv;have m:=υ t y hv;refine MY (st:=dq st) (p:=p) (c:=v.c) y u t (iG (jG (dG<|u.at (fl:=fl)<|.tail _ Fj) cz<|ti o rfl)<|iG (jG g cz<|ti m rfl)<|iG (jG g cz<|ti m rfl) Fg) λr P d Z=>?_
  .exact A _ _ r _ P (G.write N λj e R h Q=>G.et j e v R Q<|by rw[h.symm];exact hv) rfl rfl rfl d u.tail Z
theorem M1(G:bN st gh)(z:p<7)(x:LF ((gF,.str (kN p))::eU kd i n q) F)(y:aR fl (wA (Lb st)) 255 H)(A:kW st (eU kd i n q) fl k):Vc (eT call) (ar fl v0 F) H k ke:=by
 refine vV (MZ z x y) ?_;cases hv:st.fv p with
 |none=>exact A st gh fl _ H G rfl rfl rfl y x.tail<|hJ.refl _
 |some v=>refine δ (dG<|x.at<|.tail _ zX) (dG<|x.at<|.head _) (ε (zW y)<|χ z hv) ?_;exact A _ gh fl _ _ G.gone rfl rfl rfl (Z' z y) x.tail<|hJ.refl _
theorem Θ(G:bN st gh)(x:j<4)(v:Int.fmod q 4=.ofNat j)(w:LF (eU kd i n q) F)(y:aR fl (wA (Lb st)) 255 H)(A:kW st (eU kd i n q) fl k):VD (eT call) (ar fl v0 F) H k ke:=by
 have u:∀j,j<4->sub H (.str aB0) (.int<|.ofNat j)=some (.str<|kN<|Nat.add 3 j):=λj x=>by refine c4 (j:=j) ‹_› ?_ ?_ ?_ ?_<;>kernel_rfl
 refine qZ (jG cz (fF (c:=.ofNat j) (dG<|w.at (fl:=fl)<|.head _) cz (by rw[v.symm];rfl) λz=>rfl)<|u j x) ?_;rw[o7 rfl];exact M1 G (by exact(lin [j] 0x12603a141034301101) x) (w.add rfl rfl) y A
end
section
variable {R:Type}
def Ξ:XS R:=aA (kr lH) (bf (ah (.glo 826)) (Xq .Mod 4))
def Φ:XS R:=aA (kr lI) (bQ .Add (ah (.int 1)) (bQ .Mod (Xq .FloorDiv 4) (ah (.int 3))))
def M2:XE R:=iS (bf (bT lH) (aa 106)) (aQ 106) (bB (ah (.bi .range)) (ao (ah (.int 2)) az) aC) (dQ (aO (a8 .Eq (bQ .Mod (bQ .RShift (bT lI) (aa 106)) (ah (.int 2))) (ah (.int 1)))) d4) [lI,lH]
def vX(x:XE R):XS R:=aA (dC (aa fO) x) M2
def M3:XS R:=ac (vX (Xq .Mod 4)) ak
theorem Ψ(h:x e f=y e f):ac (vX x) ak e f=ac (vX y) ak e f:=by
 funext H k ke;show M2 e f H (λv h=>aa fO e f h (λo h=>x e f h (λi h=>ad (rQ h o i v) e.stop λh=>d5 ak e k ke .nxt f h) ke) ke) ke=_;rw[h];rfl
theorem M4(w:ae f.loc 113=some (.int q))(x:mB y q n=some c)(ho:∀r,mE y e q r=r):Xq y n e f=ah (.int c) e f:=by
 funext H k ke;show ad (ae f.loc 113) e.stop (λa=>Bu y e H k a<|.int n)=_;rw[w];show ad (mB y q n) e.stop (λz=>mE y e q<|k (.int z) H)=_;rw[x];show mE y e q _=_;rw[ho];rfl
end
abbrev q4:EV Prop:=mU bo 60 13
def VE:XS Prop:=ac Ξ (ac Φ (bF bo λz=>M3))
def tj(j:Nat):Nat:=cJ 25185 25442 31096 31329 j
def ik(z:AV)(i n q:Int):iJ:=(yd,.int q)::(oz,.int i)::(qq,.int n)::[(jZ,.ref 1),(dw,.ref 3),(jr,.ref 11),(jY,.ref 12),(lD,z),(jq,.ref 35),(fO,.ref 37),(lE,.ref 42)]
def o8(j:Nat)(a:AV):AO:=.list (cJ [a,.ref 39,.ref 40,.ref 41] [.ref 38,a,.ref 40,.ref 41] [.ref 38,.ref 39,a,.ref 41] [.ref 38,.ref 39,.ref 40,a] j)
def vY(j m:Nat):ld:=[(47,.cell (some (.str (tj j)))),(48,.cell (some (.int (.ofNat (Nat.add 1 m)))))]
def M5(z:AV)(i n q:Int)(j m:Nat):Prop:=ac (vX (ah (.int (.ofNat j)))) ak q4 ⟨ik z i n q,fX⟩ (bM (ax [(37,o8 j (.ref (Nat.add 38 j)))] (vY j m))) (ib fX (ik z i n q) [] (vY j m) [(37,o8 j (.ref 256)),(256,.list (cf j m))]) ia
def Ω(z:AV)(i n q:Int)(j m:Nat):Prop:=iC fX (ik z i n q) [] (vY j m) [(37,o8 j (.ref 256)),(256,.list (cf j m))]
theorem aa3:∀z i n q,(eM λj=>gJ λm=>M5 z i n q j m)=(eM λj=>gJ λm=>Ω z i n q j m):=by intro z i n q;kernel_rfl
def tl(st:aH)(j m:Nat):aH:={ st with ms:=a9 st.ms j m }
theorem aa4{st:aH}:(tl st j m).ms j=m:=fc
theorem bN.reads{st:aH}(G:bN st x){j m:Nat}(z:m<3):bN (tl st j m) x:=
 ⟨G.f,G.em,G.es,G.eu,G.et,λi y=>by
  by_cases q:i=j
  .subst q;rw[aa4];exact z
  .rw[show(tl st j m).ms i=st.ms i from ff q];exact G.m i y⟩
section
variable {fl:Nat->Nat}{st:aH}{H:AH}
theorem aa5(y:aR fl (wA (Lb st)) 255 H):aR fl (wA (Lb { st with rw:=some a })) 255 (H.set (fl 47) (.cell (some (.str a)))):=by
 refine(y.put (o:=.cell<|some<|.str a) (by decide) λj v=>by cases v).less λi o e=>?_;rw[show Lb { st with rw:=some a }=hG [(47,.cell<|some<|.str a)] [] (Lb st) from by kernel_rfl] at e;rcases vS e with h|⟨h,e⟩
 .clear e;refine eW (bA h) ?_;exact aw rfl
 .rw[aq λz=>by rw[z] at h;cases h];exact e
theorem aa6(y:aR fl (wA (Lb st)) 255 H):aR fl (wA (Lb { st with mq:=some a })) 255 (H.set (fl 48) (.cell (some (.int (.ofNat a))))):=by
 refine(y.put (o:=.cell<|some<|.int<|.ofNat a) (by decide) λj v=>by cases v).less λi o e=>?_;rw[show Lb { st with mq:=some a }=hG [(48,.cell<|some<|.int<|.ofNat a)] [] (Lb st) from by kernel_rfl] at e;rcases vS e with h|⟨h,e⟩
 .clear e;refine eW (bA h) ?_;exact aw rfl
 .rw[aq λz=>by rw[z] at h;cases h];exact e
end
theorem M6(z:fB a=true)(y:bh (λj=>Nat.blt j 254) a=true):av (gD p N) va a=a:=by
 cases a with
 |ref j=>exact aT AV.ref<|dc<|Nat.le_of_ble_eq_true y
 |atm _ _=>cases z
 |gla _=>cases z
 |_=>rfl
theorem aa7:aV (λp:Nat×AV=>J (fB p.2) (bh (λj=>Nat.blt j 254) p.2) false) (ik (aX kd) i n q)=true:=by cases kd<;>rfl
theorem M7(u:LF (eU kd i n q) F):∀x a,ae (ik (aX kd) i n q) x=some a->∃y,ae F.loc x=some y/\cW y (av (gD 254 255) va a):=λx a e=>by
 have m:=bA e;refine bx (bq aa7 _ m) λv w=>?_;exact⟨a,u.loc _ m,by rw[M6 v w];exact λz z z r=>r⟩
theorem M8(z:LF W F):∀x i,ae fX x=some i->ae F.cel x=some (gD 254 255 i):=λx i e=>by
 rw[z.cel,e];refine gQ ((bA e)) rfl λh=>?_
 .refine eW h ?_;rfl
def zY(kd:Bool)(i n q:Int):aK:=⟨ik (aX kd) i n q,fX⟩
theorem M9:ar (gD 254 255) va ⟨ax (ik (aX kd) i n q) [],fX⟩=zY kd i n q:=by cases kd<;>rfl
theorem M_:LF (eU kd i n q) (zY kd i n q):=by
 refine⟨λp z=>?_,rfl,by cases kd<;>rfl⟩;refine bk z rfl λz=>?_;refine bk z rfl λz=>?_;refine bk z rfl λz=>?_;refine bk z rfl λz=>?_;refine bk z rfl λz=>?_;refine bk z rfl λz=>?_;refine bk z rfl λz=>?_;refine bk z rfl λz=>?_;refine bk z rfl λz=>?_;refine bk z rfl λz=>?_
 .refine dJ z ?_;rfl
section
variable {call:tY2}{ke:KE Prop}{k:KS Prop}
variable {fl:Nat->Nat}{st:aH}{H:AH}{gh:Int->Nat}{kd:Bool}{i n q:Int}{F:aK}
theorem Na(h:cX (λp:Prop=>p) q4 (s Prop) False f H k):bF bo s (eT call) f H k ke:=.inr ⟨rfl,.inr h⟩
theorem Fk(h:Int.fmod q 4=.ofNat j):mB .Mod q 4=some (.ofNat j):=by rw[h.symm];rfl
theorem aa8(Q:j<4)(g:m<3)(X:st.rw=some (tj j))(s:st.mq=some (Nat.add 1 m))(b:Int.fmod q 4=.ofNat j)(l:LF (eU kd i n q) F)(u:aR fl (wA (Lb st)) 255 H)(v:∀t o,aR t (wA (Lb (tl st j m))) 255 o->(∀i,i<255->i≠38+j->t i=fl i)->k .nxt (ar t v0 (zY kd i n q)) o):cX (λp:Prop=>p) q4 M3 False (ar fl v0 F) H k:=by
 have run:=hB (jA (p:=λj=>gJ λm=>M5 (aX kd) i n q j m) (by rw[aa3];exact qK λz=>jB λz=>iD) Q) g;refine oC (ph:=false) (Cs:=bM []) (va:=v0) (S:=vY j m) (O:=[(37,o8 j<|.ref<|Nat.add 38 j)]) (V:=ik (aX kd) i n q) (fs:=⟨ik (aX kd) i n q,fX⟩) (mv:=[(Nat.add 38 j,256)]) (r2:=.nxt) (fs2:=⟨[],fX⟩) (B2:=[(37,o8 j<|.ref<|Nat.add 38 j),(Nat.add 38 j,.list<|cf j m)]) (dr:=[]) (L2:=Lb<|tl st j m) u (p:=254) (by decide) (by decide) (λz x y e=>by delta v0 at e;omega) (λp w=>?_) (M7 l) (M8 l) (c:=ib fX (ik (aX kd) i n q) [] (vY j m) [(37,o8 j<|.ref 256),(256,.list<|cf j m)]) ?_
  (λr d P h=>ju (W:=[]) (D:=[(37,o8 j<|.ref 256),(256,.list<|cf j m)]) ?_ (λp w=>by cases w) (λp w=>?_) h) ?_ (λh=>by cases h) qS (λh=>by cases h) ?_ λt o Z a=>?_
 .refine bk (w) ?_ λw=>?_
  .refine⟨by show 37<254;decide,?_⟩;refine c4 (j:=j) ‹_› ?_ ?_ ?_ ?_<;>kernel_rfl
  refine bk w ?_ λw=>?_
  .refine⟨by show 47<254;decide,?_⟩;show some (AO.cell<|st.rw.map AV.str)=_;rw[X];rfl
  .refine dJ w ?_;refine⟨by show 48<254;decide,?_⟩;show some (AO.cell<|st.mq.map λm=>AV.int<|.ofNat m)=_;rw[s];rfl
 .show ac (vX<|Xq .Mod 4) ak q4 _ _ _ _;rw[Ψ<|M4 (q:=q) (c:=.ofNat j) rfl (Fk b) λz=>rfl];exact run
 .refine c4 (j:=j) ‹_› ?_ ?_ ?_ ?_<;>kernel_rfl
 .refine bk w ?_ λw=>?_
  .refine⟨o8 j<|.ref 256,?_,λf va=>?_⟩
   .refine c4 (j:=j) ‹_› ?_ ?_ ?_ ?_<;>exact .head _
   .refine c4 (j:=j) ‹_› ?_ ?_ ?_ ?_<;>exact cv.refl _
  .refine dJ w ?_;refine⟨.list<|cf j m,?_,λf va=>?_⟩
   .refine c4 (j:=j) ‹_› ?_ ?_ ?_ ?_<;>exact .tail _<|.head _
   .clear g s v run h;rcases m with _|_|m<;>exact cv.refl _
 .clear v run l u;cases kd<;>(refine c4 (j:=j) ‹_› ?_ ?_ ?_ ?_<;>(refine c3 (j:=m) ‹_› ?_ ?_ ?_<;>kernel_rfl))
 .refine c4 (j:=j) ‹_› ?_ ?_ ?_ ?_<;>(refine c3 (j:=m) ‹_› ?_ ?_ ?_<;>kernel_rfl)
 .rw[M9];exact v t o Z λi R h=>a i R (by rw[b3,aq λe=>h e.symm];rfl)
def stK(st:aH)(a m:Nat):aH:={ { st with rw:=some a } with mq:=some m }
theorem bN.stK(G:bN st gh)(a m):bN (stK st a m) gh:=⟨G.f,G.em,G.es,G.eu,G.et,G.m⟩
theorem v_e(G:bN st gh)(t:j<4)(h:m<3)(o:Int.fmod q 4=.ofNat j)(p:Int.fmod (Int.fdiv q 4) 3=.ofNat m)(u:LF (eU kd i n q) F)(y:aR fl (wA (Lb st)) 255 H)(A:kW st (eU kd i n q) fl k):VE (eT call) (ar fl v0 F) H k ke:=by
 have Z:∀j,j<4->sub H (.glo 826) (.int<|.ofNat j)=some (.str<|tj j):=λj t=>by refine c4 (j:=j) ‹_› ?_ ?_ ?_ ?_<;>kernel_rfl
 have r:∀m:Nat,mB .Add 1 (.ofNat m)=some (.ofNat<|Nat.add 1 m):=λm=>aT some rfl;have l:=u.at (fl:=fl)<|.head _;refine MQ (jG cz (fF (dG l) cz (Fk o) λz=>rfl)<|Z j t) u.row (y.cell 47 (.cell<|st.rw.map AV.str)<|by kernel_rfl) ?_;have g:=aa5 (a:=tj j) y;refine MQ (v:=.int<|.ofNat<|Nat.add 1 m) (w:=(st.mq.map λm=>AV.int<|.ofNat m).map<|av fl v0) (fF cz (fF (c:=.ofNat m) (fF (c:=Int.fdiv q 4) (dG l) cz rfl λz=>rfl) cz (by rw[p.symm];rfl) λz=>rfl) (r m) λz=>rfl) u.msk (g.cell 48 (.cell<|st.mq.map λm=>AV.int<|.ofNat m)<|by kernel_rfl) ?_;have b:=aa6 (a:=Nat.add 1 m) g;refine Na<|aa8 (st:=stK st (tj j)<|Nat.add 1 m) t h rfl rfl o u b λs X d e=>?_;refine A (tl (stK st (tj j)<|Nat.add 1 m) j m) gh s _ X ((G.stK _ _).reads h) rfl rfl rfl d M_ λx f=>?_;have Y:=lR f;simp at Y;exact e x ((lin [x] aW0) Y)<|(lin [j,x] 0x2527b9412640a318c6318c62e31409c608138bd02715204e25409c4681383102705a04e03409c0281301101) t Y
end
section
variable {R:Type}
def V6a(x:XE R):XS R:=bZ (bb (bB (ah (.glo 363)) (ao (aa jY) (ao (aa jq) az)) aC) 0x737365636375735f65766f6d6572 9 bP (ao (bB (ah (.glo 569)) (ao (bf (ah (.glo 825)) x) (ao (ah .none) az)) aC) az) aC)
def V6b(x:XE R):XS R:=aA (dC (aa lE) x) (ah .none)
def V6(x:XE R):XS R:=ac (V6a x) (ac (V6b x) ak)
def VF:XS R:=V6 (Xq .Mod 4)
theorem aa9(h:x e f=y e f):bf p x e f=bf p y e f:=by
 funext H k ke;show p e f H (λo h=>x e f h (λi h=>ad (sub h o i) e.stop λw=>k w h) ke) ke=_;rw[h];rfl
theorem Nc(h:x e f=y e f):ao x r e f=ao y r e f:=by
 funext H k ke;show x e f H (λv h=>r e f h (λvs h=>k (v::vs) h) ke) ke=_;rw[h];rfl
theorem ab0(h:x e f=y e f):bB g x kw e f=bB g y kw e f:=by
 funext H k ke;show g e f H (λg h=>x e f h (λz h=>kw e f h (λkw h=>w9 e g z kw h k ke) ke) ke) ke=_;rw[h];rfl
theorem ab1(h:x e f=y e f):bb o n kd bm x kw e f=bb o n kd bm y kw e f:=by
 have u:∀v H k ke m,t5 kd bm x kw e f v H k ke m=t5 kd bm y kw e f v H k ke m:=λv H k ke m=>by
  cases m with|fn g w=>show x e f H (λz h=>kw e f h (λkw h=>w8 e g (ax w z) kw h k ke) ke) ke=_;rw[h];rfl|bm j=>show J (Nat.beq j kd) (x e f H (λz h=>kw e f h (λkw h=>GT kd bm e v k z kw h) ke) ke) e.stop=_;rw[h];rfl
 funext H k ke;show o e f H (λv h=>ad (xb h n v) e.stop<|t5 kd bm x kw e f v h k ke) ke=o e f H (λv h=>ad (xb h n v) e.stop<|t5 kd bm y kw e f v h k ke) ke
 congr 1
 funext v h
 congr 1
 funext m;exact u _ _ _ _ m
theorem ab2(h:x e f=y e f):V6 x e f=V6 y e f:=by
 funext H k ke;have w:=ab1 (o:=bB (ah<|.glo 363) (ao (aa jY)<|ao (aa jq) az) aC) (n:=0x737365636375735f65766f6d6572) (kd:=9) (bm:=bP) (kw:=aC)<|Nc (r:=az)<|ab0 (g:=ah<|.glo 569) (kw:=aC)<|Nc (r:=ao (ah .none) az)<|aa9 (p:=ah<|.glo 825) h;show(bb _ _ _ _ (ao (bB _ (ao (bf (ah<|.glo 825) x) _) _) _) _) e f H (λz h=>(aa lE) e f h (λo h=>x e f h (λi h=>ad (rQ h o i .none) e.stop λh=>d5 ak e k ke .nxt f h) ke) ke) ke=_;rw[w,h];rfl
end
def Fm(x:AV)(i n q:Int)(j:Nat)(e:Bool)(z:wg)(y:Nat->AV):Prop:=V6 (ah (.int (.ofNat j))) q4 ⟨ik x i n q,fX⟩ (bM (ax (yM j e z y) oK)) (ib fX (ik x i n q) [] oK (oP j z y)) ia
theorem ab3:∀w i n q y x,(eM λj=>ig λe=>Fm w i n q j e y x)=(eM λj=>ig λz=>iC fX (ik w i n q) [] oK (oP j y x)):=by intro w i n q y x;kernel_rfl
section
variable {call:tY2}{ke:KE Prop}{k:KS Prop}
variable {fl:Nat->Nat}{st:aH}{H:AH}{gh:Int->Nat}{kd:Bool}{i n q:Int}{F:aK}
theorem ab4(g:j<4)(f:Int.fmod q 4=.ofNat j)(d:LF (eU kd i n q) F)(t:aR fl (wA (Lb st)) 255 H)(v:∀s l,aR s (wA (Lb (fE st j))) 255 l->(∀i,i<255->s i=fl i)->k .nxt (ar s v0 (zY kd i n q)) l):cX (λp:Prop=>p) q4 VF False (ar fl v0 F) H k:=by
 have run:Fm (aX kd) i n q j (st.en j).isSome (a_ st) (bp st):=oU (jA (p:=λj=>ig λe=>Fm (aX kd) i n q j e (a_ st)<|bp st) (by rw[ab3];exact qK λz=>ze λz=>iD) g) _;refine oC (ph:=false) (Cs:=bM []) (va:=v0) (S:=oK) (O:=yM j (st.en j).isSome (a_ st)<|bp st) (V:=ik (aX kd) i n q) (fs:=⟨ik (aX kd) i n q,fX⟩) (mv:=[]) (r2:=.nxt) (fs2:=⟨[],fX⟩) (B2:=oP j (a_ st)<|bp st) (dr:=[Nat.add 15 j,Nat.add 19 j,Nat.add (Nat.add 23<|Nat.mul 2 j) 0,Nat.add (Nat.add 23<|Nat.mul 2 j) 1,Nat.add 43 j]) (L2:=Lb<|fE st j) t (p:=254) (by decide) (by decide) (λz x y e=>by delta v0 at e;omega) (λp u=>?_) (M7 d) (M8 d) (c:=ib fX (ik (aX kd) i n q) [] oK<|oP j (a_ st)<|bp st) ?_
  (λr a Q h=>ju (D:=oP j (a_ st)<|bp st) rfl (λp u=>by cases u) qL h) ?_ (λh=>by cases h) qS (λh=>by cases h) ?_ λs l X Z=>?_
 .have w:∀{o:AO}{i:Nat},(i=14\/i=42)->wB st (λz=>none) none none (bM []) i=some o->cq false (Lb st) (bM []) i=some o:=λ{o i}b h=>by
   rcases b with rfl|rfl
   .exact(show cq false (Lb st) (bM []) 14=wB st (λz=>none) none none (bM []) 14 from by kernel_rfl).trans h
   .exact(show cq false (Lb st) (bM []) 42=wB st (λz=>none) none none (bM []) 42 from by kernel_rfl).trans h
  refine bk (u) ?_ λu=>?_
  .refine⟨by show 14<254;decide,w (.inl rfl) (sR λk m=>sT ?_ k<|nk m).2⟩;delta a_;cases st.en j with|none=>rfl|some e=>show some (AV.ref<|gD 254 255<|Nat.add 15 j)=some (.ref<|Nat.add 15 j);rw[dc<|by show 15+j<254;exact(lin [j] aE0) g]
  refine bk u ?_ λu=>?_
  .exact⟨by show 42<254;decide,w (.inr rfl) (sS λk m=>lV m).2⟩
  refine bk (u) ?_ λu=>?_
  .exact⟨by show 12<254;decide,by kernel_rfl⟩
  .refine dJ u ?_;exact⟨by show 13<254;decide,by kernel_rfl⟩
 .show V6 (Xq .Mod 4) q4 _ _ _ _;rw[ab2<|M4 (q:=q) (c:=.ofNat j) rfl (Fk f) λz=>rfl];exact run
 .refine af rfl<|af ?_<|af rfl<|af rfl<|af rfl<|af ?_<|af ?_<|af ?_<|af rfl<|af ?_ rfl
  .clear d v run;cases kd<;>rfl
  .exact af (Eu rfl)<|af (zh rfl) da
  .exact dO λz z=>rfl
  .rfl
  .refine c4 (j:=j) ‹_› ?_ ?_ ?_ ?_<;>kernel_rfl
 .have e1:∀k,k<4->(a9 (a_ st) j none k).map (av (gD 254 255) v0)=a_ (fE st j) k:=λk m=>by
   by_cases q:k=j
   .clear g f v run;subst q;rw[fc];delta a_;rw[vC];rfl
   .rw[ff q,nk m];delta a_;rw[vD q]
  have e2:∀k,k<4->av (gD 254 255) v0 (a9 (bp st) j .none k)=bp (fE st j) k:=λk m=>by
   by_cases q:k=j
   .clear g f v run e1;subst q;rw[fc];delta bp;rw[vC];rfl
   .rw[ff q,lV m];delta bp;rw[vD q]
  rw[sU (B2r:=[(14,dM<|a_<|fE st j),(42,dp<|bp<|fE st j)]) (by show[(14,aG _ _ _),(42,aG _ _ _)]=_;rw[LA e1,LC e2])]
  refine c4 (j:=j) ‹_› ?_ ?_ ?_ ?_<;>kernel_rfl
 .rw[M9];exact v s l X λi b=>Z i b rfl
theorem ab5(G:bN st gh)(s:j<4)(t:Int.fmod q 4=.ofNat j)(o:LF (eU kd i n q) F)(y:aR fl (wA (Lb st)) 255 H)(A:kW st (eU kd i n q) fl k):bF bo (λz=>VF) (eT call) (ar fl v0 F) H k ke:=
 Na (ab4 s t o y λw u p v=>A (fE st j) gh w _ u (G.fail j) rfl rfl rfl p M_ λx r=>v x<|by have m:=lR r;simp at m;exact(lin [x] aW0) m)
end
def Vk{R:Type}(t:Int):XB R:=aO (a8 .Eq (aa uO) (ah (.int t)))
def zZ:XS Prop:=aY (aO (a8 .Lt (aa uO) (ah (.int 2)))) VA (ac (aY (Vk 2) VB (ac (aY (Vk 3) (ac Vc ak) (ac (aY (Vk 4) VD (ac (aY (Vk 5) VE (bF bo λz=>VF)) ak)) ak)) ak)) ak)
def l5{R:Type}(z y:XE R):XE R:=bB (ah (.glo 878)) (ao (aa dw) (ao (aa jY) (ao (aa jq) (ao (aa lD) (ao (aa fO) (ao (aa lE) (ao (aa jr) (ao z (ao y az))))))))) aC
def o9{R:Type}(x:XE R):XE R:=bf (ah (.glo 847)) x
theorem o_ a m:∃r,r<m+1/\Int.fmod a (.ofNat (m+1))=.ofNat r:=by
 have h:Int.fmod a (.ofNat<|m+1)=a % ((m+1:Nat):Int):=Int.fmod_eq_emod_of_nonneg a<|Int.natCast_nonneg _;refine⟨(a % ((m+1:Nat):Int)).toNat,?_,?_⟩
 .have:=Int.emod_lt_of_pos a (show 0<((m+1:Nat):Int) by omega);have:=Int.emod_nonneg a (show((m+1:Nat):Int)≠0 by omega);omega
 .rw[h];have:=Int.emod_nonneg a (show((m+1:Nat):Int)≠0 by omega);show _=((a % ((m+1:Nat):Int)).toNat:Int);omega
section
variable {call call2 call3:tY2}{ke:KE Prop}
variable {fl:Nat->Nat}{st:aH}{H:AH}{gh:Int->Nat}{i n q:Int}{F:aK}
theorem v_3(G:bN st gh)(Z:t<7)(z:p<3)(u:LF ((gF,.str (kN p))::(uO,.int (.ofNat t))::eU st.kd i n q) F)(y:aR fl (wA (Lb st)) 255 H)(A:kW st (eU st.kd i n q) fl k):zZ (eT call) (ar fl v0 F) H k ke:=by
 have o:=u.at (fl:=fl)<|.tail _<|.head _;have s:=u.tail.tail;refine vV (vU (dG o) cz rfl) ?_;have e2:∀(m:Int)(a b:XS Prop)(k:KS Prop),J (km (.ofNat t) m) (a (eT call) (ar fl v0 F) H k ke) (b (eT call) (ar fl v0 F) H k ke)->aY (Vk m) a b (eT call) (ar fl v0 F) H k ke:=λm a b k g=>vV (vU (dG o) cz rfl) g;obtain⟨c,d,v⟩:=o_ (Int.fdiv q 3) 3;obtain⟨S,h,r⟩:=o_ q 6;obtain⟨j,f,w⟩:=o_ q 3;obtain⟨m,X,e⟩:=o_ (Int.fdiv q 4) 2;have l:LF ((gF,.str<|kN p)::eU st.kd i n q) F:=u.sub λx hx=>by exact bk hx (.head _) λhx=>(.tail _<|.tail _ hx)
 clear u o;rcases t with _|_|_|_|_|_|_|t
 .exact M0 G z d v l y A
 .exact M0 G z d v l y A
 .exact e2 2 _ _ _<|Δ G h r s y A
 .exact e2 2 _ _ _<|e2 3 _ _ _<|M1 G ((lin [p] 0x4980e80b00d01) z) l y A
 .exact e2 2 _ _ _<|e2 3 _ _ _<|e2 4 _ _ _<|Θ G f w s y A
 .exact e2 2 _ _ _<|e2 3 _ _ _<|e2 4 _ _ _<|e2 5 _ _ _<|v_e G f X w e s y A
 .exact e2 2 _ _ _<|e2 3 _ _ _<|e2 4 _ _ _<|e2 5 _ _ _<|ab5 G f w s y A
 .exact((lin [t] 0x4a6c07428050a01428050a01428050a014280501) Z).elim
theorem Fn(X:kH=true)(Z:kI=true)(N:ka=true)(r:∀pos h(k:K Prop)(ke:KE Prop),enter (eS call3) j_ [] pos [] h k ke->call2 false 859 [] pos [] h k ke)(o:∀pos h(k:K Prop)(ke:KE Prop),enter (eL call2) l4 [] pos [] h k ke->call false 878 [] pos [] h k ke)(G:bN st gh)(Q:l<7)(P:s<4)(S:LF (jH st.kd) F)(w:aR fl (wA (Lb st)) 255 H)(e1:dF (eT call) (ar fl v0 F) H E (.glo (fR l)) H)(e2:dF (eT call) (ar fl v0 F) H e (.int (.ofNat s)) H)(z:∀v t u g,bN v t->zT st v->aR u (wA (Lb v)) 255 g->hJ fl u->k (.bool true) g):l5 E e (eT call) (ar fl v0 F) H k ke:=by
 have m:∀{x:Nat}{a:AV},(x,a)∈jH st.kd->dF (eT call) (ar fl v0 F) H (aa x) (av fl v0 a) H:=λh=>dG<|S.at h;have R:av fl v0 (aX st.kd)=aX st.kd:=by cases st.kd<;>rfl
 have a:=iG (m<|.tail _<|.head _)<|iG (m<|mT3<|.head _)<|iG (m<|mT5<|.head _)<|iG (m<|mT4<|.head _)<|iG (m<|mT6<|.head _)<|iG (m<|mT7<|.head _)<|iG (m<|mT2<|.head _)<|iG e1<|iG e2 Fg;rw[R] at a;show ao _ _ (eT call) _ H (λy h=>w9 (eT call) (.glo 878) y [] h k ke) ke;refine a _ _ ?_;refine o _ _ _ _<|W? X Z N r G Q P w λv t u g a b c d=>z v t u g a b c λj f=>?_;exact d j (uG (p:=λj=>j<50) f rfl) (uG (p:=λj=>j≠2) f rfl)<|uG (p:=λi=>i<4\/(11<=i/\i<15)\/(31<=i/\i<43)\/47<=i) f rfl
end
def i_:XS Prop:=ac V0 (ac V1 (ac V2 (ac zZ (ac V4 ak))))
theorem Fo:∀(l:List z)n,len (cu l n)<=n
 | [],_=>Nat.zero_le _
 |_::_,0=>Nat.zero_le _
 |_::l,n+1=>Nat.succ_le_succ<|Fo l n
theorem Nd:∀{l:List z}{i:Nat},gR l i=some v->i<len l
 | [],_,h=>by cases h
 |_::_,0,_=>Nat.succ_pos _
 |_::l,i+1,h=>Nat.succ_lt_succ<|Nd h
theorem Nf:∀{l:List z}{i:Nat},gR l i=some v->v∈l
 | [],_,h=>by cases h
 |x::_,0,h=>by
  injection h with h
  subst h;exact .head _
 |_::l,i+1,h=>.tail _<|Nf h
theorem z4{l:tY0}(h:∀a∈l,∃i,a=.int i):l.map (av g va)=l:=by
 induction l with|nil=>rfl|cons x l z=>obtain⟨i,rfl⟩:=h x<|.head _;rw[List.map_cons,z λa m=>h a<|.tail _ m];rfl
def fY(st:aH):tY0:=cu (st.xs.map AV.int) 8
theorem z5{st:aH}:∀a∈fY st,∃i,a=AV.int i:=λa m=>by
 refine jL (zc m) λi z e=>?_;exact⟨i,e.symm⟩
section
variable {call call2 call3:tY2}{ke:KE Prop}
variable {fl:Nat->Nat}{st:aH}{H:AH}{gh:Int->Nat}{n:Int}{i:Nat}{F:aK}
theorem Ng{st1:aH}(A:kW st W fl k)(r:st1.kd=st.kd)(t:st1.xs=st.xs)(p:st1.lp=st.lp)(h:hJ fl v):kW st1 W v k:=λx w y u q G a b c z o s=>
 A x w y u q G (a.trans r) (b.trans t) (c.trans p) z o (h.trans s)
theorem ab6(h1:kH=true)(h2:kI=true)(h6:ka=true)(e:∀pos h(k:K Prop)(ke:KE Prop),enter (eS call3) j_ [] pos [] h k ke->call2 false 859 [] pos [] h k ke)(R:∀pos h(k:K Prop)(ke:KE Prop),enter (eL call2) l4 [] pos [] h k ke->call false 878 [] pos [] h k ke)(G:bN st gh)(hF:LF ((qq,.int n)::(oz,.int (.ofNat i))::jH st.kd) F)(w:aR fl (wA (Lb st)) 255 H)(A:kW st (jH st.kd) fl k):i_ (eT call) (ar fl v0 F) H k ke:=by
 have hn:=hF.at (fl:=fl)<|.head _;have hi:=hF.at (fl:=fl)<|.tail _<|.head _;refine qZ (fF (fF (dG hn) cz rfl λz=>rfl) (dG hi) rfl λz=>rfl) ?_;rw[o7 rfl];generalize Int.add (Int.fdiv n 7) (.ofNat i)=q;have f:=hF.add (x:=yd) (a:=.int q) rfl rfl;generalize(⟨bL F.loc yd<|.int q,F.cel⟩:aK)=F1 at f ⊢;obtain⟨t,ht,ht2⟩:=o_ (Int.add n<|.ofNat i) 6;show V1 (eT call) (ar fl v0 F1) H (d5 _ (eT call) k ke) ke;refine qZ (fF (c:=.ofNat t) (fF (c:=Int.add n<|.ofNat i) (dG<|f.at (fl:=fl)<|.tail _<|.head _) (dG<|f.at (fl:=fl)<|mT2<|.head _) rfl λz=>rfl) cz (by rw[ht2.symm];rfl) λz=>rfl) ?_;rw[o7 rfl];have d:=f.add (x:=uO) (a:=.int<|.ofNat t) rfl rfl;generalize(⟨bL F1.loc uO<|.int<|.ofNat t,F1.cel⟩:aK)=E at d ⊢;obtain⟨p,y,hp2⟩:=o_ q 2;have hs:∀p,p<3->Internal.sub H (.str 6513249) (.int<|.ofNat p)=some (.str<|kN p):=λp y=>by refine c3 (j:=p) ‹_› ?_ ?_ ?_<;>kernel_rfl
 show V2 (eT call) (ar fl v0 E) H (d5 _ (eT call) k ke) ke;refine qZ (jG cz (fF (c:=.ofNat p) (dG<|d.at (fl:=fl)<|.tail _<|.head _) cz (by rw[hp2.symm];rfl) λz=>rfl)<|hs p y) ?_;rw[o7 rfl];have X:=d.add (x:=gF) (a:=.str<|kN p) rfl rfl;generalize(⟨bL E.loc gF<|.str<|kN p,E.cel⟩:aK)=F3 at X ⊢;show zZ (eT call) (ar fl v0 F3) H (d5 (ac V4 ak) (eT call) k ke) ke;refine v_3 (i:=.ofNat i) (n:=n) (q:=q) G ht y (X.sub λx hx=>?_) w λst1 gh1 u g Q G1 a1 a2 a3 U1 m hK1=>?_
 .refine bk hx (.head _) λhx=>?_;refine bk hx (.tail _<|.head _) λhx=>?_;refine bk hx (mT2<|.head _) λhx=>?_;refine bk hx (mT4<|.head _) λhx=>?_;exact bk hx (mT3<|.head _) λhx=>(mT4<|.tail _ hx)
 have A1:=Ng A a1 a2 a3 hK1;have hK4:LF (jH st1.kd) g:=by rw[a1];exact m.tail.tail.tail
 have Z:LF (jH st.kd) g:=m.tail.tail.tail;have hq4:=m.at (fl:=u)<|.head _;have hi4:=m.at (fl:=u)<|.tail _<|.head _;have P:=m.at (fl:=u)<|mT2<|.head _;show aY (aO<|a8 .Eq (bQ .Mod (aa 105)<|ah<|.int 3)<|ah<|.int 2) (ac (aY (iu<|aO<|l5 (o9<|bQ .Mod (bQ .FloorDiv (aa 113)<|ah<|.int 2)<|ah<|.int 7)<|bQ .Mod (aa 110)<|ah<|.int 4) (ac bc ak) ak) ak) ak (eT call) (ar u v0 g) Q (d5 ak (eT call) k ke) ke;refine vV (vU (r:=km (Int.fmod (.ofNat i) 3) 2) (fF (c:=Int.fmod (.ofNat i) 3) (dG hi4) cz rfl λz=>rfl) cz rfl) ?_;cases km (Int.fmod (.ofNat i) 3) 2 with
 |false=>exact A1 st1 gh1 u g Q G1 rfl rfl rfl U1 Z<|hJ.refl _
 |true=>
  obtain⟨l,hl,C⟩:=o_ (Int.fdiv q 2) 6;obtain⟨s,hs4,hs2⟩:=o_ n 3;have hg:∀l,l<7->Internal.sub Q (.glo 847) (.int<|.ofNat l)=some (.glo<|fR l):=λl hl=>by refine c7 (j:=l) ‹_› ?_ ?_ ?_ ?_ ?_ ?_ ?_<;>kernel_rfl
  show l5 _ _ (eT call) (ar u v0 g) Q (λv h=>ad (nN h v) False λb=>J (!b) ((ac bc ak) (eT call) (ar u v0 g) h (d5 ak (eT call) (d5 ak (eT call) k ke) ke) ke)<|ak (eT call) (ar u v0 g) h (d5 ak (eT call) (d5 ak (eT call) k ke) ke) ke) ke;refine Fn h1 h2 h6 e R G1 hl hs4 hK4 U1 (jG cz (fF (c:=.ofNat l) (fF (c:=Int.fdiv q 2) (dG hq4) cz rfl λz=>rfl) cz (by rw[C.symm];rfl) λz=>rfl)<|hg l hl) (fF (c:=.ofNat s) (dG P) cz (by rw[hs2.symm];rfl) λz=>rfl) λst2 gh2 N H2 G2 S2 U2 S=>?_;show k .nxt (ar u v0 g) H2;rw[m.move S];exact A1 st2 gh2 N g H2 G2 S2.kd S2.o.1 S2.o.2.2.2 U2 Z S
theorem Nh(f:kH=true)(l:kI=true)(c:ka=true)(w:∀pos h(k:K Prop)(ke:KE Prop),enter (eS call3) j_ [] pos [] h k ke->call2 false 859 [] pos [] h k ke)(u:∀pos h(k:K Prop)(ke:KE Prop),enter (eL call2) l4 [] pos [] h k ke->call false 878 [] pos [] h k ke): ∀(m i:Nat){gh:Int->Nat}{st:aH}{fl:Nat->Nat}{F:aK}{H:AH},i<=8->9<=m+i->a=fl 49->st.lp=true->bN st gh->LF (jH st.kd) F->aR fl (wA (Lb st)) 255 H->kW st (jH st.kd) fl k->jd (eT call) kE i_ (.lst a) k m i (ar fl v0 F) H
 |0,i,_,_,_,_,_,o,r,_,_,_,_,_,_=>aP r<|((lin [i] 0x4a536a82008094342101) o r).elim
 |m+1,i,gh,st,fl,F,H,o,r,b,s,G,d,y,A=>by
  have S:H.get a=some (.list<|fY st):=by
   rw[b];have Y:=y.cell 49 (.list<|fY st) (by show J st.lp (some<|AO.list<|fY st) none=_;rw[s])
   rw[Y];show some (AO.list<|(fY st).map _)=_;rw[z4 z5]
  show ad (ad (eA H a) none λxs=>some<|gR xs i) False _;have q:eA H a=some (fY st):=by delta eA;rw[S]
  rw[q];show ad (gR (fY st) i) (k .nxt (ar fl v0 F) H) _;cases hx:gR (fY st) i with
  |none=>exact A st gh fl F H G rfl rfl rfl y d<|hJ.refl _
  |some v=>
   obtain⟨n,rfl⟩:=z5 v<|Nf hx;have p:=Nat.lt_of_lt_of_le (Nd hx)<|Fo _ _;show i_ (eT call) ⟨bL (bL (ar fl v0 F).loc oz<|.int<|.ofNat i) qq<|.int n,(ar fl v0 F).cel⟩ H (kt (jd (eT call) kE i_ (.lst a) k m<|Nat.succ i) k) (eB<|eT call);have e:(⟨bL (bL (ar fl v0 F).loc oz<|.int<|.ofNat i) qq<|.int n,(ar fl v0 F).cel⟩)=ar fl v0 ⟨bL (bL F.loc oz<|.int<|.ofNat i) qq<|.int n,F.cel⟩:=by have e1:=o7 (fl:=fl) (F:=F) (x:=oz) (a:=.int<|.ofNat i) rfl;have e2:=o7 (fl:=fl) (F:=⟨bL F.loc oz<|.int<|.ofNat i,F.cel⟩) (x:=qq) (a:=.int n) rfl;rw[e2.symm,<-e1]
   rw[e];refine ab6 f l c w u G ((d.add rfl rfl).add rfl rfl) y λR Q P N E Z z b2 j X t g=>?_;rw[z.symm] at t;refine Nh f l c w u m (Nat.succ i) ((lin [i] 0x12934210a0140581080b42101) o p) ((lin [m,i] 0x49aa500a0410943542500a02128) r) (by rw[g 49 rfl];exact b) (j.trans s) Z t X ?_;have Y:=Ng A z b2 j g;rw[z];exact Y
end
section
variable {call call2 call3:tY2}{ke:KE Prop}
variable {fl:Nat->Nat}{st:aH}{H:AH}{gh:Int->Nat}{F:aK}
def Fp(st:aH):aH:={ st with lp:=true }
theorem ab7(y:aR fl (wA (Lb st)) 255 H):∃x,aR x (wA (Lb (Fp st))) 255 (H.new (.list (fY st)))/\(∀i,i<255->i≠49->x i=fl i)/\x 49=H.n:=by
 obtain⟨x,w,e1,e2⟩:=y.name (c:=49) (oc:=.list<|fY st) (by decide) (λi o e=>vR qS (by decide) rfl e) (λj v=>by obtain⟨i,e⟩:=z5 _ v;cases e)
 have e:aG fl v0 (.list<|fY st)=.list (fY st):=aT AO.list<|z4 z5;rw[e] at w;refine⟨x,w.less λi o e=>?_,e1,e2⟩;rw[show Lb (Fp st)=hG [(49,.list<|fY st)] [] (Lb st) from by kernel_rfl] at e;rcases vS e with h|⟨h,e⟩
 .refine eW (bA h) ?_;exact aw rfl
 .rw[aq λz=>by rw[z] at h;cases h];exact e
theorem Ni{xs:List Int}(y:ae f.loc jZ=some (.ref a))(z:H.get a=some (.frz (xs.map AV.int))):dF (eT call) f H jX (.ref H.n) (H.new (.list (cu (xs.map AV.int) 8))):=λk ke g=>by
 have x:tV H (.ref a)=some (xs.map AV.int):=by show ad (H.get a) none _=_;rw[z]
 show ad (ae f.loc jZ) False λo=>ad (tV H o) False λxs=>J (Nat.ble (len<|cu xs 8) 1000) (k (.ref H.n)<|H.new<|.list<|cu xs 8) False;rw[y];show ad (tV H<|.ref a) False λxs=>J (Nat.ble (len<|cu xs 8) 1000) (k (.ref H.n)<|H.new<|.list<|cu xs 8) False;rw[x];show J (Nat.ble (len<|cu (xs.map AV.int) 8) 1000) (k (.ref H.n)<|H.new<|.list<|cu (xs.map AV.int) 8) False;rw[show Nat.ble (len<|cu (xs.map AV.int) 8) 1000=true from Nat.ble_eq_true_of_le (Nat.le_trans (Fo _ _)<|by decide)];exact g
theorem Nj{xs:List Int}:aG fl v0 (.frz (xs.map AV.int))=.frz (xs.map AV.int):=aT AO.frz (z4 λa m=>by obtain⟨i,_,e⟩:=List.mem_map.mp m;exact⟨i,e.symm⟩)
theorem ab8(h1:kH=true)(Q:kI=true)(h6:ka=true)(t:∀pos h(k:K Prop)(ke:KE Prop),enter (eS call3) j_ [] pos [] h k ke->call2 false 859 [] pos [] h k ke)(r:∀pos h(k:K Prop)(ke:KE Prop),enter (eL call2) l4 [] pos [] h k ke->call false 878 [] pos [] h k ke)(G:bN st gh)(X:LF (jH st.kd) F)(w:aR fl (wA (Lb st)) 255 H)(y:∀st' Z f' H',aR Z (wA (Lb st')) 255 H'->Z 1=fl 1->k (.ret (.bool true)) f' H'):(ac (ku kE jX i_) (ac W8 ak)) (eT call) (ar fl v0 F) H k ke:=by
 obtain⟨fl1,U1,e1,e2⟩:=ab7 w;show jX (eT call) (ar fl v0 F) H (λv h=>J false False<|ad (gx h v) False λz=>ad (mC h v) False λsrc=>jd (eT call) kE i_ src (d5 (ac W8 ak) (eT call) k ke) 60 0 (ar fl v0 F) h) ke;have g:=w.cell 1 (.frz<|st.xs.map AV.int) (by kernel_rfl);rw[Nj] at g;refine Ni (X.at<|.head _) g _ _ ?_;have hg:(H.new<|.list<|fY st).get H.n=some (.list<|fY st):=by rw[AH.get_new,aw rfl]
 show ad (eA (H.new<|.list<|fY st) H.n) False _;have hla:eA (H.new<|.list<|fY st) H.n=some (fY st):=by delta eA;rw[hg]
 rw[hla];show ad (ad ((H.new<|.list<|fY st).get H.n) none<|rN (.ref H.n) H.n) False _;rw[hg];show jd (eT call) kE i_ (.lst H.n) (d5 (ac W8 ak) (eT call) k ke) 60 0 (ar fl v0 F) (H.new<|.list<|fY st);have E:ar fl v0 F=ar fl1 v0 F:=by
  refine vQ (P:=λj=>a5 [1,3,11,12,35,37,42,47,48] j) (λj S=>?_) (dO λq hq=>?_) ?_
  .have S:a5 [1,3,11,12,35,37,42,47,48] j=true:=S;exact(e1 j (uG (p:=λj=>j<255) S rfl)<|uG (p:=λj=>j≠49) S rfl).symm
  .have Y:=bq X.low q hq;obtain⟨x,a⟩:=q;cases a with|ref j=>exact Dl (l:=[1,3,11,12,35,37,42]) (m:=[1,3,11,12,35,37,42,47,48]) Y rfl|_=>rfl
  .rw[X.cel];rfl
 rw[E];refine Nh h1 Q h6 t r 60 0 (by decide) (by decide) e2.symm (st:=Fp st) rfl ⟨G.f,G.em,G.es,G.eu,G.et,G.m⟩ X U1 λE0 gh3 u o H3 G3 a1 a2 a3 U3 e N=>?_;have i:LF (jH E0.kd) o:=by rw[a1];exact e
 show(t6 (l5 (o9<|ah<|.int 0)<|ah<|.int 1)<|l5 (o9<|ah<|.int 0)<|ah<|.int 2) (eT call) (ar u v0 o) H3 (λv h=>(d5 ak (eT call) k ke) (.ret v) (ar u v0 o) h) ke;have c:∀H,Internal.sub H (.glo 847) (.int 0)=some (.glo<|fR 0):=λH=>by kernel_rfl
 show l5 (o9<|ah<|.int 0) (ah<|.int 1) (eT call) (ar u v0 o) H3 (λv h=>ad (nN h v) False λb=>J b (l5 (o9<|ah<|.int 0) (ah<|.int 2) (eT call) (ar u v0 o) h (λv h=>k (.ret v) (ar u v0 o) h) ke)<|k (.ret v) (ar u v0 o) h) ke;refine Fn h1 Q h6 t r G3 (l:=0) (s:=1) (by decide) (by decide) i U3 (jG cz cz<|c _) cz λMD gh4 fl4 H4 G4 S4 U4 d=>?_;show l5 (o9<|ah<|.int 0) (ah<|.int 2) (eT call) (ar u v0 o) H4 (λv h=>k (.ret v) (ar u v0 o) h) ke;have hm:=e.move d;rw[show l5 (o9<|ah<|.int 0) (ah<|.int 2) (eT call) (ar u v0 o)=l5 (o9<|ah<|.int 0) (ah<|.int 2) (eT call) (ar fl4 v0 o) by rw[hm]];refine Fn h1 Q h6 t r G4 (l:=0) (s:=2) (by decide) (by decide) (by rw[S4.kd];exact i) U4 (jG cz cz<|c _) cz λR gh5 C H5 G5 S5 U5 A=>?_;exact y R C _ _ U5 (by rw[A 1 rfl,d 1 rfl,N 1 rfl,e1 1 (by decide)<|by decide])
end
theorem Nk{B B2:ld}(v:aR j (wA L) 255 H)(inj:∀k x y,va k x=va k y->x=y)(Q:bX (λq:Nat×AO=>wA L q.1) B=bX (λq=>some q.2) B)(f1:∀x a,ae fs.loc x=some a->∃l,ae F.loc x=some l/\cW l (av (gD 254 255) va a))(f2:∀x i,ae fs.cel x=some i->ae F.cel x=some (gD 254 255 i))(run:holds (g d fs (bM B) c λz z=>bad))(p:∀r f h,holds (c r f h)->i0 mv .nxt s B2 r f h=true)(m:iF mv s B B2 P=true)(R:h_ L=true)(low:aV (λq=>Nat.blt q.1 254) B=true)(b:L'=hG B2 P L)(w:∀u o,aR u (wA L') 255 o->(∀i,i<255->ae mv i=none->u i=j i)->k .nxt (ar u v0 (ar (gD 254 255) va s)) o):cX holds d g bad (ar j v0 F) H k:=by
 have t:=bq m;have Z:=t _<|.head _;have c2:=t _<|.tail _<|.head _;have c3:=t _<|mT2<|.head _;refine oC (ph:=false) (Cs:=bM []) v (by decide) (by decide) inj (λq hq=>?_) f1 f2 (c:=c) ?_ (λr e N h=>?_) c3 (λh=>by cases h) R (λh=>by cases h) ?_ λu o S n=>w u o S n
 .rcases ct.mp hq with hq|hq
  .refine⟨Nat.le_of_ble_eq_true<|bq low q hq,?_⟩;rw[EY Z q hq];exact vO Q q hq
  .cases hq
 .have Y:ax B ([]:ld)=B:=by rw[eX,List.append_nil]
  rw[Y];exact run
 .have X:=Dp<|p _ _ _ h;exact⟨X.ret,(λq hq=>by cases hq),X.loc,X.cel,(λq hq=>by cases hq),X.cell⟩
 .rw[b,MC c2]
def q6{R:Type}:XS R:=ac W0 (ac W1 (ac W2 ak))
def nz{R:Type}:XS R:=ac W4 (ac W5 (ac W6 ak))
abbrev vZ:EV Bool:=xZ bo 60 13
def fo0(k:Nat):Option AV:=J (Nat.blt k 3) (some (.ref (Nat.add 4 k))) none
def z6:aK:=⟨[(jZ,.ref 1)],fX⟩
def jI:aK:=⟨[(jZ,.ref 1),(dw,.ref 3),(jr,.ref 11),(jY,.ref 12)],fX⟩
def Nl:on:=[(3,255),(4,256),(5,257),(6,258),(11,259),(14,260),(13,261),(12,262)]
def tm:ld:=[(3,cG fo0),(4,.tup [.int 1,.int 2,.int 1]),(5,.tup [.int 2,.int 1,.int 2]),(6,.tup [.int 3,.int 2,.int 3]),(11,.list [.int 3]),(12,.inst 100 13),(13,.dict [(DC,.ref 14)]),(14,dM λz=>none)]
def pb(kd:Bool):aK:=⟨[(jZ,.ref 1),(dw,.ref 3),(jr,.ref 11),(jY,.ref 12),(lD,aX kd)],fX⟩
def kX(kd:Bool):aK:=⟨jH kd,fX⟩
def pc:on:=[(36,255),(35,256),(37,257),(38,258),(39,259),(40,260),(41,261),(42,263)]
def pd(kd:Bool):ld:=[(35,.inst (J kd 203 177) 36),(36,.dict [(dw,.ref 3)]),(37,.list [.ref 38,.ref 39,.ref 40,.ref 41]),(38,.list (cf 0 2)),(39,.list (cf 1 2)),(40,.list (cf 2 2)),(41,.list (cf 3 2)),(42,dp λz=>.none)]
theorem ab9:q6 vZ z6 (bM []) (i0 Nl .nxt jI tm) fQ=true:=by kernel_rfl
theorem ac0:(uR λkd=>nz vZ (pb kd) (bM []) (i0 pc .nxt (kX kd) (pd kd)) fQ)=true:=by kernel_rfl
theorem ac1:iF Nl jI [] tm [36,51,54]=true:=by kernel_rfl
theorem ac2:(uR λkd=>iF pc (kX kd) [] (pd kd) [52,54])=true:=by kernel_rfl
def Fq:List Nat:=[0,1,2,3,4,5,6,7,8,9,10,11,12,13,14,15,16,17,18,19,20,21,22,23,24,25,26,27,28,29,30,35,36,37,38,39,40,41,42,43,44,45,46,47,48,49]
def LI(C:ld):LL:=bX (λi=>(i,ae C i)) Fq
def kb(xs:List Int):ld:=[(0,.tab 478 8 none),(1,.frz (xs.map .int))]
def z7(xs:List Int):ld:=[(47,.cell none),(48,.cell none),(0,.tab 478 8 none),(1,.frz (xs.map .int))]
def fG(xs:List Int):Bool:=km (Int.fmod (mD (cu xs 8)) 2) 1
def st0(xs:List Int):aH:=⟨λk=>J (Nat.blt k 3) (some ⟨.ofNat (Nat.succ k),Nat.succ k⟩) none,λz=>none,3,λz=>2,fG xs,false,xs,none,none,false⟩
def z8:XS Prop:=ac (bF bo λz=>q6) (ac W3 (ac (bF bo λz=>nz) (ac (ku kE jX i_) (ac W8 ak))))
def v1:FI Prop:=⟨[jZ],[],[lH,lI],z8⟩
theorem ac3:bN (st0 xs) Int.toNat:=by
 refine⟨λk v e=>?_,(λz z h=>by cases h),(λz z z h=>by cases h),(λz z z z h=>by cases h),(λz z z z h=>by cases h),λz z=>by decide⟩;have e:J (Nat.blt k 3) (some (⟨.ofNat<|Nat.succ k,Nat.succ k⟩:FV)) none=some v:=e;cases q:Nat.blt k 3 with|false=>rw[q] at e;cases e|true=>have y:=Nat.le_of_ble_eq_true q;rw[q] at e;cases e;exact⟨Int.ofNat_le.mpr y,Nat.succ_lt_succ y,rfl⟩
theorem Fr(e:wA (LI C) i=some o):ae C i=some o:=by
 delta wA LI at e;rw[E_] at e;cases q:a5 Fq i with|true=>rw[q] at e;exact e|false=>rw[q] at e;cases e
theorem aw6(h:a5 Fq i=true):wA (LI C) i=ae C i:=by
 delta wA LI;rw[E_,h]
theorem ac4:aR bE (wA (LI (kb xs))) 255 (bM (kb xs)):=by
 have key:∀i o,wA (LI<|kb xs) i=some o->(i=0/\o=.tab 478 8 none)\/(i=1/\o=.frz (xs.map .int)):=λi o e=>by
  refine gQ ((bA<|Fr e)) (.inl ⟨rfl,rfl⟩) λh=>?_
  .clear e;refine eW h ?_;exact .inr ⟨rfl,rfl⟩
 refine⟨λz z e=>e,λz h=>h,λi o e=>?_,λi o e=>?_,λz h=>h⟩
 .rcases key i o e with ⟨rfl,rfl⟩|⟨rfl,rfl⟩
  .kernel_rfl
  .show(bM<|kb xs).get 1=some (AO.frz<|(xs.map AV.int).map<|av bE v0);rw[z4 λa m=>by obtain⟨i,_,e⟩:=List.mem_map.mp m;exact⟨i,e.symm⟩];kernel_rfl
 .rcases key i o e with ⟨rfl,rfl⟩|⟨rfl,rfl⟩
  .exact⟨by decide,λj v=>by cases v⟩
  .exact⟨by decide,λj v=>by obtain⟨_,_,e⟩:=List.mem_map.mp v;cases e⟩
theorem Fs(h:eR C=true):h_ (LI C)=true:=by
 refine dO λx m=>?_;unfold LI at m;rw[fA] at m;refine mf m λi y=>?_;cases z:ae C i with|none=>rfl|some o=>exact bq h (i,o)<|bA z
theorem Ft:eR (z7 xs)=true:=af rfl (af rfl (af rfl (af (dO λx m=>by obtain⟨i,_,rfl⟩:=List.mem_map.mp m;rfl) da)))
section
variable {call call2 call3:tY2}{ke:KE Prop}
theorem Nm:∀l,nP (l.map AV.int)=some l
 | []=>rfl
 |x::l=>by show ad (nP<|l.map AV.int) none (λl=>some<|x::l)=_;rw[Nm l]
theorem Nn:∀l n,cu (l.map f) n=(cu l n).map f
 | [],_=>rfl
 |_::_,0=>rfl
 |x::l,n+1=>by show f x::cu (l.map f) n=f x::(cu l n).map f;rw[Nn l n]
theorem ac5:h_ (hG tm [36,51,54] (LI (z7 xs)))=true:=by
 have y:=Fs<|Ft (xs:=xs);refine dO λx m=>?_;unfold hG at m;rw[fA] at m;refine mf m λq w=>?_;cases a5 [36,51,54] q.1 with|true=>rfl|false=>
  cases z:ae tm q.1 with|none=>exact bq y q w|some o=>exact bq (show eR tm=true from by kernel_rfl) (q.1,o)<|bA z
theorem ac6:LF (jH kd) (kX kd):=by
 refine⟨λp z=>?_,rfl,by cases kd<;>rfl⟩;refine bk z rfl λz=>?_;refine bk z rfl λz=>?_;refine bk z rfl λz=>?_;refine bk z rfl λz=>?_;refine bk z rfl λz=>?_;refine bk z rfl λz=>?_;refine bk z rfl λz=>?_
 .refine dJ z ?_;rfl
theorem ac7(h1:kH=true)(A:kI=true)(h6:ka=true)(S:∀pos h(k:K Prop)(ke:KE Prop),enter (eS call3) j_ [] pos [] h k ke->call2 false 859 [] pos [] h k ke)(N:∀pos h(k:K Prop)(ke:KE Prop),enter (eL call2) l4 [] pos [] h k ke->call false 878 [] pos [] h k ke)(w:∀X Z E,aR Z (wA (Lb X)) 255 E->Z 1=1->k (.bool true) E):enter (eT call) v1 [] [.ref 1] [] (bM (kb xs)) k ke:=by
 show z8 (eT call) ⟨[(jZ,.ref 1)],[(lI,256),(lH,255)]⟩ (((bM<|kb xs).new<|.cell none).new<|.cell none) (ko (eT call) k) ke;obtain⟨fl1,U1,e1,e2⟩:=(ac4).name (c:=47) (oc:=.cell none) (by decide) (λi o e=>vR (Fs (by have Y:=Ft (xs:=xs);exact dO λx m=>bq Y x<|.tail _<|.tail _ m)) (by decide) rfl e) (λj v=>by cases v)
 obtain⟨f,U2,e3,e4⟩:=U1.name (c:=48) (oc:=.cell none) (by decide) (λi o e v=>by
  by_cases q:i=47
  .subst q;rw[aw rfl] at e;cases e;cases v
  .rw[aq q] at e;have Y:=Fr e;refine f_ (bA Y) (λh=>?_) λh=>?_
   .clear e q;obtain⟨⟩:=h;cases v
   .clear e q;cases List.mem_singleton.mp h;obtain⟨_,_,e⟩:=List.mem_map.mp v;cases e) (λj v=>by cases v)
 have U2:aR f (wA<|LI<|z7 xs) 255 (((bM<|kb xs).new<|.cell none).new<|.cell none):=U2.less λi o e=>by
  have h:=Fr e;refine gQ (bA h) rfl λh=>?_;refine gQ h rfl λh=>?_;refine gQ h ?_ λh=>?_
  .kernel_rfl
  .clear e;refine eW h ?_;kernel_rfl
 have u:f 1=1:=by rw[e3 1 (by decide) (by decide),e1 1 (by decide)<|by decide];rfl
 have n47:f 47=255:=by rw[e3 47 (by decide) (by decide),e2];rfl
 have n48:f 48=256:=by rw[e4];rfl
 have eF:(⟨[(jZ,.ref 1)],[(lI,256),(lH,255)]⟩:aK)=ar f v0 z6:=by show _=(⟨[(jZ,.ref<|f 1)],[(lI,f 48),(lH,f 47)]⟩:aK);rw[u,n47,n48]
 rw[eF];show bF bo (λz=>q6) (eT call) _ _ (d5 _ (eT call) (ko (eT call) k) ke) ke;refine .inr ⟨rfl,.inl (Nk (L':=hG tm [36,51,54]<|LI<|z7 xs) (fs:=z6) (F:=z6) U2 (va:=v0) (λz x y e=>by delta v0 at e;omega) (by kernel_rfl) (λx a e=>?_) (λx i e=>?_) ab9 (λz z z h=>h) ac1 (Fs Ft) rfl rfl λs d U3 hf3=>?_)⟩
 .refine⟨a,e,?_⟩;refine eW (bA e) ?_;exact λz z z r=>r
 .rw[e];rcases List.mem_cons.mp (bA e) with h|h
  .obtain⟨⟩:=h;rfl
  .refine eW h ?_;rfl
 have eF3:ar s v0 (ar (gD 254 255) v0 jI)=ar s v0 jI:=by rfl
 rw[eF3];have hg:=U3.cell 1 (.frz<|xs.map AV.int) (by kernel_rfl);rw[Nj] at hg;have hs:dF (eT call) (ar s v0 jI) d (bB (ah<|.bi .sum) (ao jX az) aC) (.int<|mD<|cu xs 8) (d.new<|.list<|cu (xs.map AV.int) 8):=λk ke g=>by
  show jX (eT call) (ar s v0 jI) d (λv h=>w9 (eT call) (.bi .sum) [v] [] h k ke) ke;refine Ni (xs:=xs) (a:=s 1) rfl hg _ _ ?_;have hn:(d.new<|.list<|cu (xs.map AV.int) 8).get d.n=some (.list<|cu (xs.map AV.int) 8):=by rw[AH.get_new,aw rfl]
  show ad (eA (d.new<|.list<|cu (xs.map AV.int) 8) d.n) False λys=>ad (nP ys) False λl=>k (.int<|mD l)<|d.new<|.list<|cu (xs.map AV.int) 8;have hla:eA (d.new<|.list<|cu (xs.map AV.int) 8) d.n=some (cu (xs.map AV.int) 8):=by delta eA;rw[hn]
  rw[hla];show ad (nP<|cu (xs.map AV.int) 8) False λl=>k (.int<|mD l)<|d.new<|.list<|cu (xs.map AV.int) 8;rw[show nP (cu (xs.map AV.int) 8)=some (cu xs 8) by rw[Nn,Nm]];exact g
 have hw:dF (eT call) (ar s v0 jI) d (lj (aO<|a8 .Eq (bQ .Mod (bB (ah<|.bi .sum) (ao jX az) aC)<|ah<|.int 2)<|ah<|.int 1) (ah<|.int 0)<|ah<|.int 2) (aX<|fG xs) (d.new<|.list<|cu (xs.map AV.int) 8):=λk ke g=>by
  refine vU (r:=fG xs) (fF (c:=Int.fmod (mD<|cu xs 8) 2) hs cz rfl λz=>rfl) cz rfl (λt h=>J t (ah (.int 0) (eT call) (ar s v0 jI) h k ke)<|ah (.int 2) (eT call) (ar s v0 jI) h k ke) ke ?_;cases q:fG xs with|true=>rw[q] at g;exact g|false=>rw[q] at g;exact g
 refine qZ hw ?_;obtain⟨Q,U4,H⟩:=U3.grow<|.list<|cu (xs.map AV.int) 8;have eF4:(⟨bL (ar s v0 jI).loc lD<|aX<|fG xs,(ar s v0 jI).cel⟩:aK)=ar Q v0 (pb<|fG xs):=by have e0:ar s v0 jI=ar Q v0 jI:=vQ (P:=λj=>Nat.blt j 255) (λj hj=>(H j<|Nat.le_of_ble_eq_true hj).symm) rfl rfl;rw[e0];cases fG xs<;>rfl
 rw[eF4];have run:nz vZ (pb<|fG xs) (bM []) (i0 pc .nxt (kX<|fG xs)<|pd<|fG xs) fQ=true:=by
  obtain⟨a,b⟩:=cI (show J (nz vZ (pb true) (bM []) (i0 pc .nxt (kX true)<|pd true) fQ) (nz vZ (pb false) (bM []) (i0 pc .nxt (kX false)<|pd false) fQ) false=true from ac0);cases fG xs with|true=>exact a|false=>exact b
 have sta:iF pc (kX<|fG xs) [] (pd<|fG xs) [52,54]=true:=by
  obtain⟨a,b⟩:=cI (show J (iF pc (kX true) [] (pd true) [52,54]) (iF pc (kX false) [] (pd false) [52,54]) false=true from ac2);cases fG xs with|true=>exact a|false=>exact b
 refine .inr ⟨rfl,.inl (Nk (L':=Lb<|st0 xs) (fs:=pb<|fG xs) (F:=pb<|fG xs) U4 (va:=v0) (λz x y e=>by delta v0 at e;omega) (by kernel_rfl) (λx a e=>⟨a,e,?_⟩) (λx i e=>?_) run (λz z z h=>h) sta ac5 rfl ?_ λR H5 U5 hf5=>?_)⟩
 .have h:aV (λp:Nat×AV=>J (fB p.2) (bh (λj=>Nat.blt j 254) p.2) false) (pb<|fG xs).loc=true:=by cases fG xs<;>rfl
  obtain⟨h1,A⟩:=cI<|bq h _<|bA e;rw[M6 h1 A];exact λz z z r=>r
 .rw[e];rcases List.mem_cons.mp (bA e) with h|h
  .clear e;obtain⟨⟩:=h;rfl
  .clear e;refine eW h ?_;rfl
 .kernel_rfl
 .have C:ar R v0 (ar (gD 254 255) v0<|kX<|fG xs)=ar R v0 (kX<|fG xs):=by cases fG xs<;>rfl
  rw[C];exact ab8 h1 A h6 S N (st:=st0 xs) ac3 ac6 U5 λX Z f' E U' h'=>w X Z E U' (by rw[h',hf5 1 (by decide) rfl,H 1 (by decide),hf3 1 (by decide) rfl,u])
end
structure No where
 c:aS
 a:List bv
 b:List bv
 p:Pos
@[irreducible] def v3(x:bv):Option No:=kA 12 x.ctorIdx λh=>Oh x h λa b c d=>some ⟨a,b,c,d⟩
def z9:aS:=.Name "" ⟨0,0,0,0⟩
def tn(s:bv):No:=(v3 s).getD ⟨z9,[],[],⟨0,0,0,0⟩⟩
def v6(s:bv):JJ:=(p_ s).getD ⟨z9,z9,[],[],⟨0,0,0,0⟩⟩
def Fu(s:bv):aS:=(tn s).c
def jJ(s:bv):List bv:=(tn s).a
def ifB(s:bv):List bv:=(tn s).b
def ac8(s:bv):Bool:=(v3 s).isSome
def z_(s:bv):aS:=(v6 s).t
def Aa(s:bv):aS:=(v6 s).it
def kc(s:bv):List bv:=(v6 s).b
def ac9(s:bv):Bool:=ad (p_ s) false λf=>ad (iY f.t) false λz=>f.oe.isEmpty && mQ f.it
def Ab(s:bv):CW:=(uv (z_ s) (Aa s)).getD ⟨"",z9,[]⟩
def Np(s:bv):List aS:=(Ab s).ts
def Nq(s:bv):aS:=(Ab s).it
def ad0(sc:bJ)(s:bv):Bool:=ad (p_ s) false λf=>ad (uv f.t f.it) false λq=>f.oe.isEmpty && (mR sc q.n .enum && (eh q.it && (Nat.beq q.ts.length 2 && q.ts.all eh)))
theorem ad1(h:(v3 s).isSome=true):s=.If (Fu s) (jJ s) (ifB s) (tn s).p:=by
 cases hq:v3 s with|none=>rw[hq] at h;exact ft h|some q=>
  have g:tn s=q:=by delta tn;rw[hq];rfl
  delta v3 at hq;have e:=ly hq λe=>Oh (motive_2:=λx=>∀e:x.ctorIdx=12,Oh x e _=some q->x=.If q.c q.a q.b q.p) s e (λa b c d z h=>dR (P:=λq=>bv.If a b c d=.If q.c q.a q.b q.p) h rfl) e;delta Fu jJ ifB;rw[g];exact e
theorem Fv(h:p_ s=some f):v6 s=f:=by delta v6;rw[h];rfl
section
variable {X:Fx}{sc:bJ}{s:bv}
abbrev kf{R:Type}:fN R:=CZ jm 30
theorem dS(Z:bG X)(h:p=kf.s sc x):SS X sc x p:=by rw[h];exact(iz Z jm 30).s _ _
theorem dB(Z:bG X)(h:p=cB (kf.s sc) xs):SB X sc xs p:=by rw[h];exact kC ((iz Z jm 30).s _) _
theorem Nr(h:SS X sc x p):SB X sc [x] p:=by
 intro e n z u y f H k v t;have w:d5 ak e k v=k:=by funext fl f H;cases fl<;>rfl
 exact cV h jg e n z u y f H k v (show X.holds (p e f H (d5 ak e k v) v) by rw[w];exact t)
theorem pe(Z:bG X)(e:ac8 s=true)(x:t=kf.t sc (Fu s))(z:SB X sc (jJ s) p)(y:SB X sc (ifB s) q):SS X sc s (aY t p q):=by
 rw[ad1 e,x];exact HR ((iz Z jm 30).t _ _) z y
theorem Nt(Z:bG X)(e:ac9 s=true)(hp:x=kf.p sc (z_ s))(v:p=kf.e sc (Aa s))(y:SB X sc (kc s) b):SS X sc s (cR x p b):=by
 refine qd e λf r h=>qd h λq u h=>bt h λm n=>?_;delta z_ at hp;delta Aa at v;delta kc at y;rw[Fv r] at hp v y;have o:=(iz Z jm 30).p sc f.t;rw[<-hp,ji u] at o;rw[C7 r,gZ m,v,ji u];exact Ib Z.O (uy n) (λz z=>rfl) o ((iz Z jm 30).e _ _) y
theorem ad2(Z:bG X){q:CW}(e:∃k p1 p2 p3,t=.Tuple q.ts k p1/\it=.Call (.Name q.n p2) [q.it] [] p3)(x:mR sc q.n .enum=true)(u:eh q.it=true)(y:Nat.beq q.ts.length 2=true)(v:q.ts.all eh=true)(r:SB X sc b0 b):SS X sc (.For t it b0 [] o) (ku (sk (kf.p sc) q.ts) (kf.e sc q.it) b):=by
 obtain⟨_,_,_,_,rfl,rfl⟩:=e;exact IM Z.O (xT Z x _) (ux u) (C_ ((iz Z jm 30).p _) _ v) (Nat.eq_of_beq_eq_true y) (λz z=>rfl) ((iz Z jm 30).e _ _) r
theorem ad3(Z:bG X)(e:ad0 sc s=true)(hp:x=sk (kf.p sc) (Np s))(v:p=kf.e sc (Nq s))(y:SB X sc (kc s) b):SS X sc s (ku x p b):=by
 refine qd e λf z h=>qd h λq u h=>bt h λm h=>bt h λr h=>bt h λn h=>bt h λt o=>?_;have eq:Ab s=q:=by delta Ab z_ Aa;rw[Fv z,u];rfl
 delta Np at hp;delta Nq at v;delta kc at y;rw[eq] at hp v;rw[Fv z] at y;rw[C7 z,gZ m,v,hp];exact ad2 Z (J5 u) r n t o y
end
section
variable {prog:dY}{w:dZ}{h₀:cm}{os₀:l6}{σ:de}{P:db}{mg mb:Str->Option au}{sc:bJ}
theorem Ac:qi (KK P):=⟨by kernel_rfl,by kernel_rfl⟩
abbrev XX(prog:dY)(w:dZ)(h₀:cm)(os₀:l6)(σ:de)(P:db)(mg mb:Str->Option au):Fx:=jp prog w h₀ os₀ σ (KK P) mg mb
theorem gS(Z:bG (XX prog w h₀ os₀ σ P mg mb))(h:∀R,s R=kf.s sc x):SS (XX prog w h₀ os₀ σ P mg mb) sc x (bF bo s):=WR (KA P) Z Ac λy v z=>dS v (h _)
theorem gB(Z:bG (XX prog w h₀ os₀ σ P mg mb)){x:List bv}{s:(R:Type)->XS R}(h:∀R,s R=cB (kf.s sc) x):SB (XX prog w h₀ os₀ σ P mg mb) sc x (bF bo s):=WS (KA P) Z Ac λy v z=>dB v (h _)
abbrev b8(P:db):List bv:=gC (KK P) 859
abbrev x8(P:db)(i:Nat):bv:=e9 (b8 P) i
theorem ad4:b8 P=x8 P 0::x8 P 1::x8 P 2::[x8 P 3]:=by kernel_rfl
theorem ad5:kc (x8 P 2)=[e9 (kc (x8 P 2)) 0]:=by kernel_rfl
theorem ad6(Z:bG (XX prog w h₀ os₀ σ P mg mb)):SB (XX prog w h₀ os₀ σ P mg mb) (jV (KK P) 859) (b8 P) zP:=by
 rw[ad4];refine cV (gS Z λR=>by kernel_rfl) (cV (gS Z λR=>by kernel_rfl) (cV (Nt Z (by kernel_rfl) (by kernel_rfl) (by kernel_rfl) ?_) (Nr (dS Z<|by kernel_rfl))));rw[ad5];exact Nr (gS Z λR=>by kernel_rfl)
end
section
variable {prog:dY}{w:dZ}{h₀:cm}{os₀:l6}{σ:de}{P:db}{mg mb:Str->Option au}
abbrev b7(P:db):List bv:=gC (KK P) 878
abbrev x7(P:db)(i:Nat):bv:=e9 (b7 P) i
abbrev t7(P:db)(i:Nat):bv:=e9 (kc (x7 P 9)) i
abbrev s7(P:db):bJ:=jV (KK P) 878
theorem ad7:b7 P=[x7 P 0,x7 P 1]++(x7 P 2::x7 P 3::x7 P 4::([x7 P 5,x7 P 6,x7 P 7]++(x7 P 8::x7 P 9::x7 P 10::x7 P 11::x7 P 12::[x7 P 13]))):=by kernel_rfl
theorem ad8:kc (x7 P 9)=t7 P 0::([t7 P 1,t7 P 2,t7 P 3,t7 P 4]++([t7 P 5,t7 P 6]++(t7 P 7::t7 P 8::[t7 P 9,t7 P 10]))):=by kernel_rfl
theorem ad9:ifB (t7 P 7)=[]:=by kernel_rfl
theorem ae0:jJ (t7 P 8)=[e9 (jJ (t7 P 8)) 0,e9 (jJ (t7 P 8)) 1]++[e9 (jJ (t7 P 8)) 2]:=by kernel_rfl
abbrev u8(P:db):bv:=e9 (ifB (t7 P 8)) 0
abbrev r8(P:db)(i:Nat):bv:=e9 (jJ (u8 P)) i
theorem ae1:ifB (t7 P 8)=[u8 P]:=by kernel_rfl
theorem ae2:jJ (u8 P)=r8 P 0::([r8 P 1,r8 P 2]++[r8 P 3,r8 P 4,r8 P 5]):=by kernel_rfl
theorem ae3:ifB (u8 P)=[]:=by kernel_rfl
variable (Z:bG (XX prog w h₀ os₀ σ P mg mb))
include Z
theorem ae4:SS (XX prog w h₀ os₀ σ P mg mb) (s7 P) (t7 P 7) (aY Dw (bF bo λz=>ac A1 (ac A2 ak)) ak):=
 pe Z (by kernel_rfl) (by kernel_rfl) (gB Z λR=>by kernel_rfl) (by rw[ad9];exact jg)
theorem ae5:SS (XX prog w h₀ os₀ σ P mg mb) (s7 P) (u8 P) (aY ya (ac (bF bo λz=>R1) (ac (bF bo λz=>ac R2 (ac R3 ak)) (bF bo λz=>ac R4 (ac R5 (ac R6 ak))))) ak):=
 pe Z (by kernel_rfl) (by kernel_rfl) (by rw[ae2];exact cV (gS Z λR=>by kernel_rfl) (ou (gB Z λR=>by kernel_rfl) (gB Z λR=>by kernel_rfl))) (by rw[ae3];exact jg)
theorem ae6:SS (XX prog w h₀ os₀ σ P mg mb) (s7 P) (t7 P 8) tD:=
 pe Z (by kernel_rfl) (by kernel_rfl) (by rw[ae0];exact ou (gB Z λR=>by kernel_rfl) (cV (gS Z λR=>by kernel_rfl) jg)) (by rw[ae1];exact cV (ae5 Z) jg)
theorem ae7:SB (XX prog w h₀ os₀ σ P mg mb) (s7 P) (kc (x7 P 9)) tB:=by
 rw[ad8];exact cV (dS Z<|by kernel_rfl) (ou (gB Z λR=>by kernel_rfl) (ou (gB Z λR=>by kernel_rfl) (cV (ae4 Z) (cV (ae6 Z) (gB Z λR=>by kernel_rfl)))))
theorem ae8:SB (XX prog w h₀ os₀ σ P mg mb) (s7 P) (b7 P) zS:=by
 rw[ad7];exact ou (gB Z λR=>by kernel_rfl) (cV (gS Z λR=>by kernel_rfl) (cV (gS Z λR=>by kernel_rfl) (cV (dS Z<|by kernel_rfl) (ou (gB Z λR=>by kernel_rfl) (cV (gS Z λR=>by kernel_rfl) (cV (Nt Z (by kernel_rfl) (by kernel_rfl) (by kernel_rfl)<|ae7 Z) (cV (gS Z λR=>by kernel_rfl) (cV (gS Z λR=>by kernel_rfl) (cV (gS Z λR=>by kernel_rfl) (cV (dS Z<|by kernel_rfl) jg))))))))))
end
structure kg(p:Prop):Prop where
 h:p
theorem kg.app(f:p->q->r)(a:kg p)(b:kg q):kg r:=⟨f a.h b.h⟩
theorem ae9{X:Fx}{z:bJ}{xs ys y:List bv}{p r:XS X.R}(e:y=xs++ys)(v:SB X z xs p)(x:SB X z ys r):SB X z y (ac p r):=by
 subst e;exact ou v x
section
variable {prog:dY}{w:dZ}{h₀:cm}{os₀:l6}{σ:de}{P:db}{mg mb:Str->Option au}
abbrev b9(P:db):List bv:=gC (KK P) 883
abbrev x9(P:db)(i:Nat):bv:=e9 (b9 P) i
abbrev t9(P:db)(i:Nat):bv:=e9 (kc (x9 P 7)) i
abbrev s9(P:db):bJ:=jV (KK P) 883
abbrev v2(P:db):bv:=e9 (ifB (t9 P 3)) 0
abbrev Fw(P:db):bv:=e9 (ifB (v2 P)) 0
abbrev v4(P:db):bv:=e9 (ifB (Fw P)) 0
abbrev v5(P:db):bv:=e9 (ifB (v4 P)) 0
theorem af0:b9 P=[x9 P 0,x9 P 1,x9 P 2]++(x9 P 3::([x9 P 4,x9 P 5,x9 P 6]++(x9 P 7::[x9 P 8]))):=by kernel_rfl
theorem af1:kc (x9 P 7)=t9 P 0::t9 P 1::t9 P 2::t9 P 3::[t9 P 4]:=by kernel_rfl
theorem af2:ifB (t9 P 3)=[v2 P]:=by kernel_rfl
theorem af3:ifB (v2 P)=[Fw P]:=by kernel_rfl
theorem af4:ifB (Fw P)=[v4 P]:=by kernel_rfl
theorem af5:ifB (v4 P)=[v5 P]:=by kernel_rfl
theorem af6:jJ (v5 P)=e9 (jJ (v5 P)) 0::e9 (jJ (v5 P)) 1::[e9 (jJ (v5 P)) 2]:=by kernel_rfl
theorem af7 R:@q6 R=cB (kf.s (s9 P)) [x9 P 0,x9 P 1,x9 P 2]:=by kernel_rfl
variable (Z:bG (XX prog w h₀ os₀ σ P mg mb))
include Z
theorem af8:SS (XX prog w h₀ os₀ σ P mg mb) (s9 P) (v5 P) (aY (Vk 5) VE (bF bo λz=>VF)):=
 pe Z (by kernel_rfl) (by kernel_rfl) (by rw[af6];exact cV (dS Z<|by kernel_rfl) (cV (dS Z<|by kernel_rfl) (gB Z λR=>by kernel_rfl))) (gB Z λR=>by kernel_rfl)
theorem af9:SS (XX prog w h₀ os₀ σ P mg mb) (s9 P) (v4 P) (aY (Vk 4) VD (ac (aY (Vk 5) VE (bF bo λz=>VF)) ak)):=
 pe Z (by kernel_rfl) (by kernel_rfl) (dB Z<|by kernel_rfl) (by rw[af5];exact cV (af8 Z) jg)
theorem ag0:SS (XX prog w h₀ os₀ σ P mg mb) (s9 P) (t9 P 3) zZ:=
 pe Z (by kernel_rfl) (by kernel_rfl) (dB Z<|by kernel_rfl) (by rw[af2];exact cV (pe Z (by kernel_rfl) (by kernel_rfl) (dB Z<|by kernel_rfl)<|by rw[af3];exact cV (pe Z (by kernel_rfl) (by kernel_rfl) (dB Z<|by kernel_rfl)<|by rw[af4];exact cV (af9 Z) jg) jg) jg)
theorem ag1:SB (XX prog w h₀ os₀ σ P mg mb) (s9 P) (kc (x9 P 7)) i_:=by
 rw[af1];exact cV (dS Z<|by kernel_rfl) (cV (dS Z<|by kernel_rfl) (cV (dS Z<|by kernel_rfl) (cV (ag0 Z) (cV (dS Z<|by kernel_rfl) jg))))
theorem ag2:kg (SB (XX prog w h₀ os₀ σ P mg mb) (s9 P) [x9 P 0,x9 P 1,x9 P 2] (bF bo λR=>@q6 R)):=⟨@gB prog w h₀ os₀ σ P mg mb (s9 P) Z [x9 P 0,x9 P 1,x9 P 2] (λR=>@q6 R) λR=>af7 R⟩
theorem ag3:kg (SB (XX prog w h₀ os₀ σ P mg mb) (s9 P) [x9 P 4,x9 P 5,x9 P 6] (bF bo λz=>nz)):=⟨gB Z λR=>by kernel_rfl⟩
theorem ag4:SS (XX prog w h₀ os₀ σ P mg mb) (s9 P) (x9 P 3) W3:=dS Z (by kernel_rfl)
theorem ag5:SS (XX prog w h₀ os₀ σ P mg mb) (s9 P) (x9 P 8) W8:=dS Z (by kernel_rfl)
theorem ag6:SS (XX prog w h₀ os₀ σ P mg mb) (s9 P) (x9 P 7) (ku kE jX i_):=ad3 Z (by kernel_rfl) (by kernel_rfl) (by kernel_rfl) (ag1 Z)
abbrev v7(P:db):List bv:=[x9 P 4,x9 P 5,x9 P 6]
theorem ag7:kg (SB (XX prog w h₀ os₀ σ P mg mb) (s9 P) (x9 P 7::[x9 P 8]) (ac (ku kE jX i_) (ac W8 ak))):=⟨cV (ag6 Z) (cV (ag5 Z) jg)⟩
theorem ag8:kg (SB (XX prog w h₀ os₀ σ P mg mb) (s9 P) (v7 P++(x9 P 7::[x9 P 8])) (ac (bF bo λz=>nz) (ac (ku kE jX i_) (ac W8 ak)))):=⟨@ou (XX prog w h₀ os₀ σ P mg mb) (s9 P) (v7 P) (x9 P 7::[x9 P 8]) _ _ (ag3 Z).h (ag7 Z).h⟩
theorem ag9:kg (SB (XX prog w h₀ os₀ σ P mg mb) (s9 P) (x9 P 3::(v7 P++(x9 P 7::[x9 P 8]))) (ac W3 (ac (bF bo λz=>nz) (ac (ku kE jX i_) (ac W8 ak))))):=⟨@cV (XX prog w h₀ os₀ σ P mg mb) (s9 P) (x9 P 3) (v7 P++(x9 P 7::[x9 P 8])) _ _ (ag4 Z) (ag8 Z).h⟩
theorem ah0:kg (SB (XX prog w h₀ os₀ σ P mg mb) (s9 P) (b9 P) z8):=
 kg.app (@ae9 (XX prog w h₀ os₀ σ P mg mb) (s9 P) [x9 P 0,x9 P 1,x9 P 2] (x9 P 3::(v7 P++(x9 P 7::[x9 P 8]))) (b9 P) (bF bo λR=>@q6 R) (ac W3<|ac (bF bo λz=>nz)<|ac (ku kE jX i_)<|ac W8 ak) af0) (ag2 Z) (ag9 Z)
end
def TL:TR (FI Prop):=(((bo Prop).put 860 859 (some j_)).put 879 878 (some l4)).put 884 883 (some v1)
theorem q7 g:TL.get g=if g=883 then some v1 else if g=878 then some l4 else if g=859 then some j_ else(bo Prop).get g:=by
 rw[TR.get_put _ _ _ _ _ (by decide),TR.get_put _ _ _ _ _ (by decide),TR.get_put _ _ _ _ _<|by decide]
section
variable {prog:dY}{w:dZ}{h₀:cm}{os₀:l6}{σ:de}{P:db}{mg mb:Str->Option au}
theorem ah1:sr (KK P) 883 [jZ] [lH,lI] []=true:=by kernel_rfl
theorem ah2:sr (KK P) 878 [dw,jY,jq,lD,fO,lE,jr,uL,qn] [dw,fO] []=true:=by kernel_rfl
theorem ah3:sr (KK P) 859 [dw,fO] [lF] []=true:=by kernel_rfl
theorem Fz{X:Fx}(Z:bG X){g:Nat}{z:FI X.R}{K:cj}(v:X.K=K)(h:sr K g z.params z.cells z.dfl=true){p:XS X.R}(hp:z.body=p)(u:kg (SB X (jV K g) (gC K g) p)):∃o x body y,mO X g z o x body y:=by
 subst v hp;exact J7 Z h u.h
theorem ah4(Z:bG (XX prog w h₀ os₀ σ P mg mb)):∃o y body z,mO (XX prog w h₀ os₀ σ P mg mb) 883 v1 o y body z:=@Fz (XX prog w h₀ os₀ σ P mg mb) Z 883 v1 (KK P) rfl ah1 z8 rfl (ah0 Z)
theorem ah5(Z:bG (XX prog w h₀ os₀ σ P mg mb)):∃o y body z,mO (XX prog w h₀ os₀ σ P mg mb) 878 l4 o y body z:=@Fz (XX prog w h₀ os₀ σ P mg mb) Z 878 l4 (KK P) rfl ah2 zS rfl ⟨ae8 Z⟩
theorem ah6(Z:bG (XX prog w h₀ os₀ σ P mg mb)):∃o y body z,mO (XX prog w h₀ os₀ σ P mg mb) 859 j_ o y body z:=@Fz (XX prog w h₀ os₀ σ P mg mb) Z 859 j_ (KK P) rfl ah3 zP rfl ⟨ad6 Z⟩
theorem ah7(Z:bG (XX prog w h₀ os₀ σ P mg mb)):Cq (XX prog w h₀ os₀ σ P mg mb) TL:=by
 have y:∀{g:Nat}{x:FI Prop},TL.get g=some x->g≠883->g≠878->g≠859->(bo Prop).get g=some x:=λ{g x}h a b c=>by rw[q7,aq a,aq b,aq c] at h;exact h
 refine⟨λg x h v=>?_,λg q t x u h=>?_⟩
 .by_cases a:g=883
  .subst a;rw[q7,aw rfl] at h;cases h;exact ah4 Z
  by_cases b:g=878
  .subst b;rw[q7,aq (by exact(lin [] 0x127b80006e690001b725ee0001b9a40006dc9) a),aw rfl] at h;cases h;exact ah5 Z
  by_cases c:g=859
  .subst c;rw[q7,aq (by exact(lin [] 0x127b80006e690001ada5ee0001b9a40006b69) a),aq (by exact(lin [] 0x127b80006dc90001ada5ee0001b7240006b69) b),aw rfl] at h;cases h;exact ah6 Z
  exact Kx Z rfl (y h a b c) v
 .have v:g=1000001:=by have z:=u;rw[Z.nf] at z;exact z.1
  subst v;exact Kz Z rfl u (y h (by decide) (by decide)<|by decide)
abbrev eN(n:Nat):EV Prop:=ev False oq TL 60 n
theorem ah8(Z:bG (XX prog w h₀ os₀ σ P mg mb))n:bD (XX prog w h₀ os₀ σ P mg mb) (eN n) n:=Cr Z.O (λh=>h) (λz z h=>h) (ah7 Z) 60 n
theorem ah9(q:kH=true)(r:kI=true)(s:ka=true)(z:∀u y t,aR y (wA (Lb u)) 255 t->y 1=1->k (.bool true) t):(eN 14).call false 883 [] [.ref 1] [] (bM (kb xs)) k x:=by
 show ad (TL.get 883) False λv=>enter (eT (eN 13).call) v [] [.ref 1] [] (bM<|kb xs) k x;rw[q7,aw rfl];refine ac7 (call2:=(eN 12).call) (call3:=(eN 11).call) q r s (λpos h k x g=>?_) (λpos h k x g=>?_) z
 .show ad (TL.get 859) False λv=>enter (eS (eN 11).call) v [] pos [] h k x;rw[q7,aq (by decide),aq (by decide),aw rfl];exact g
 .show ad (TL.get 878) False λv=>enter (eL (eN 12).call) v [] pos [] h k x;rw[q7,aq (by decide),aw rfl];exact g
theorem noL:(KK P).all (λp=>p.2.cls != .type "list")=true:=by kernel_rfl
theorem noT:noTabs (KK P)=true:=by kernel_rfl
end
end
section
variable {P:db}
abbrev Nu:List au:=[.type "Exception",.type "BaseException",.type "object"]
theorem ai0{G:Prop}(g:∀nm q N o z v sub n col m k0 y x s r,(KK P).lookup 31=some (excClassObj nm q 31 N o Nu z v sub n col m k0 y x s r "Exception.__new__")->
  ∀c d es t u,(KK P).lookup N=some ⟨c,d,.dict es t,u⟩->(es.toList.all λe=>match e.key with|.str _ _=>true|_=>false)=true->nsFind es "__init__" = none->G):G:=
 g _ _ _ _ _ _ _ _ _ _ _ _ _ _ _ rfl _ _ _ _ _ rfl (by kernel_rfl) (by kernel_rfl)
theorem ai1:Ja (KK P) (iX eI)=true:=by kernel_rfl
theorem ai2:I8 (KK P) (iX eI) n_=true:=by kernel_rfl
theorem ai3:I9 (KK P) (iX eI) xM=true:=by kernel_rfl
theorem biK:Jk (KK P) un=true:=by kernel_rfl
variable {prog p:dY}{w:dZ}{h₁:cm}{os₀:l6}{mg mb:Str->Option au}{loose:List Str}{mean:ExcName->Option au}{a:bI}{so:Obj}
abbrev pf(h₁:cm)(a:bI):cm:=Ay h₁ [685,a]
abbrev Ad(P:db)(so:Obj):de:=⟨v0,Jp (KK P),685,so,λz=>none⟩
theorem FA(tab:h₁.get? 685=some (pi #[]))(z:h₁.get? a=some so):∀b o,h₁.get? b=some o->o≠pi #[]->o≠so->(pf h₁ a).get? b=some o:=λb o e n1 n2=>Oa _ e λm=>by
 rcases List.mem_cons.mp m with rfl|m
 .rw[tab] at e;cases e;exact n1 rfl
 .cases List.mem_singleton.mp m;rw[z] at e;clear n1;cases e;exact n2 rfl
theorem ns0(tab:h₁.get? 685=some (pi #[]))(v:h₁.get? a=some so)(z:∃vs n,so.data=.seq vs n)(x:h₁.Ns b m):(pf h₁ a).Ns b m:=by
 obtain⟨o,es,y,e,hd,r⟩:=x;refine⟨o,es,y,FA tab v b o e (λq=>by rw[q] at hd;cases hd) λq=>?_,hd,r⟩;obtain⟨vs,n,h⟩:=z;rw[q,h] at hd;cases hd
theorem ai4(v:(KK P).In h₁)(tab:h₁.get? 685=some (pi #[]))(x:h₁.get? a=some so)(y:so.cls=.type "list"):(KK P).In (pf h₁ a):=λb o e=>by
 refine FA tab x b o (v b o e) (λq=>?_) λq=>?_
 .have z:=List.all_eq_true.mp (noT) (b,o)<|ar3 e;clear e;subst q;exact aP z Bool.false_ne_true
 .have z:=List.all_eq_true.mp (noL) (b,o)<|ar3 e;rw[q] at z;have z:=z;rw[y] at z;simp at z
theorem ai5(h:(es.toList.all λe=>match e.key with|.str _ _=>true|_=>false)=true):StrKeys es:=λe z=>by
 have:=List.all_eq_true.mp h e (by simpa using z)
 split at this
 .rename_i n t hk;exact⟨n,t,hk⟩
 .cases this
theorem ai6(KX:(KK P).In h₁)(v:Top p loose mean mg mb h₁)(hi:importsNone p=true)(ch:CodeHd h₁ 689 685)(tab:h₁.get? 685=some (pi #[]))(H:h₁.get? a=some so)(Z:so.cls=.type "list")(R:∃vs n,so.data=.seq vs n):bG (XX prog w (pf h₁ a) os₀ (Ad P so) P mg mb):=by
 have k:=FA tab H;have ns:∀{b m},h₁.Ns b m->(pf h₁ a).Ns b m:=ns0 tab H R;have u:=ai4 KX tab H Z;have X:∀{o:Obj},o.cls≠.type "list"->o≠so:=λh q=>h (by rw[q];exact Z);have hmg:=ns v.g;refine⟨⟨u,let⟨mc,a,r⟩:=v.nolimit;⟨mc,ns a,r⟩,hmg,ns v.b,?_,(λz x y e=>by have e:(x:Int)=y:=e;omega),Ji Ac.st u⟩,UA ai1,Ux ai2,Uy ai3,Jl Ac.gb u hmg,UE biK u hmg v.builtins,?_,?_,(show(3:Nat)≠685 from by decide),?_,rfl⟩
 .obtain⟨mm,hm,_⟩:=(v.seer hi).mods;obtain⟨o,_,_,e,_⟩:=ns hm;exact⟨o,e⟩
 .exact ai0 λnm q N bs l sn sub ab col dd k0 A k2 k3 k5 e1 c d es C sl e2 e3 e4=>⟨nm,q,N,bs,Nu,l,sn,sub,ab,col,dd,k0,A,k2,k3,k5,"Exception","Exception.__new__","Exception.__init__",nsFind es,PySem.F.excBase_Exception,e4,⟨_,es,C,u _ _ e2,rfl,ai5 e3,λz=>rfl⟩,u _ _ e1⟩
 .obtain⟨o,vs,i,tf,t,tg,S,f,tt,e1,r1,r⟩:=ch;exact⟨o,vs,i,tf,t,tg,S,f,tt,k _ _ e1 (λq=>by rw[q] at r1;cases r1) (X<|by rw[r1];simp),r1,r⟩
 .obtain⟨bm,ob,a1,a2,j,s,E,Q⟩:=v.bmain;refine⟨bm,ob,a1,a2,λq=>?_,λq=>?_,k _ _ j (λq=>by rw[q] at s;cases s) (X<|by rw[s];simp),s,E,Q⟩
  .obtain⟨o,es,C,e,hd,_⟩:=v.g;rw[q,e] at j;clear s E;cases j;rw[hd] at Q;cases Q
  .have q:=q;rw[q,tab] at j;cases j;cases s
end
section
variable {P:db}
variable {prog p:dY}{w:dZ}{s₁:aU}{mg mb:Str->Option au}{loose:List Str}{mean:ExcName->Option au}{a:bI}{vs:List au}{xs:List Int}
def tq(a:bI):bu:=λi=>if i=0 then some 685 else if i=1 then some a else none
theorem ai7{so:Obj}{n:Nat}(tab:s₁.heap.get? 685=some (pi #[]))(l:s₁.gens=#[])(x:s₁.heap.get? a=some so)(t:so.cls=.type "list")(hd:so.data=.seq vs.toArray n)(s:Aw vs xs)(r:xs.length<=63):St prog w (pf s₁.heap a) s₁.os (tq a) (Ad P so) (bM (kb xs)) [] s₁:=by
 have u:a≠685:=λq=>by rw[q,tab] at x;clear hd;cases x;cases t
 have r0:tq a 0=some 685:=rfl;have r1:tq a 1=some a:=rfl;have y:∀i,2<=i->tq a i=none:=λi v=>by delta tq;rw[aq<|(lin [i] 0x93dc0080b42048) v,aq<|(lin [i] 0x93dc0280b42048) v]
 have c3:∀i,i=0\/i=1\/2<=i:=λi=>lin [i] 0x462d08121c0280b80101;refine⟨λb o e=>N_ _ e,λi o e=>?_,λi b e=>?_,λi j b e1 e2=>?_,λi v=>y i (Nat.le_trans (by decide) v),(λz h=>by cases h),List.nodup_nil,l,rfl⟩
 .rcases c3 i with rfl|rfl|h
  .cases e;exact⟨_,r0,rfl,tab⟩
  .cases e;exact⟨_,r1,x,vs.toArray,n,t,hd,Ci s,by rw[List.length_map];exact(lin [xs.length] 0x93400271090b4fd01) r⟩
  .have m:(i,o)∈kb xs:=yh e;refine f_ m (λq=>?_) λm=>?_
   .clear e m;cases q;exact((lin [] 1278625251400) h).elim
   .clear e;cases List.mem_singleton.mp m;exact((lin [] 1278625513544) h).elim
 .rcases c3 i with rfl|rfl|h
  .rw[r0] at e;cases e;exact⟨⟨.inl<|wq _<|.head _,λz z=>wq _<|.head _⟩,_,tab⟩
  .rw[r1] at e;cases e;exact⟨⟨.inl<|wq _<|.tail _<|.head _,λz z=>wq _<|.tail _<|.head _⟩,_,x⟩
  .rw[y i h] at e;cases e
 .rcases c3 i with rfl|rfl|h
  .rcases c3 j with rfl|rfl|h
   .rfl
   .rw[r0] at e1;rw[r1] at e2;cases e1;clear x r0 r1 y;cases e2;exact aP rfl u
   .rw[y j h] at e2;cases e2
  .rcases c3 j with rfl|rfl|h
   .rw[r1] at e1;rw[r0] at e2;cases e1;clear x r0 r1 y e1;cases e2;exact aP rfl u
   .rfl
   .rw[y j h] at e2;cases e2
  .rw[y i h] at e1;cases e1
theorem ai8(h1:kH=true)(Q:kI=true)(h6:ka=true)(H:(KK w.params).In s₁.heap)(y:Top p loose mean mg mb s₁.heap)(hi:importsNone p=true)(c:TabsAt [(689,685)] s₁.heap)(E:s₁.gens=#[])(hL:s₁.heap.IsList a vs.toArray)(hI:Aw vs xs)(hl:xs.length<=63):f0 (cw prog w) callerA (.call (.ref 883) ⟨[.ref a],[]⟩) (λr u=>r=.ok (.ret (.bool true))/\(∀b o,b≠685->s₁.heap.get? b=some o->u.heap.get? b=some o)/\Oi 685 u.heap/\u.os=s₁.os/\u.gens=#[]) s₁:=by
 obtain⟨so,j,R,n,hd⟩:=hL;have tab:=(c _<|.head _).2;have F:=(c _<|.head _).1;have Z:bG (XX prog w (pf s₁.heap a) s₁.os (Ad w.params so) w.params mg mb):=ai6 H y hi F tab j R ⟨_,_,hd⟩;have S:=@ai7 w.params prog w s₁ a vs xs so n tab E j R hd hI hl;refine(λCc=>?_) ((@bD.call (XX prog w (pf s₁.heap a) s₁.os (Ad w.params so) w.params mg mb) (eN 14) 14 (ah8 Z 14) false 883 [.ref 1] [] (bM<|kb xs)
  (λv f=>v=.bool true/\∃t s,aR s (wA<|Lb t) 255 f/\s 1=1) (λz z=>False) (by decide) (ah9 h1 Q h6 λt s f B e=>⟨rfl,t,s,B,e⟩)).2 (tq a) [] s₁ callerA
  (λv u=>v=.bool true/\(∀b o,b≠685->s₁.heap.get? b=some o->u.heap.get? b=some o)/\Oi 685 u.heap/\u.os=s₁.os/\u.gens=#[]) (λz z=>False) [.ref a] []
  ⟨by decide,by decide,λz=>rfl,[],rfl,λv hv=>by cases hv⟩ S ⟨⟨_,rfl,rfl⟩,trivial⟩ trivial (λN f u b v X l r K=>?_) λz z z z z z z z h=>h)
 .refine At Cc λr u h=>?_
  match r,h with
  |.ok (.ret v),⟨e,r⟩=>exact⟨by rw[e],r⟩
 .obtain⟨rfl,t,s,B,e1⟩:=K;have A:=B.cell 0 _ rfl;have g1:=B.cell 1 _ rfl;obtain⟨a0,e0,r0⟩:=l.cell _ _ A;obtain⟨a1,e2,r1⟩:=l.cell _ _ g1;rw[e1] at e2;cases(X 1 a rfl).symm.trans e2;have tb:Oi 685 u.heap:=by
   revert r0;cases t.tb with|false=>exact λk=>k.elim λq g=>⟨_,q▸g⟩|true=>exact λk=>k.elim λq d=>d.elim λx i=>i.elim λ_ g=>⟨_,q▸g⟩
  refine⟨r,λb o C g=>?_,tb,l.os,l.gens⟩
  by_cases q:b=a
  .rw[q,j] at g;obtain⟨⟩:=g;rw[q];exact r1.1
  .exact l.keep b o (Oa _ g λm=>by exact f_ m (λm=>(C m)) λm=>(q<|List.mem_singleton.mp m))
end
section
open G
theorem tr{a b:Bool}(h:a=true)(k:b=true):J a b false=true:=by rw[h];exact k
theorem aj3{q:Nat->Bool}(a:q 0=true)(b:q 1=true)(c:q 2=true):cY q=true:=tr a (tr b c)
theorem FB{q:Nat->Bool}(a:q 0=true)(b:q 1=true)(c:q 2=true)(d:q 3=true):fC q=true:=tr a (tr b (tr c d))
theorem c1a:(cY λy=>cY λz=>cY λx=>uW (cJ 0 y z x))=true:=by kernel_rfl
theorem c1b:(cY λy=>cY λz=>cY λx=>uW (cJ 1 y z x))=true:=by kernel_rfl
theorem c1c:(cY λy=>cY λz=>cY λx=>uW (cJ 2 y z x))=true:=by kernel_rfl
theorem aw7:kH=true:=aj3 c1a c1b c1c
def Ae(s:Nat):Bool:=cY λy=>cY λx=>cY λz=>cY λw=>KI s (cJ y x z w)
theorem c2a:Ae 0=true:=by kernel_rfl
theorem c2b:Ae 1=true:=by kernel_rfl
theorem c2c:Ae 2=true:=by kernel_rfl
theorem c2d:Ae 3=true:=by kernel_rfl
theorem aw8:kI=true:=FB c2a c2b c2c c2d
def nA(i:Nat):Bool:=cY λz=>uQ λy=>zQ i z y
theorem c6a:nA 0=true:=by kernel_rfl
theorem c6b:nA 1=true:=by kernel_rfl
theorem c6c:nA 2=true:=by kernel_rfl
theorem c6d:nA 3=true:=by kernel_rfl
theorem c6e:nA 4=true:=by kernel_rfl
theorem c6f:nA 5=true:=by kernel_rfl
theorem c6g:nA 6=true:=by kernel_rfl
theorem c6h:nA 7=true:=by kernel_rfl
theorem aj8{q:Nat->Bool}(h:fC q=true)(k:fC (λn=>q (Nat.add 4 n))=true):oH q=true:=tr h k
theorem aw9:ka=true:=(aj8 (FB c6a c6b c6c c6d) (FB c6e c6f c6g c6h):oH nA=true)
end
end Internal
open PySem PySem.W PySem.Calls PyProof.Rows PySem.SeqAt
theorem Internal.law_at{P:Params}{h:Heap}{mg:Str→Option Value}(x:(Internal.KK P).In h)(G:h.Ns mainGlobals mg):mg (Str.ofString "law")=some (.ref 883):=Internal.Jm x G (by kernel_rfl)
theorem PySem.Challenge.cw_lf0009_01_holds : PySem.Challenge.rw_lf0009_01.Holds :=
 hd9 (by
 have h1:Internal.kH=true:=Internal.aw7;have h2:Internal.kI=true:=Internal.aw8;have h6:Internal.ka=true:=Internal.aw9
 k_fill
 intro w s₀ s₁ mg mb G Y fa o pm cd doc dV kV ho hd hcd hD hmg hg args vals as hpre hlay hrd hwl hlo;have KX:=km_in_of Y
 km_tabs Y
 have X:=(Ground.X G).1;have V:=(Ground.X G).2;refine Ground.open G ?_;intro T B D TE TW
 try (refine guard_noD D (by decide +kernel) ?_;clear D)
 km_lay T hmg ho hd cd
 wrow_args hpre hlay hrd hwl hlo
 refine enter_call ?_
 kn_posts
 rename List Int=>xs
 rename IntsAre _ _=>hI
 rename Heap.IsList _ _ _=>hL
 have ql:=Internal.law_at KX T.g;have qf:=Option.some.inj<|hmg.symm.trans ql;injection qf with qf
 clear ho hmg;subst qf;refine codeAny_mono (Internal.ai8 h1 h2 h6 KX T (by decide +kernel) hT9 hg hL hI<|by omega) λr s' h=>?_;obtain⟨rfl,hk,hgr,ho',hge⟩:=h;refine⟨⟨.inl ⟨.bool true,.bool true,[],rfl,λz=>rfl,.bool _,by first|wrow_post|kc_post|row_post,λz=>⟨List.nodup_nil,λz h=>by cases h⟩⟩,λb o e=>hk b o (λq=>?_)<|of_hideAll _ e,ho',hge⟩,hgr,trivial⟩
 rw[q,show(ghostOf s₁.heap [(689,685)]).get? 685=none from hideAll_none _<|.head _] at e;cases e)
